import PyProof.Rows.All
import Flt.RightOps
import KE.KLam
import KE.KSortTup
import KE.KSuper
import OpenK.ZGo
import Wide.FinOn
import OpenK.AllK
import Wide.All
import Lean
import PySem.Challenge.RW_xr0009_01
set_option Elab.async false
set_option maxHeartbeats 4000000
set_option maxRecDepth 100000
set_option genSizeOf false
set_option genCtorIdx false
set_option genInjectivity false
set_option bootstrap.genMatcherCode false
set_option tactic.hygienic false
set_option backward.match.sparseCases false
set_option linter.all false
namespace Mine.Internal
open PySem PySem.Spec PySem.Calls PyProof.Rows
theorem lid{G:Prop}(h:∀g:Prop,(G->g)->g):G:=h G id
@[elab_as_elim] theorem rwl{α:Sort _}{a b:α}{P:α->Prop}(h:a=b)(k:P b):P a:=h▸k
@[elab_as_elim] theorem rwr{α:Sort _}{a b:α}{P:α->Prop}(h:a=b)(k:P a):P b:=h▸k
theorem mS{α:Type _}{a b:α}(h:a∈[b]):a=b:=List.mem_singleton.mp h
theorem mC{α:Type _}{a b:α}{l:List α}(h:a∈b::l):a=b\/a∈l:=List.mem_cons.mp h
theorem mA{α:Type _}{a:α}{l m:List α}(h:a∈l++m):a∈l\/a∈m:=List.mem_append.mp h
theorem mF{α:Type _}{p:α->Bool}{a:α}{l:List α}(h:a∈l.filter p):a∈l/\p a=true:=List.mem_filter.mp h
theorem mM{α β:Type _}{f:α->β}{b:β}{l:List α}(h:b∈l.map f):∃a,a∈l/\f a=b:=List.mem_map.mp h
noncomputable def Kp(X:List Addr)(h h':Heap):Prop:=∀b o,b∉X->h.get? b=some o->h'.get? b=some o
noncomputable abbrev Sub(h h':Heap):Prop:=∀b o,h.get? b=some o->h'.get? b=some o
theorem Kp.refl(X:List Addr)(h:Heap):Kp X h h:=λ_ _ _ e=>e
theorem Kp.trans{X:List Addr}{h₁ h₂ h₃:Heap}(x:Kp X h₁ h₂)(y:Kp X h₂ h₃):Kp X h₁ h₃:=λb o hb e=>y b o hb (x b o hb e)
theorem Kp.of_sub{X:List Addr}{h h':Heap}(x:Sub h h'):Kp X h h':=λb o _ e=>x b o e
theorem Kp.mono{X Y:List Addr}{h h':Heap}(x:Kp X h h')(s:∀b∈X,b∈Y):Kp Y h h':=λb o hb e=>x b o (λm=>hb (s b m)) e
theorem Sub.trans'{h₁ h₂ h₃:Heap}(x:Sub h₁ h₂)(y:Sub h₂ h₃):Sub h₁ h₃:=λb o e=>y b o (x b o e)
theorem Sub.push'(h:Heap)(o:Obj):Sub h (h.push o):=λ_ _ e=>Heap.get?_push_of_some _ e
theorem Ao(h:Heap):h.get? h.objs.size=none:=by
 cases e:h.get? h.objs.size with
 |none=>rfl
 |some o=>exact absurd (Heap.lt_size e) (Nat.lt_irrefl _)
theorem By{a:Addr}{h h':Heap}(x:Heap.SameBut a h h'):Kp [a] h h':=λb o hb e=>(x.2 b (λq=>hb (by simp [q]))).trans e
theorem Qw{a:Addr}{h h':Heap}(x:Heap.ExtBut a h h'):Kp [a] h h':=λb o hb e=>x b o (λq=>hb (by simp [q])) e
noncomputable def Lst(h:Heap)(a:Addr)(xs:Array Value):Prop:=∃o,h.get? a=some o/\o.cls=.type "list"/\∃n,o.data=.seq xs n/\o.dict=none/\o.slots= #[]
theorem Lst.is{h:Heap}{a:Addr}{xs:Array Value}(x:Lst h a xs):h.IsList a xs:=by obtain⟨o,ho,hc,n,hd,_⟩:=x;exact⟨o,ho,hc,n,hd⟩
theorem Lst.plain{h:Heap}{a:Addr}{xs:Array Value}(x:Lst h a xs):h.PlainList a xs:=by
 refine lid λgg kk=>?_
 obtain⟨⟨c,d,dt,sl⟩,ho,hc,n,hd,h1,h2⟩:=x;refine kk ?_;simp only at hc hd h1 h2;subst hc hd h1 h2;exact⟨n,ho⟩
theorem Lst.of{h:Heap}{a:Addr}{xs:Array Value}(x:h.PlainList a xs):Lst h a xs:=by obtain⟨n,e⟩:=x;exact⟨_,e,rfl,n,rfl,rfl,rfl⟩
theorem Lst.extBut{h h':Heap}{a b:Addr}{xs:Array Value}(x:Lst h a xs)(hs:Heap.ExtBut b h h')(hab:a≠b):Lst h' a xs:=by obtain⟨o,ho,r⟩:=x;exact⟨o,hs a o hab ho,r⟩
inductive T where
 |none
 |bool (b:Bool)
 |int (i:Int)
 |flt (x:UInt64)
 |str (s:Str)
 |list (xs:List T)
 |tup (xs:List T)
 |dI (f:Str->Option Int)
 |dS (f:Str->Option Str)
 |slc (lo hi st:Option Int)
 |rng (n:Int)
 |vx (x:Str) (k:Nat)
 |fn (x:UInt64)
section
variable(prog:Program)(w:World)
noncomputable def IsDI(h:Heap)(a:Addr)(f:Str->Option Int):Prop:=
 ∃g:List (Str×Value),h.DictOf (PySem.strKind prog w) a g/\g.length<=4096/\(∀k,match f k with|some i=>∃t,valueAt g k=some (.int i t)|none=>valueAt g k=none)/\(a==sysModules)=false
noncomputable def IsDS(h:Heap)(a:Addr)(f:Str->Option Str):Prop:=
 ∃g:List (Str×Value),h.DictOf (PySem.strKind prog w) a g/\g.length<=4096/\∀k,match f k with|some i=>∃t,valueAt g k=some (.str i t)|none=>valueAt g k=none
mutual
noncomputable def Holds(X:List Addr)(h:Heap):T->Value->Prop
 |.none,v=>v=.none
 |.bool b,v=>v=.bool b
 |.int i,v=>∃t,v=.int i t
 |.flt x,v=>∃t,v=.float x t
 |.str x,v=>∃t,v=.str x t
 |.list xs,v=>∃a vs,v=.ref a/\a∉X/\Lst h a (List.toArray vs)/\HoldsL X h xs vs
 |.tup xs,v=>∃a vs,v=.ref a/\a∉X/\h.IsTuple a (List.toArray vs)/\HoldsL X h xs vs
 |.dI f,v=>∃a,v=.ref a/\a∉X/\IsDI prog w h a f
 |.dS f,v=>∃a,v=.ref a/\a∉X/\IsDS prog w h a f
 |.slc lo hi st,v=>∃a vl vu vs,v=.ref a/\a∉X/\h.IsSliceOf a vl vu vs/\IsPart vl lo/\IsPart vu hi/\IsPart vs st
 |.rng n,v=>∃a t u k,v=.ref a/\a∉X/\IsRange h a 0 n 1 t u k
 |.vx x k,v=>v=.str x k
 |.fn x,v=>∃t:Tok,t≠0/\v=.float x t
noncomputable def HoldsL(X:List Addr)(h:Heap):List T->List Value->Prop
 |[],vs=>vs=[]
 |x::xs,vs=>∃v r,vs=v::r/\Holds X h x v/\HoldsL X h xs r
end
end
section
variable{prog:Program}{w:World}
theorem IsDI.at'{h h':Heap}{a:Addr}{f:Str->Option Int}(x:IsDI prog w h a f)(e:∀o,h.get? a=some o->h'.get? a=some o):IsDI prog w h' a f:=by
 refine lid λgg kk=>?_
 obtain⟨g,⟨o,es,ep,ho,r⟩,hg⟩:=x;refine kk ?_;exact⟨g,⟨o,es,ep,e o ho,r⟩,hg⟩
theorem IsDS.at'{h h':Heap}{a:Addr}{f:Str->Option Str}(x:IsDS prog w h a f)(e:∀o,h.get? a=some o->h'.get? a=some o):IsDS prog w h' a f:=by
 refine lid λgg kk=>?_
 obtain⟨g,⟨o,es,ep,ho,r⟩,hg⟩:=x;refine kk ?_;exact⟨g,⟨o,es,ep,e o ho,r⟩,hg⟩
theorem IsDI.some{h:Heap}{a:Addr}{f:Str->Option Int}(x:IsDI prog w h a f):∃o,h.get? a=some o:=by obtain⟨_,⟨o,_,_,ho,_⟩,_⟩:=x;exact⟨o,ho⟩
theorem IsDS.some{h:Heap}{a:Addr}{f:Str->Option Str}(x:IsDS prog w h a f):∃o,h.get? a=some o:=by obtain⟨_,⟨o,_,_,ho,_⟩,_⟩:=x;exact⟨o,ho⟩
mutual
theorem Holds.mv{X Y:List Addr}{h h':Heap}(k:Kp X h h')(hy:∀b∈Y,b∈X\/h.get? b=none):∀{t:T} {v:Value},Holds prog w X h t v->Holds prog w Y h' t v
 |.none=>λx=>x
 |.bool _=>λx=>x
 |.int _=>λx=>x
 |.flt _=>λx=>x
 |.str _=>λx=>x
 |.vx _ _=>λx=>x
 |.fn _=>λx=>x
 |.list xs=>λx=>by
  refine lid λgg kk=>?_
  obtain⟨a,vs,e,ha,⟨o,ho,r⟩,hl⟩:=x;refine kk ?_;exact⟨a,vs,e,λm=>(hy a m).elim ha λq=>by(rw [q] at ho;cases ho),⟨o,k a o ha ho,r⟩,HoldsL.mv k hy hl⟩
 |.tup xs=>λx=>by
  refine lid λgg kk=>?_
  obtain⟨a,vs,e,ha,⟨o,ho,r⟩,hl⟩:=x;refine kk ?_;exact⟨a,vs,e,λm=>(hy a m).elim ha λq=>by(rw [q] at ho;cases ho),⟨o,k a o ha ho,r⟩,HoldsL.mv k hy hl⟩
 |.dI f=>λx=>by
  refine lid λgg kk=>?_
  obtain⟨a,e,ha,hd⟩:=x;refine kk ?_;refine⟨a,e,λm=>(hy a m).elim ha λq=>?_,hd.at' λo ho=>k a o ha ho⟩;refine lid λgg kk=>?_
  obtain⟨o,ho⟩:=hd.some;refine kk ?_;rw [q] at ho;cases ho
 |.dS f=>λx=>by
  refine lid λgg kk=>?_
  obtain⟨a,e,ha,hd⟩:=x;refine kk ?_;refine⟨a,e,λm=>(hy a m).elim ha λq=>?_,hd.at' λo ho=>k a o ha ho⟩;refine lid λgg kk=>?_
  obtain⟨o,ho⟩:=hd.some;refine kk ?_;rw [q] at ho;cases ho
 |.slc _ _ _=>λx=>by
  refine lid λgg kk=>?_
  obtain⟨a,vl,vu,vs,e,ha,⟨o,ho,r⟩,p⟩:=x;refine kk ?_;exact⟨a,vl,vu,vs,e,λm=>(hy a m).elim ha λq=>by(rw [q] at ho;cases ho),⟨o,k a o ha ho,r⟩,p⟩
 |.rng _=>λx=>by
  refine lid λgg kk=>?_
  obtain⟨a,t,u,c,e,ha,r⟩:=x;refine kk ?_;exact⟨a,t,u,c,e,λm=>(hy a m).elim ha λq=>absurd (q.symm.trans r) (λx=>nomatch x),k a _ ha r⟩
theorem HoldsL.mv{X Y:List Addr}{h h':Heap}(k:Kp X h h')(hy:∀b∈Y,b∈X\/h.get? b=none):∀{ts:List T} {vs:List Value},HoldsL prog w X h ts vs->HoldsL prog w Y h' ts vs
 |[]=>λx=>x
 |t::ts=>λx=>by
  obtain⟨v,r,e,hv,hr⟩:=x;exact⟨v,r,e,Holds.mv k hy hv,HoldsL.mv k hy hr⟩
end
theorem Holds.up{X:List Addr}{h h':Heap}{t:T}{v:Value}(x:Holds prog w X h t v)(k:Kp X h h'):Holds prog w X h' t v:=x.mv k λ_ m=>.inl m
theorem HoldsL.up{X:List Addr}{h h':Heap}{t:List T}{v:List Value}(x:HoldsL prog w X h t v)(k:Kp X h h'):HoldsL prog w X h' t v:=x.mv k λ_ m=>.inl m
theorem Holds.less{X Y:List Addr}{h:Heap}{t:T}{v:Value}(x:Holds prog w X h t v)(s:∀b∈Y,b∈X):Holds prog w Y h t v:=x.mv (Kp.refl _ _) λb m=>.inl (s b m)
theorem HoldsL.less{X Y:List Addr}{h:Heap}{t:List T}{v:List Value}(x:HoldsL prog w X h t v)(s:∀b∈Y,b∈X):HoldsL prog w Y h t v:=x.mv (Kp.refl _ _) λb m=>.inl (s b m)
theorem HoldsL.length{X:List Addr}{h:Heap}:∀{ts:List T} {vs:List Value},HoldsL prog w X h ts vs->vs.length=ts.length
 |[],vs,x=>by(have e:vs=[]:=x);subst e;rfl
 |_::ts,_,x=>by obtain⟨v,r,e,_,hr⟩:=x;(simp only [e,List.length_cons,List.length_cons,HoldsL.length hr])
theorem HoldsL.get{X:List Addr}{h:Heap}:∀{ts:List T} {vs:List Value},HoldsL prog w X h ts vs->∀{i:Nat} {t:T},ts[i]? =some t->∃v,vs[i]? =some v/\Holds prog w X h t v
 |[]=>λ_ i t e=>by simp at e
 |x::ts=>λhx i t e=>by
  obtain⟨v,r,rfl,hv,hr⟩:=hx
  cases i with
  |zero=>simp at e;subst e;exact⟨v,rfl,hv⟩
  |succ i=>simpa using HoldsL.get hr (i:=i) (t:=t) (by simpa using e)
theorem HoldsL.getv{X:List Addr}{h:Heap}:∀{ts:List T} {vs:List Value},HoldsL prog w X h ts vs->∀{i:Nat} {v:Value},vs[i]? =some v->∃t,ts[i]? =some t/\Holds prog w X h t v
 |[],vs,hx,i,t,e=>by rw [show vs=[] from hx] at e;simp at e
 |x::ts,_,hx,i,t,e=>by
  obtain⟨v,r,rfl,hv,hr⟩:=hx
  cases i with
  |zero=>simp at e;subst e;exact⟨x,rfl,hv⟩
  |succ i=>simpa using HoldsL.getv hr (i:=i) (v:=t) (by simpa using e)
theorem HoldsL.append{X:List Addr}{h:Heap}:∀{ts us:List T} {vs ws:List Value},HoldsL prog w X h ts vs->HoldsL prog w X h us ws->HoldsL prog w X h (ts++us) (vs++ws)
 |[],_,vs,_,x,y=>by refine rwl (show vs=[] from x) ?_;exact y
 |_::ts,_,_,_,x,y=>by obtain⟨v,r,rfl,hv,hr⟩:=x;exact⟨v,_,rfl,hv,HoldsL.append hr y⟩
theorem HoldsL.one{X:List Addr}{h:Heap}{t:T}{v:Value}(x:Holds prog w X h t v):HoldsL prog w X h [t] [v]:=⟨v,[],rfl,x,rfl⟩
theorem HoldsL.reverse{X:List Addr}{h:Heap}{ts:List T}{vs:List Value}(x:HoldsL prog w X h ts vs):HoldsL prog w X h ts.reverse vs.reverse:=by
 induction ts generalizing vs with
 |nil=>refine rwl (show vs=[] from x) ?_;exact rfl
 |cons t ts ih=>obtain⟨v,r,rfl,hv,hr⟩:=x;(refine rwl List.reverse_cons ?_;refine rwl List.reverse_cons ?_);exact HoldsL.append (ih hr) (.one hv)
end
inductive VarIs(env:Env)(h:Heap)(x:Str)(v:Value):Prop
 |loc (m:Str->Option Value):env.kindOf x=some .local->h.Ns env.locals m->m x=some v->VarIs env h x v
 |cel (c:Addr):env.kindOf x=some .cell->env.cells.lookup x=some c->h.IsCell c (some v)->VarIs env h x v
 |fre (c:Addr):env.kindOf x=some .free->(x==("__classdict__":Str))=false->env.cells.lookup x=some c->h.IsCell c (some v)->VarIs env h x v
structure GlobIs(env:Env)(h:Heap)(x:Str)(v:Value):Prop where
 kind:env.kindOf x=some .globalImplicit
 val:∃mg,h.Ns mainGlobals mg/\(mg x=some v\/(mg x=none/\∃mb,h.Ns builtinsNs mb/\mb x=some v))
section
variable{M:Model}{A:Around}{E:Value->Shared->Prop}{s:Shared}{env:Env}{x:Str}{v:Value}
theorem Ej{Q:Value->Shared->Prop}(hk:env.scope.kind=.function)(h:VarIs env s.heap x v)(hQ:Q v s):wpAny M A (loadName env x) Q E s:=by
 cases h with
 |loc m k n e=>exact wpAny_loadName_local hk k n e hQ
 |cel c k l i=>exact wpAny_loadName_cell hk k l i hQ
 |fre c k q l i=>exact wpAny_loadName_free hk k l i hQ q
theorem Bc{Q:Value->Shared->Prop}(hk:env.scope.kind=.function)(hg:env.globals=mainGlobals)(hb:env.builtins=builtinsNs)(h:GlobIs env s.heap x v)(hQ:Q v s):wpAny M A (loadName env x) Q E s:=by
 unfold loadName;simp only [Env.blockKind,hk,h.kind,ScopeKind.isAnnotationScope,Bool.false_and,Bool.false_eq_true,if_false];obtain⟨mg,n,e|⟨e,mb,nb,eb⟩⟩:=h.val
 ·exact loadGlobal_global (hg▸n) e hQ
 ·exact loadGlobal_builtin (hg▸n) e (hb▸nb) eb hQ
end
inductive Own where
 |list (xs:List T)
 |dI (f:Str->Option Int) (n:Nat)
 |acc (xs:List T)
inductive Slot where
 |fz (t:T)
 |ow (o:Own)
 |ch (c:Str)
noncomputable def Slot.ctorIdx(x:Slot):Nat:=Slot.casesOn x (λ_=>0) (λ_=>1) λ_=>2
noncomputable abbrev Sig:=List (Str×Slot)
structure Cx where
 cls:Addr
 st:List Str
 tk:Nat
noncomputable def CM(h:Heap)(C:Addr)(a:Addr)(vs:List Value)(d:Addr):Prop:=
 (∃n,h.get? a=some {cls:=.ref C,dict:=some d,data:=.seq (List.toArray vs) n,slots:= #[]})/\
 ∃(o:Obj) (_ _:Unit),h.get? d=some o/\o.cls=.type "dict"/\∀x:Str,x≠("_initial_size":Str)->PySem.W.lookIn x o=some none
section
variable(prog:Program)(w:World)(C:Cx)
noncomputable def OwnAt(Hd Mu:List Addr)(h:Heap)(a:Addr):Own->Prop
 |.list xs=>∃vs,h.PlainList a (List.toArray vs)/\HoldsL prog w Hd h xs vs
 |.dI f n=>∃g:List (Str×Value),h.DictOf (PySem.strKind prog w) a g/\g.length<=n/\(∀k,match f k with|some i=>∃t,valueAt g k=some (.int i t)|none=>valueAt g k=none)/\(a==sysModules)=false
 |.acc xs=>∃vs d,CM h C.cls a vs d/\d∉Hd/\HoldsL prog w Hd h xs vs
structure Fm(B:Heap)(H0 Mu:List Addr)(env:Env)(σ:Sig)(ad:Str->Addr)(h:Heap):Prop where
 kind:env.scope.kind=.function
 glob:env.globals=mainGlobals
 blt:env.builtins=builtinsNs
 base:Sub B h
 off:∀b∈Mu,B.get? b=none
 live:∀b∈Mu++H0,∃o,h.get? b=some o
 apart:∀b∈Mu,b∉H0
 ns:∃m,h.Ns env.locals m
 lmu:env.locals∈Mu
 cells:∀n c,env.cells.lookup n=some c->(∃v,h.IsCell c v)/\c≠env.locals
 cmu:∀n∈C.st,∀c,env.cells.lookup n=some c->c∈Mu
 capart:∀n n' c,env.cells.lookup n=some c->env.cells.lookup n'=some c->n=n'
 vars:∀x t,σ.lookup x=some (.fz t)->∃v,VarIs env h x v/\Holds prog w (Mu++H0) h t v
 owns:∀x o,σ.lookup x=some (.ow o)->VarIs env h x (.ref (ad x))/\ad x∈Mu/\ad x≠env.locals/\(∀n c,env.cells.lookup n=some c->ad x≠c)/\OwnAt prog w C (Mu++H0) Mu h (ad x) o
 oapart:∀x y o o',σ.lookup x=some (.ow o)->σ.lookup y=some (.ow o')->x≠y->ad x≠ad y
 chs:∀x c,σ.lookup x=some (.ch c)->∃t:Nat,VarIs env h x (.str c t)/\1<=t/\t+1<=C.tk
end
structure AOk(A:Around)(n:Nat):Prop where
 handled:A.handled=none
 depth:A.depth+n<=600
 units:A.units+200*n<=4000
 frames:∃fs,A.frames=some fs
theorem AOk.le{A:Around}{n m:Nat}(a:AOk A n)(h:m<=n):AOk A m:=⟨a.handled,Nat.le_trans (Nat.add_le_add_left h _) a.depth,Nat.le_trans (Nat.add_le_add_left (Nat.mul_le_mul_left _ h) _) a.units,a.frames⟩
theorem AOk.deeper{A:Around}{n:Nat}(a:AOk A (n+1))(env:Env):AOk (A.deeper env) n:=by
 obtain⟨h1,h2,h3,fs,h4⟩:=a;exact⟨h1,by show A.depth+1+n<=600;lia,by show A.units+3+200*n<=4000;lia,env::fs,by show A.frames.map _=_;refine rwl h4 ?_;rfl⟩
theorem AOk.in1{A:Around}{n:Nat}(a:AOk A (n+1)):AOk A.in1 n:=by
 obtain⟨h1,h2,h3,h4⟩:=a;exact⟨h1,by show A.depth+n<=600;(exact Nat.le_of_succ_le h2),by show A.units+1+200*n<=4000;lia,h4⟩
theorem AOk.cl{A:Around}{n:Nat}(a:AOk A n):A.units+4000<cLine:=by
 have:=a.units;show A.units+4000<9900
 (refine Nat.lt_of_not_le λh=>?_;lia)
theorem AOk.room{A:Around}{n:Nat}(a:AOk A n):A.depth<recursionLimit:=by
 have:=a.depth;show A.depth<1000
 (refine Nat.lt_of_not_le λh=>?_;lia)
section
variable(prog:Program)(w:World)
noncomputable def Op(A:Around)(Hd:List Addr)(s:Shared)(m:Sem Value)(c:T):Prop:=
 ∀(Q:Value->Shared->Prop) (E:Value->Shared->Prop),(∀v h' k,Sub s.heap h'->Holds prog w Hd h' c v->Q v {s with heap:=h',toks:=k})->wpAny (model prog w) A m Q E s
noncomputable def OpB(A:Around)(s:Shared)(m:Sem Bool)(b:Bool):Prop:=
 ∀(Q:Bool->Shared->Prop) (E:Value->Shared->Prop),(∀h' k,Sub s.heap h'->Q b {s with heap:=h',toks:=k})->wpAny (model prog w) A m Q E s
noncomputable def Live(Hd:List Addr)(h:Heap):Prop:=∀b∈Hd,∃o,h.get? b=some o
end
section
variable{prog:Program}{w:World}{C:Cx}{B:Heap}{H0 Mu:List Addr}{env:Env}{σ:Sig}{ad:Str->Addr}{h h':Heap}
theorem Live.up{Hd:List Addr}(l:Live Hd h)(k:Sub h h'):Live Hd h':=λb hb=>by obtain⟨o,ho⟩:=l b hb;exact⟨o,k b o ho⟩
theorem Live.new{Hd:List Addr}(l:Live Hd h):h.objs.size∉Hd:=λm=>by
 obtain⟨o,ho⟩:=l _ m;rw [Ao] at ho;cases ho
theorem VarIs.at'{x:Str}{v:Value}(i:VarIs env h x v)(k:∀o,h.get? env.locals=some o->h'.get? env.locals=some o)(kc:∀n c,env.cells.lookup n=some c->∀o,h.get? c=some o->h'.get? c=some o):VarIs env h' x v:=by
 cases i with
 |loc m q n e=>exact .loc m q (n.at' k) e
 |cel c q l i=>obtain⟨o,ho,hd⟩:=i;exact .cel c q l ⟨o,kc _ _ l o ho,hd⟩
 |fre c q z l i=>obtain⟨o,ho,hd⟩:=i;exact .fre c q z l ⟨o,kc _ _ l o ho,hd⟩
theorem VarIs.up{x:Str}{v:Value}(i:VarIs env h x v)(k:Sub h h'):VarIs env h' x v:=i.at' (λo e=>k _ o e) λ_ c _ o e=>k c o e
theorem OwnAt.up{Hd Mu:List Addr}{a:Addr}{o:Own}(x:OwnAt prog w C Hd Mu h a o)(k:Sub h h'):OwnAt prog w C Hd Mu h' a o:=by
 cases o with
 |list xs=>obtain⟨vs,⟨o,ho⟩,hl⟩:=x;exact⟨vs,⟨o,k _ _ ho⟩,hl.up (Kp.of_sub k)⟩
 |dI f n=>obtain⟨g,⟨o,es,ep,ho,r⟩,hg⟩:=x;exact⟨g,⟨o,es,ep,k _ _ ho,r⟩,hg⟩
 |acc xs=>
  refine lid λgg kk=>?_
  obtain⟨vs,d,⟨⟨n,hn⟩,o,es,ep,ho,r⟩,hd,hl⟩:=x;refine kk ?_;exact⟨vs,d,⟨⟨n,k _ _ hn⟩,o,es,ep,k _ _ ho,r⟩,hd,hl.up (Kp.of_sub k)⟩
theorem Fm.up(F:Fm prog w C B H0 Mu env σ ad h)(k:Sub h h'):Fm prog w C B H0 Mu env σ ad h' where
 kind:=F.kind
 glob:=F.glob
 blt:=F.blt
 base:=Sub.trans' F.base k
 off:=F.off
 live:=λb hb=>by obtain⟨o,ho⟩:=F.live b hb;exact⟨o,k b o ho⟩
 apart:=F.apart
 ns:=by obtain⟨m,n⟩:=F.ns;exact⟨m,n.keeps k⟩
 lmu:=F.lmu
 cells:=λn c e=>by obtain⟨⟨v,i⟩,q⟩:=F.cells n c e;exact⟨⟨v,i.keeps k⟩,q⟩
 cmu:=F.cmu
 capart:=F.capart
 vars:=λx t e=>by obtain⟨v,i,q⟩:=F.vars x t e;exact⟨v,i.up k,q.up (Kp.of_sub k)⟩
 owns:=λx o e=>by obtain⟨i,a,b,c,q⟩:=F.owns x o e;exact⟨i.up k,a,b,c,q.up k⟩
 oapart:=F.oapart
 chs:=λx c e=>by obtain⟨t,i,q⟩:=F.chs x c e;exact⟨t,i.up k,q⟩
end
noncomputable def PE(prog:Program)(w:World)(C:Cx)(B:Heap)(A:Around)(env:Env)(e:Expr)(σ:Sig)(t:T)(σ':Sig):Prop:=
 ∀(H0 Mu:List Addr) (ad:Str->Addr) (s:Shared) (Q:Value->Shared->Prop) (E:Value->Shared->Prop),Fm prog w C B H0 Mu env σ ad s.heap->
  (∀v h' k,Kp Mu s.heap h'->Fm prog w C B H0 Mu env σ' ad h'->Holds prog w (Mu++H0) h' t v->Q v {s with heap:=h',toks:=k})->wpAny (model prog w) A (eval e env) Q E s
noncomputable def PB(prog:Program)(w:World)(C:Cx)(B:Heap)(A:Around)(env:Env)(e:Expr)(σ:Sig)(b:Bool)(σ':Sig):Prop:=
 ∀(H0 Mu:List Addr) (ad:Str->Addr) (s:Shared) (Q:Bool->Shared->Prop) (E:Value->Shared->Prop),Fm prog w C B H0 Mu env σ ad s.heap->
  (∀h' k,Kp Mu s.heap h'->Fm prog w C B H0 Mu env σ' ad h'->Q b {s with heap:=h',toks:=k})->wpAny (model prog w) A (isTrue e env (eval e env)) Q E s
noncomputable def PEs(prog:Program)(w:World)(C:Cx)(B:Heap)(A:Around)(env:Env)(pos:Pos)(es:List Expr)(σ:Sig)(ts:List T)(σ':Sig):Prop:=
 ∀(H0 Mu:List Addr) (ad:Str->Addr) (s:Shared) (Q:List Value->Shared->Prop) (E:Value->Shared->Prop),Fm prog w C B H0 Mu env σ ad s.heap->
  (∀vs h' k,Kp Mu s.heap h'->Fm prog w C B H0 Mu env σ' ad h'->HoldsL prog w (Mu++H0) h' ts vs->Q vs {s with heap:=h',toks:=k})->
  wpAny (model prog w) A (spliced (backTo pos (starEach es env))) Q E s
section
variable{prog:Program}{w:World}{C:Cx}{B:Heap}{A:Around}{H0 Mu:List Addr}{env:Env}{σ σ₁ σ₂:Sig}{ad:Str->Addr}{h h':Heap}{t t₁ t₂:T}{e l r:Expr}{pos:Pos}
theorem Fm.hlive(F:Fm prog w C B H0 Mu env σ ad h):Live (Mu++H0) h:=F.live
theorem BJ{v:Value}(x:Holds prog w (Mu++H0) h t v)(k:Kp Mu h h'):Holds prog w (Mu++H0) h' t v:=x.up (k.mono λ_ m=>List.mem_append_left _ m)
theorem NZ{ts:List T}{v:List Value}(x:HoldsL prog w (Mu++H0) h ts v)(k:Kp Mu h h'):HoldsL prog w (Mu++H0) h' ts v:=x.up (k.mono λ_ m=>List.mem_append_left _ m)
noncomputable def T.wk:T->T
 |.vx x _=>.str x
 |t=>t
theorem Holds.wk{X:List Addr}{v:Value}(x:Holds prog w X h t v):Holds prog w X h t.wk v:=by
 cases t with
 |vx y z=>exact⟨_,x⟩
 |_=>exact x
theorem M2{x:Str}(hd:(x==("__debug__":Str))=false)(hv:σ.lookup x=some (.fz t)):PE prog w C B A env (.Name x pos) σ t.wk σ:=λH0 Mu ad s Q E F hQ=>by
 obtain⟨v,i,hv⟩:=F.vars x t hv;exact wpAny_Name (Ej F.kind i (hQ v s.heap s.toks (Kp.refl _ _) F hv.wk)) hd
theorem Lw{x c:Str}(hd:(x==("__debug__":Str))=false)(hv:σ.lookup x=some (.ch c)):PE prog w C B A env (.Name x pos) σ (.str c) σ:=λH0 Mu ad s Q E F hQ=>by
 obtain⟨v,i,_⟩:=F.chs x c hv;exact wpAny_Name (Ej F.kind i (hQ _ s.heap s.toks (Kp.refl _ _) F ⟨_,rfl⟩)) hd
theorem Ii{H0 Mu:List Addr}{s:Shared}{m:Sem Value}{c:T}{Q:Value->Shared->Prop}{E:Value->Shared->Prop}(F:Fm prog w C B H0 Mu env σ ad s.heap)(o:Op prog w A (Mu++H0) s m c)
  (hQ:∀v h' k,Sub s.heap h'->Fm prog w C B H0 Mu env σ ad h'->Holds prog w (Mu++H0) h' c v->Q v {s with heap:=h',toks:=k}):wpAny (model prog w) A m Q E s:=
 o _ _ λv h' k sb hv=>hQ v h' k sb (F.up sb) hv
theorem Py{op:Operator}(pl:PE prog w C B A env l σ t₁ σ₁)(pr:PE prog w C B A env r σ₁ t₂ σ₂)
  (po:∀Hd s a b,Live Hd s.heap->Holds prog w Hd s.heap t₁ a->Holds prog w Hd s.heap t₂ b->Op prog w A Hd s (binaryOp op a b) t):PE prog w C B A env (.BinOp l op r pos) σ t σ₂:=λH0 Mu ad s Q E F hQ=>by
 refine wpAny_BinOp (pl H0 Mu ad s _ _ F λa h₁ k₁ kp₁ F₁ ha=>pr H0 Mu ad _ _ _ F₁ λb h₂ k₂ kp₂ F₂ hb=>?_);exact Ii F₂ (po _ _ a b F₂.hlive (BJ ha kp₂) hb) λv h₃ k₃ sb F₃ hv=>hQ v h₃ k₃ ((kp₁.trans kp₂).trans (Kp.of_sub sb)) F₃ hv
theorem Pz{b:Bool}(pe:PE prog w C B A env e σ t σ₁)(he:isTrue e env (eval e env)=(do let v ←eval e env;standAt e.pos;holding [v] (truthy v)))
  (pt:∀Hd s v,Holds prog w Hd s.heap t v->OpB prog w A s (truthy v) b):PB prog w C B A env e σ b σ₁:=λH0 Mu ad s Q E F hQ=>by
 refine wpAny_isTrue_value (pe H0 Mu ad s _ _ F λv h₁ k₁ kp₁ F₁ hv=>?_) he;exact pt _ _ v hv _ _ λh₄ k₄ sb₄=>hQ h₄ k₄ (kp₁.trans (Kp.of_sub sb₄)) (F₁.up sb₄)
theorem V0{b:Bool}(pe:PB prog w C B A env e σ b σ₁):PB prog w C B A env (.UnaryOp .Not e pos) σ (!b) σ₁:=λH0 Mu ad s Q E F hQ=>
 wpAny_isTrue_Not (pe H0 Mu ad s _ _ F λh₁ k₁ kp₁ F₁=>hQ h₁ k₁ kp₁ F₁)
theorem Kc{c x y:Expr}{b:Bool}(pc:PB prog w C B A env c σ b σ₁)(px:b=true->PE prog w C B A env x σ₁ t σ₂)(py:b=false->PE prog w C B A env y σ₁ t σ₂):PE prog w C B A env (.IfExp c x y pos) σ t σ₂:=λH0 Mu ad s Q E F hQ=>by
 refine wpAny_IfExp (pc H0 Mu ad s _ _ F λh₁ k₁ kp₁ F₁=>?_)
 cases b with
 |true=>exact px rfl H0 Mu ad _ _ _ F₁ λv h₂ k₂ kp₂ F₂ hv=>hQ v h₂ k₂ (kp₁.trans kp₂) F₂ hv
 |false=>exact py rfl H0 Mu ad _ _ _ F₁ λv h₂ k₂ kp₂ F₂ hv=>hQ v h₂ k₂ (kp₁.trans kp₂) F₂ hv
theorem Ps{op:UnaryOp}(pe:PE prog w C B A env e σ t₁ σ₁)(po:∀Hd s a,Live Hd s.heap->Holds prog w Hd s.heap t₁ a->Op prog w A Hd s (unaryOp op a) t):PE prog w C B A env (.UnaryOp op e pos) σ t σ₁:=λH0 Mu ad s Q E F hQ=>by
 refine wpAny_UnaryOp (pe H0 Mu ad s _ _ F λa h₁ k₁ kp₁ F₁ ha=>?_);exact Ii F₁ (po _ _ a F₁.hlive ha) λv h₃ k₃ sb F₃ hv=>hQ v h₃ k₃ (kp₁.trans (Kp.of_sub sb)) F₃ hv
theorem IV(pl:PE prog w C B A env l σ t₁ σ₁)(pr:PE prog w C B A env r σ₁ t₂ σ₂)
  (po:∀Hd s a b,Live Hd s.heap->Holds prog w Hd s.heap t₁ a->Holds prog w Hd s.heap t₂ b->Op prog w A Hd s (subscriptTail l r a b) t):PE prog w C B A env (.Subscript l r pos) σ t σ₂:=λH0 Mu ad s Q E F hQ=>by
 refine Subscript_ (pl H0 Mu ad s _ _ F λa h₁ k₁ kp₁ F₁ ha=>pr H0 Mu ad _ _ _ F₁ λb h₂ k₂ kp₂ F₂ hb=>?_);exact Ii F₂ (po _ _ a b F₂.hlive (BJ ha kp₂) hb) λv h₃ k₃ sb F₃ hv=>hQ v h₃ k₃ ((kp₁.trans kp₂).trans (Kp.of_sub sb)) F₃ hv
theorem Sv:PEs prog w C B A env pos [] σ [] σ:=λH0 Mu ad s Q E F hQ=>spliced_nil (hQ [] s.heap s.toks (Kp.refl _ _) F rfl)
theorem Pq{es:List Expr}{ts:List T}(hs:starEach (e::es) env=(false,eval e env)::starEach es env)(pe:PE prog w C B A env e σ t σ₁)(ps:PEs prog w C B A env pos es σ₁ ts σ₂):PEs prog w C B A env pos (e::es) σ (t::ts) σ₂:=λH0 Mu ad s Q E F hQ=>by
 refine rwl hs ?_;show wpAny (model prog w) A (spliced ((false,eval e env)::backTo pos (starEach es env))) Q E s;refine spliced_cons (pe H0 Mu ad s _ _ F λa h₁ k₁ kp₁ F₁ ha=>ps H0 Mu ad _ _ _ F₁ λvs h₂ k₂ kp₂ F₂ hb=>?_);exact hQ _ h₂ k₂ (kp₁.trans kp₂) F₂ ⟨a,vs,rfl,BJ ha kp₂,hb⟩
theorem Sx{es:List Expr}{ts:List T}(ps:PEs prog w C B A env pos es σ ts σ₁)(hl:ts.length<=1000):PE prog w C B A env (.List es pos) σ (.list ts) σ₁:=λH0 Mu ad s Q E F hQ=>by
 refine wpAny_List_spliced (ps H0 Mu ad s _ _ F λvs h₁ k₁ kp₁ F₁ hv=>?_);have hs:vs.length<=1000:=by refine rwl hv.length ?_;exact hl
 refine⟨Nat.le_trans hs (by decide),hQ _ _ _ (kp₁.trans (Kp.of_sub (Sub.push' _ _))) (F₁.up (Sub.push' _ _)) ⟨_,vs,rfl,F₁.hlive.new,⟨_,Heap.get?_push_size _ rfl,rfl,0,rfl,rfl,rfl⟩,hv.up (Kp.of_sub (Sub.push' _ _))⟩⟩
theorem Ka{es:List Expr}{ts:List T}{n:Nat}(ps:PEs prog w C B A env pos es σ ts σ₁)(hl:ts.length<=1000):PE prog w C B A env (.Tuple es n pos) σ (.tup ts) σ₁:=λH0 Mu ad s Q E F hQ=>by
 refine wpAny_Tuple_spliced (ps H0 Mu ad s _ _ F λvs h₁ k₁ kp₁ F₁ hv=>?_);have hs:vs.length<=1000:=by refine rwl hv.length ?_;exact hl
 refine⟨Nat.le_trans hs (by decide),hQ _ _ _ (kp₁.trans (Kp.of_sub (Sub.push' _ _))) (F₁.up (Sub.push' _ _)) ⟨_,vs,rfl,F₁.hlive.new,⟨_,Heap.get?_push_size _ rfl,rfl,0,rfl⟩,hv.up (Kp.of_sub (Sub.push' _ _))⟩⟩
end
noncomputable def Mk(a:Option PyData)(b:Option (List PyData)):Option (PyData×List PyData):=match a with
 |some a=>b.map λb=>(a,b)
 |none=>none
theorem Nq{a:Option PyData}{b:Option (List PyData)}{p:PyData×List PyData}(h:Mk a b=some p):a=some p.1/\b=some p.2:=by
 cases a with
 |none=>cases h
 |some a=>cases b with
  |none=>cases h
  |some b=>cases h;exact⟨rfl,rfl⟩
mutual
noncomputable def T.toPy:T->Option PyData
 |.none=>some .none
 |.bool b=>some (.bool b)
 |.int i=>some (.int i)
 |.str x=>some (.str x)
 |.list xs=>(CN xs).map .list
 |.tup xs=>(CN xs).map .tuple
 |_=>none
noncomputable def CN:List T->Option (List PyData)
 |[]=>some []
 |x::xs=>(Mk x.toPy (CN xs)).map λp=>p.1::p.2
end
theorem DJ{α β:Type}{g:α->β}{o:Option α}{c:β}{P:Prop}(e:o.map g=some c)(k:∀x,o=some x->g x=c->P):P:=by
 cases o with
 |none=>cases e
 |some x=>exact k x rfl (Option.some.inj e)
section
variable{prog:Program}{w:World}{X:List Addr}{h:Heap}
mutual
theorem Holds.reads:∀{t:T} {v:Value} {d:PyData},Holds prog w X h t v->t.toPy=some d->∃as,Reads h v d as
 |.none,_,_,x,e=>by cases x;cases e;exact⟨_,.none⟩
 |.bool b,_,_,x,e=>by cases x;cases e;exact⟨_,.bool b⟩
 |.int i,_,_,x,e=>by obtain⟨t,rfl⟩:=x;cases e;exact⟨_,.int i t⟩
 |.str i,_,_,x,e=>by obtain⟨t,rfl⟩:=x;cases e;exact⟨_,.str i t⟩
 |.flt _,_,_,_,e=>nomatch e
 |.dI _,_,_,_,e=>nomatch e
 |.dS _,_,_,_,e=>nomatch e
 |.slc _ _ _,_,_,_,e=>nomatch e
 |.rng _,_,_,_,e=>nomatch e
 |.vx _ _,_,_,_,e=>nomatch e
 |.fn _,_,_,_,e=>nomatch e
 |.list xs,_,d,x,e=>DJ (show(CN xs).map PyData.list=some d from e) λds q ed=>by
  refine lid λgg kk=>?_
  obtain⟨a,vs,rfl,_,⟨o,ho,hc,n,hd,_⟩,hl⟩:=x;obtain⟨as,r⟩:=HoldsL.reads hl q;refine kk ?_;exact ed▸⟨_,.list ho hc hd r⟩
 |.tup xs,_,d,x,e=>DJ (show(CN xs).map PyData.tuple=some d from e) λds q ed=>by
  refine lid λgg kk=>?_
  obtain⟨a,vs,rfl,_,⟨o,ho,hc,n,hd⟩,hl⟩:=x;obtain⟨as,r⟩:=HoldsL.reads hl q;refine kk ?_;exact ed▸⟨_,.tuple ho hc hd r⟩
theorem HoldsL.reads:∀{ts:List T} {vs:List Value} {ds:List PyData},HoldsL prog w X h ts vs->CN ts=some ds->∃as,ReadsAll h vs ds as
 |[],_,_,x,e=>by cases x;cases e;exact⟨_,.nil⟩
 |t::ts,_,ds,x,e=>DJ (show(Mk t.toPy (CN ts)).map (λp=>p.1::p.2)=some ds from e) λp q ed=>by
  obtain⟨v,r,rfl,hv,hr⟩:=x;obtain⟨q1,q2⟩:=Nq q;obtain⟨as,x⟩:=Holds.reads hv q1;obtain⟨bs,y⟩:=HoldsL.reads hr q2;exact ed▸⟨_,.cons x y⟩
end
end
noncomputable def T.int?(b:T):Option Int:=match b with
 |.int j=>some j
 |_=>Option.none
noncomputable def T.flt?(b:T):Option UInt64:=match b with
 |.flt j=>some j
 |_=>Option.none
noncomputable def T.str?(b:T):Option Str:=match b with
 |.str j=>some j
 |_=>Option.none
noncomputable def T.list?(b:T):Option (List T):=match b with
 |.list j=>some j
 |_=>Option.none
theorem int?_eq{b:T}{j:Int}(e:b.int? =some j):b=.int j:=by
 cases b with
 |int i=>exact congrArg _ (Option.some.inj e)
 |_=>exact nomatch e
theorem flt?_eq{b:T}{j:UInt64}(e:b.flt? =some j):b=.flt j:=by
 cases b with
 |flt i=>exact congrArg _ (Option.some.inj e)
 |_=>exact nomatch e
theorem str?_eq{b:T}{j:Str}(e:b.str? =some j):b=.str j:=by
 cases b with
 |str i=>exact congrArg _ (Option.some.inj e)
 |_=>exact nomatch e
theorem list?_eq{b:T}{j:List T}(e:b.list? =some j):b=.list j:=by
 cases b with
 |list i=>exact congrArg _ (Option.some.inj e)
 |_=>exact nomatch e
noncomputable def onO{α β:Type}(o:Option β)(f:β->Option α)(z:Option α):Option α:=match o with
 |some j=>f j
 |none=>z
theorem B5{α β:Type}{o:Option β}{f:β->Option α}{z:Option α}{c:α}{P:Prop}(e:onO o f z=some c)(k:∀j,o=some j->f j=some c->P)(k':z=some c->P):P:=by
 cases o with
 |none=>exact k' e
 |some j=>exact k j rfl e
noncomputable def T.onI{α:Type}(b:T)(f:Int->Option α):Option α:=onO b.int? f Option.none
noncomputable def T.onF{α:Type}(b:T)(f:UInt64->Option α):Option α:=onO b.flt? f Option.none
noncomputable def T.onS{α:Type}(b:T)(f:Str->Option α):Option α:=onO b.str? f Option.none
noncomputable def T.onL{α:Type}(b:T)(f:List T->Option α):Option α:=onO b.list? f Option.none
noncomputable def T.onIF{α:Type}(b:T)(f:UInt64->Option α)(g:Int->Option α):Option α:=onO b.flt? f (b.onI g)
theorem EP{α:Type}{x c:α}{P:α->Prop}(e:some x=some c)(h:P x):P c:=Option.some.inj e▸h
theorem Aj{α:Type}{c:α}{P:Prop}(e:none=some c):P:=nomatch e
theorem itn{α:Type}{q:Prop}[Decidable q]{o:Option α}{c:α}{P:Prop}(e:(if q then none else o)=some c)(k:¬q->o=some c->P):P:=by
 by_cases h:q
 ·rw [if_pos h] at e;cases e
 ·exact k h (by rwa [if_neg h] at e)
theorem its{α:Type}{q:Prop}[Decidable q]{o:Option α}{c:α}{P:Prop}(e:(if q then o else none)=some c)(k:q->o=some c->P):P:=by
 by_cases h:q
 ·exact k h (by rwa [if_pos h] at e)
 ·rw [if_neg h] at e;cases e
section
variable{prog:Program}{w:World}{X:List Addr}{h:Heap}{α:Type}{b:T}{v:Value}{c:α}{P:Value->Prop}
theorem Dn{f:Int->Option α}(e:b.onI f=some c)(hb:Holds prog w X h b v)(k:∀j t,f j=some c->P (.int j t)):P v:=
 B5 e (λj q e=>by rw [int?_eq q] at hb;obtain⟨t,rfl⟩:=hb;exact k j t e) Aj
theorem PN{f:UInt64->Option α}(e:b.onF f=some c)(hb:Holds prog w X h b v)(k:∀j t,f j=some c->P (.float j t)):P v:=
 B5 e (λj q e=>by rw [flt?_eq q] at hb;obtain⟨t,rfl⟩:=hb;exact k j t e) Aj
theorem Gg{f:Str->Option α}(e:b.onS f=some c)(hb:Holds prog w X h b v)(k:∀j t,f j=some c->P (.str j t)):P v:=
 B5 e (λj q e=>by rw [str?_eq q] at hb;obtain⟨t,rfl⟩:=hb;exact k j t e) Aj
theorem IY{f:UInt64->Option α}{g:Int->Option α}(e:b.onIF f g=some c)(hb:Holds prog w X h b v)(k:∀j t,f j=some c->P (.float j t))(k':∀j t,g j=some c->P (.int j t)):P v:=
 B5 e (λj q e=>by rw [flt?_eq q] at hb;obtain⟨t,rfl⟩:=hb;exact k j t e) λe=>Dn e hb k'
theorem Uk{P:Prop}{f:List T->Option α}(e:b.onL f=some c)(k:∀ys,b=.list ys->f ys=some c->P):P:=B5 e (λj q e=>k j (list?_eq q) e) Aj
end
theorem Lst.obj{h:Heap}{a:Addr}{xs:Array Value}(x:Lst h a xs):∃n,h.get? a=some ⟨.type "list",none,.seq xs n,#[]⟩:=x.plain
noncomputable def eqG(a b:T):Option Bool:=match a.toPy with
 |some da=>(match b.toPy with
  |some db=>if SeqAt.shaped da&&SeqAt.shaped db then some (PyData.eqv da db) else none
  |none=>none)
 |none=>none
noncomputable def eqT(a b:T):Option Bool:=
 onO a.int? (λi=>b.onI λj=>some (i==j)) (onO a.str? (λx=>b.onS λy=>some (x==y))
  (onO a.flt? (λx=>b.onIF (λy=>some (Float64.cmp x y==some .eq)) λj=>if Float64.isNaN x then none else some (Float64.cmpInt x j==some .eq)) (eqG a b)))
noncomputable def ltT(a b:T):Option Bool:=
 onO a.int? (λi=>b.onI λj=>some (decide (i<j))) (onO a.str? (λx=>b.onS λy=>some (decide (x.cps.toList<y.cps.toList)))
  (onO a.flt? (λx=>b.onIF (λy=>some (Float64.cmp x y==some .lt)) λj=>if Float64.isNaN x then none else some (Float64.cmpInt x j==some .lt)) none))
noncomputable def Ya(a b:T):Option T:=match a with
 |.int i=>b.onI λj=>some (.int (i+j))
 |.flt i=>b.onIF (λj=>some (.flt (Float64.add i j))) λj=>if Float64.isInf (Float64.ofInt j) then none else some (.flt (Float64.add i (Float64.ofInt j)))
 |.str x=>b.onS λy=>if x.length+y.length<=4096 then some (.str (x++y)) else none
 |.list x=>b.onL λy=>if x.length+y.length<=4096 then some (.list (x++y)) else none
 |_=>none
noncomputable def Xk(a b:T):Option T:=match a with
 |.int i=>b.onIF (λj=>if Float64.isInf (Float64.ofInt i) then none else some (.flt (Float64.mul (Float64.ofInt i) j))) λj=>if i.natAbs<2^63 then some (.int (i*j)) else none
 |.flt i=>b.onF λj=>some (.flt (Float64.mul i j))
 |.list x=>b.onI λn=>if x.length<=1000/\0<=n/\n<=1000 then some (.list (List.replicate n.toNat x).flatten) else none
 |_=>none
noncomputable def ifT(a b:T)(f:Int->Int->Option T)(g:UInt64->UInt64->Option T):Option T:=match a with
 |.int i=>b.onI λj=>f i j
 |.flt i=>b.onF λj=>g i j
 |_=>none
noncomputable def W5(op:Operator)(a b:T):Option T:=match op with
 |.Add=>Ya a b
 |.Sub=>ifT a b (λi j=>some (.int (i-j))) λi j=>some (.flt (Float64.sub i j))
 |.Mult=>Xk a b
 |.Div=>ifT a b (λi j=>if j==0||Float64.isInf (Float64.ofFrac (decide (i<0) !=decide (j<0)) i.natAbs j.natAbs) then none else some (.flt (Float64.ofFrac (decide (i<0) !=decide (j<0)) i.natAbs j.natAbs)))
  λi j=>if Float64.isZero j then none else some (.flt (Float64.div i j))
 |.FloorDiv=>ifT a b (λi j=>if j==0||j.natAbs>=2^63 then none else some (.int (i.fdiv j))) λ_ _=>none
 |.Mod=>ifT a b (λi j=>if j==0 then none else some (.int (i.fmod j))) λi j=>if Float64.isZero j then none else some (.flt (Float64.divmod i j).2)
 |.Pow=>ifT a b (λi j=>if i.natAbs<2^63&&decide (0<=j)&&decide (j<=1000) then some (.int (i^j.toNat)) else none) λ_ _=>none
 |_=>none
section
variable{prog:Program}{w:World}{A:Around}{Hd:List Addr}{s:Shared}{n:Nat}{a b:Value}{c:T}
theorem EY{m:Sem Value}{i:Int}(h:∀(Q:Value->Shared->Prop) E,(Made.int i).post Q s->wpAny (model prog w) A m Q E s):Op prog w A Hd s m (.int i):=
 λQ E hQ=>h Q E (hQ _ s.heap _ (λ_ _ e=>e) ⟨_,rfl⟩)
theorem DZ{m:Sem Value}{i:UInt64}(h:∀(Q:Value->Shared->Prop) E,(Made.float i).post Q s->wpAny (model prog w) A m Q E s):Op prog w A Hd s m (.flt i):=
 λQ E hQ=>h Q E (hQ _ s.heap _ (λ_ _ e=>e) ⟨_,rfl⟩)
theorem AT{m:Sem Value}{i:Bool}(h:∀(Q:Value->Shared->Prop) E,Q (.bool i) s->wpAny (model prog w) A m Q E s):Op prog w A Hd s m (.bool i):=
 λQ E hQ=>h Q E (hQ _ s.heap s.toks (λ_ _ e=>e) rfl)
theorem EX{m:Sem Value}{ts:List T}{vs:List Value}(hl:Live Hd s.heap)(hv:HoldsL prog w Hd s.heap ts vs)
  (h:∀(Q:Value->Shared->Prop) E,Q (.ref s.heap.objs.size) {s with heap:=s.heap.push {cls:=.type "list",data:=.seq vs.toArray}}->wpAny (model prog w) A m Q E s):Op prog w A Hd s m (.list ts):=
 λQ E hQ=>h Q E (hQ _ _ s.toks (Sub.push' _ _) ⟨_,vs,rfl,hl.new,⟨_,Heap.get?_push_size _ rfl,rfl,0,rfl,rfl,rfl⟩,hv.up (Kp.of_sub (Sub.push' _ _))⟩)
theorem N5{n:Nat}(h:n<2^63):n.log2<9000:=by
 by_cases z:n=0
 ·subst z;decide
 ·exact Nat.lt_trans ((Nat.log2_lt z).mpr h) (by decide)
theorem W3{i:Int}(h:i.natAbs<2^63):Builtin.Int.intBits i<=64:=intBits_le_64 (by omega) (by omega)
theorem A5{m:Sem Value}{x:T}(e:some x=some c)(h:Op prog w A Hd s m x):Op prog w A Hd s m c:=Option.some.inj e▸h
theorem VB{x y:T}(e:Ya x y=some c)(hl:Live Hd s.heap)(ha:Holds prog w Hd s.heap x a)(hb:Holds prog w Hd s.heap y b):Op prog w A Hd s (binaryOp .Add a b) c:=by
 cases x with
 |int i=>
  obtain⟨t,rfl⟩:=ha;refine Dn (P:=λv=>Op prog w A Hd s (binaryOp .Add _ v) c) e hb ?_;intro j u e;exact A5 e (EY λQ E h=>AutoIntOps.add_0 h)
 |flt i=>
  obtain⟨t,rfl⟩:=ha;refine IY (P:=λv=>Op prog w A Hd s (binaryOp .Add _ v) c) e hb ?_ ?_
  ·intro j u e;exact A5 e (DZ λQ E h=>AutoFloatOps.add_0 h)
  ·intro j u e;exact itn e λq e=>A5 e (DZ λQ E h=>AutoFloatOps.add_fi_1 q h)
 |str x=>
  obtain⟨t,rfl⟩:=ha;refine Gg (P:=λv=>Op prog w A Hd s (binaryOp .Add _ v) c) e hb ?_;intro j u e;exact its e λq e=>A5 e λQ E hQ=>add_str (λt' tk=>hQ _ s.heap tk (λ_ _ e=>e) ⟨_,rfl⟩) (Nat.le_trans q (by decide))
 |list xs=>
  refine Uk e λys ey e=>its e λq e=>A5 e ?_
  subst ey;obtain⟨l,vs,rfl,hl1,il,hv⟩:=ha;obtain⟨r,ws,rfl,hr1,ir,hw⟩:=hb;refine EX hl (HoldsL.append hv hw) λQ E h=>?_
  obtain⟨n,ho⟩:=il.obj;obtain⟨n2,ho2⟩:=ir.obj;rw [←List.append_toArray] at h;exact concat_meets ⟨_,ho,rfl⟩ ⟨_,ho2,rfl⟩ noFill_list_add seq_list_add PySem.F.slot_list_add PySem.F.entry_list_add (PySem.F.args_list_add_2 _ _)
   (list_addW l r vs.toArray ws.toArray n n2 none none #[] #[] (by(simp only [List.size_toArray,List.size_toArray,hv.length,hw.length]);exact Nat.le_trans q (by decide))) ⟨ho,ho2,h⟩
 |_=>exact Aj e
theorem SI{xs:List T}{k:Int}{u:Tok}{l:Addr}{vs:List Value}(hl:Live Hd s.heap)(q:xs.length<=1000/\0<=k/\k<=1000)(il:Lst s.heap l vs.toArray)(hv:HoldsL prog w Hd s.heap xs vs):Op prog w A Hd s (binaryOp .Mult (.ref l) (.int k u)) (.list (List.replicate k.toNat xs).flatten):=by
 have hv':∀j:Nat,HoldsL prog w Hd s.heap (List.replicate j xs).flatten (List.replicate j vs).flatten:=by
  intro j
  induction j with
  |zero=>exact rfl
  |succ j ih=>(simp only [List.replicate_succ,List.replicate_succ,List.flatten_cons,List.flatten_cons]);exact HoldsL.append hv ih
 refine EX hl (hv' k.toNat) λQ E h=>?_
 obtain⟨j,ho⟩:=il.obj;have hsz:vs.length*k.toNat<=2^24:=by
  refine rwl hv.length ?_;exact Nat.le_trans (Nat.mul_le_mul q.1 (Int.toNat_le.mpr q.2.2:k.toNat<=1000)) (by decide)
 have hk1: -9223372036854775808<=k:=Int.le_trans (by decide) q.2.1;have hk2:k<=9223372036854775807:=Int.le_trans q.2.2 (by decide);refine wpAny_binaryOp_repeat_ref (T:="list") (U:="int") (by decide) ⟨_,ho,rfl⟩ (λs'=>typeIs_int s' k u) noFill_list_mul F.fills_int_mul F.slot_int_rmul repeat_list F.slot_int_index.lookup
  (call_meets F.slot_int_rmul (typeIs_int s k u) F.entry_int_rmul (F.args_int_rmul_2 _ _) (lm_int_rmul_list_any k u l vs.toArray j none #[])
   ⟨ho,rfl,⟨_,ho,rfl⟩,call_meets F.slot_list_mul ⟨_,ho,rfl⟩ F.entry_list_mul (F.args_list_mul_2 _ _)
    (lm_list_mul_any l vs.toArray j none #[] k u (by clear hv' h hv il hl hsz;simp [Builtin.List.listFitsIndex];omega) (by clear hv' h hv il hl;simp;lia) (by clear hv' h hv il hl;simp [Builtin.List.listTooLong,sizeLine];omega))
    ⟨ho,?_⟩⟩)
 rw [listMul_foldl_if];exact h
theorem V7{x y:T}(e:Xk x y=some c)(hl:Live Hd s.heap)(ha:Holds prog w Hd s.heap x a)(hb:Holds prog w Hd s.heap y b):Op prog w A Hd s (binaryOp .Mult a b) c:=by
 cases x with
 |int i=>
  obtain⟨t,rfl⟩:=ha;refine IY (P:=λv=>Op prog w A Hd s (binaryOp .Mult _ v) c) e hb ?_ ?_
  ·intro j u e;exact itn e λq e=>A5 e (DZ λQ E h=>AutoFloatOps.mul_if_1 q h)
  ·intro j u e;exact its e λq e=>A5 e (EY λQ E h=>AutoIntOps.mul_0 h (IntMulOk.of_left (W3 q)))
 |flt i=>
  obtain⟨t,rfl⟩:=ha;refine PN (P:=λv=>Op prog w A Hd s (binaryOp .Mult _ v) c) e hb ?_;intro j u e;exact A5 e (DZ λQ E h=>AutoFloatOps.mul_0 h)
 |list xs=>
  obtain⟨l,vs,rfl,hl1,il,hv⟩:=ha;refine Dn (P:=λv=>Op prog w A Hd s (binaryOp .Mult _ v) c) e hb ?_;intro j u e;exact its e λq e=>A5 e (SI hl q il hv)
 |_=>exact Aj e
theorem K4{x y:T}{f:Int->Int->Option T}{g:UInt64->UInt64->Option T}{P:Value->Value->T->Prop}(e:ifT x y f g=some c)(ha:Holds prog w Hd s.heap x a)(hb:Holds prog w Hd s.heap y b)
  (k1:∀i t j u,f i j=some c->P (.int i t) (.int j u) c) (k2:∀i t j u,g i j=some c->P (.float i t) (.float j u) c):P a b c:=by
 cases x with
 |int i=>
  obtain⟨t,rfl⟩:=ha;refine Dn (P:=λv=>P _ v c) e hb ?_;intro j u e;exact k1 i t j u e
 |flt i=>
  obtain⟨t,rfl⟩:=ha;refine PN (P:=λv=>P _ v c) e hb ?_;intro j u e;exact k2 i t j u e
 |_=>exact Aj e
theorem Ki{p q:Bool}(h:¬(p||q)=true):¬p=true/\¬q=true:=⟨λx=>h (by refine rwl x ?_;rfl),λx=>h (by(simp only [x,Bool.or_true]))⟩
theorem Af{p q:Bool}(h:(p&&q)=true):p=true/\q=true:=by
 cases p with
 |true=>exact⟨rfl,h⟩
 |false=>cases h
theorem PK{op:Operator}{x y:T}(_hA:AOk A n)(e:W5 op x y=some c)(hl:Live Hd s.heap)(ha:Holds prog w Hd s.heap x a)(hb:Holds prog w Hd s.heap y b):Op prog w A Hd s (binaryOp op a b) c:=by
 cases op with
 |Add=>exact VB e hl ha hb
 |Sub=>exact K4 (P:=λa b c=>Op prog w A Hd s (binaryOp .Sub a b) c) e ha hb (λi t j u e=>A5 e (EY λQ E h=>AutoIntOps.sub_0 h)) λi t j u e=>A5 e (DZ λQ E h=>AutoFloatOps.sub_0 h)
 |Mult=>exact V7 e hl ha hb
 |Div=>exact K4 (P:=λa b c=>Op prog w A Hd s (binaryOp .Div a b) c) e ha hb (λi t j u e=>itn e λq e=>A5 e (DZ λQ E h=>AutoIntOps.truediv_2 (Ki q).1 (Ki q).2 h)) λi t j u e=>itn e λq e=>A5 e (DZ λQ E h=>AutoFloatOps.truediv_1 q h)
 |FloorDiv=>exact K4 (P:=λa b c=>Op prog w A Hd s (binaryOp .FloorDiv a b) c) e ha hb (λi t j u e=>itn e λq e=>A5 e (EY λQ E h=>floordiv_int (λz=>(Ki q).1 (beq_iff_eq.mpr z)) h (Or.inl (PyProof.noPylong_of_log2 (N5 (Nat.lt_of_not_le λz=>(Ki q).2 (decide_eq_true z))))))) λi t j u e=>Aj e
 |Mod=>exact K4 (P:=λa b c=>Op prog w A Hd s (binaryOp .Mod a b) c) e ha hb (λi t j u e=>itn e λq e=>A5 e (EY λQ E h=>mod_int' (λz=>q (beq_iff_eq.mpr z)) h)) λi t j u e=>itn e λq e=>A5 e (DZ λQ E h=>AutoFloatOps.mod_1 q h)
 |Pow=>exact K4 (P:=λa b c=>Op prog w A Hd s (binaryOp .Pow a b) c) e ha hb (λi t j u e=>its e λq e=>A5 e (EY λQ E h=>by
   have q1:=Af q;have q2:=Af q1.1;have q3:=of_decide_eq_true q2.1;have q4:=of_decide_eq_true q2.2;have q5:=of_decide_eq_true q1.2;clear q q1 q2;exact pow_int_small q4 (by lia) (by(refine Nat.lt_of_not_le λh=>?_;lia)) h)) λi t j u e=>Aj e
 |_=>exact Aj e
end
noncomputable def isT(a b:T):Option Bool:=match a with
 |.bool x=>(match b with
  |.bool y=>some (x==y)
  |_=>none)
 |.none=>(match b with
  |.none=>some true
  |_=>none)
 |.list _=>(match b with
  |.none=>some false
  |_=>none)
 |_=>none
noncomputable def inG(a:T)(xs:List T):Option Bool:=match a.toPy with
 |some d=>(match CN xs with
  |some ds=>if SeqAt.shaped d&&SeqAt.shaped (.list ds) then some (ds.any λy=>PyData.eqv y d) else none
  |none=>none)
 |none=>none
noncomputable def XP(op:CmpOp)(a b:T):Option Bool:=match op with
 |.Eq=>eqT a b
 |.NotEq=>(eqT a b).map (!·)
 |.Lt=>ltT a b
 |.Gt=>onO a.int? (λi=>b.onI λj=>some (decide (i>j))) none
 |.GtE=>onO a.int? (λi=>b.onI λj=>some (decide (i>=j))) (onO a.flt? (λx=>b.onI λj=>some (Float64.cmpInt x j==some .gt||Float64.cmpInt x j==some .eq)) none)
 |.LtE=>onO a.flt? (λx=>b.onF λy=>some (Float64.cmp x y==some .lt||Float64.cmp x y==some .eq)) none
 |.Is=>isT a b
 |.In=>onO b.list? (λxs=>inG a xs) (onO b.str? (λx=>a.onS λy=>some (Txt.contains x y)) none)
 |.NotIn=>onO b.str? (λx=>a.onS λy=>some (!Txt.contains x y)) none
 |_=>none
section
variable{prog:Program}{w:World}{A:Around}{Hd:List Addr}{s:Shared}{n:Nat}{a b:Value}{c:Bool}
theorem Fw{m:Sem Value}{x:Bool}(e:some x=some c)(h:∀(Q:Value->Shared->Prop) E,Q (.bool x) s->wpAny (model prog w) A m Q E s):Op prog w A Hd s m (.bool c):=Option.some.inj e▸AT h
section
variable{α:Type}{x:T}{k:α}{P:Value->Prop}{z:Option α}
theorem Kl{f:Int->Option α}(e:onO x.int? f z=some k)(ha:Holds prog w Hd s.heap x a)(k1:∀i t,f i=some k->P (.int i t))(k2:z=some k->P a):P a:=
 B5 e (λj q e=>by rw [int?_eq q] at ha;obtain⟨t,rfl⟩:=ha;exact k1 j t e) k2
theorem NR{f:UInt64->Option α}(e:onO x.flt? f z=some k)(ha:Holds prog w Hd s.heap x a)(k1:∀i t,f i=some k->P (.float i t))(k2:z=some k->P a):P a:=
 B5 e (λj q e=>by rw [flt?_eq q] at ha;obtain⟨t,rfl⟩:=ha;exact k1 j t e) k2
theorem SK{f:Str->Option α}(e:onO x.str? f z=some k)(ha:Holds prog w Hd s.heap x a)(k1:∀i t,f i=some k->P (.str i t))(k2:z=some k->P a):P a:=
 B5 e (λj q e=>by rw [str?_eq q] at ha;obtain⟨t,rfl⟩:=ha;exact k1 j t e) k2
theorem i_i{f:Int->Int->Option α}{x y:T}{P:Value->Value->Prop}(e:onO x.int? (λi=>y.onI (f i)) none=some k)(ha:Holds prog w Hd s.heap x a)(hb:Holds prog w Hd s.heap y b)(k1:∀i t j u,f i j=some k->P (.int i t) (.int j u)):P a b:=
 Kl (P:=λv=>P v b) e ha (λi t e=>Dn (P:=λv=>P _ v) e hb λj u e=>k1 i t j u e) Aj
theorem s_s{f:Str->Str->Option α}{x y:T}{P:Value->Value->Prop}(e:onO x.str? (λi=>y.onS (f i)) none=some k)(ha:Holds prog w Hd s.heap x a)(hb:Holds prog w Hd s.heap y b)(k1:∀i t j u,f i j=some k->P (.str i t) (.str j u)):P a b:=
 SK (P:=λv=>P v b) e ha (λi t e=>Gg (P:=λv=>P _ v) e hb λj u e=>k1 i t j u e) Aj
theorem f_f{f:UInt64->UInt64->Option α}{x y:T}{P:Value->Value->Prop}(e:onO x.flt? (λi=>y.onF (f i)) none=some k)(ha:Holds prog w Hd s.heap x a)(hb:Holds prog w Hd s.heap y b)(k1:∀i t j u,f i j=some k->P (.float i t) (.float j u)):P a b:=
 NR (P:=λv=>P v b) e ha (λi t e=>PN (P:=λv=>P _ v) e hb λj u e=>k1 i t j u e) Aj
end
theorem V9{x y:T}(hA:AOk A n)(e:eqG x y=some c)(ha:Holds prog w Hd s.heap x a)(hb:Holds prog w Hd s.heap y b):
  Op prog w A Hd s (compareOp .Eq a b) (.bool c)/\Op prog w A Hd s (compareOp .NotEq a b) (.bool (!c)):=by
 unfold eqG at e
 cases q:x.toPy with
 |none=>rw [q] at e;exact Aj e
 |some da=>
  cases q2:y.toPy with
  |none=>rw [q,q2] at e;exact Aj e
  |some db=>
   rw [q,q2] at e;refine its e λz e=>?_
   obtain⟨z1,z2⟩:=Af z;obtain⟨as,ra⟩:=ha.reads q;obtain⟨bs,rb⟩:=hb.reads q2;have hu:A.units+64<cLine:=Nat.lt_of_le_of_lt (Nat.add_le_add_left (by decide) _) hA.cl;refine rwr (Option.some.inj e) ?_;exact⟨AT λQ E h=>eq_dataH ra rb z1 z2 hu h,AT λQ E h=>ne_dataH ra rb z1 z2 hu h⟩
noncomputable def HE(prog:Program)(w:World)(A:Around)(Hd:List Addr)(s:Shared)(c:Bool)(a b:Value):Prop:=Op prog w A Hd s (compareOp .Eq a b) (.bool c)/\Op prog w A Hd s (compareOp .NotEq a b) (.bool (!c))
theorem EC{x:Bool}(e:some x=some c)(h:HE prog w A Hd s x a b):HE prog w A Hd s c a b:=Option.some.inj e▸h
theorem Ij{x y:T}(hA:AOk A n)(e:eqT x y=some c)(ha:Holds prog w Hd s.heap x a)(hb:Holds prog w Hd s.heap y b):HE prog w A Hd s c a b:=
 Kl (P:=λa=>HE prog w A Hd s c a b) e ha (λi t e=>Dn (P:=HE prog w A Hd s c _) e hb λj u e=>EC e ⟨AT λQ E h=>eq_int h,AT λQ E h=>ne_int h⟩) λe=>
 SK (P:=λa=>HE prog w A Hd s c a b) e ha (λi t e=>Gg (P:=HE prog w A Hd s c _) e hb λj u e=>EC e ⟨AT λQ E h=>eq_str h,AT λQ E h=>ne_str h⟩) λe=>
 NR (P:=λa=>HE prog w A Hd s c a b) e ha (λi t e=>IY (P:=HE prog w A Hd s c _) e hb (λj u e=>EC e ⟨AT λQ E h=>AutoFloatOps.eq_0 h,AT λQ E h=>AutoFloatOps.ne_0 h⟩)
  λj u e=>itn e λ_ e=>EC e ⟨AT λQ E h=>eq_fi h,AT λQ E h=>ne_fi h⟩) λe=>V9 hA e ha hb
noncomputable def LtO(prog:Program)(w:World)(A:Around)(Hd:List Addr)(s:Shared)(c:Bool)(a b:Value):Prop:=Op prog w A Hd s (compareOp .Lt a b) (.bool c)
theorem Xe{x y:T}(e:ltT x y=some c)(ha:Holds prog w Hd s.heap x a)(hb:Holds prog w Hd s.heap y b):LtO prog w A Hd s c a b:=
 Kl (P:=λa=>LtO prog w A Hd s c a b) e ha (λi t e=>Dn (P:=LtO prog w A Hd s c _) e hb λj u e=>Fw e λQ E h=>lt_int h) λe=>
 SK (P:=λa=>LtO prog w A Hd s c a b) e ha (λi t e=>Gg (P:=LtO prog w A Hd s c _) e hb λj u e=>Fw e λQ E h=>lt_str h) λe=>
 NR (P:=λa=>LtO prog w A Hd s c a b) e ha (λi t e=>IY (P:=LtO prog w A Hd s c _) e hb (λj u e=>Fw e λQ E h=>AutoFloatOps.lt_0 h)
  λj u e=>itn e λ_ e=>Fw e λQ E h=>lt_fi h) Aj
theorem Xf{x y:T}(e:isT x y=some c)(ha:Holds prog w Hd s.heap x a)(hb:Holds prog w Hd s.heap y b):Op prog w A Hd s (compareOp .Is a b) (.bool c):=by
 cases x with
 |bool p=>
  cases y with
  |bool q=>
   cases ha;cases hb
   exact Fw e λQ E h=>wpAny_is_plain rfl (by refine rwl (show(Value.bool p==Value.bool q)=(p==q) by cases p<;>cases q<;>rfl) ?_;exact h)
  |_=>exact Aj e
 |none=>
  cases y with
  |none=>cases ha;cases hb;exact Fw e λQ E h=>wpAny_is_self rfl h
  |_=>exact Aj e
 |list _=>
  cases y with
  |none=>
   obtain⟨l,vs,rfl,_⟩:=ha;cases hb;exact Fw e λQ E h=>wpAny_is_other rfl (λx=>nomatch x) h
  |_=>exact Aj e
 |_=>exact Aj e
theorem V8{x:T}{xs:List T}(hA:AOk A n)(e:inG x xs=some c)(ha:Holds prog w Hd s.heap x a)(hb:Holds prog w Hd s.heap (.list xs) b):Op prog w A Hd s (compareOp .In a b) (.bool c):=by
 unfold inG at e
 cases q:x.toPy with
 |none=>rw [q] at e;exact Aj e
 |some d=>
  cases q2:CN xs with
  |none=>rw [q,q2] at e;exact Aj e
  |some ds=>
   rw [q,q2] at e;refine its e λz e=>Fw e λQ E h=>?_
   obtain⟨z1,z2⟩:=Af z;obtain⟨as,ra⟩:=ha.reads q;obtain⟨bs,rb⟩:=hb.reads (show(CN xs).map PyData.list=some (.list ds) by refine rwl q2 ?_;rfl);refine SeqAt.in_list_reads rb ra (SeqAt.canLay_of_shaped z2) (SeqAt.canLay_of_shaped z1) ?_ h;have d1:=SeqAt.depth_of_shaped z1;have hu:=hA.cl;have:=Nat.min_le_right (PyData.depthAll ds) d.depth;clear h ha hb ra rb hA
   (refine Nat.lt_of_not_le λh=>?_;lia)
theorem VA{op:CmpOp}{x y:T}(hA:AOk A n)(e:XP op x y=some c)(ha:Holds prog w Hd s.heap x a)(hb:Holds prog w Hd s.heap y b):Op prog w A Hd s (compareOp op a b) (.bool c):=by
 cases op with
 |Eq=>exact(Ij hA e ha hb).1
 |NotEq=>exact DJ e λk q e=>e▸(Ij hA q ha hb).2
 |Lt=>exact Xe e ha hb
 |Gt=>exact i_i (P:=λa b=>Op prog w A Hd s (compareOp .Gt a b) (.bool c)) e ha hb λi t j u e=>Fw e λQ E h=>PySem.P.gt_int h
 |GtE=>
  exact Kl (P:=λa=>Op prog w A Hd s (compareOp .GtE a b) (.bool c)) e ha (λi t e=>Dn (P:=λb=>Op prog w A Hd s (compareOp .GtE _ b) (.bool c)) e hb λj u e=>Fw e λQ E h=>PySem.P.ge_int h)
   λe=>NR (P:=λa=>Op prog w A Hd s (compareOp .GtE a b) (.bool c)) e ha (λi t e=>Dn (P:=λb=>Op prog w A Hd s (compareOp .GtE _ b) (.bool c)) e hb λj u e=>Fw e λQ E h=>ge_fi h) Aj
 |LtE=>exact f_f (P:=λa b=>Op prog w A Hd s (compareOp .LtE a b) (.bool c)) e ha hb λi t j u e=>Fw e λQ E h=>AutoFloatOps.le_0 h
 |Is=>exact Xf e ha hb
 |In=>
  refine B5 e (λxs q e=>V8 hA e ha (list?_eq q▸hb)) λe=>?_
  exact s_s (P:=λb a=>Op prog w A Hd s (compareOp .In a b) (.bool c)) e hb ha λi t j u e=>Fw e λQ E h=>SB.contains h
 |NotIn=>exact s_s (P:=λb a=>Op prog w A Hd s (compareOp .NotIn a b) (.bool c)) e hb ha λi t j u e=>Fw e λQ E h=>SB.notContains h
 |_=>exact Aj e
end
noncomputable def Ca(i:Int):Bool:=decide (-(2^63)<=i)&&decide (i<2^63)
noncomputable def Ie(xs:List T)(lo hi st:Option Int):List T:=
 (sliceRange (sliceBounds lo hi st xs.length).1 (sliceBounds lo hi st xs.length).2.1 (sliceBounds lo hi st xs.length).2.2).filterMap (xs[·]?)
noncomputable def pickS(x:Str)(lo hi st:Option Int):Str:=
 if(st.getD 1==1&&(Builtin.Str.strSliceIndices lo hi (st.getD 1) x.length).length==x.length)=true then x
 else⟨((Builtin.Str.strSliceIndices lo hi (st.getD 1) x.length).filterMap (x.cps[·]?)).toArray⟩
noncomputable def T.onC{α:Type}(b:T)(f:Option Int->Option Int->Option Int->Option α):Option α:=match b with
 |.slc lo hi st=>f lo hi st
 |_=>Option.none
theorem Ul{α:Type}{b:T}{f:Option Int->Option Int->Option Int->Option α}{c:α}{P:Prop}(e:b.onC f=some c)(k:∀lo hi st,b=.slc lo hi st->f lo hi st=some c->P):P:=by
 cases b with
 |slc lo hi st=>exact k lo hi st rfl e
 |_=>exact Aj e
noncomputable def Oe(xs:List T)(i:Int):Option T:=if Ca i then(seqIndex? i xs.length).bind (xs[·]?) else none
noncomputable def Bh(a b:T):Option T:=match a with
 |.list xs=>onO b.int? (Oe xs) (b.onC λlo hi st=>if st≠some 0/\xs.length<=4096 then some (.list (Ie xs lo hi st)) else none)
 |.tup xs=>b.onI (Oe xs)
 |.str x=>onO b.int? (λi=>if Ca i&&(Txt.charAt x i).isSome then some (.str (Txt.item x i)) else none)
  (b.onC λlo hi st=>if st≠some 0/\(pickS x lo hi st).length<=4096 then some (.str (pickS x lo hi st)) else none)
 |.dI f=>b.onS λk=>(f k).map .int
 |.dS f=>b.onS λk=>(f k).map .str
 |_=>none
theorem II{i:Int}{len j:Nat}(h:seqIndex? i len=some j)(hi:¬i<0):j=i.toNat:=by
 unfold seqIndex? at h;rw [if_neg hi] at h;dsimp only at h
 split at h
 ·exact(Option.some.inj h).symm
 ·cases h
theorem seqIndex_neg{i:Int}{len j:Nat}(h:seqIndex? i len=some j)(hi:i<0):j=(i+len).toNat/\ -(len:Int)<=i:=by
 unfold seqIndex? at h;rw [if_pos hi] at h;dsimp only at h
 split at h
 ·rename_i z
  simp only [Bool.and_eq_true,decide_eq_true_eq] at z;exact⟨(Option.some.inj h).symm,by lia⟩
 ·cases h
theorem GE{prog:Program}{w:World}(k:Str)(t:Tok):(PySem.strKind prog w).is k (.str k t)=true:=by
 show Value.isStrOf k (.str k t)=true;simp [Value.isStrOf]
theorem DF(slice:Expr)(o i:Value):∃ops,subscripted slice false o i=operate ops (getItem o i):=by
 cases slice with
 |Slice lo hi st p=>cases st<;>exact⟨_,rfl⟩
 |_=>exact⟨_,rfl⟩
section
variable{prog:Program}{w:World}{A:Around}{Hd:List Addr}{s:Shared}{n:Nat}{a b:Value}{c:T}
theorem Fc{v:Value}{k:Option Int}(p:IsPart v k):∃l:Option (Int×Tok),v=partValue l/\l.map (·.1)=k:=by
 cases p with
 |none=>exact⟨none,rfl,rfl⟩
 |int i t=>exact⟨some (i,t),rfl,rfl⟩
theorem LN{X:List Addr}{h:Heap}{xs:List T}{vs:List Value}(hv:HoldsL prog w X h xs vs)(js:List Nat):HoldsL prog w X h (js.filterMap (xs[·]?)) (js.filterMap (vs[·]?)):=by
 induction js with
 |nil=>exact rfl
 |cons j js ih=>
  (simp only [List.filterMap_cons,List.filterMap_cons])
  cases q:xs[j]? with
  |none=>
   have:vs[j]? =none:=by rw [List.getElem?_eq_none_iff] at q⊢;refine rwl hv.length ?_;exact q
   refine rwl this ?_;exact ih
  |some t=>
   obtain⟨v,e,hh⟩:=hv.get q;refine rwl e ?_;exact⟨v,_,rfl,hh,ih⟩
theorem LR{i:Int}(h:Ca i=true): -(2^63)<=i/\i<2^63:=⟨of_decide_eq_true (Af h).1,of_decide_eq_true (Af h).2⟩
theorem HB{α β:Type}{o:Option α}{f:α->Option β}{c:β}{P:Prop}(e:o.bind f=some c)(k:∀x,o=some x->f x=some c->P):P:=by
 cases o with
 |none=>exact Aj e
 |some x=>exact k x rfl e
theorem J6(vs:List Value)(j:Nat):vs.toArray[j]? =vs[j]? :=by simp
noncomputable def GI(prog:Program)(w:World)(A:Around)(Hd:List Addr)(s:Shared)(c:T)(a b:Value):Prop:=
 (∃TT id,s.TypeIs a TT/\typeLookup (.type TT) "__getitem__"=pure (some (.builtin id)))/\Op prog w A Hd s (getItem a b) c
theorem QF{xs:List T}{l:Addr}{vs:List Value}(il:s.heap.IsList l vs.toArray)(hv:HoldsL prog w Hd s.heap xs vs){i:Int}{u:Tok}(e:Oe xs i=some c):GI prog w A Hd s c (.ref l) (.int i u):=
 its e λq e=>HB e λj hj e=>by
  obtain⟨q1,q2⟩:=LR q;obtain⟨v,ev,hh⟩:=hv.get e;refine⟨⟨"list",_,il.typeIs,slot_list_getitem.lookup⟩,λQ E hQ=>?_⟩
  by_cases hi:i<0
  ·obtain⟨rfl,h1⟩:=seqIndex_neg hj hi;rw [←hv.length] at h1 ev;exact wpAny_getItem_list_neg il hi h1 q1 (x:=v) ((J6 _ _).trans ev) (hQ v s.heap s.toks (λ_ _ e=>e) hh)
  ·obtain rfl:=II hj hi;exact wpAny_getItem_list il (Int.not_lt.mp hi) q2 (x:=v) ((J6 _ _).trans ev) (hQ v s.heap s.toks (λ_ _ e=>e) hh)
theorem Wd{xs:List T}{l:Addr}{vs:List Value}(il:s.heap.IsTuple l vs.toArray)(hv:HoldsL prog w Hd s.heap xs vs){i:Int}{u:Tok}(e:Oe xs i=some c):GI prog w A Hd s c (.ref l) (.int i u):=
 its e λq e=>HB e λj hj e=>by
  obtain⟨q1,q2⟩:=LR q;obtain⟨v,ev,hh⟩:=hv.get e;exact⟨⟨"tuple",_,il.typeIs,slot_tuple_getitem.lookup⟩,λQ E hQ=>getItem_tuple il q1 q2 (by(refine rwl List.size_toArray ?_;refine rwl hv.length ?_);exact hj) ((J6 _ _).trans ev) (hQ v s.heap s.toks (λ_ _ e=>e) hh)⟩
theorem We{x:Str}{t:Tok}{i:Int}{u:Tok}(q:(Ca i&&(Txt.charAt x i).isSome)=true):GI prog w A Hd s (.str (Txt.item x i)) (.str x t) (.int i u):=by
 obtain⟨q,q3⟩:=Af q;obtain⟨q1,q2⟩:=LR q;refine⟨⟨"str",_,typeIs_str _ _ _,F.slot_str_getitem.lookup⟩,λQ E hQ=>SB.getItem ?_ q3 (hQ _ s.heap _ (λ_ _ e=>e) ⟨_,rfl⟩)⟩;unfold fitsSsize;simp;clear q q3
 (exact And.symm ⟨q2,q1⟩)
theorem X7{f:Str->Option Int}{k:Str}{u:Tok}(e:(f k).map T.int=some c)(ha:Holds prog w Hd s.heap (.dI f) a):GI prog w A Hd s c a (.str k u):=by
 obtain⟨d,rfl,hd,g,hm,hle,hg,_⟩:=ha;have hm:=hm.mapOf;refine DJ e λi q e=>⟨⟨"dict",_,hm.typeIs,slot_dict_getitem.lookup⟩,λQ E hQ=>?_⟩
 have:=hg k;rw [q] at this;obtain⟨t,ht⟩:=this;exact wpAny_getItem_of (GE _ _) hm ht (hQ _ s.heap _ (λ_ _ e=>e) (e▸⟨_,rfl⟩))
theorem X6{f:Str->Option Str}{k:Str}{u:Tok}(e:(f k).map T.str=some c)(ha:Holds prog w Hd s.heap (.dS f) a):GI prog w A Hd s c a (.str k u):=by
 obtain⟨d,rfl,hd,g,hm,hle,hg⟩:=ha;have hm:=hm.mapOf;refine DJ e λi q e=>⟨⟨"dict",_,hm.typeIs,slot_dict_getitem.lookup⟩,λQ E hQ=>?_⟩
 have:=hg k;rw [q] at this;obtain⟨t,ht⟩:=this;exact wpAny_getItem_of (GE _ _) hm ht (hQ _ s.heap _ (λ_ _ e=>e) (e▸⟨_,rfl⟩))
theorem QE{xs:List T}{l:Addr}{vs:List Value}{lo hi st:Option Int}(q:st≠some 0/\xs.length<=4096)(hl:Live Hd s.heap)(il:s.heap.IsList l vs.toArray)(hv:HoldsL prog w Hd s.heap xs vs)(hb:Holds prog w Hd s.heap (.slc lo hi st) b):GI prog w A Hd s (.list (Ie xs lo hi st)) (.ref l) b:=by
 refine lid λgg kk=>?_
 obtain⟨sl,vl,vu,vt,rfl,hsl,isl,pl,pu,pt⟩:=hb;refine kk ?_;refine⟨⟨"list",_,il.typeIs,slot_list_getitem.lookup⟩,?_⟩;have hp:HoldsL prog w Hd s.heap (Ie xs lo hi st) (slicePick vs.toArray lo hi st).toList:=by
  have:=LN hv (sliceRange (sliceBounds lo hi st xs.length).1 (sliceBounds lo hi st xs.length).2.1 (sliceBounds lo hi st xs.length).2.2);unfold slicePick
  (refine rwl List.size_toArray ?_;refine rwl hv.length ?_)
  simpa [Ie] using this
 refine EX hl hp λQ E h=>?_
 rw [Array.toArray_toList] at h;exact wpAny_getItem_list_slice il isl pl pu pt q.1 h (by(refine rwl List.size_toArray ?_;refine rwl hv.length ?_);exact Nat.le_trans q.2 (by decide))
theorem Tu{x:Str}{t:Tok}{lo hi st:Option Int}(q:st≠some 0/\(pickS x lo hi st).length<=4096)(hb:Holds prog w Hd s.heap (.slc lo hi st) b):GI prog w A Hd s (.str (pickS x lo hi st)) (.str x t) b:=by
 refine lid λgg kk=>?_
 obtain⟨sl,vl,vu,vt,rfl,hsl,isl,pl,pu,pt⟩:=hb;refine kk ?_;refine⟨⟨"str",_,typeIs_str _ _ _,F.slot_str_getitem.lookup⟩,λQ E hQ=>?_⟩;refine lid λgg kk=>?_
 obtain⟨l1,rfl,e1⟩:=Fc pl;obtain⟨l2,rfl,e2⟩:=Fc pu;obtain⟨l3,rfl,e3⟩:=Fc pt;refine kk ?_;have h0:((l3.map (·.1)).getD 1==0)=false:=by
  refine rwl e3 ?_
  cases st with
  |none=>rfl
  |some z=>exact beq_eq_false_iff_ne.mpr λh:z=0=>q.1 (congrArg some h)
 refine wpAny_getItem_str_slice (l:=l1) (u:=l2) (st:=l3) isl h0 ?_;have q2:=q.2;unfold pickS at q2 hQ;delta sliceMade slicePicked
 (refine rwl e1 ?_;refine rwl e2 ?_;refine rwl e3 ?_)
 clear e1 e2 e3 h0 pl pu pt isl q
 by_cases z:(st.getD 1==1&&(Builtin.Str.strSliceIndices lo hi (st.getD 1) x.length).length==x.length)=true
 ·rw [if_pos z] at hQ⊢;exact hQ _ s.heap s.toks (λ_ _ e=>e) ⟨t,rfl⟩
 ·rw [if_neg z] at hQ q2⊢;exact⟨Nat.le_trans q2 (by decide),hQ _ s.heap _ (λ_ _ e=>e) ⟨_,rfl⟩⟩
theorem Js{x:T}(e:some x=some c)(h:GI prog w A Hd s x a b):GI prog w A Hd s c a b:=Option.some.inj e▸h
theorem LP{x y:T}(e:Bh x y=some c)(hl:Live Hd s.heap)(ha:Holds prog w Hd s.heap x a)(hb:Holds prog w Hd s.heap y b):GI prog w A Hd s c a b:=by
 cases x with
 |list xs=>
  obtain⟨l,vs,rfl,hl1,il,hv⟩:=ha;exact Kl (P:=GI prog w A Hd s c _) e hb (λi t e=>QF il.is hv e) λe=>Ul e λlo hi st q e=>its e λz e=>Js e (QE z hl il.is hv (q▸hb))
 |tup xs=>
  obtain⟨l,vs,rfl,hl1,il,hv⟩:=ha;exact Dn (P:=GI prog w A Hd s c _) e hb λi t e=>Wd il hv e
 |str x=>
  obtain⟨t,rfl⟩:=ha;exact Kl (P:=GI prog w A Hd s c _) e hb (λi t e=>its e λz e=>Js e (We z)) λe=>Ul e λlo hi st q e=>its e λz e=>Js e (Tu z (q▸hb))
 |dI f=>exact Gg (P:=GI prog w A Hd s c _) e hb λi t e=>X7 e ha
 |dS f=>exact Gg (P:=GI prog w A Hd s c _) e hb λi t e=>X6 e ha
 |_=>exact Aj e
theorem V5{x y:T}{l r:Expr}(e:Bh x y=some c)(hl:Live Hd s.heap)(ha:Holds prog w Hd s.heap x a)(hb:Holds prog w Hd s.heap y b):Op prog w A Hd s (subscriptTail l r a b) c:=by
 refine lid λgg kk=>?_
 obtain⟨⟨TT,id,ht,hk⟩,o⟩:=LP (A:=A) e hl ha hb;obtain⟨ops,h⟩:=DF r a b;refine kk ?_;exactλQ E hQ=>tail_any ht hk (o Q E hQ) h
noncomputable def WL(a:T):Option Bool:=match a with
 |.none=>some false
 |.bool b=>some b
 |.int i=>some (i !=0)
 |_=>none
theorem PD{x:T}{k:Bool}(e:WL x=some k)(ha:Holds prog w Hd s.heap x a):OpB prog w A s (truthy a) k:=by
 cases x with
 |none=>cases ha;cases e;exactλQ E hQ=>truthy_none (hQ s.heap s.toks (λ_ _ e=>e))
 |bool b=>cases ha;cases e;exactλQ E hQ=>wpAny_truthy_bool (hQ s.heap s.toks (λ_ _ e=>e))
 |int i=>obtain⟨t,rfl⟩:=ha;cases e;exactλQ E hQ=>PySem.P.truthy_int (hQ s.heap s.toks (λ_ _ e=>e))
 |_=>exact Aj e
noncomputable def unT(op:UnaryOp)(a:T):Option T:=match op with
 |.USub=>a.onI λi=>some (.int (-i))
 |_=>none
theorem Xd{op:UnaryOp}{x:T}(e:unT op x=some c)(ha:Holds prog w Hd s.heap x a):Op prog w A Hd s (unaryOp op a) c:=by
 cases op with
 |USub=>exact Dn (P:=λa=>Op prog w A Hd s (unaryOp .USub a) c) e ha λi t e=>A5 e (EY λQ E h=>PySem.P.neg_int h)
 |_=>exact Aj e
noncomputable def Lz(x:T):Option (Option Int):=match x with
 |.none=>some none
 |.int i=>some (some i)
 |_=>none
theorem Od{x:T}{k:Option Int}(e:Lz x=some k)(ha:Holds prog w Hd s.heap x a):IsPart a k:=by
 cases x with
 |none=>cases ha;cases e;exact .none
 |int i=>obtain⟨t,rfl⟩:=ha;cases e;exact .int _ _
 |_=>exact Aj e
end
noncomputable def PO(prog:Program)(w:World)(C:Cx)(B:Heap)(A:Around)(env:Env)(e:Option Expr)(σ:Sig)(t:Option Int)(σ':Sig):Prop:=
 match e with
 |none=>t=none/\σ'=σ
 |some e=>∃x,PE prog w C B A env e σ x σ'/\Lz x=some t
section
variable{prog:Program}{w:World}{C:Cx}{B:Heap}{A:Around}{env:Env}{σ σ₁ σ₂ σ₃:Sig}{pos:Pos}
theorem Ls{e:Option Expr}{t:Option Int}(p:PO prog w C B A env e σ t σ₁){H0 Mu:List Addr}{ad:Str->Addr}{s:Shared}{Q:Value->Shared->Prop}{E:Value->Shared->Prop}(F:Fm prog w C B H0 Mu env σ ad s.heap)
  (hQ:∀v h' k,Kp Mu s.heap h'->Fm prog w C B H0 Mu env σ₁ ad h'->IsPart v t->Q v {s with heap:=h',toks:=k}):wpAny (model prog w) A (evalPart e env) Q E s:=by
 cases e with
 |none=>obtain⟨rfl,rfl⟩:=p;exact wpAny_pure (hQ _ s.heap s.toks (Kp.refl _ _) F .none)
 |some e=>
  obtain⟨x,pe,hx⟩:=p;exact pe H0 Mu ad s _ _ F λv h' k kp F' hv=>hQ v h' k kp F' (Od (s:={s with heap:=h',toks:=k}) hx hv)
theorem Pt{lo hi st:Option Expr}{l u c:Option Int}(pl:PO prog w C B A env lo σ l σ₁)(pu:PO prog w C B A env hi σ₁ u σ₂)(ps:PO prog w C B A env st σ₂ c σ₃):PE prog w C B A env (.Slice lo hi st pos) σ (.slc l u c) σ₃:=λH0 Mu ad s Q E F hQ=>by
 refine wpAny_Slice (Ls pl F λv₁ h₁ k₁ kp₁ F₁ p₁=>Ls pu F₁ λv₂ h₂ k₂ kp₂ F₂ p₂=>Ls ps F₂ λv₃ h₃ k₃ kp₃ F₃ p₃=>?_);exact hQ _ _ _ (((kp₁.trans kp₂).trans kp₃).trans (Kp.of_sub (Sub.push' _ _))) (F₃.up (Sub.push' _ _)) ⟨_,v₁,v₂,v₃,rfl,F₃.hlive.new,.new ..,p₁,p₂,p₃⟩
theorem LZ{H:List Addr}{k:Nat}:PE prog w C B A env (.Constant .none k pos) σ .none σ:=λH0 Mu ad s Q E F hQ=>show wpAny _ _ (pure Value.none) Q E s from wpAny_pure (hQ _ s.heap s.toks (Kp.refl _ _) F rfl)
theorem Ma{b:Bool}{k:Nat}:PE prog w C B A env (.Constant (.bool b) k pos) σ (.bool b) σ:=λH0 Mu ad s Q E F hQ=>show wpAny _ _ (pure (Value.bool b)) Q E s from wpAny_pure (hQ _ s.heap s.toks (Kp.refl _ _) F rfl)
theorem Oy{i:Int}{k:Nat}:PE prog w C B A env (.Constant (.int i) k pos) σ (.int i) σ:=λH0 Mu ad s Q E F hQ=>wpAny_Constant_int (hQ _ s.heap _ (Kp.refl _ _) F ⟨_,rfl⟩)
theorem Oz{i:UInt64}{k:Nat}:PE prog w C B A env (.Constant (.float i) k pos) σ (.flt i) σ:=λH0 Mu ad s Q E F hQ=>AutoFloatOps.wpAny_Constant_float (hQ _ s.heap _ (Kp.refl _ _) F ⟨_,rfl⟩)
theorem Ox{i:Str}{k:Nat}:PE prog w C B A env (.Constant (.str i) k pos) σ (.str i) σ:=λH0 Mu ad s Q E F hQ=>Calls.Constant_str (hQ _ s.heap _ (Kp.refl _ _) F ⟨_,rfl⟩)
end
theorem Ns.uniq{h:Heap}{a:Addr}{m m':Str->Option Value}(x:h.Ns a m)(y:h.Ns a m'):m=m':=by
 refine lid λgg kk=>?_
 obtain⟨o,es,ep,ho,hd,_,e⟩:=x;obtain⟨o',es',ep',ho',hd',_,e'⟩:=y;refine kk ?_;rw [ho] at ho';cases ho';rw [hd] at hd';cases hd'
 funext z
 (exact(e z).symm.trans (e' z).symm.symm)
theorem AE{x y:Str}{v:Slot}{σ:Sig}:List.lookup y ((x,v)::σ)=if y=x then some v else σ.lookup y:=by
 (simp only [List.lookup_cons])
 by_cases h:y=x
 ·subst h;simp
 ·(refine rwl (if_neg h) ?_;refine rwl (beq_eq_false_iff_ne.mpr h) ?_;rfl)
theorem E9{x y:Str}{v s:Slot}{σ:Sig}{P:Prop}(e:List.lookup y ((x,v)::σ)=some s)(k1:y=x->v=s->P)(k2:y≠x->σ.lookup y=some s->P):P:=by
 rw [AE] at e
 by_cases h:y=x
 ·rw [if_pos h] at e;exact k1 h (Option.some.inj e)
 ·rw [if_neg h] at e;exact k2 h e
section
variable{prog:Program}{w:World}{C:Cx}{B:Heap}{A:Around}{H0 Mu:List Addr}{env:Env}{σ σ₁ σ₂:Sig}{ad:Str->Addr}{s:Shared}{t:T}{v:Value}{x:Str}
theorem Fm.turn{h h':Heap}{σ':Sig}{ad':Str->Addr}{a:Addr}(F:Fm prog w C B H0 Mu env σ ad h)(ha:a∈Mu)(k:Kp [a] h h')(lv:∃o,h'.get? a=some o)(ns:∃m,h'.Ns env.locals m)
  (cells:∀n c,env.cells.lookup n=some c->∃v,h'.IsCell c v)
  (vars:∀x t,σ'.lookup x=some (.fz t)->∃v,VarIs env h' x v/\Holds prog w (Mu++H0) h' t v)
  (owns:∀x o,σ'.lookup x=some (.ow o)->VarIs env h' x (.ref (ad' x))/\ad' x∈Mu/\ad' x≠env.locals/\(∀n c,env.cells.lookup n=some c->ad' x≠c)/\OwnAt prog w C (Mu++H0) Mu h' (ad' x) o)
  (oapart:∀x y o o',σ'.lookup x=some (.ow o)->σ'.lookup y=some (.ow o')->x≠y->ad' x≠ad' y) (chs:∀x c,σ'.lookup x=some (.ch c)->∃t:Nat,VarIs env h' x (.str c t)/\1<=t/\t+1<=C.tk):Fm prog w C B H0 Mu env σ' ad' h' where
 kind:=F.kind
 glob:=F.glob
 blt:=F.blt
 base:=λb o e=>k b o (λm=>by have:=F.off a ha;rw [mS m,this] at e;cases e) (F.base b o e)
 off:=F.off
 live:=λb hb=>by
  by_cases q:b=a
  ·subst q;exact lv
  ·obtain⟨o,ho⟩:=F.live b hb;exact⟨o,k b o (λm=>q (mS m)) ho⟩
 apart:=F.apart
 ns:=ns
 lmu:=F.lmu
 cells:=λn c e=>⟨cells n c e,(F.cells n c e).2⟩
 cmu:=F.cmu
 capart:=F.capart
 vars:=vars
 owns:=owns
 oapart:=oapart
 chs:=chs
theorem Fm.kp1{a:Addr}{h h':Heap}(ha:a∈Mu)(k:Kp [a] h h'):Kp Mu h h':=k.mono λb m=>by refine rwl (mS m) ?_;exact ha
theorem OwnAt.mvK{Hd Hd' Mu Mu':List Addr}{h h':Heap}{a:Addr}{o:Own}(kb:∀o,h.get? a=some o->h'.get? a=some o)(k:Kp Hd h h')(hy:∀b∈Hd',b∈Hd\/h.get? b=none)(x:OwnAt prog w C Hd Mu h a o):OwnAt prog w C Hd' Mu' h' a o:=by
 cases o with
 |list xs=>obtain⟨vs,⟨o,ho⟩,hl⟩:=x;exact⟨vs,⟨o,kb _ ho⟩,hl.mv k hy⟩
 |dI f n=>obtain⟨g,⟨o,es,ep,ho,r⟩,hg⟩:=x;exact⟨g,⟨o,es,ep,kb _ ho,r⟩,hg⟩
 |acc xs=>
  obtain⟨vs,d,⟨⟨n,hn⟩,o,es,ep,ho,r⟩,hd,hl⟩:=x;exact⟨vs,d,⟨⟨n,kb _ hn⟩,o,es,ep,k _ _ hd ho,r⟩,λm=>(hy d m).elim hd λq=>(nomatch q.symm.trans ho),hl.mv k hy⟩
theorem OwnAt.turn{h h':Heap}{a b:Addr}{o:Own}(x:OwnAt prog w C (Mu++H0) Mu h b o)(ha:a∈Mu)(hb:b≠a)(k:Kp [a] h h'):OwnAt prog w C (Mu++H0) Mu h' b o:=
 x.mvK (λo e=>k b o (λm=>hb (mS m)) e) (k.mono λc m=>mS m▸List.mem_append_left _ ha) λ_ m=>.inl m
theorem Fm.mv{H0' Mu':List Addr}{h h':Heap}(F:Fm prog w C B H0 Mu env σ ad h)(mm:∀b∈Mu,b∈Mu')(hy:∀b∈Mu'++H0',b∈Mu++H0\/h.get? b=none)(k:Kp (Mu++H0) h h')(base:Sub B h')(off:∀b∈Mu',B.get? b=none)(live:∀b∈Mu'++H0',∃o,h'.get? b=some o)(apart:∀b∈Mu',b∉H0')(ns:∃m,h'.Ns env.locals m)
  (cel:∀n c,env.cells.lookup n=some c->∀o,h.get? c=some o->h'.get? c=some o) (vi:∀x v,VarIs env h x v->VarIs env h' x v) (own:∀a∈Mu,a≠env.locals->∀o,h.get? a=some o->h'.get? a=some o):Fm prog w C B H0' Mu' env σ ad h' where
 kind:=F.kind
 glob:=F.glob
 blt:=F.blt
 base:=base
 off:=off
 live:=live
 apart:=apart
 ns:=ns
 lmu:=mm _ F.lmu
 cells:=λn c e=>by obtain⟨⟨v,o,ho,hd⟩,q⟩:=F.cells n c e;exact⟨⟨v,o,cel n c e o ho,hd⟩,q⟩
 cmu:=λn m c e=>mm _ (F.cmu n m c e)
 capart:=F.capart
 vars:=λx t e=>by obtain⟨v,i,q⟩:=F.vars x t e;exact⟨v,vi _ _ i,q.mv k hy⟩
 owns:=λx o e=>by obtain⟨i,a,b,c,q⟩:=F.owns x o e;exact⟨vi _ _ i,mm _ a,b,c,q.mvK (own _ a b) k hy⟩
 oapart:=F.oapart
 chs:=λx c e=>by obtain⟨t,i,q⟩:=F.chs x c e;exact⟨t,vi _ _ i,q⟩
theorem Fm.add{H0' Mu':List Addr}{h h':Heap}{a:Addr}(F:Fm prog w C B H0 Mu env σ ad h)(k:Sub h h')(fr:h.get? a=none)(ex:∃o,h'.get? a=some o)(mm:∀b∈Mu,b∈Mu')(hm:∀b∈Mu',b=a\/b∈Mu)(hy:∀b∈Mu'++H0',b=a\/b∈Mu++H0)(apart:∀b∈Mu',b∉H0'):Fm prog w C B H0' Mu' env σ ad h':=by
 refine F.mv mm (λb m=>(hy b m).elim (λq=>.inr (q▸fr)) .inl) (Kp.of_sub k) (Sub.trans' F.base k) (λb m=>?_) (λb m=>(hy b m).elim (λq=>q▸ex) λm=>?_) apart ?_ (λ_ c _=>k c) (λ_ _ i=>i.up k) λa _ _=>k a
 ·rcases hm b m with rfl|m
  ·cases q:B.get? b with
   |none=>rfl
   |some o=>rw [F.base b o q] at fr;cases fr
  ·exact F.off b m
 ·obtain⟨o,ho⟩:=F.live b m;exact⟨o,k b o ho⟩
 ·obtain⟨m,n⟩:=F.ns;exact⟨m,n.keeps k⟩
theorem Fm.new{h:Heap}{a:Addr}(F:Fm prog w C B H0 Mu env σ ad h)(fr:h.get? a=none):a∉Mu++H0:=λm=>by
 obtain⟨o,ho⟩:=F.live a m;rw [fr] at ho;cases ho
theorem Fm.mv1{it:Addr}{H0':List Addr}{h h':Heap}(F:Fm prog w C B H0 Mu env σ ad h)(mi:it∈H0)(ce:∀n c,env.cells.lookup n=some c->c≠it)(hB:B.get? it=none)(k:Kp [it] h h')(hd:∀b∈H0',b∈H0)(live:it∈H0'->∃o,h'.get? it=some o):Fm prog w C B H0' Mu env σ ad h':=by
 have nm:it∉Mu:=λm=>F.apart it m mi
 have off:∀b,b≠it->∀o,h.get? b=some o->h'.get? b=some o:=λb q o e=>k b o (λm=>q (mS m)) e
 have le:env.locals≠it:=λq=>nm (q▸F.lmu)
 have hy:∀b∈Mu++H0',b∈Mu++H0:=λb m=>List.mem_append.mpr ((mA m).imp id (hd b))
 refine F.mv (λ_ m=>m) (λb m=>.inl (hy b m)) (k.mono λb m=>mS m▸List.mem_append_right _ mi) (λb o e=>off b (λq=>by rw [q,hB] at e;cases e) o (F.base b o e)) F.off (λb m=>?_) (λb m q=>F.apart b m (hd b q)) ?_
  (λn c e=>off c (ce n c e)) (λx v i=>i.at' (off _ le) λn c e=>off c (ce n c e)) λa ha _=>off a λq=>nm (q▸ha)
 ·by_cases q:b=it
  ·subst q;exact live ((mA m).resolve_left nm)
  ·obtain⟨o,ho⟩:=F.live b (hy b m);exact⟨o,off b q o ho⟩
 ·obtain⟨m,n⟩:=F.ns;exact⟨m,n.at' (off _ le)⟩
structure Mine1(prog:Program)(w:World)(C:Cx)(H0 Mu:List Addr)(env:Env)(σ:Sig)(ad:Str->Addr)(h:Heap)(a:Addr)(o:Own):Prop where
 mem:a∈Mu
 loc:a≠env.locals
 cel:∀n c,env.cells.lookup n=some c->a≠c
 own:OwnAt prog w C (Mu++H0) Mu h a o
 new:∀y o',σ.lookup y=some (.ow o')->ad y≠a
inductive SlotV(prog:Program)(w:World)(C:Cx)(H0 Mu:List Addr)(env:Env)(σ:Sig)(ad:Str->Addr)(h:Heap)(x:Str)(v:Value)(ad':Str->Addr):Slot->Prop
 |fz {t:T} (q:Holds prog w (Mu++H0) h t v):SlotV prog w C H0 Mu env σ ad h x v ad' (.fz t)
 |ow {o:Own} {a:Addr} (ea:ad' x=a) (e:v=.ref a) (mem:a∈Mu) (loc:a≠env.locals) (cel:∀n c,env.cells.lookup n=some c->a≠c) (own:OwnAt prog w C (Mu++H0) Mu h a o) (new:∀y o',y≠x->σ.lookup y=some (.ow o')->ad y≠a):SlotV prog w C H0 Mu env σ ad h x v ad' (.ow o)
 |ch {c:Str} (k:Nat) (e:v=.str c k) (h1:1<=k) (h2:k+1<=C.tk):SlotV prog w C H0 Mu env σ ad h x v ad' (.ch c)
theorem SlotV.turn{h h':Heap}{sl:Slot}{ad':Str->Addr}(V:SlotV prog w C H0 Mu env σ ad h x v ad' sl)(lm:env.locals∈Mu)(k:Kp [env.locals] h h'):SlotV prog w C H0 Mu env σ ad h' x v ad' sl:=by
 cases V with
 |fz q=>exact .fz (q.up (k.mono λc m=>mS m▸List.mem_append_left _ lm))
 |ow ea e mem loc cel own new=>exact .ow ea e mem loc cel (own.turn lm loc k) new
 |ch k e h1 h2=>exact .ch k e h1 h2
theorem Fm.set{h h':Heap}{sl:Slot}{tg:Addr}{ad':Str->Addr}(F:Fm prog w C B H0 Mu env σ ad h)(tm:tg∈Mu)(k:Kp [tg] h h')(lv:∃o,h'.get? tg=some o)(ns:∃m,h'.Ns env.locals m)(cells:∀n c,env.cells.lookup n=some c->∃v,h'.IsCell c v)
  (old:∀y u,y≠x->VarIs env h y u->VarIs env h' y u) (new:VarIs env h' x v) (nt:∀y o,y≠x->σ.lookup y=some (.ow o)->ad y≠tg) (val:SlotV prog w C H0 Mu env σ ad h' x v ad' sl) (e2:∀y,y≠x->ad' y=ad y):
  Fm prog w C B H0 Mu env ((x,sl)::σ) ad' h':=by
 have kk:Kp (Mu++H0) h h':=k.mono λc m=>mS m▸List.mem_append_left _ tm
 refine F.turn tm k lv ns cells (λy u e=>?_) (λy o e=>?_) (λy z o o' e e' hyz=>?_) λy c e=>?_
 ·refine E9 e (λhy q=>?_) λhy e=>?_
  ·subst hy q
   cases val with|fz q=>exact⟨v,new,q⟩
  ·obtain⟨v',i,q⟩:=F.vars y u e;exact⟨v',old _ _ hy i,q.up kk⟩
 ·refine E9 e (λhy q=>?_) λhy e=>?_
  ·subst hy q
   cases val with|ow ea e mem loc cel own _=>subst ea;exact⟨e▸new,mem,loc,cel,own⟩
  ·obtain⟨i,a,b,c,q⟩:=F.owns y o e;refine rwl (P:=λz=>VarIs env h' y (.ref z)/\z∈Mu/\z≠env.locals/\(∀n c,env.cells.lookup n=some c->z≠c)/\OwnAt prog w C (Mu++H0) Mu h' z o) (e2 y hy) ?_;exact⟨old _ _ hy i,a,b,c,q.turn tm (nt y o hy e) k⟩
 ·have one:∀{z o'},z≠x->σ.lookup z=some (.ow o')->∀{o},sl=.ow o->ad z≠ad' x:=λhz r _ q=>by
   cases val with
   |ow ea e _ _ _ _ new=>subst ea;exact new _ _ hz r
   |_=>cases q
  refine E9 e (λhy q=>E9 e' (λhz _=>(hyz (hy.trans hz.symm)).elim) λhz r=>?_) λhy r=>E9 e' (λhz q=>?_) λhz r'=>?_
  ·exact rwl (P:=λw=>ad' y≠w) (e2 z hz) (rwl (P:=λw=>ad' w≠_) hy (Ne.symm (one hz r q)))
  ·exact rwl (P:=λw=>w≠ad' z) (e2 y hy) (rwl (P:=λw=>_≠ad' w) hz (one (by assumption) r q))
  ·exact rwl (P:=λw=>w≠ad' z) (e2 y hy) (rwl (P:=λw=>ad y≠w) (e2 z hz) (F.oapart y z o o' r r' hyz))
 ·refine E9 e (λhy q=>?_) λhy e=>?_
  ·subst hy q
   cases val with|ch k e h1 h2=>exact⟨k,e▸new,h1,h2⟩
  ·obtain⟨t,i,q⟩:=F.chs y c e;exact⟨t,old _ _ hy i,q⟩
theorem GJ{Q:Unit->Shared->Prop}{E:Value->Shared->Prop}(hl:env.kindOf x=some .local)(F:Fm prog w C B H0 Mu env σ ad s.heap)
  (hQ:∀h' k,Kp [env.locals] s.heap h'->(∀sl ad',SlotV prog w C H0 Mu env σ ad s.heap x v ad' sl->(∀y,y≠x->ad' y=ad y)->Fm prog w C B H0 Mu env ((x,sl)::σ) ad' h')->Q () {s with heap:=h',toks:=k}):wpAny (model prog w) A (storeName env x v) Q E s:=by
 obtain⟨m,hn⟩:=F.ns;refine wpAny_storeName_local hl hn (λh' hn' hs'=>?_) (by refine rwl F.kind ?_;rfl);have k1:=By hs';have cel:∀n c,env.cells.lookup n=some c->∀o,s.heap.get? c=some o->h'.get? c=some o:=λn c e o q=>k1 c o (λm=>(F.cells n c e).2 (mS m)) q
 refine hQ h' _ k1 λsl ad' V e2=>F.set F.lmu k1 (by obtain⟨o,_,_,ho,_⟩:=hn';exact⟨o,ho⟩) ⟨_,hn'⟩ (λn c e=>?_) (λy u hy i=>?_) (.loc _ hl hn' (if_pos rfl)) (λy o _ e=>(F.owns y o e).2.2.1) (V.turn F.lmu k1) e2
 ·obtain⟨⟨v,o,ho,hd⟩,_⟩:=F.cells n c e;exact⟨v,o,cel n c e o ho,hd⟩
 ·cases i with
  |loc m1 q n e=>
   rw [Ns.uniq n hn] at e;exact .loc _ q hn' (rwl (if_neg hy) e)
  |cel c q l i=>obtain⟨o,ho,hd⟩:=i;exact .cel c q l ⟨o,cel _ _ l o ho,hd⟩
  |fre c q z l i=>obtain⟨o,ho,hd⟩:=i;exact .fre c q z l ⟨o,cel _ _ l o ho,hd⟩
theorem GF{Q:Unit->Shared->Prop}{E:Value->Shared->Prop}(hk:env.kindOf x=some .local\/(env.kindOf x=some .cell/\x∈C.st/\(env.cells.lookup x).isSome=true))(F:Fm prog w C B H0 Mu env σ ad s.heap)(hv:Holds prog w (Mu++H0) s.heap t v)
  (hQ:∀h' k,Kp Mu s.heap h'->(env.kindOf x=some .local->Kp [env.locals] s.heap h')->Fm prog w C B H0 Mu env ((x,.fz t)::σ) ad h'->Q () {s with heap:=h',toks:=k}):wpAny (model prog w) A (storeName env x v) Q E s:=by
 rcases hk with hl|⟨hl,hm,hc⟩
 ·exact GJ hl F λh' k k1 f=>hQ h' k (Fm.kp1 F.lmu k1) (λ_=>k1) (f _ _ (.fz hv) λ_ _=>rfl)
 ·obtain⟨c,hc⟩:=Option.isSome_iff_exists.mp hc;obtain⟨⟨v0,ic⟩,hcl⟩:=F.cells x c hc;have cm:=F.cmu x hm c hc;refine wpAny_storeName_cell F.kind hl hc ic λh' hc' hs'=>?_
  have k1:=By hs';have kk:Kp (Mu++H0) s.heap h':=k1.mono λc m=>by refine rwl (mS m) ?_;exact List.mem_append_left _ cm
  obtain⟨m,hn⟩:=F.ns;have hn':h'.Ns env.locals m:=hn.sameBut hs' (Ne.symm hcl);have cel:∀n d,n≠x->env.cells.lookup n=some d->∀o,s.heap.get? d=some o->h'.get? d=some o:=λn d hne e o q=>k1 d o (λm=>hne (F.capart n x c (by refine rwr (mS m) ?_;exact e) hc)) q
  have old:∀y u,y≠x->VarIs env s.heap y u->VarIs env h' y u:=λy u hy i=>by
   cases i with
   |loc m1 q n e=>exact .loc m1 q (n.sameBut hs' (Ne.symm hcl)) e
   |cel c q l i=>obtain⟨o,ho,hd⟩:=i;exact .cel c q l ⟨o,cel _ _ hy l o ho,hd⟩
   |fre c q z l i=>obtain⟨o,ho,hd⟩:=i;exact .fre c q z l ⟨o,cel _ _ hy l o ho,hd⟩
  refine hQ h' s.toks (Fm.kp1 cm k1) (λq=>by rw [hl] at q;cases q) (F.set cm k1 (by obtain⟨o,ho,_⟩:=hc';exact⟨o,ho⟩) ⟨_,hn'⟩ (λn d e=>?_) old (.cel c hl hc hc') (λy o _ e=>(F.owns y o e).2.2.2.1 x c hc) (.fz (hv.up kk)) λ_ _=>rfl)
  by_cases q:n=x
  ·subst q;rw [hc] at e;cases e;exact⟨_,hc'⟩
  ·obtain⟨⟨v,o,ho,hd⟩,_⟩:=F.cells n d e;exact⟨v,o,cel n d q e o ho,hd⟩
theorem Nw{Q:Unit->Shared->Prop}{E:Value->Shared->Prop}(hk:env.kindOf x=some .local\/(env.kindOf x=some .cell/\x∈C.st/\(env.cells.lookup x).isSome=true))(F:Fm prog w C B H0 Mu env σ ad s.heap)(hv:Holds prog w (Mu++H0) s.heap t v)
  (hQ:∀h' k,Kp Mu s.heap h'->Fm prog w C B H0 Mu env ((x,.fz t)::σ) ad h'->Q () {s with heap:=h',toks:=k}):wpAny (model prog w) A (storeName env x v) Q E s:=
 GF hk F hv λh' k kp _ F'=>hQ h' k kp F'
end
noncomputable def PA(prog:Program)(w:World)(C:Cx)(B:Heap)(A:Around)(env:Env)(e:Expr)(σ:Sig)(t:T)(σ':Sig):Prop:=
 ∀(H0 Mu:List Addr) (ad:Str->Addr) (s:Shared) (v:Value) (Q:Unit->Shared->Prop) (E:Value->Shared->Prop),Fm prog w C B H0 Mu env σ ad s.heap->Holds prog w (Mu++H0) s.heap t v->
  (∀h' k,Kp Mu s.heap h'->Fm prog w C B H0 Mu env σ' ad h'->Q () {s with heap:=h',toks:=k})->wpAny (model prog w) A (assign e env v) Q E s
noncomputable def PAs(prog:Program)(w:World)(C:Cx)(B:Heap)(A:Around)(env:Env)(es:List Expr)(σ:Sig)(ts:List T)(σ':Sig):Prop:=
 (assignEach es env).length=ts.length/\(assignEach es env).findIdx? (·.1)=none/\
 ∀(H0 Mu:List Addr) (ad:Str->Addr) (s:Shared) (vs:List Value) (Q:Unit->Shared->Prop) (E:Value->Shared->Prop),Fm prog w C B H0 Mu env σ ad s.heap->HoldsL prog w (Mu++H0) s.heap ts vs->
  (∀h' k,Kp Mu s.heap h'->Fm prog w C B H0 Mu env σ' ad h'->Q () {s with heap:=h',toks:=k})->wpAny (model prog w) A (assignInOrder ((assignEach es env).map (·.2)) vs) Q E s
noncomputable def CA(C:Cx)(env:Env)(x:Str):Bool:=env.kindOf x==some .local||(env.kindOf x==some .cell&&C.st.contains x&&(env.cells.lookup x).isSome)
theorem JK{C:Cx}{env:Env}{x:Str}(h:CA C env x=true):env.kindOf x=some .local\/(env.kindOf x=some .cell/\x∈C.st/\(env.cells.lookup x).isSome=true):=by
 unfold CA at h;simp only [Bool.or_eq_true,Bool.and_eq_true,beq_iff_eq,List.contains_iff_mem,and_assoc] at h;exact h
section
variable{prog:Program}{w:World}{C:Cx}{B:Heap}{A:Around}{env:Env}{σ σ₁ σ₂:Sig}{pos:Pos}{n:Nat}
theorem Ft{x:Str}{t:T}(h:CA C env x=true):PA prog w C B A env (.Name x pos) σ t ((x,.fz t)::σ):=λH0 Mu ad s v Q E F hv hQ=>
 wpAny_assign_Name (Nw (JK h) F hv hQ)
theorem S4:PAs prog w C B A env [] σ [] σ:=⟨rfl,rfl,λH0 Mu ad s vs Q E F hv hQ=>by
 have e:vs=[]:=hv;subst e;exact wpAny_assignInOrder_none (hQ s.heap s.toks (Kp.refl _ _) F)⟩
theorem P1{e:Expr}{es:List Expr}{t:T}{ts:List T}(hs:assignEach (e::es) env=(false,assign e env)::assignEach es env)(p:PA prog w C B A env e σ t σ₁)(ps:PAs prog w C B A env es σ₁ ts σ₂):PAs prog w C B A env (e::es) σ (t::ts) σ₂:=by
 obtain⟨h1,h2,h3⟩:=ps;refine⟨by rw [hs,List.length_cons,List.length_cons,h1],by rw [hs,List.findIdx?_cons,h2];rfl,λH0 Mu ad s vs Q E F hv hQ=>?_⟩;obtain⟨v,r,rfl,hv,hr⟩:=hv;rw [hs];refine wpAny_assignInOrder_more (p H0 Mu ad s v _ _ F hv λh₁ k₁ kp₁ F₁=>h3 H0 Mu ad _ r _ _ F₁ (NZ hr kp₁) λh₂ k₂ kp₂ F₂=>hQ h₂ k₂ (kp₁.trans kp₂) F₂)
theorem IH{h h':Heap}(x:Heap.ExtBut h.objs.size h h'):Sub h h':=λb o e=>x b o (λq=>by rw [q,Ao] at e;cases e) e
theorem P4{es:List Expr}{ts:List T}{k:Nat}(hA:AOk A n)(p:PAs prog w C B A env es σ ts σ₁):PA prog w C B A env (.Tuple es k pos) σ (.tup ts) σ₁:=λH0 Mu ad s v Q E F hv hQ=>by
 obtain⟨a,vs,rfl,ha,it,hl⟩:=hv;obtain⟨h1,h2,h3⟩:=p;refine wpAny_assign_Tuple hA.handled it (by rw [h1,List.size_toArray,hl.length]) h2 λh' he=>?_
 have sb:=IH he;exact h3 H0 Mu ad _ _ _ _ (F.up sb) (hl.up (Kp.of_sub sb)) λh₂ k₂ kp₂ F₂=>hQ h₂ k₂ ((Kp.of_sub sb).trans kp₂) F₂
end
noncomputable def IP(n:String):Bool:= !(["enumerate","zip","dict_itemiterator","dict_reverseitemiterator","odict_iterator","itertools.zip_longest","itertools.pairwise"].contains n)&&n !="dict"
structure ItObj(h:Heap)(it:Addr):Prop where
 at_:∃o c,h.get? it=some o/\o.cls=.type c/\IP c=true/\∀v,o.data≠.cell v
inductive Iter(prog:Program)(w:World)(A:Around)(Hd:List Addr)(it:Addr)(ts:List T)(h:Heap):Prop
 |mk (fp:List Addr) (n:Nat) (P:Nat->Value->Prop) (St:Nat->Heap->Prop) (i:Nat) (W:Walks prog w A it fp [it] n P St) (hf:∀b∈fp,b=it\/b∉Hd) (ex:∀b∈fp,∃o,h.get? b=some o) (st:St i h) (hn:i+ts.length=n)
  (ob:∀i h,St i h->ItObj h it) (hP:∀j v t,P (i+j) v->ts[j]? =some t->Holds prog w Hd h t v)
section
variable{prog:Program}{w:World}{A:Around}{Hd:List Addr}{it:Addr}{t:T}{ts:List T}{h h':Heap}{s:Shared}
theorem Iter.obj(I:Iter prog w A Hd it ts h):ItObj h it:=by cases I with|mk _ _ _ _ _ _ _ _ st _ ob _=>exact ob _ _ st
theorem Iter.next{Q:Option Value->Shared->Prop}{E:Value->Shared->Prop}(hi:it∈Hd)(I:Iter prog w A Hd it (t::ts) s.heap)
  (hQ:∀v h' k,Kp [it] s.heap h'->Iter prog w A Hd it ts h'->Holds prog w Hd h' t v->Q (some v) {s with heap:=h',toks:=k}):wpAny (model prog w) A (pyNext (.ref it)) Q E s:=by
 obtain⟨fp,n,P,St,i,W,hf,ex,st,hn,ob,hP⟩:=I;refine W.item i s Q E (by rw [←hn,List.length_cons];(clear hn;omega)) st λv h' tk hv st' kp=>?_
 have kp1:Kp [it] s.heap h':=kp;have kh:Kp Hd s.heap h':=kp1.mono λb m=>by rw [mS m];exact hi
 refine hQ v h' tk kp1 ⟨fp,n,P,St,i+1,W,hf,λb hb=>?_,st',by rw [←hn,List.length_cons];(clear hn;omega),ob,λj u t' hu ht=>?_⟩ ((hP 0 v t hv rfl).up kh)
 ·by_cases q:b=it
  ·subst q;obtain⟨o,_,ho,_⟩:=(ob _ _ st').at_;exact⟨o,ho⟩
  ·obtain⟨o,ho⟩:=ex b hb;exact⟨o,kp1 b o (by simpa using q) ho⟩
 ·exact(hP (j+1) u t' (by rw [show i+(j+1)=i+1+j by(clear hn;omega)];exact hu) (by simpa using ht)).up kh
theorem Iter.done{Q:Option Value->Shared->Prop}{E:Value->Shared->Prop}(I:Iter prog w A Hd it [] s.heap)
  (hQ:∀h' k,Kp [it] s.heap h'->Q none {s with heap:=h',toks:=k}):wpAny (model prog w) A (pyNext (.ref it)) Q E s:=by
 obtain⟨fp,n,P,St,i,W,hf,ex,st,hn,ob,hP⟩:=I;simp at hn;subst hn;exact W.done s Q E st λh' tk kp=>hQ h' tk kp
theorem Iter.self{Q:Value->Shared->Prop}{E:Value->Shared->Prop}(I:Iter prog w A Hd it ts s.heap)(hQ:Q (.ref it) s):wpAny (model prog w) A (pyIter (.ref it)) Q E s:=by
 obtain⟨fp,n,P,St,i,W,hf,ex,st,hn,ob,hP⟩:=I;exact W.self i s Q E st hQ
theorem Iter.up{X nw:List Addr}(I:Iter prog w A Hd it ts h)(k:Kp X h h')(hX:∀b∈X,b∈Hd)(hi:it∉X)(hw:∀b∈nw,h.get? b=none):Iter prog w A (nw++Hd) it ts h':=by
 obtain⟨fp,n,P,St,i,W,hf,ex,st,hn,ob,hP⟩:=I;have hk:∀b∈fp,∀o,h.get? b=some o->h'.get? b=some o:=λb hb o e=>k b o (λm=>(hf b hb).elim (λq=>hi (q▸m)) λq=>q (hX b m)) e
 refine⟨fp,n,P,St,i,W,λb hb=>?_,λb hb=>by obtain⟨o,ho⟩:=ex b hb;exact⟨o,hk b hb o ho⟩,W.frame _ _ _ st hk,hn,ob,λj v t hv ht=>?_⟩
 ·refine(hf b hb).imp id λq m=>?_
  rcases mA m with m|m
  ·obtain⟨o,ho⟩:=ex b hb;rw [hw b m] at ho;cases ho
  ·exact q m
 ·refine(hP j v t hv ht).mv (k.mono hX) λb m=>?_
  rcases mA m with m|m
  ·exact .inr (hw b m)
  ·exact .inl m
theorem Iter.perm{Hd':List Addr}(I:Iter prog w A Hd it ts h)(e:∀b,b∈Hd'->b∈Hd):Iter prog w A Hd' it ts h:=by
 obtain⟨fp,n,P,St,i,W,hf,ex,st,hn,ob,hP⟩:=I;exact⟨fp,n,P,St,i,W,λb hb=>(hf b hb).imp id λq m=>q (e b m),ex,st,hn,ob,λj v t hv ht=>(hP j v t hv ht).less e⟩
end
noncomputable def DB(x:Str):List T:=x.cps.toList.map λc=>.str ⟨#[c]⟩
noncomputable def Db(n:Int):List T:=(List.range n.toNat).map λ(i:Nat)=>T.int (i:Int)
noncomputable def DK(t:T):Option (List T):=match t with
 |.list xs=>some xs
 |.tup xs=>some xs
 |.str x=>some (DB x)
 |.rng n=>if 0<=n/\n<=1000 then some (Db n) else none
 |_=>none
section
variable{prog:Program}{w:World}{A:Around}{Hd:List Addr}{it:Addr}{t:T}{ts:List T}{s:Shared}{v:Value}{n:Nat}
theorem Iter.new{fp:List Addr}{P:Nat->Value->Prop}{St:Nat->Heap->Prop}{o:Obj}{h:Heap}(hz:o.isFreed=false)(W:Walks prog w A h.objs.size fp [h.objs.size] n P St)(hf:∀b∈fp,b=h.objs.size\/((∃o,h.get? b=some o)/\b∉Hd))(st:St 0 (h.push o))(hn:0+ts.length=n)
  (ob:∀i h',St i h'->ItObj h' h.objs.size) (hP:∀j v t,P (0+j) v->ts[j]? =some t->Holds prog w Hd h t v):Iter prog w A (h.objs.size::Hd) h.objs.size ts (h.push o):=
 ⟨fp,n,P,St,0,W,λb m=>(hf b m).imp id λq m=>(mC m).elim (λr=>by obtain⟨⟨o,e⟩,_⟩:=q;rw [r,Ao] at e;cases e) q.2,
  λb m=>(hf b m).elim (λq=>⟨o,by rw [q];exact Heap.get?_push_size _ hz⟩) λq=>q.1.elim λo e=>⟨o,Heap.get?_push_of_some _ e⟩,st,hn,ob,
  λj v t h1 h2=>(hP j v t h1 h2).mv (Kp.of_sub (Sub.push' _ _)) λb m=>(mC m).elim (λr=>.inr (by rw [r];exact Ao _)) .inl⟩
theorem K2{h:Heap}{o:Obj}{c:String}{f:Array Value}(ho:h.get? it=some o)(hc:o.cls=.type c)(hd:o.data=.fields f)(hq:IP c=true):ItObj h it:=⟨o,c,ho,hc,hq,λv q=>by rw [hd] at q;cases q⟩
theorem L7{a b:Addr}{q:Prop}(m:b∈[a]):b=a\/q:=.inl (mS m)
theorem OI{a b c:Addr}{q:Addr->Prop}(m:b∈[a,c])(k:q c):b=a\/q b:=(mC m).imp id λm=>by rw [mS m];exact k
theorem Ud{ts:List T}{vs:List Value}{h:Heap}(hvs:HoldsL prog w Hd h ts vs)(j:Nat)(v:Value)(t:T)(hj:vs.toArray[0+j]? =some v)(ht:ts[j]? =some t):Holds prog w Hd h t v:=by
 rw [Nat.zero_add,List.getElem?_toArray] at hj;obtain⟨t',e',hh⟩:=hvs.getv hj;rw [ht] at e';cases e';exact hh
theorem It{A':Around}{xs:List T}{Q:Value->Shared->Prop}{E:Value->Shared->Prop}(hA:A'.handled=none)(hv:Holds prog w Hd s.heap (.list xs) v)
  (hQ:∀it h' k,Sub s.heap h'->s.heap.get? it=none->Iter prog w A' (it::Hd) it xs h'->Q (.ref it) {s with heap:=h',toks:=k}):wpAny (model prog w) A (pyIter v) Q E s:=by
 obtain⟨a,vs,rfl,ha,il,hvs⟩:=hv;replace il:=il.is;obtain⟨o,ho,r⟩:=il;refine wpAny_pyIter_list ⟨o,ho,r⟩ (hQ _ _ s.toks (Sub.push' _ _) (Ao _) (.new rfl (Walks.list hA _ a (Nat.ne_of_lt (Heap.lt_size ho)) vs.toArray) (λb m=>OI (q:=λb=>(∃o,s.heap.get? b=some o)/\b∉Hd) m ⟨⟨o,ho⟩,ha⟩) ⟨⟨_,Heap.get?_push_size _ rfl,rfl,rfl⟩,⟨o,Heap.get?_push_of_some _ ho,r⟩⟩ (by rw [Nat.zero_add,←hvs.length];rfl) (λi h st=>?_) (Ud hvs)));obtain⟨⟨o,ho,hc,hd⟩,_⟩:=st;exact K2 ho hc hd rfl
theorem G6{Q:Value->Shared->Prop}{E:Value->Shared->Prop}(hA:AOk A n)(hl:Live Hd s.heap)(hv:Holds prog w Hd s.heap t v)(e:DK t=some ts)
  (hQ:∀it h' k,Sub s.heap h'->s.heap.get? it=none->Iter prog w A (it::Hd) it ts h'->Q (.ref it) {s with heap:=h',toks:=k}):wpAny (model prog w) A (pyIter v) Q E s:=by
 cases t with
 |list xs=>
  obtain rfl:=Option.some.inj e;exact It hA.handled hv hQ
 |tup xs=>
  obtain rfl:=Option.some.inj e;obtain⟨a,vs,rfl,ha,il,hvs⟩:=hv;obtain⟨o,ho,r⟩:=il;have hQ:=λo=>hQ _ (s.heap.push o) s.toks (Sub.push' _ _) (Ao _)
  refine wpAny_pyIter_tuple ⟨o,ho,r⟩ (hQ _ (.new rfl (Walks.tuple hA.handled _ a (Nat.ne_of_lt (Heap.lt_size ho)) vs.toArray) (λb m=>OI (q:=λb=>(∃o,s.heap.get? b=some o)/\b∉Hd) m ⟨⟨o,ho⟩,ha⟩) ⟨⟨_,Heap.get?_push_size _ rfl,rfl,rfl⟩,⟨o,Heap.get?_push_of_some _ ho,r⟩⟩ (by rw [Nat.zero_add,←hvs.length];rfl) (λi h st=>?_) (Ud hvs)));obtain⟨⟨o,ho,hc,hd⟩,_⟩:=st;exact K2 ho hc hd rfl
 |str x=>
  obtain rfl:=Option.some.inj e;obtain⟨k,rfl⟩:=hv;have hP:∀j v t,SignAt x (0+j) v->(DB x)[j]? =some t->Holds prog w Hd s.heap t v:=λj v t hj ht=>by
   obtain⟨c,u,hc,rfl⟩:=hj;unfold DB at ht;rw [List.getElem?_map,Array.getElem?_toList,←Nat.zero_add j,hc] at ht
   cases ht
   exact⟨u,rfl⟩
  have hlen:0+(DB x).length=x.cps.size:=by rw [Nat.zero_add,DB,List.length_map];rfl
  have hQ:=λo=>hQ _ (s.heap.push o) s.toks (Sub.push' _ _) (Ao _)
  cases ha:x.cps.all (·<128) with
  |false=>
   refine wpAny_pyIter_wide ha (hQ _ (.new rfl (Walks.strWide hA.handled _ x k) (λb m=>L7 m) ⟨_,Heap.get?_push_size _ rfl,rfl,rfl⟩ hlen (λi h st=>?_) hP));obtain⟨o,ho,hc,hd⟩:=st;exact K2 ho hc hd rfl
  |true=>
   refine wpAny_pyIter_ascii ha (hQ _ (.new rfl (Walks.strAscii hA.handled _ x k) (λb m=>L7 m) ⟨_,Heap.get?_push_size _ rfl,rfl,rfl⟩ hlen (λi h st=>?_) hP));obtain⟨o,ho,hc,hd⟩:=st;exact K2 ho hc hd rfl
 |rng m=>
  obtain⟨a,k1,k2,k3,rfl,ha,hr⟩:=hv;refine its e λhm e=>?_
  obtain rfl:=Option.some.inj e;have hsz:Builtin.Range.rangeSize 0 m 1=(m.toNat:Int):=by
   unfold Builtin.Range.rangeSize
   by_cases h0:0<m
   ·simp [h0];(clear h0 ha;omega)
   ·simp [h0];(clear hm ha;omega)
  have hsm:Builtin.Range.small 0 m 1=true:=by
   unfold Builtin.Range.small;rw [hsz];simp only [Builtin.Range.rangeFitsLong,Bool.and_eq_true,Bool.or_eq_true,decide_eq_true_eq,beq_iff_eq];refine⟨⟨⟨⟨?_,?_⟩,?_⟩,?_⟩,.inr ?_⟩<;>(try simp)<;>omega
  have hQ:=λo=>hQ _ (s.heap.push o) s.toks (Sub.push' _ _) (Ao _)
  refine wpAny_pyIter_range hr hsm ?_;rw [hsz];refine hQ _ (.new rfl (Walks.range hA.handled _ 0 1 m.toNat) (λb m=>L7 m) ?_ (by rw [Nat.zero_add,Db,List.length_map,List.length_range]) (λi h st=>K2 st rfl rfl rfl) λj v t hj ht=>?_)
  ·simpa using Heap.get?_push_size s.heap (o:={cls:=.type "range_iterator",data:=.fields #[rawInt 0,rawInt (m.toNat:Int),rawInt 1]}) rfl
  ·obtain⟨u,rfl⟩:=hj;unfold Db at ht;rw [List.getElem?_map] at ht;obtain⟨i,q,rfl⟩:=Option.map_eq_some_iff.mp ht;obtain⟨_,e⟩:=List.getElem?_eq_some_iff.mp q;rw [List.getElem_range] at e;subst e;exact⟨u,by simp⟩
 |_=>exact Aj e
end
set_option genCtorIdx true in
inductive Out where
 |nxt (σ:Sig)
 |ret (t:T)
noncomputable def R8(prog:Program)(w:World)(C:Cx)(B:Heap)(H0 Mu:List Addr)(env:Env)(r:Out)(fl:Flow)(ad:Str->Addr)(h:Heap):Prop:=match r with
 |.nxt σ=>fl=.next/\Fm prog w C B H0 Mu env σ ad h
 |.ret t=>∃v,fl=.ret v/\Holds prog w H0 h t v
noncomputable def PX(prog:Program)(w:World)(C:Cx)(B:Heap)(A:Around)(env:Env)(st:Stmt)(σ:Sig)(r:Out):Prop:=
 ∀(H0 Mu:List Addr) (ad:Str->Addr) (s:Shared) (Q:Flow->Shared->Prop) (E:Value->Shared->Prop),C.tk<=s.toks->Fm prog w C B H0 Mu env σ ad s.heap->
  (∀fl h' k nw ad',(∀b∈nw,s.heap.get? b=none)->Kp Mu s.heap h'->R8 prog w C B H0 (nw++Mu) env r fl ad' h'->Q fl {s with heap:=h',toks:=k})->wpAny (model prog w) A (exec st env) Q E s
noncomputable def PS(prog:Program)(w:World)(C:Cx)(B:Heap)(A:Around)(env:Env)(ss:List Stmt)(σ:Sig)(r:Out):Prop:=
 ∀(H0 Mu:List Addr) (ad:Str->Addr) (s:Shared) (Q:Flow->Shared->Prop) (E:Value->Shared->Prop),C.tk<=s.toks->Fm prog w C B H0 Mu env σ ad s.heap->
  (∀fl h' k nw ad',(∀b∈nw,s.heap.get? b=none)->Kp Mu s.heap h'->R8 prog w C B H0 (nw++Mu) env r fl ad' h'->Q fl {s with heap:=h',toks:=k})->wpAny (model prog w) A (execs ss env) Q E s
section
variable{prog:Program}{w:World}{C:Cx}{B:Heap}{A:Around}{H0 Mu:List Addr}{env:Env}{σ σ₁ σ₂:Sig}{pos:Pos}{n:Nat}{ad:Str->Addr}{h h':Heap}{t:T}
theorem Fm.older{nw:List Addr}(F:Fm prog w C B H0 Mu env σ ad h){σ':Sig}{ad':Str->Addr}(F':Fm prog w C B H0 (nw++Mu) env σ' ad' h')(k:Kp Mu h h'){b:Addr}(e:h'.get? b=none):h.get? b=none:=by
 cases q:h.get? b with
 |none=>rfl
 |some o=>
  by_cases m:b∈Mu
  ·obtain⟨o',ho'⟩:=F'.live b (by simp [m]);rw [ho'] at e;cases e
  ·rw [k b o m q] at e;cases e
theorem Kp.through{nw:List Addr}{h₁ h₂ h₃:Heap}(k:Kp Mu h₁ h₂)(k2:Kp (nw++Mu) h₂ h₃)(f:∀b∈nw,h₁.get? b=none):Kp Mu h₁ h₃:=λb o m e=>k2 b o (λq=>(mA q).elim (λq=>by rw [f b q] at e;cases e) m) (k b o m e)
theorem Vr:PS prog w C B A env [] σ (.nxt σ):=λH0 Mu ad s Q E ht F hQ=>wpAny_execs_nil (hQ .next s.heap s.toks [] ad (λ_ m=>nomatch m) (Kp.refl _ _) ⟨rfl,F⟩)
theorem Sr{st:Stmt}{ss:List Stmt}{r:Out}(p:PX prog w C B A env st σ (.nxt σ₁))(ps:PS prog w C B A env ss σ₁ r):PS prog w C B A env (st::ss) σ r:=λH0 Mu ad s Q E ht F hQ=>by
 refine wpAny_execs_cons (wpAny_with_toks (n:=C.tk) ht (p H0 Mu ad s _ _ ht F λfl h₁ k₁ nw ad₁ hn kp ok=>λht₁=>?_));obtain⟨rfl,F₁⟩:=ok;refine ps H0 (nw++Mu) ad₁ {s with heap:=h₁,toks:=k₁} _ _ ht₁ F₁ λfl h₂ k₂ nw₂ ad₂ hn₂ kp₂ ok₂=>hQ fl h₂ k₂ (nw₂++nw) ad₂ (λb m=>?_) (kp.through kp₂ hn) (by rw [List.append_assoc];exact ok₂)
 rcases mA m with m|m
 ·exact F.older F₁ kp (hn₂ b m)
 ·exact hn b m
theorem Vq{st:Stmt}{ss:List Stmt}(p:PX prog w C B A env st σ (.ret t)):PS prog w C B A env (st::ss) σ (.ret t):=λH0 Mu ad s Q E ht F hQ=>by
 refine wpAny_execs_cons (p H0 Mu ad s _ _ ht F λfl h₁ k₁ nw ad₁ hn kp ok=>?_);obtain⟨v,rfl,hv⟩:=ok;exact hQ _ h₁ k₁ nw ad₁ hn kp ⟨v,rfl,hv⟩
theorem Ug{c:Expr}{x y:List Stmt}{b:Bool}{r:Out}(pc:PB prog w C B A env c σ b σ₁)(px:b=true->PS prog w C B A env x σ₁ r)(py:b=false->PS prog w C B A env y σ₁ r):PX prog w C B A env (.If c x y pos) σ r:=λH0 Mu ad s Q E ht F hQ=>by
 refine wpAny_If (wpAny_with_toks (n:=C.tk) ht (pc H0 Mu ad s _ _ F λh₁ k₁ kp₁ F₁=>λht₁=>?_));have fr:∀{nw:List Addr},(∀b∈nw,h₁.get? b=none)->∀b∈nw,s.heap.get? b=none:=λhn b m=>F.older (nw:=[]) F₁ kp₁ (hn b m)
 cases b with
 |true=>exact px rfl H0 Mu ad _ _ _ ht₁ F₁ λfl h₂ k₂ nw ad₂ hn kp₂ ok=>hQ fl h₂ k₂ nw ad₂ (fr hn) (kp₁.trans kp₂) ok
 |false=>exact py rfl H0 Mu ad _ _ _ ht₁ F₁ λfl h₂ k₂ nw ad₂ hn kp₂ ok=>hQ fl h₂ k₂ nw ad₂ (fr hn) (kp₁.trans kp₂) ok
theorem NF{e:Expr}(pe:PE prog w C B A env e σ t σ₁):PX prog w C B A env (.Return (some e) pos) σ (.ret t):=λH0 Mu ad s Q E ht F hQ=>
 wpAny_Return_some (pe H0 Mu ad s _ _ F λv h₁ k₁ kp₁ F₁ hv=>hQ _ h₁ k₁ [] ad (λ_ m=>nomatch m) kp₁ ⟨v,rfl,hv.less λb m=>List.mem_append_right _ m⟩)
theorem Sq{e:Expr}(pe:PE prog w C B A env e σ .none σ₁)(hi:interactive env=false)(hs:swapsWith e none pos.line env=pure false):PX prog w C B A env (.Expr e pos) σ (.nxt σ₁):=λH0 Mu ad s Q E ht F hQ=>by
 refine wpAny_Expr (pe H0 Mu ad s _ _ F λv h₁ k₁ kp₁ F₁ hv=>?_) hi hs
 cases hv
 exact hQ _ h₁ k₁ [] ad (λ_ m=>nomatch m) kp₁ ⟨rfl,F₁⟩
theorem Bo{M:Model}{E:Value->Shared->Prop}{s:Shared}{v:Value}{f:Value->Sem Unit}{Q:Unit->Shared->Prop}(h:wpAny M A (f v) Q E s):wpAny M A (assignAll v [f]) Q E s:=h
theorem NH{tg e:Expr}(pe:PE prog w C B A env e σ t σ₁)(pa:PA prog w C B A env tg σ₁ t σ₂)(hs:swapsWith e (some tg) pos.line env=pure false)(hw:swappedStores [tg] e env=pure none)
  (ht:assignEach [tg] env=[(false,assign tg env)]):PX prog w C B A env (.Assign [tg] e pos) σ (.nxt σ₂):=λH0 Mu ad s Q E htk F hQ=>by
 refine wpAny_Assign_stores (pe H0 Mu ad s _ _ F λv h₁ k₁ kp₁ F₁ hv=>?_) hs hw;refine rwl ht ?_;refine Bo (pa H0 Mu ad _ v _ _ F₁ hv λh₂ k₂ kp₂ F₂=>?_);exact hQ _ h₂ k₂ [] ad (λ_ m=>nomatch m) (kp₁.trans kp₂) ⟨rfl,F₂⟩
inductive ForR(asg:T->Sig->Sig->Prop)(body:Sig->Out->Prop):List T->Sig->Out->Prop
 |nil {σ:Sig}:ForR asg body [] σ (.nxt σ)
 |next {t:T} {ts:List T} {σ σ₁ σ₂:Sig} {r:Out}:asg t σ σ₁->body σ₁ (.nxt σ₂)->ForR asg body ts σ₂ r->ForR asg body (t::ts) σ r
 |ret {t r:T} {ts:List T} {σ σ₁:Sig}:asg t σ σ₁->body σ₁ (.ret r)->ForR asg body (t::ts) σ (.ret r)
theorem ForR.inv{asg:T->Sig->Sig->Prop}{body:Sig->Out->Prop}{t:T}{ts:List T}{σ:Sig}{r:Out}(x:ForR asg body (t::ts) σ r):
  ∃σ₁ o,asg t σ σ₁/\body σ₁ o/\match o with|.ret v=>r=.ret v|.nxt σ₂=>ForR asg body ts σ₂ r:=by
 cases x with
 |next a b c=>exact⟨_,_,a,b,c⟩
 |ret a b=>exact⟨_,_,a,b,rfl⟩
theorem Fm.hide{a:Addr}(F:Fm prog w C B H0 Mu env σ ad h)(k:Sub h h')(fr:h.get? a=none)(ex:∃o,h'.get? a=some o):Fm prog w C B (a::H0) Mu env σ ad h':=by
 refine F.add k fr ex (λ_ m=>m) (λ_ m=>.inr m) (λb m=>?_) λb m q=>?_
 ·rcases mA m with m|m
  ·exact .inr (List.mem_append_left _ m)
  ·exact(mC m).imp id λm=>List.mem_append_right _ m
 ·rcases mC q with rfl|q
  ·exact F.new fr (List.mem_append_left _ m)
  ·exact F.apart b m q
theorem Fm.itc{it:Addr}(F:Fm prog w C B H0 Mu env σ ad h)(ob:ItObj h it):∀n c,env.cells.lookup n=some c->c≠it:=λn c e q=>by
 obtain⟨⟨v,o,ho,hd⟩,_⟩:=F.cells n c e;obtain⟨o',c',ho',_,_,hn⟩:=ob.at_;rw [q,ho'] at ho;cases ho;exact hn _ hd
theorem ItObj.some{it:Addr}(ob:ItObj h it):∃o,h.get? it=some o:=by obtain⟨o,_,ho,_⟩:=ob.at_;exact⟨o,ho⟩
theorem Fm.tickM{it:Addr}(F:Fm prog w C B H0 Mu env σ ad h)(mi:it∈H0)(ob:ItObj h it)(ob':ItObj h' it)(hB:B.get? it=none)(k:Kp [it] h h'):Fm prog w C B H0 Mu env σ ad h':=
 F.mv1 mi (F.itc ob) hB k (λ_ m=>m) λ_=>ob'.some
theorem Fm.tick{it:Addr}(F:Fm prog w C B (it::H0) Mu env σ ad h)(ob:ItObj h it)(ob':ItObj h' it)(hB:B.get? it=none)(k:Kp [it] h h'):Fm prog w C B (it::H0) Mu env σ ad h':=F.tickM (.head _) ob ob' hB k
theorem E2{s:Shared}{it:Addr}{target:Expr}{v:Value}{Q:Unit->Shared->Prop}{E:Value->Shared->Prop}(ob:ItObj s.heap it)(hQ:Q () s):wpAny (model prog w) A (letOwnedTupleGo target (.ref it) v) Q E s:=by
 obtain⟨o,c,ho,hc,hq,_⟩:=ob.at_;have hn:["enumerate","zip","dict_itemiterator","dict_reverseitemiterator","odict_iterator","itertools.zip_longest","itertools.pairwise"].contains c=false:=by
  unfold IP at hq;simp only [Bool.and_eq_true,Bool.not_eq_true'] at hq;exact hq.1
 have body:∀es c p,wpAny (model prog w) A (letOwnedTupleGo (.Tuple es c p) (.ref it) v) Q E s:=λes c p=>by
  cases v<;>first
   |exact wpAny_pure hQ
   |(refine wpAny_bind (wpAny_load ho ?_)
     refine rwl hc ?_
     cases o.data<;>first
      |exact wpAny_pure hQ
      |(dsimp only;refine rwl hn ?_;exact wpAny_pure hQ))
 cases target with
 |Tuple es c p=>exact body es c p
 |List es p=>exact body [] 0 p
 |_=>exact wpAny_pure hQ
end
section
variable{prog:Program}{w:World}{C:Cx}{B:Heap}{A:Around}{H0 Mu:List Addr}{env:Env}{σ σ₁ σ₂:Sig}{pos:Pos}{n:Nat}{t:T}{ad:Str->Addr}{h h':Heap}
theorem Fm.stopN{it:Addr}(F:Fm prog w C B (it::H0) Mu env σ ad h)(ce:∀n c,env.cells.lookup n=some c->c≠it)(nh:it∉H0)(hB:B.get? it=none)(k:Kp [it] h h'):Fm prog w C B H0 Mu env σ ad h':=by
 exact F.mv1 (.head _) ce hB k (λ_ m=>.tail _ m) λm=>(nh m).elim
theorem Fm.stop{it:Addr}(F:Fm prog w C B (it::H0) Mu env σ ad h)(ob:ItObj h it)(nh:it∉H0)(hB:B.get? it=none)(k:Kp [it] h h'):Fm prog w C B H0 Mu env σ ad h':=
 F.stopN (F.itc ob) nh hB k
theorem Fm.older'{s0:Heap}(l:∀b∈Mu,∃o,h.get? b=some o)(k:Kp Mu s0 h){b:Addr}(e:h.get? b=none):s0.get? b=none:=by
 cases q:s0.get? b with
 |none=>rfl
 |some o=>
  by_cases m:b∈Mu
  ·obtain⟨o',ho'⟩:=l b m;rw [ho'] at e;cases e
  ·rw [k b o m q] at e;cases e
inductive FInv(prog:Program)(w:World)(C:Cx)(B:Heap)(A:Around)(env:Env)(H0 Mu:List Addr)(it:Addr)(s:Shared)(asg:T->Sig->Sig->Prop)(bd:Sig->Out->Prop)(r:Out):Nat->Shared->Prop
 |mk (ts:List T) (σ':Sig) (ad':Str->Addr) (nw:List Addr) (h:Heap) (k:Nat) (hk:C.tk<=k) (hr:ForR asg bd ts σ' r) (F:Fm prog w C B (it::H0) (nw++Mu) env σ' ad' h) (I:Iter prog w A ((nw++Mu)++it::H0) it ts h) (kp:Kp Mu s.heap h) (fn:∀b∈nw,s.heap.get? b=none):
  FInv prog w C B A env H0 Mu it s asg bd r ts.length {s with heap:=h,toks:=k}
theorem FInv.elim{it:Addr}{s:Shared}{asg:T->Sig->Sig->Prop}{bd:Sig->Out->Prop}{r:Out}{G:Nat->Shared->Prop}{m:Nat}{s':Shared}(i:FInv prog w C B A env H0 Mu it s asg bd r m s')
  (h0:∀σ' ad' nw h k,C.tk<=k->r=.nxt σ'->Fm prog w C B (it::H0) (nw++Mu) env σ' ad' h->Iter prog w A ((nw++Mu)++it::H0) it [] h->Kp Mu s.heap h->(∀b∈nw,s.heap.get? b=none)->G 0 {s with heap:=h,toks:=k})
  (h1:∀t ts σ' ad' nw h k σa o,C.tk<=k->asg t σ' σa->bd σa o->(match o with|.ret v=>r=.ret v|.nxt σ₂=>ForR asg bd ts σ₂ r)->Fm prog w C B (it::H0) (nw++Mu) env σ' ad' h->Iter prog w A ((nw++Mu)++it::H0) it (t::ts) h->Kp Mu s.heap h->(∀b∈nw,s.heap.get? b=none)->G (ts.length+1) {s with heap:=h,toks:=k}):G m s':=by
 obtain⟨ts,σ',ad',nw,h,k,hk,hr,F,I,kp,fn⟩:=i
 cases ts with
 |nil=>cases hr;exact h0 _ ad' nw h k hk rfl F I kp fn
 |cons t ts=>
  obtain⟨σa,o,q,q2,hr⟩:=hr.inv;exact h1 t ts σ' ad' nw h k σa o hk q q2 hr F I kp fn
theorem Jb{it:Addr}{h:Heap}(F:Fm prog w C B H0 Mu env σ ad h)(fr:h.get? it=none):it∉H0:=λm=>by
 obtain⟨o,ho⟩:=F.live it (List.mem_append_right _ m);rw [fr] at ho;cases ho
theorem Hh{it:Addr}{h:Heap}(F:Fm prog w C B H0 Mu env σ ad h)(fr:h.get? it=none):B.get? it=none:=by
 cases q:B.get? it with
 |none=>rfl
 |some o=>exact nomatch fr.symm.trans (F.base it o q)
theorem Jk{it:Addr}{h0 h h':Heap}(fr:h0.get? it=none)(k:Kp Mu h0 h)(k':Kp [it] h h'):Kp Mu h0 h':=λb o m e=>k' b o (λq=>by rw [mS q,fr] at e;cases e) (k b o m e)
theorem Vp{tg e:Expr}{body:List Stmt}{ts:List T}{asg:T->Sig->Sig->Prop}{bd:Sig->Out->Prop}{r:Out}(hA:AOk A n)
  (pe:PE prog w C B A env e σ t σ₁) (hi:DK t=some ts) (pa:∀t σ σ',asg t σ σ'->PA prog w C B A env tg σ t σ')
  (pb:∀σ r,bd σ r->PS prog w C B A env body σ r) (hr:ForR asg bd ts σ₁ r) (hf:∀x,foldedSetIterable e env x=pure x):
  PX prog w C B A env (.For tg e body [] pos) σ r:=λH0 Mu ad s Q E ht F hQ=>by
 refine wpAny_For (wpAny_with_toks (n:=C.tk) ht (pe H0 Mu ad s _ _ F λv h₁ k₁ kp₁ F₁ hv=>λht₁=>wpAny_with_toks (n:=C.tk) ht₁ (G6 hA F₁.hlive hv hi λit h₂ k₂ sb fr I=>λht₂=>?_))) hf;have fr:h₁.get? it=none:=fr;have hB:=Hh F₁ fr;have nh:=Jb F₁ fr;have fr0:s.heap.get? it=none:=F.older (nw:=[]) F₁ kp₁ fr;refine lid λgg kg=>?_
 have ex:∃o,h₂.get? it=some o:=by obtain⟨o,_,ho,_⟩:=I.obj.at_;exact⟨o,ho⟩
 have F₂:=F₁.hide sb fr ex;have kp₂:=kp₁.trans (Kp.of_sub sb);refine kg (codeAny_forLoop_any (I:=FInv prog w C B A env H0 Mu it s asg bd r) ?_ ts.length ⟨ts,σ₁,ad,[],h₂,k₂,ht₂,hr,F₂,I.perm λb m=>?_,kp₂,λ_ m=>nomatch m⟩)
 ·clear kg ex hi hr F₂ kp₂ kp₁ sb fr F₁ hv I ht₁ ht₂ ht F pe hf;intro m s' i;apply i.elim
  ·intro σ' ad' nw h k h0k er F' I' kp fn;subst er;exact I'.done λh' k' kp'=>wpAny_execs_nil (hQ _ _ _ nw ad' fn (Jk fr0 kp kp') ⟨rfl,F'.stop I'.obj nh hB kp'⟩)
  ·intro t ts σ' ad' nw h k σa o h0k q q2 hr F' I' kp fn;refine wpAny_with_toks (n:=C.tk) h0k (I'.next (List.mem_append_right _ (.head _)) λv h' k' kp' I2 hv=>λht'=>E2 I2.obj ?_);refine wpAny_with_toks (n:=C.tk) ht' (pa t σ' σa q (it::H0) (nw++Mu) ad' {s with heap:=h',toks:=k'} v _ _ (F'.tick I'.obj I2.obj hB kp') hv λh₃ k₃ kp₃ F₃=>λht₃=>?_);refine wpAny_with_toks (n:=C.tk) ht₃ (pb _ _ q2 (it::H0) (nw++Mu) ad' {s with heap:=h₃,toks:=k₃} _ _ ht₃ F₃ λfl h₄ k₄ nw₄ ad₄ fn₄ kp₄ ok=>λht₄=>?_);have kp3:Kp Mu s.heap h₃:=(Jk fr0 kp kp').through kp₃ fn;have kp4:Kp Mu s.heap h₄:=kp3.through kp₄ fn;have old:∀b,h₃.get? b=none->s.heap.get? b=none:=λb=>Fm.older' (λb m=>F₃.live b (List.mem_append_left _ (List.mem_append_right _ m))) kp3
   have fn4:∀b∈nw₄++nw,s.heap.get? b=none:=λb m=>(mA m).elim (λm=>old b (fn₄ b m)) (fn b)
   clear hv old kp3 F' kp fn
   cases o with
   |ret t=>
    refine lid λgg kg=>?_
    obtain⟨v,rfl,hv⟩:=ok;subst hr;exact kg (hQ _ _ _ (nw₄++nw) ad₄ fn4 kp4 ⟨v,rfl,hv.less λb m=>.tail _ m⟩)
   |nxt σb=>
    obtain⟨rfl,F4⟩:=ok;have nm:it∉nw++Mu:=λm=>F₃.apart it m (.head _)
    have I4:=I2.up (nw:=nw₄) (kp₃.trans kp₄) (λb m=>List.mem_append_left _ m) nm λb m=>Fm.older' (λb m=>F₃.live b (List.mem_append_left _ m)) kp₃ (fn₄ b m)
    rw [←List.append_assoc] at F4;exact⟨ts.length,Nat.lt_succ_self _,⟨ts,σb,ad₄,nw₄++nw,h₄,k₄,ht₄,hr,F4,I4.perm λb m=>by simpa [List.append_assoc] using m,kp4,fn4⟩⟩
 ·rcases mA m with m|m
  ·exact .tail _ (List.mem_append_left _ m)
  ·rcases mC m with rfl|m
   ·exact .head _
   ·exact .tail _ (List.mem_append_right _ m)
end
theorem HQ{elt target iter:Expr}{gens:List Comprehension}{scope:Scope}{pos:Pos}{d:Nat}{it acc:Value}{env:Env}{ifs:List Expr}(hg:gens[d]? =some ⟨target,iter,ifs,0⟩)(hn:gens[d+1]? =none):
  compTurn (.ListComp elt gens scope pos) d it acc env=(do
   standAt iter.pos
   match ←pyNext it with
   |none=>pure (.done .next)
   |some v=>
    letOwnedTupleGo target it v
    assign target env v
    let mut ok:=true
    for c in ifs do
     if ok then ok ←isTrue c env (eval c env)
    if ok then
     (do let _ ←call (.builtin "list.append") [acc,←eval elt env])
    again (.compLoop (.ListComp elt gens scope pos) d it acc env)):=by
 unfold compTurn;simp only [hg,hn];rfl
theorem KM{elt target iter tg' iter':Expr}{gens:List Comprehension}{scope:Scope}{pos:Pos}{d:Nat}{it acc:Value}{env:Env}{ifs ifs':List Expr}(hg:gens[d]? =some ⟨target,iter,ifs,0⟩)(hn:gens[d+1]? =some ⟨tg',iter',ifs',0⟩):
  compTurn (.ListComp elt gens scope pos) d it acc env=(do
   standAt iter.pos
   match ←pyNext it with
   |none=>pure (.done .next)
   |some v=>
    letOwnedTupleGo target it v
    assign target env v
    let mut ok:=true
    for c in ifs do
     if ok then ok ←isTrue c env (eval c env)
    if ok then
     let x ←eval iter' env
     standAt iter'.pos
     let x ←foldedSetIterable iter' env x
     let _ ←runOwn (.compStart (.ListComp elt gens scope pos) (d+1) (←holding [x] (pyIter x)) acc env) env
    again (.compLoop (.ListComp elt gens scope pos) d it acc env)):=by
 unfold compTurn;simp only [hg,hn];rfl
section
variable{prog:Program}{w:World}{A:Around}{E:Value->Shared->Prop}{R:Result->Shared->Prop}{s:Shared}
theorem DR{elt target iter:Expr}{gens:List Comprehension}{ifs:List Expr}{scope:Scope}{pos:Pos}{d:Nat}{it acc:Value}{env:Env}(hg:gens[d]? =some ⟨target,iter,ifs,0⟩)(hl:gens[d+1]? =none)(I:Nat->Shared->Prop)
  (turn:∀n s,I n s->wpAny (model prog w) A (pyNext it) (λr s₁=>match r with
   |none=>R (.ok .next) s₁
   |some v=>wpAny (model prog w) A (letOwnedTupleGo target it v) (λ_ s₁'=>wpAny (model prog w) A (assign target env v) (λ_ s₂=>
     wpAny (model prog w) A (forIn ifs true λc r=>if r=true then do let ok ←isTrue c env (eval c env);pure (ForInStep.yield ok) else pure (ForInStep.yield r)) (λok s₃=>
      if ok=true then wpAny (model prog w) A (eval elt env) (λx s₄=>
       wpAny (model prog w) A (call (.builtin "list.append") [acc,x]) (λ_ s₅=>∃m,m<n/\I m s₅) (notedBy (model prog w) A env λe s'=>R (.error e) s') s₄) (notedBy (model prog w) A env λe s'=>R (.error e) s') s₃
      else∃m,m<n/\I m s₃) (notedBy (model prog w) A env λe s'=>R (.error e) s') s₂) (notedBy (model prog w) A env λe s'=>R (.error e) s') s₁') (notedBy (model prog w) A env λe s'=>R (.error e) s') s₁) (notedBy (model prog w) A env λe s'=>R (.error e) s') s)
  (n:Nat) (h:I n s):codeAny (model prog w) A (.compLoop (.ListComp elt gens scope pos) d it acc env) R s:=by
 refine codeAny_loop rfl I (λn s hI=>?_) n h;show wpAny _ A ((compTurn (.ListComp elt gens scope pos) d it acc env).onRaise (λx=>do noteFrame x env;theTreesLotGoes x)) _ _ s;refine wpAny_noted ?_;refine rwl (HQ hg hl) ?_;refine wpAny_bind (wpAny_standAt (wpAny_bind (wpAny_mono (turn n s hI) (λr s₁ h₁=>?_) λ_ _ h'=>h')))
 cases r with
 |none=>exact wpAny_pure h₁
 |some v=>
  refine wpAny_bind (wpAny_mono h₁ (λ_ s₁' h₁'=>?_) λ_ _ h'=>h');refine wpAny_bind (wpAny_mono h₁' (λ_ s₂ h₂=>wpAny_bind (wpAny_mono h₂ (λok s₃ h₃=>?_) λ_ _ h'=>h')) λ_ _ h'=>h')
  cases ok with
  |false=>exact wpAny_pure ⟨rfl,h₃⟩
  |true=>
   exact wpAny_bind (wpAny_bind (wpAny_mono h₃ (λx s₄ h₄=>wpAny_bind (wpAny_mono h₄ (λ_ s₅ h₅=>wpAny_pure (wpAny_pure ⟨rfl,h₅⟩)) λ_ _ h'=>h')) λ_ _ h'=>h'))
theorem EG{elt target iter tg' iter':Expr}{gens:List Comprehension}{ifs ifs':List Expr}{scope:Scope}{pos:Pos}{d:Nat}{it acc:Value}{env:Env}(hg:gens[d]? =some ⟨target,iter,ifs,0⟩)(hl:gens[d+1]? =some ⟨tg',iter',ifs',0⟩)
  (hs:∀x,foldedSetIterable iter' env x=pure x) (I:Nat->Shared->Prop)
  (turn:∀n s,I n s->wpAny (model prog w) A (pyNext it) (λr s₁=>match r with
   |none=>R (.ok .next) s₁
   |some v=>wpAny (model prog w) A (letOwnedTupleGo target it v) (λ_ s₁'=>wpAny (model prog w) A (assign target env v) (λ_ s₂=>
     wpAny (model prog w) A (forIn ifs true λc r=>if r=true then do let ok ←isTrue c env (eval c env);pure (ForInStep.yield ok) else pure (ForInStep.yield r)) (λok s₃=>
      if ok=true then wpAny (model prog w) A (eval iter' env) (λx s₄=>
       wpAny (model prog w) A (pyIter x) (λit' s₅=>codeAny (model prog w) A (.compStart (.ListComp elt gens scope pos) (d+1) it' acc env) (λr s₆=>match r with|.ok _=>∃m,m<n/\I m s₆|.error e=>cameBackBy (model prog w) A env (notedBy (model prog w) A env λe s'=>R (.error e) s') e s₆) s₅)
        (notedBy (model prog w) A env λe s'=>R (.error e) s') s₄) (notedBy (model prog w) A env λe s'=>R (.error e) s') s₃
      else∃m,m<n/\I m s₃) (notedBy (model prog w) A env λe s'=>R (.error e) s') s₂) (notedBy (model prog w) A env λe s'=>R (.error e) s') s₁') (notedBy (model prog w) A env λe s'=>R (.error e) s') s₁) (notedBy (model prog w) A env λe s'=>R (.error e) s') s)
  (n:Nat) (h:I n s):codeAny (model prog w) A (.compLoop (.ListComp elt gens scope pos) d it acc env) R s:=by
 refine codeAny_loop rfl I (λn s hI=>?_) n h;show wpAny _ A ((compTurn (.ListComp elt gens scope pos) d it acc env).onRaise (λx=>do noteFrame x env;theTreesLotGoes x)) _ _ s;refine wpAny_noted ?_;refine rwl (KM hg hl) ?_;refine wpAny_bind (wpAny_standAt (wpAny_bind (wpAny_mono (turn n s hI) (λr s₁ h₁=>?_) λ_ _ h'=>h')))
 cases r with
 |none=>exact wpAny_pure h₁
 |some v=>
  refine wpAny_bind (wpAny_mono h₁ (λ_ s₁' h₁'=>?_) λ_ _ h'=>h');refine wpAny_bind (wpAny_mono h₁' (λ_ s₂ h₂=>wpAny_bind (wpAny_mono h₂ (λok s₃ h₃=>?_) λ_ _ h'=>h')) λ_ _ h'=>h')
  cases ok with
  |false=>exact wpAny_pure ⟨rfl,h₃⟩
  |true=>
   refine wpAny_bind (wpAny_mono h₃ (λx s₄ h₄=>wpAny_bind (wpAny_standAt (wpAny_bind (wpAny_of_eq (hs x) (wpAny_bind (wpAny_holding (wpAny_mono h₄ (λit' s₅ h₅=>wpAny_bind (wpAny_runOwn ?_)) λ_ _ h'=>h'))))))) λ_ _ h'=>h');exact codeAny_mono h₅ λr s₆ h₆=>by
    cases r with
    |ok f=>exact wpAny_pure (Q:=λfin s'=>_) ⟨rfl,h₆⟩
    |error e=>exact h₆
theorem Cm{elt target iter:Expr}{gens:List Comprehension}{ifs:List Expr}{scope:Scope}{pos:Pos}{d:Nat}{it acc:Value}{env:Env}(hg:gens[d]? =some ⟨target,iter,ifs,0⟩)
  (h0:codeAny (model prog w) A (.compLoop (.ListComp elt gens scope pos) d it acc env) R s)
  (h:wpAny (model prog w) A (pyIter it) (λit' s'=>codeAny (model prog w) A (.compLoop (.ListComp elt gens scope pos) d it' acc env) R s')
   (notedBy (model prog w) A env λx s'=>R (.error x) s') s):
  codeAny (model prog w) A (.compStart (.ListComp elt gens scope pos) d it acc env) R s:=by
 refine codeAny_of_tree ?_;refine wpAny_notedAt ?_;unfold compStart;refine rwl (show(clausesOf (.ListComp elt gens scope pos))[d]? =some ⟨target,iter,ifs,0⟩ from hg) ?_;refine wpAny_bind (wpAny_askSetting (wpAny_ite ?_))
 split
 ·first
   |exact wpAny_bind (wpAny_pure (wpAny_pure (And.intro rfl h0)))
   |exact wpAny_pure (And.intro rfl h0)
 ·first
   |exact wpAny_bind (wpAny_rule (wpAny_bind (wpAny_standAt (wpAny_bind (wpAny_mono h (λit' s' h'=>wpAny_pure (And.intro rfl h')) λ_ _ x=>x)))))
   |(refine wpAny_bind (wpAny_rule ?_);show wpAny _ _ (standAt iter.pos>>=_) _ _ s;exact wpAny_bind (wpAny_standAt (wpAny_bind (wpAny_mono h (λit' s' h'=>wpAny_pure (And.intro rfl h')) λ_ _ x=>x))))
end
noncomputable def CE:Expr->Bool
 |.Set .. =>false
 |_=>true
theorem B6{e:Expr}(h:CE e=true)(env:Env)(x:Value):foldedSetIterable e env x=pure x:=by
 cases e<;>first|rfl|exact Bool.noConfusion (show false=true from h)
section
variable(ev:Expr->Sig->T->Sig->Prop)(tb:Expr->Sig->Bool->Sig->Prop)(asg:Expr->T->Sig->Sig->Prop)
inductive IfsR:List Expr->Sig->Bool->Sig->Prop
 |nil {σ:Sig}:IfsR [] σ true σ
 |yes {c:Expr} {cs:List Expr} {σ σ₁ σ₂:Sig} {b:Bool}:tb c σ true σ₁->IfsR cs σ₁ b σ₂->IfsR (c::cs) σ b σ₂
 |no {c:Expr} {cs:List Expr} {σ σ₁:Sig}:tb c σ false σ₁->IfsR (c::cs) σ false σ₁
noncomputable def Dv(one:T->Sig->List T->Sig->Prop):List T->Sig->List T->Sig->Prop
 |[],σ,out,σ'=>out=[]/\σ'=σ
 |t::ts,σ,out,σ'=>∃o σ₁ o₂,one t σ o σ₁/\Dv one ts σ₁ o₂ σ'/\out=o++o₂
noncomputable def HU(elt:Expr):Comprehension->List Comprehension->T->Sig->List T->Sig->Prop
 |g,gs,t,σ,out,σ'=>∃σ₁ b σ₂,asg g.target t σ σ₁/\IfsR tb g.ifs σ₁ b σ₂/\(b=false->out=[]/\σ'=σ₂)/\(b=true->match gs with
   |[]=>∃t',ev elt σ₂ t' σ'/\out=[t']
   |g'::gs'=>∃x σ₃ ts,ev g'.iter σ₂ x σ₃/\DK x=some ts/\Dv (λt σ o σ'=>HU elt g' gs' t σ o σ') ts σ₃ out σ')
 termination_by structural _ gs=>gs
end
noncomputable def PI(prog:Program)(w:World)(C:Cx)(B:Heap)(A:Around)(env:Env)(cs:List Expr)(σ:Sig)(b:Bool)(σ':Sig):Prop:=
 ∀(H0 Mu:List Addr) (ad:Str->Addr) (s:Shared) (Q:Bool->Shared->Prop) (E:Value->Shared->Prop),Fm prog w C B H0 Mu env σ ad s.heap->
  (∀h' k,Kp Mu s.heap h'->Fm prog w C B H0 Mu env σ' ad h'->Q b {s with heap:=h',toks:=k})->
  wpAny (model prog w) A (forIn cs true λc r=>if r=true then do let ok ←isTrue c env (eval c env);pure (ForInStep.yield ok) else pure (ForInStep.yield r)) Q E s
section
variable{prog:Program}{w:World}{C:Cx}{B:Heap}{A:Around}{env:Env}{σ σ₁ σ₂:Sig}{n:Nat}
theorem JH{cs:List Expr}{s:Shared}{Q:Bool->Shared->Prop}{E:Value->Shared->Prop}(h:Q false s):
  wpAny (model prog w) A (forIn cs false λc r=>if r=true then do let ok ←isTrue c env (eval c env);pure (ForInStep.yield ok) else pure (ForInStep.yield r)) Q E s:=by
 induction cs with
 |nil=>exact wpAny_pure h
 |cons c cs ih=>
  simp only [List.forIn_cons,Bool.false_eq_true,if_false];exact wpAny_bind (wpAny_pure ih)
theorem Uh{tb:Expr->Sig->Bool->Sig->Prop}(ht:∀e σ b σ',tb e σ b σ'->PB prog w C B A env e σ b σ'){cs:List Expr}{σ:Sig}{b:Bool}{σ':Sig}(e:IfsR tb cs σ b σ'):PI prog w C B A env cs σ b σ':=by
 induction e with
 |nil=>exactλH0 Mu ad s Q E F hQ=>wpAny_tests_nil (hQ s.heap s.toks (Kp.refl _ _) F)
 |yes q _ ih=>
  intro H0 Mu ad s Q E F hQ;simp only [List.forIn_cons,if_true];refine wpAny_bind (wpAny_bind (ht _ _ _ _ q H0 Mu ad s _ _ F λh₁ k₁ kp₁ F₁=>wpAny_pure ?_));exact ih H0 Mu ad _ _ _ F₁ λh₂ k₂ kp₂ F₂=>hQ h₂ k₂ (kp₁.trans kp₂) F₂
 |no q=>
  intro H0 Mu ad s Q E F hQ;simp only [List.forIn_cons,if_true];refine wpAny_bind (wpAny_bind (ht _ _ _ _ q H0 Mu ad s _ _ F λh₁ k₁ kp₁ F₁=>wpAny_pure ?_));exact JH (hQ h₁ k₁ kp₁ F₁)
end
section
variable{prog:Program}{w:World}{C:Cx}{B:Heap}{A:Around}{H0 Mu:List Addr}{env:Env}{σ σ₁ σ₂:Sig}{n:Nat}{t:T}{ad:Str->Addr}{h h':Heap}
theorem Hn{a:Addr}{vs:Array Value}(i:Lst h a vs):ItObj h a:=by
 obtain⟨o,ho,hc,n,hd,_⟩:=i;exact⟨o,_,ho,hc,by decide,λv q=>by rw [hd] at q;cases q⟩
noncomputable def PL(prog:Program)(w:World)(C:Cx)(B:Heap)(A:Around)(env:Env)(e:Expr)(d:Nat)(ts:List T)(σ:Sig)(out:List T)(σ':Sig):Prop:=
 ∀(H1 Mu:List Addr) (ad:Str->Addr) (s:Shared) (it acc:Addr) (vs:List Value) (R:Result->Shared->Prop),Fm prog w C B (it::H1) Mu env σ ad s.heap->it∉H1->acc∈H1->B.get? it=none->B.get? acc=none->
  Iter prog w A (Mu++it::H1) it ts s.heap->Lst s.heap acc (List.toArray vs)->vs.length+out.length<=4000->
  (∀h' k ws,Kp (it::acc::Mu) s.heap h'->Fm prog w C B H1 Mu env σ' ad h'->Lst h' acc (List.toArray (vs++ws))->HoldsL prog w (Mu++H1) h' out ws->R (.ok .next) {s with heap:=h',toks:=k})->
  codeAny (model prog w) A (.compLoop e d (.ref it) (.ref acc) env) R s
theorem UU{H1 Mu:List Addr}{it:Addr}:∀b∈Mu++H1,b∈Mu++it::H1:=λb m=>by
 rcases mA m with m|m
 ·exact List.mem_append_left _ m
 ·exact List.mem_append_right _ (List.mem_cons_of_mem _ m)
theorem Iter.mid{it:Addr}{ts:List T}(I:Iter prog w A (it::(Mu++H0)) it ts h):Iter prog w A (Mu++it::H0) it ts h:=I.perm λb m=>by
 rcases mA m with m|m
 ·exact .tail _ (List.mem_append_left _ m)
 ·rcases mC m with rfl|m
  ·exact .head _
  ·exact .tail _ (List.mem_append_right _ m)
structure LoopAt(prog:Program)(w:World)(C:Cx)(B:Heap)(A:Around)(env:Env)(H1 Mu:List Addr)(ad:Str->Addr)(it acc:Addr)(vs:List Value)(h0:Heap)(ts:List T)(σ:Sig)(done:List T)(h:Heap):Prop where
 fm:Fm prog w C B (it::H1) Mu env σ ad h
 iter:Iter prog w A (Mu++it::H1) it ts h
 kp:Kp (it::acc::Mu) h0 h
 got:∃ws,Lst h acc (List.toArray (vs++ws))/\HoldsL prog w (Mu++it::H1) h done ws
theorem LoopAt.put{H1:List Addr}{it acc:Addr}{vs:List Value}{h0:Heap}{ts:List T}{done:List T}{s:Shared}{x:Value}{t:T}{Q:Value->Shared->Prop}{E:Value->Shared->Prop}
  (L:LoopAt prog w C B A env H1 Mu ad it acc vs h0 ts σ done s.heap) (ma:acc∈H1) (ni:it∉H1) (hB:B.get? acc=none) (hx:Holds prog w (Mu++it::H1) s.heap t x) (hsz:vs.length+done.length<=4000)
  (hQ:∀v h',LoopAt prog w C B A env H1 Mu ad it acc vs h0 ts σ (done++[t]) h'->Q v {s with heap:=h'}):
  wpAny (model prog w) A (call (.builtin "list.append") [.ref acc,x]) Q E s:=by
 refine lid λgg kk=>?_
 obtain⟨F,I,kp,ws,hl,hd⟩:=L;refine kk ?_;refine wpAny_list_append_plain hl.plain (λh' hl' hs=>?_) (by
  (refine rwl List.size_toArray ?_;refine rwl List.length_append ?_;refine rwl hd.length ?_)
  show _<=sizeLine;exact Nat.le_trans hsz (by decide))
 have k1:=By hs;have ai:acc∈it::H1:=List.mem_cons_of_mem _ ma;have ah:acc∈Mu++it::H1:=List.mem_append_right _ ai;have kh:Kp (Mu++it::H1) s.heap h':=k1.mono λb m=>by refine rwl (mS m) ?_;exact ah
 have hl2:Lst h' acc (List.toArray (vs++(ws++[x]))):=by
  have:List.toArray (vs++(ws++[x]))=(List.toArray (vs++ws)).push x:=by simp
  refine rwl this ?_;exact Lst.of hl'
 refine hQ _ _ ⟨F.tickM ai (Hn hl) (Hn hl2) hB k1,?_,?_,ws++[x],hl2,(hd.up kh).append (.one (hx.up kh))⟩
 ·exact(I.up (nw:=[]) k1 (λb m=>by refine rwl (mS m) ?_;exact ah) (λm=>ni (mS m▸ma)) λ_ m=>nomatch m)
 ·exact kp.trans (k1.mono λb m=>by refine rwl (mS m) ?_;simp)
theorem LoopAt.move{H1:List Addr}{it acc:Addr}{vs:List Value}{h0:Heap}{ts:List T}{done:List T}(L:LoopAt prog w C B A env H1 Mu ad it acc vs h0 ts σ done h)(ma:acc∈H1)
  (k:Kp Mu h h') (F':Fm prog w C B (it::H1) Mu env σ₁ ad h'):LoopAt prog w C B A env H1 Mu ad it acc vs h0 ts σ₁ done h':=by
 refine lid λgg kk=>?_
 obtain⟨F,I,kp,ws,⟨o,ho,hl⟩,hd⟩:=L;refine kk ?_;have nm:it∉Mu:=λm=>F.apart it m (.head _)
 have na:acc∉Mu:=λm=>F.apart acc m (List.mem_cons_of_mem _ ma)
 have km:∀b∈Mu,b∈Mu++it::H1:=λb m=>List.mem_append_left _ m
 exact⟨F',(I.up (nw:=[]) k km nm λ_ m=>nomatch m),kp.trans (k.mono λb m=>by simp [m]),ws,⟨o,k _ _ na ho,hl⟩,hd.up (k.mono km)⟩
end
section
variable{prog:Program}{w:World}{C:Cx}{B:Heap}{A:Around}{env:Env}{n:Nat}
variable{ev:Expr->Sig->T->Sig->Prop}{tb:Expr->Sig->Bool->Sig->Prop}{asg:Expr->T->Sig->Sig->Prop}
section
variable{H1 Mu:List Addr}{ad:Str->Addr}{it acc:Addr}{vs:List Value}{h0 h h':Heap}{ts:List T}{t:T}{σ:Sig}{dn:List T}
theorem MI{xs:Array Value}(l:Lst h acc xs)(k:Kp [it] h h')(n:acc≠it):Lst h' acc xs:=by obtain⟨o,ho,q⟩:=l;exact⟨o,k _ _ (λm=>n (mS m)) ho,q⟩
theorem Uu(k:Kp [it] h h'):Kp (Mu++it::H1) h h':=k.mono λb m=>List.mem_append_right _ (mS m▸.head _)
theorem Qv(k:Kp [it] h h'):Kp (it::acc::Mu) h h':=k.mono λb m=>mS m▸.head _
theorem Un(ni:it∉H1)(ma:acc∈H1):acc≠it:=λq=>ni (q▸ma)
theorem LoopAt.stop(L:LoopAt prog w C B A env H1 Mu ad it acc vs h0 [] σ dn h)(ma:acc∈H1)(ni:it∉H1)(hB:B.get? it=none)(kp':Kp [it] h h'):
  ∃ws,Kp (it::acc::Mu) h0 h'/\Fm prog w C B H1 Mu env σ ad h'/\Lst h' acc (List.toArray (vs++ws))/\HoldsL prog w (Mu++H1) h' dn ws:=by
 refine lid λgg kk=>?_
 obtain⟨F1,I1,kp,ws,il1,hd⟩:=L;refine kk ?_;exact⟨ws,kp.trans (Qv kp'),F1.stop I1.obj ni hB kp',MI il1 kp' (Un ni ma),(hd.up (Uu kp')).less UU⟩
theorem LoopAt.tick(L:LoopAt prog w C B A env H1 Mu ad it acc vs h0 (t::ts) σ dn h)(ma:acc∈H1)(ni:it∉H1)(hB:B.get? it=none)(kp':Kp [it] h h')(I₁:Iter prog w A (Mu++it::H1) it ts h'):LoopAt prog w C B A env H1 Mu ad it acc vs h0 ts σ dn h':=by
 obtain⟨F1,I1,kp,ws,il1,hd⟩:=L;exact⟨F1.tick I1.obj I₁.obj hB kp',I₁,kp.trans (Qv kp'),ws,MI il1 kp' (Un ni ma),hd.up (Uu kp')⟩
end
inductive LInv(prog:Program)(w:World)(C:Cx)(B:Heap)(A:Around)(env:Env)(H1 Mu:List Addr)(ad:Str->Addr)(it acc:Addr)(vs:List Value)(s:Shared)(one:T->Sig->List T->Sig->Prop)(out:List T)(σ':Sig):Nat->Shared->Prop
 |mk (ts:List T) (σ₁:Sig) (dn rs:List T) (h:Heap) (k:Nat) (hl:Dv one ts σ₁ rs σ') (ho:out=dn++rs) (L:LoopAt prog w C B A env H1 Mu ad it acc vs s.heap ts σ₁ dn h):LInv prog w C B A env H1 Mu ad it acc vs s one out σ' ts.length {s with heap:=h,toks:=k}
theorem Xx{b:Bool}{X Y:Prop}(h2:b=false->Y)(h1:b=true->X):if b=true then X else Y:=by
 cases b with
 |true=>exact h1 rfl
 |false=>exact h2 rfl
theorem LInv.elim{prog:Program}{w:World}{C:Cx}{B:Heap}{A:Around}{env:Env}{H1 Mu:List Addr}{ad:Str->Addr}{it acc:Addr}{vs:List Value}{s:Shared}{one:T->Sig->List T->Sig->Prop}{out:List T}{σ':Sig}{G:Nat->Shared->Prop}{m:Nat}{s':Shared}(i:LInv prog w C B A env H1 Mu ad it acc vs s one out σ' m s')
  (h0:∀h k,LoopAt prog w C B A env H1 Mu ad it acc vs s.heap [] σ' out h->G 0 {s with heap:=h,toks:=k})
  (h1:∀t ts σ₁ σ₂ dn o1 o2 h k,one t σ₁ o1 σ₂->Dv one ts σ₂ o2 σ'->out=dn++(o1++o2)->LoopAt prog w C B A env H1 Mu ad it acc vs s.heap (t::ts) σ₁ dn h->G (ts.length+1) {s with heap:=h,toks:=k}):G m s':=by
 obtain⟨ts,σ₁,dn,rs,h,k,hl,ho,L⟩:=i
 cases ts with
 |nil=>
  obtain⟨rfl,rfl⟩:=hl;rw [List.append_nil] at ho;subst ho;exact h0 h k L
 |cons t ts=>
  obtain⟨o1,σ₂,o2,q,q2,rfl⟩:=hl;exact h1 t ts σ₁ σ₂ dn o1 o2 h k q q2 ho L
section
variable{H1 Mu:List Addr}{ad:Str->Addr}{it it' acc:Addr}{vs ws ws':List Value}{h0 h₄ h₅ h':Heap}{ts:List T}{t:T}{σ σ₁ σ₂:Sig}{dn o1:List T}
theorem ON{a b c:List T}{out:List T}{n:Nat}(ho:out=a++(b++c))(h:n+out.length<=4000):n+a.length+b.length<=4000:=by
 subst ho;rw [List.length_append,List.length_append,←Nat.add_assoc,←Nat.add_assoc] at h;exact Nat.le_trans (Nat.le_add_right _ _) h
theorem MA(il:Lst h₄ acc (List.toArray vs)):Lst h₄ acc (List.toArray (vs++[])):=by rw [List.append_nil];exact il
theorem LoopAt.inner(L:LoopAt prog w C B A env H1 Mu ad it acc vs h0 ts σ dn h₄)(ma:acc∈H1)(ni:it∉H1)(fr:h₄.get? it'=none)(sb:Sub h₄ h₅)(hd₄:HoldsL prog w (Mu++it::H1) h₄ dn ws)
  (kp':Kp (it'::acc::Mu) h₅ h') (F':Fm prog w C B (it::H1) Mu env σ₂ ad h') (il':Lst h' acc (List.toArray ((vs++ws)++ws'))) (hd':HoldsL prog w (Mu++it::H1) h' o1 ws'):LoopAt prog w C B A env H1 Mu ad it acc vs h0 ts σ₂ (dn++o1) h':=by
 have nm:it∉Mu:=λm=>F'.apart it m (.head _)
 have ne:it'≠it:=λe=>by
  obtain⟨o,_,ho,_⟩:=L.iter.obj.at_;rw [←e,fr] at ho;cases ho
 have nit:it∉it'::acc::Mu:=λm=>by
  rcases mC m with e|m
  ·exact ne e.symm
  ·rcases mC m with e|m
   ·exact ni (e▸ma)
   ·exact nm m
 have am:acc∈Mu++it::H1:=List.mem_append_right _ (List.mem_cons_of_mem _ ma);have out:∀{X:List Addr},(∀b∈acc::Mu,b∈X)->Kp X h₄ h':=λhX b o m e=>kp' b o (λq=>by
  rcases mC q with e2|q
  ·rw [e2,fr] at e;cases e
  ·exact m (hX b q)) (sb b o e)
 have kk:Kp (Mu++it::H1) h₄ h':=out λb m=>by
  rcases mC m with e|m
  ·exact e▸am
  ·exact List.mem_append_left (it::H1) m
 have il5:Iter prog w A ([it']++(Mu++it::H1)) it ts h₅:=L.iter.up (X:=[]) (nw:=[it']) (Kp.of_sub sb) (λb m=>nomatch m) (λm=>nomatch m) λb m=>by refine rwl (mS m) ?_;exact fr
 have il6:=il5.up (nw:=[]) kp' (λb m=>by
  rcases mC m with e|m
  ·exact List.mem_append_left (Mu++it::H1) (e▸List.mem_singleton.mpr rfl)
  ·rcases mC m with e|m
   ·exact List.mem_append_right [it'] (e▸am)
   ·exact List.mem_append_right [it'] (List.mem_append_left (it::H1) m)) nit λ_ m=>nomatch m
 exact⟨F',il6.perm λb m=>List.mem_append_right [] (List.mem_append_right [it'] m),L.kp.trans (out λb m=>.tail _ m),ws++ws',by rw [←List.append_assoc];exact il',(hd₄.up kk).append hd'⟩
end
theorem SY(hA:AOk A n)(hev:∀e σ t σ',ev e σ t σ'->PE prog w C B A env e σ t σ')(htb:∀e σ b σ',tb e σ b σ'->PB prog w C B A env e σ b σ')
  (hasg:∀e t σ σ',asg e t σ σ'->PA prog w C B A env e σ t σ') {elt:Expr} {gens:List Comprehension} {scope:Scope} {pos:Pos} (hall:∀g∈gens,g.is_async=0/\CE g.iter=true):
  ∀(rest:List Comprehension) (g:Comprehension) (d:Nat),gens[d]? =some g->g.is_async=0->gens.drop (d+1)=rest->∀(ts:List T) (σ:Sig) (out:List T) (σ':Sig),
   Dv (λt σ o σ'=>HU ev tb asg elt g rest t σ o σ') ts σ out σ'->PL prog w C B A env (.ListComp elt gens scope pos) d ts σ out σ':=by
 intro rest
 induction rest with
 |nil=>
  intro g d hg h0 hr ts σ out σ' hl H1 Mu ad s it acc vs R F ni ma hB hBa I il hsz hQ;have hn:gens[d+1]? =none:=List.getElem?_eq_none_iff.mpr (List.drop_eq_nil_iff.mp hr);obtain⟨tg,iter,ifs,asy⟩:=g;have h0:asy=0:=h0;subst h0;clear hr;refine DR hg hn (LInv prog w C B A env H1 Mu ad it acc vs s (λt σ o σ'=>HU ev tb asg elt ⟨tg,iter,ifs,0⟩ [] t σ o σ') out σ') ?_ ts.length ⟨ts,σ,[],out,s.heap,s.toks,hl,rfl,F,I,Kp.refl _ _,[],MA il,rfl⟩;clear hl F I il hg hn;intro m s' i;apply i.elim
  ·intro h k L;refine L.iter.done λh' k' kp'=>lid λgg kg=>?_
   obtain⟨ws,a1,a2,a3,a4⟩:=L.stop ma ni hB kp';exact kg (hQ _ _ ws a1 a2 a3 a4)
  ·intro t ts σ₁ σ₂ dn o1 o2 h k q q2 ho L;refine L.iter.next (List.mem_append_right _ (.head _)) λv h₁ k₁ kp₁ I₁ hv=>E2 I₁.obj (lid λgg kg=>?_)
   obtain⟨σa,b,σb,qa,qb,qf,qt⟩:=q;have L₁:=L.tick ma ni hB kp₁ I₁;refine kg (hasg _ _ _ _ qa (it::H1) Mu ad _ v _ _ L₁.fm hv λh₂ k₂ kp₂ F₂=>Uh htb qb (it::H1) Mu ad _ _ _ F₂ λh₃ k₃ kp₃ F₃=>?_);have L₃:=(L₁.move ma kp₂ F₂).move ma kp₃ F₃;clear kg L L₁ F₂ kp₂ kp₃ qa qb hv;refine Xx (λhb=>lid λgg kg=>?_) λhb=>lid λgg kg=>?_
   ·obtain⟨rfl,rfl⟩:=qf hb;exact kg ⟨ts.length,Nat.lt_succ_self _,⟨ts,_,dn,o2,h₃,k₃,q2,ho,L₃⟩⟩
   ·obtain⟨te,qe,rfl⟩:=qt hb;refine kg (hev _ _ _ _ qe (it::H1) Mu ad _ _ _ F₃ λx h₄ k₄ kp₄ F₄ hx=>?_);exact LoopAt.put (s:={s with heap:=h₄,toks:=k₄}) (L₃.move ma kp₄ F₄) ma ni hBa hx (Nat.le_trans (Nat.le_add_right _ _) (ON ho hsz)) λv h₅ L₅=>⟨ts.length,Nat.lt_succ_self _,⟨ts,_,dn++[te],o2,h₅,k₄,q2,ho.trans (List.append_assoc ..).symm,L₅⟩⟩
 |cons g' rest ih=>
  intro g d hg h0 hr ts σ out σ' hl H1 Mu ad s it acc vs R F ni ma hB hBa I il hsz hQ;obtain⟨tg,iter,ifs,asy⟩:=g;have h0:asy=0:=h0;subst h0;obtain⟨tg',iter',ifs',asy'⟩:=g';have hlt:d+1<gens.length:=Nat.lt_of_not_le λq=>by rw [List.drop_eq_nil_iff.mpr q] at hr;cases hr
  have hd:=hr.symm.trans (List.drop_eq_getElem_cons hlt);have hn:gens[d+1]? =some ⟨tg',iter',ifs',asy'⟩:=(List.getElem?_eq_getElem hlt).trans (congrArg some (List.cons.inj hd).1.symm);obtain⟨h0,hns⟩:=hall _ (List.mem_of_getElem? hn);have h0:asy'=0:=h0;have hns:CE iter'=true:=hns;subst h0;have hr':gens.drop (d+1+1)=rest:=(List.cons.inj hd).2.symm;have ih:=ih ⟨tg',iter',ifs',0⟩ (d+1) hn rfl hr';clear hr hr' hd hlt hall;refine EG (tg':=tg') (iter':=iter') (ifs':=ifs') hg hn (B6 hns env) (LInv prog w C B A env H1 Mu ad it acc vs s (λt σ o σ'=>HU ev tb asg elt ⟨tg,iter,ifs,0⟩ (⟨tg',iter',ifs',0⟩::rest) t σ o σ') out σ') ?_ ts.length ⟨ts,σ,[],out,s.heap,s.toks,hl,rfl,F,I,Kp.refl _ _,[],MA il,rfl⟩;clear hl F I il hg hns;intro m s' i;apply i.elim
  ·intro h k L;refine L.iter.done λh' k' kp'=>lid λgg kg=>?_
   obtain⟨ws,a1,a2,a3,a4⟩:=L.stop ma ni hB kp';exact kg (hQ _ _ ws a1 a2 a3 a4)
  ·intro t ts σ₁ σ₂ dn o1 o2 h k q q2 ho L;refine L.iter.next (List.mem_append_right _ (.head _)) λv h₁ k₁ kp₁ I₁ hv=>E2 I₁.obj (lid λgg kg=>?_)
   obtain⟨σa,b,σb,qa,qb,qf,qt⟩:=q;have L₁:=L.tick ma ni hB kp₁ I₁;refine kg (hasg _ _ _ _ qa (it::H1) Mu ad _ v _ _ L₁.fm hv λh₂ k₂ kp₂ F₂=>Uh htb qb (it::H1) Mu ad _ _ _ F₂ λh₃ k₃ kp₃ F₃=>?_);have L₃:=(L₁.move ma kp₂ F₂).move ma kp₃ F₃;clear kg L L₁ F₂ kp₂ kp₃ qa qb hv;refine Xx (λhb=>lid λgg kg=>?_) λhb=>lid λgg kg=>?_
   ·obtain⟨rfl,rfl⟩:=qf hb;exact kg ⟨ts.length,Nat.lt_succ_self _,⟨ts,_,dn,o2,h₃,k₃,q2,ho,L₃⟩⟩
   ·obtain⟨te,σe,ts',qe,qi,q⟩:=qt hb;refine kg (hev _ _ _ _ qe (it::H1) Mu ad _ _ _ F₃ λx h₄ k₄ kp₄ F₄ hx=>?_);have L₄:=L₃.move ma kp₄ F₄;clear kg L₃ F₃ kp₄ qe qt qf;refine G6 hA F₄.hlive hx qi λit' h₅ k₅ sb fr I'=>lid λgg kg=>?_
    have fr4:h₄.get? it'=none:=fr;have hB':=Hh F₄ fr4;have ex:∃o,h₅.get? it'=some o:=by obtain⟨o,_,ho,_⟩:=I'.obj.at_;exact⟨o,ho⟩
    have nh:=Jb F₄ fr4;obtain⟨ws,il₄,hd₄⟩:=L₄.got;have F₅:=F₄.hide sb fr4 ex;clear hx ex F₄ fr;refine kg ?_;have run:codeAny (model prog w) A (.compLoop (.ListComp elt gens scope pos) (d+1) (.ref it') (.ref acc) env)
      (λr s₆=>match r with|.ok _=>(∃m',m'<ts.length+1/\LInv prog w C B A env H1 Mu ad it acc vs s (λt σ o σ'=>HU ev tb asg elt ⟨tg,iter,ifs,0⟩ (⟨tg',iter',ifs',0⟩::rest) t σ o σ') out σ' m' s₆)|.error e=>cameBackBy (model prog w) A env (notedBy (model prog w) A env λe s'=>R (.error e) s') e s₆) {s with heap:=h₅,toks:=k₅}:=by
     refine ih ts' σe o1 σ₂ q (it::H1) Mu ad {s with heap:=h₅,toks:=k₅} it' acc (vs++ws) _ F₅ nh (List.mem_cons_of_mem _ ma) hB' hBa I'.mid (by obtain⟨o,ho,q⟩:=il₄;exact⟨o,sb _ _ ho,q⟩) (by(refine rwl List.length_append ?_;refine rwl hd₄.length ?_);exact ON ho hsz) λh' k ws' kp' F' il' hd'=>?_
     exact⟨ts.length,Nat.lt_succ_self _,⟨ts,_,dn++o1,o2,h',k,q2,ho.trans (List.append_assoc ..).symm,L₄.inner ma ni fr4 sb hd₄ kp' F' il' hd'⟩⟩
    exact Cm hn run (I'.self run)
end
structure Fs where
 names:List (Str×NameKind)
 cn:List Str
 st:List Str
structure Lk(C:Cx)(env:Env)(f:Fs):Prop where
 names:env.scope.names=f.names
 cn:∀n∈f.cn,(env.cells.lookup n).isSome=true
 st:C.st=f.st
 kind:env.scope.kind=.function
noncomputable def DM(names:List (Str×NameKind)):List Str:=(names.filter λx=>x.2== .free).map (·.1)
noncomputable def B9(names:List (Str×NameKind)):List Str:=(names.filter λx=>x.2== .cell).map (·.1)
theorem Iq{names:List (Str×NameKind)}{n:Str}(h:n∈DM names):(n,NameKind.free)∈names:=by
 unfold DM at h;obtain⟨x,hx,rfl⟩:=mM h;obtain⟨hm,hk⟩:=mF hx;obtain⟨a,b⟩:=x;have:b=.free:=by simpa using hk
 subst this;exact hm
theorem DA{env:Env}:∀(names:List (Str×NameKind)) (acc:List (Str×Addr)),(∀x∈names,x.2=.free->(env.cells.lookup x.1).isSome=true)->(∀n c,acc.lookup n=some c->env.cells.lookup n=some c)->
  ∃cl,(forIn (m:=Sem) names acc λ(x:Str×NameKind) cs=>if(x.2== .free)=true then do let a ←cellOf env x.1;pure (ForInStep.yield ((x.1,a)::cs)) else pure (ForInStep.yield cs))=pure cl/\
   (∀n c,cl.lookup n=some c->env.cells.lookup n=some c)/\(∀n,(acc.lookup n).isSome=true->(cl.lookup n).isSome=true)/\∀n,(n,NameKind.free)∈names->(cl.lookup n).isSome=true
 |[],acc,_,ha=>⟨acc,rfl,ha,λ_ h=>h,λ_ m=>nomatch m⟩
 |(x,k)::r,acc,hx,ha=>by
  by_cases hk:(k==NameKind.free)=true
  ·obtain⟨c,hc⟩:=Option.isSome_iff_exists.mp (hx (x,k) (.head _) (by simpa using hk));have ha':∀n d,List.lookup n ((x,c)::acc)=some d->env.cells.lookup n=some d:=λn d e=>by
    rw [List.lookup_cons] at e
    cases q:n==x with
    |true=>rw [q] at e;cases e;refine rwl (beq_iff_eq.mp q) ?_;exact hc
    |false=>rw [q] at e;exact ha n d e
   obtain⟨cl,e,h1,h2,h3⟩:=DA r ((x,c)::acc) (λy m=>hx y (.tail _ m)) ha';refine⟨cl,?_,h1,λn hn=>h2 n ?_,λn m=>?_⟩
   ·(rw [List.forIn_cons,if_pos hk];refine rwr e ?_)
    unfold cellOf;refine rwl hc ?_;rfl
   ·(simp only [List.lookup_cons]);cases n==x<;>first|rfl|exact hn
   ·rcases mC m with q|m
    ·cases q;exact h2 _ (by simp [List.lookup_cons])
    ·exact h3 n m
  ·obtain⟨cl,e,h1,h2,h3⟩:=DA r acc (λy m=>hx y (.tail _ m)) ha;refine⟨cl,?_,h1,h2,λn m=>?_⟩
   ·(rw [List.forIn_cons,if_neg hk];refine rwr e ?_);rfl
   ·rcases mC m with q|m
    ·cases q;simp at hk
    ·exact h3 n m
theorem Fg{env:Env}{scope:Scope}(hx:∀x∈scope.names,x.2=.free->(env.cells.lookup x.1).isSome=true):
  ∃cl,closureFor scope env=pure cl/\(∀n c,cl.lookup n=some c->env.cells.lookup n=some c)/\∀n,(n,NameKind.free)∈scope.names->(cl.lookup n).isSome=true:=by
 refine lid λgg kk=>?_
 obtain⟨cl,e,h1,_,h3⟩:=DA scope.names [] hx (λn c e=>by cases e);refine kk ?_;refine⟨cl,?_,h1,h3⟩;simp only [closureFor];have:∀(f:Str×NameKind->List (Str×Addr)->Sem (ForInStep (List (Str×Addr)))),(∀x cs,f x cs=if(x.2== .free)=true then do let a ←cellOf env x.1;pure (ForInStep.yield ((x.1,a)::cs)) else pure (ForInStep.yield cs))->
   forIn scope.names [] f=pure cl:=λf hf=>by refine rwr e ?_;congr 1;funext x cs;exact hf x cs
 refine rwl (this _ (λx cs=>by obtain⟨a,b⟩:=x;cases h:b==NameKind.free<;>simp [h])) ?_;rfl
theorem FH{M:Model}{A:Around}{E:Value->Shared->Prop}{s:Shared}{scope:Scope}{g:Addr}{cl:List (Str×Addr)}{q:Str}{env:Env}{Q:Env->Shared->Prop}
  (hQ:Q {scope:=scope,locals:=s.heap.objs.size,globals:=g,cells:=cellsFrom (s.heap.objs.size+1) scope.names cl,qual:=q,func:=none,code:=env.code,frame:=env.frame,builtins:=env.builtins}
   {s with heap:=pushCells (s.heap.push {cls:=.type "dict",data:=.dict #[]}) scope.names}):
  wpAny M A (newFunctionEnv scope g cl [] q none .none (some env)) Q E s:=by
 refine wpAny_bind (wpAny_alloc ?_);refine wpAny_bind (wpAny_layCells _ (λname kind cells=>by cases hkc:kind==NameKind.cell<;>simp [hkc]) _ _ _ _ ?_);refine rwl (show({s with heap:=s.heap.push {cls:=.type "dict",data:=.dict #[]}}:Shared).heap.objs.size=s.heap.objs.size+1 from Heap.size_push ..) ?_;exact wpAny_bind (wpAny_pure (wpAny_pure hQ))
structure Lay(lo:Nat)(cl:List (Str×Addr))(h0 h:Heap)(acc:List (Str×Addr))(S:List Str):Prop where
 of:∀x c,acc.lookup x=some c->(x∈S/\lo<=c)\/(x∉S/\cl.lookup x=some c)
 own:∀x∈S,(acc.lookup x).isSome=true
 old:∀x,(cl.lookup x).isSome=true->(acc.lookup x).isSome=true
 cell:∀x c,acc.lookup x=some c->∃v,h.IsCell c v
 inj:∀x y c,acc.lookup x=some c->acc.lookup y=some c->x=y
 le:lo<=h.objs.size
 live:∀b,lo<=b->b<h.objs.size->∃o,h.get? b=some o
 sub:Sub h0 h
theorem lay{lo:Nat}{cl:List (Str×Addr)}{h0:Heap}:∀(names:List (Str×NameKind)) (h:Heap) (acc:List (Str×Addr)) (S:List Str),Lay lo cl h0 h acc S->
  ∃S',(∀x,x∈S'<->x∈B9 names\/x∈S)/\Lay lo cl h0 (pushCells h names) (cellsFrom h.objs.size names acc) S'
 |[]=>λh acc S L=>⟨S,λx=>⟨.inr,λm=>m.elim (λm=>nomatch m) id⟩,L⟩
 |(y,k)::r=>λh acc S L=>by
  unfold cellsFrom pushCells
  split
  ·rename_i hk
   have fr:∀x c,acc.lookup x=some c->c≠h.objs.size:=λx c e q=>by
    obtain⟨v,i⟩:=L.cell x c e;exact Nat.lt_irrefl _ (q▸i.lt)
   have L':Lay lo cl h0 (h.push {cls:=.type "cell",data:=.cell none}) ((y,h.objs.size)::acc) (y::S):=by
    have lc:∀x,List.lookup x ((y,h.objs.size)::acc)=if x=y then some h.objs.size else acc.lookup x:=λx=>by
     (simp only [List.lookup_cons])
     by_cases q:x=y
     ·subst q;simp
     ·(refine rwl (if_neg q) ?_;refine rwl (beq_eq_false_iff_ne.mpr q) ?_;rfl)
    refine⟨λx c e=>?_,λx m=>?_,λx m=>?_,λx c e=>?_,λx z c e e'=>?_,?_,λb h1 h2=>?_,Sub.trans' L.sub (Sub.push' _ _)⟩
    ·rw [lc] at e
     by_cases q:x=y
     ·rw [if_pos q] at e;cases e;exact .inl ⟨by refine rwl q ?_;exact .head _,L.le⟩
     ·rw [if_neg q] at e;exact(L.of x c e).imp (λa=>⟨.tail _ a.1,a.2⟩) λa=>⟨λm=>(mC m).elim q a.1,a.2⟩
    ·rw [lc]
     by_cases q:x=y
     ·refine rwl (if_pos q) ?_;rfl
     ·refine rwl (if_neg q) ?_;exact L.own x ((mC m).resolve_left q)
    ·rw [lc]
     by_cases q:x=y
     ·refine rwl (if_pos q) ?_;rfl
     ·refine rwl (if_neg q) ?_;exact L.old x m
    ·rw [lc] at e
     by_cases q:x=y
     ·rw [if_pos q] at e;cases e;exact⟨none,_,Heap.get?_push_size _ rfl,rfl⟩
     ·rw [if_neg q] at e;obtain⟨v,i⟩:=L.cell x c e;exact⟨v,i.keeps (Sub.push' _ _)⟩
    ·rw [lc] at e e'
     by_cases q:x=y<;>by_cases q':z=y
     ·(exact(q).trans (q').symm)
     ·rw [if_pos q] at e;rw [if_neg q'] at e';cases e;exact absurd rfl (fr _ _ e')
     ·rw [if_neg q] at e;rw [if_pos q'] at e';cases e';exact absurd rfl (fr _ _ e)
     ·rw [if_neg q] at e;rw [if_neg q'] at e';exact L.inj x z c e e'
    ·rw [Heap.size_push];exact Nat.le_succ_of_le L.le
    ·rw [Heap.size_push] at h2
     by_cases q:b=h.objs.size
     ·refine rwl q ?_;exact⟨_,Heap.get?_push_size _ rfl⟩
     ·obtain⟨o,ho⟩:=L.live b h1 (by(refine Nat.lt_of_not_le λh=>?_;lia));exact⟨o,Sub.push' _ _ _ _ ho⟩
   obtain⟨S',hS,L2⟩:=lay r _ _ _ L';refine⟨S',λx=>?_,by rw [Heap.size_push] at L2;exact L2⟩;rw [hS];unfold B9
   (simp only [List.filter_cons,if_pos hk,List.map_cons,List.mem_cons,List.mem_cons])
   constructor
   ·rintro (h|h|h)
    ·exact .inl (.inr h)
    ·exact .inl (.inl h)
    ·exact .inr h
   ·rintro ((h|h)|h)
    ·exact .inr (.inl h)
    ·exact .inl h
    ·exact .inr (.inr h)
  ·rename_i hk
   obtain⟨S',hS,L2⟩:=lay r h acc S L;refine⟨S',λx=>?_,L2⟩;rw [hS];unfold B9
   (refine rwl List.filter_cons ?_;refine rwl (if_neg hk) ?_;rfl)
noncomputable def Cc(f:Fs)(scope:Scope):Bool:=
 decide (scope.kind=.function)&&(DM scope.names).all (λn=>f.cn.contains n&&(f.names.lookup n==some .cell||f.names.lookup n==some .free)&&n !=("__classdict__":Str)&&scope.names.lookup n==some .free&& !(B9 scope.names).contains n)
 &&scope.names.all (λx=>x.2 !=.local||scope.names.lookup x.1==some .local)
noncomputable def Dr(f:Fs)(names:List (Str×NameKind)):List (Str×NameKind):=names.map λ(n,k)=>if(k== .free&&f.names.lookup n==some .cell) then(n,.cell) else(n,k)
noncomputable def Dg(f:Fs)(scope:Scope):Fs:=⟨Dr f scope.names,DM scope.names++B9 scope.names,B9 scope.names⟩
noncomputable def frz(names:List Str)(σ:Sig):Sig:=names.filterMap λn=>match σ.lookup n with|some (.fz t)=>some (n,.fz t)|_=>none
set_option tactic.hygienic true in
theorem FB{names:List Str}{σ:Sig}{x:Str}{sl:Slot}(h:(frz names σ).lookup x=some sl):x∈names/\∃t,sl=.fz t/\σ.lookup x=some (.fz t):=by
 have hm:=mem_of_lookup h;obtain⟨n,hn,he⟩:=List.mem_filterMap.mp hm
 cases q:σ.lookup n with
 |none=>rw [q] at he;cases he
 |some s=>
  rw [q] at he
  cases s with
  |fz t=>cases he;exact⟨hn,t,rfl,q⟩
  |_=>cases he
theorem H7{f:Fs}{names:List (Str×NameKind)}{x:Str}(h:names.lookup x=some .free):(Dr f names).lookup x=some (if f.names.lookup x==some .cell then .cell else .free):=by
 induction names with
 |nil=>cases h
 |cons y r ih=>
  obtain⟨n,k⟩:=y;rw [List.lookup_cons] at h;show List.lookup x ((if(k==NameKind.free&&f.names.lookup n==some .cell)=true then(n,NameKind.cell) else(n,k))::Dr f r)=_
  cases hx:x==n with
  |true=>
   rw [hx] at h;cases h;have:=beq_iff_eq.mp hx;subst this
   cases q:(f.names.lookup x==some NameKind.cell)<;>simp [q]
  |false=>
   rw [hx] at h;have ih:=ih h
   split<;>((simp only [List.lookup_cons,hx]);exact ih)
section
variable{prog:Program}{w:World}{C:Cx}{B:Heap}{A:Around}{H0 Mu:List Addr}{env:Env}{σ σ₁ σ₂:Sig}{n:Nat}{t:T}{ad:Str->Addr}{h h':Heap}
theorem EI{f:Fs}{scope:Scope}(lk:Lk C env f):(relabel scope env).names=Dr f scope.names:=by
 delta relabel Dr Env.kindOf
 (refine rwl lk.names ?_;refine rwl lk.kind ?_)
 simp
theorem H6{elt:Expr}{g:Comprehension}{gs:List Comprehension}{scope:Scope}{pos:Pos}{f:Fs}{cl:List (Str×Addr)}{s₁ s₂:Shared}{it:Addr}{ts out:List T}{σ':Sig}{RR:Value->Addr->Result->Shared->Prop}{E:Value->Shared->Prop}
  {ev:Expr->Sig->T->Sig->Prop} {tb:Expr->Sig->Bool->Sig->Prop} {asg:Expr->T->Sig->Sig->Prop}
  (hA:AOk A n) (lk:Lk C env f) (ok:Cc f scope=true) (hall:∀c∈g::gs,c.is_async=0/\CE c.iter=true)
  (hcl1:∀n c,cl.lookup n=some c->env.cells.lookup n=some c) (hcl2:∀n,(n,NameKind.free)∈scope.names->(cl.lookup n).isSome=true)
  (hev:∀(C':Cx) (env':Env),Lk C' env' (Dg f scope)->C'.cls=C.cls->(∀e σ t σ',ev e σ t σ'->PE prog w C' B A env' e σ t σ')/\(∀e σ b σ',tb e σ b σ'->PB prog w C' B A env' e σ b σ')/\∀e t σ σ',asg e t σ σ'->PA prog w C' B A env' e σ t σ')
  (hl:Dv (λt σ o σ'=>HU ev tb asg elt g gs t σ o σ') ts (frz (DM scope.names) σ) out σ') (hlen:out.length<=4000)
  (F:Fm prog w C B H0 Mu env σ ad s₁.heap) (sb:Sub s₁.heap s₂.heap) (fr:s₁.heap.get? it=none) (I:Iter prog w A (it::(Mu++H0)) it ts s₂.heap)
  (hRR:∀acc L h' k ws m,s₁.heap.get? acc=none->s₁.heap.get? L=none->acc≠L->h'.Ns L m->Lst h' acc (List.toArray ws)->HoldsL prog w (L::(Mu++H0)) h' out ws->Sub s₁.heap h'->RR (.ref acc) L (.ok .next) {s₂ with heap:=h',toks:=k}):
  wpAny (model prog w) A (newList []) (λacc s₃=>wpAny (model prog w) A (newFunctionEnv scope env.globals cl [] env.qual none .none (some env)) (λcenv s₄=>
   codeAny (model prog w) A (.compStart (.ListComp elt (g::gs) scope pos) 0 (.ref it) acc {cenv with scope:=relabel scope env}) (RR acc cenv.locals) s₄) E s₃) E s₂:=by
 unfold Cc at ok;simp only [Bool.and_eq_true,decide_eq_true_eq,List.all_eq_true,Bool.or_eq_true,bne_iff_ne,Bool.not_eq_true',List.contains_iff_mem,beq_iff_eq] at ok;obtain⟨⟨hkind,hfree⟩,hloc⟩:=ok;refine wpAny_newObj_type (FH ?_);generalize hacc:s₂.heap.objs.size=acc;generalize hH3:s₂.heap.push {cls:=.type "list",dict:=none,data:=.seq ([]:List Value).toArray}=H3;dsimp only;have hL:H3.objs.size=acc+1:=by(simp only [←hH3,Heap.size_push,hacc])
 have sb3:Sub s₂.heap H3:=by refine rwr hH3 ?_;exact Sub.push' _ _
 have il3:Lst H3 acc (List.toArray []):=by(refine rwr hH3 ?_;refine rwr hacc ?_);exact⟨_,Heap.get?_push_size _ rfl,rfl,0,rfl,rfl,rfl⟩
 generalize hLL:H3.objs.size=L at hL;generalize hH4:H3.push {cls:=.type "dict",data:=.dict #[]}=H4;have s4:H4.objs.size=L+1:=by(simp only [←hH4,Heap.size_push,hLL])
 have sb4:Sub H3 H4:=by refine rwr hH4 ?_;exact Sub.push' _ _
 have old:∀{b o},s₁.heap.get? b=some o→@LT.lt Nat _ b acc:=λe=>by refine rwr hacc ?_;exact Heap.lt_size (sb _ _ e)
 have clo:∀n c,cl.lookup n=some c->∃v,s₁.heap.IsCell c v:=λn c e=>(F.cells n c (hcl1 n c e)).1
 have lay0:Lay (L+1) cl H4 H4 cl []:=by
  refine⟨λx c e=>.inr ⟨(λm=>nomatch m),e⟩,(λx m=>nomatch m),λx h=>h,λx c e=>?_,λx y c e e'=>?_,by refine rwl s4 ?_;exact Nat.le_refl _,λb h1 h2=>by rw [s4] at h2;(clear s4 hL hLL hacc hlen;lia),λ_ _ e=>e⟩
  ·obtain⟨v,i⟩:=clo x c e;exact⟨v,i.keeps (Sub.trans' sb (Sub.trans' sb3 sb4))⟩
  ·exact F.capart x y c (hcl1 x c e) (hcl1 y c e')
 obtain⟨S',hS,LY⟩:=lay scope.names H4 cl [] lay0;rw [s4] at LY;replace hS:∀x,x∈S'<->x∈B9 scope.names:=λx=>by rw [hS];simp
 generalize hH5:pushCells H4 scope.names=H5 at LY;generalize hcs:cellsFrom (L+1) scope.names cl=cs at LY;have sb15:Sub s₁.heap H5:=Sub.trans' sb (Sub.trans' sb3 (Sub.trans' sb4 LY.sub));have nsL:H5.Ns L (λ_=>none):=by
  refine Heap.Ns.keeps ?_ LY.sub
  (refine rwr hH4 ?_;refine rwr hLL ?_)
  exact Heap.Ns.new H3 (.type "dict")
 let env':Env:={scope:=relabel scope env,locals:=L,globals:=env.globals,cells:=cs,qual:=env.qual,func:=none,code:=env.code,frame:=env.frame,builtins:=env.builtins}
 let C':Cx:=⟨C.cls,B9 scope.names,C.tk⟩
 have lk':Lk C' env' (Dg f scope):=by
  refine⟨EI lk,λn m=>?_,rfl,hkind⟩
  rcases mA m with m|m
  ·exact LY.old n (hcl2 n (Iq m))
  ·exact LY.own n ((hS n).mpr m)
 obtain⟨hev,htb,hasg⟩:=hev C' env' lk' rfl;have big:∀b o,s₁.heap.get? b=some o→@LT.lt Nat _ b L:=λb o e=>by have:=old e;(clear s4 hLL hacc hlen;(refine Nat.lt_of_not_le λh=>?_;lia))
 have itfr: @LT.lt Nat _ it acc:=by
  obtain⟨o,_,ho,_⟩:=I.obj.at_;refine rwr hacc ?_;exact Heap.lt_size ho
 have fra:s₁.heap.get? acc=none:=by
  cases q:s₁.heap.get? acc with
  |none=>rfl
  |some o=>exact absurd (old q) (Nat.lt_irrefl _)
 have frL:s₁.heap.get? L=none:=by
  cases q:s₁.heap.get? L with
  |none=>rfl
  |some o=>exact absurd (big _ _ q) (Nat.lt_irrefl _)
 have nB:∀b,s₁.heap.get? b=none->B.get? b=none:=λb e=>by
  cases q:B.get? b with
  |none=>rfl
  |some o=>rw [F.base b o q] at e;cases e
 have live0:∀b∈Mu++H0,∃o,s₁.heap.get? b=some o:=F.live
 let Mu':List Addr:=(List.range H5.objs.size).filter λb=>decide (L<=b)
 have mMu:∀b,b∈Mu'→@LE.le Nat _ L b/\ @LT.lt Nat _ b H5.objs.size:=λb m=>by
  obtain⟨h1,h2⟩:=mF m;exact⟨of_decide_eq_true h2,List.mem_range.mp h1⟩
 have L5:L<H5.objs.size:=Nat.lt_of_lt_of_le (Nat.lt_succ_self _) LY.le;have liveL:∃o,H5.get? L=some o:=by obtain⟨o,_,_,ho,_⟩:=nsL;exact⟨o,ho⟩
 have I5:Iter prog w A (it::(Mu++H0)) it ts H5:=I.up (X:=[]) (nw:=[]) (Kp.of_sub (Sub.trans' sb3 (Sub.trans' sb4 LY.sub))) (λ_ m=>nomatch m) (λm=>nomatch m) λ_ m=>nomatch m
 have il5:Lst H5 acc (List.toArray []):=by obtain⟨o,ho,r⟩:=il3;exact⟨o,LY.sub _ _ (sb4 _ _ ho),r⟩
 have nit:it∉acc::(Mu++H0):=λm=>by
  rcases mC m with e|m
  ·(have e: @Eq Nat it acc:=e);(clear L5 s4 hL hLL hacc hlen;lia)
  ·obtain⟨o,ho⟩:=live0 it m;rw [fr] at ho;cases ho
 have frMu:∀b∈Mu',s₁.heap.get? b=none:=λb m=>by
  cases q:s₁.heap.get? b with
  |none=>rfl
  |some o=>have:=big _ _ q;have:=(mMu b m).1;(clear nit L5 itfr s4 hL hLL hacc hlen;lia)
 have hidn:∀b∈Mu'++it::(acc::(Mu++H0)),b∈Mu++H0\/s₁.heap.get? b=none:=λb m=>by
  rcases mA m with m|m
  ·exact .inr (frMu b m)
  ·rcases mC m with rfl|m
   ·exact .inr fr
   ·rcases mC m with rfl|m
    ·exact .inr fra
    ·exact .inl m
 have F5:Fm prog w C' B (it::(acc::(Mu++H0))) Mu' env' (frz (DM scope.names) σ) ad H5:=by
  refine⟨hkind,F.glob,F.blt,Sub.trans' F.base sb15,λb m=>nB b (frMu b m),λb m=>?_,λb m q=>?_,⟨_,nsL⟩,?_,λn c e=>⟨LY.cell n c e,?_⟩,λn m c e=>?_,λn n' c e e'=>LY.inj n n' c e e',λx t e=>?_,λx o e=>?_,λx y o o' e=>?_,λx c e=>?_⟩
  ·rcases mA m with m|m
   ·obtain⟨h1,h2⟩:=mMu b m
    by_cases q:b=L
    ·refine rwl q ?_;exact liveL
    ·exact LY.live b (by have q:¬@Eq Nat b L:=q;(clear h2 nit L5 itfr s4 hL hLL hacc hlen;(refine Nat.lt_of_not_le λh=>?_;lia))) h2
   ·rcases mC m with rfl|m
    ·obtain⟨o,_,ho,_⟩:=I5.obj.at_;exact⟨o,ho⟩
    ·rcases mC m with rfl|m
     ·obtain⟨o,ho,_⟩:=il5;exact⟨o,ho⟩
     ·obtain⟨o,ho⟩:=live0 b m;exact⟨o,sb15 _ _ ho⟩
  ·have:=(mMu b m).1
   rcases mC q with rfl|q
   ·(clear nit L5 s4 hLL hacc hlen;lia)
   ·rcases mC q with rfl|q
    ·(clear nit itfr hacc L5 s4 hLL hlen;lia)
    ·obtain⟨o,ho⟩:=live0 b q;have:=big _ _ ho;(clear nit L5 itfr s4 hL hLL hacc hlen;lia)
  ·exact List.mem_filter.mpr ⟨List.mem_range.mpr L5,by simp [env']⟩
  ·intro q
   rcases LY.of n c e with ⟨_,h⟩|⟨_,h⟩
   ·have q: @Eq Nat c L:=q
    (clear nit L5 itfr s4 hL hLL hacc hlen;lia)
   ·obtain⟨v,i⟩:=clo n c h;obtain⟨o,ho,_⟩:=i;have:=big _ _ ho;have q: @Eq Nat c L:=q
    (clear nit L5 itfr s4 hL hLL hacc hlen;lia)
  ·rcases LY.of n c e with ⟨_,h⟩|⟨h,_⟩
   ·obtain⟨v,i⟩:=LY.cell n c e;exact List.mem_filter.mpr ⟨List.mem_range.mpr i.lt,by simp;(clear nit L5 itfr s4 hL hLL hacc hlen;(exact Nat.le_of_succ_le h))⟩
   ·exact absurd ((hS n).mpr m) h
  ·obtain⟨hm,t',e1,e2⟩:=FB e
   cases e1
   obtain⟨v,i,hv⟩:=F.vars x t e2;obtain⟨⟨⟨⟨hcn,hpk⟩,hcd⟩,hlk⟩,hnc⟩:=hfree x hm;obtain⟨c,hc⟩:=Option.isSome_iff_exists.mp (hcl2 x (Iq hm));have hcs:cs.lookup x=some c:=by
    obtain⟨d,hd⟩:=Option.isSome_iff_exists.mp (LY.old x (by refine rwl hc ?_;rfl))
    rcases LY.of x d hd with ⟨h,_⟩|⟨_,h⟩
    ·exact absurd (by simpa using (hS x).mp h) (by simpa using hnc)
    ·rw [hc] at h;cases h;exact hd
   have hk:env'.kindOf x=some (if f.names.lookup x==some .cell then .cell else .free):=by
    show(relabel scope env).names.lookup x=_;refine rwl (EI lk) ?_;exact H7 hlk
   have ic:H5.IsCell c (some v):=by
    have hce:=hcl1 x c hc
    cases i with
    |loc m q n e=>
     exfalso;have:f.names.lookup x=some .local:=by refine rwr lk.names ?_;exact q
     rw [this] at hpk;revert hpk;decide
    |cel d q l i=>rw [hce] at l;cases l;exact i.keeps sb15
    |fre d q z l i=>rw [hce] at l;cases l;exact i.keeps sb15
   refine⟨v,?_,hv.mv (Kp.of_sub sb15) hidn⟩
   cases q:(f.names.lookup x==some NameKind.cell) with
   |true=>rw [q,if_pos rfl] at hk;exact .cel c hk hcs ic
   |false=>rw [q,if_neg (by decide)] at hk;exact .fre c hk (beq_eq_false_iff_ne.mpr hcd) hcs ic
  ·obtain⟨_,_,e1,_⟩:=FB e;cases e1
  ·obtain⟨_,_,e1,_⟩:=FB e;cases e1
  ·obtain⟨_,_,e1,_⟩:=FB e;cases e1
 have hBit:B.get? it=none:=nB it fr;have hBac:B.get? acc=none:=nB acc fra;have I6:Iter prog w A (Mu'++it::(acc::(Mu++H0))) it ts H5:=by
  have:=I.up (X:=[]) (nw:=Mu'++[acc]) (Kp.of_sub (Sub.trans' sb3 (Sub.trans' sb4 LY.sub))) (λ_ m=>nomatch m) (λm=>nomatch m) λb m=>by
   rcases mA m with m|m
   ·cases q:s₂.heap.get? b with
    |none=>rfl
    |some o=>
     have h1: @LT.lt Nat _ b s₂.heap.objs.size:=Heap.lt_size q;have h2:=(mMu b m).1
     (clear nit L5 itfr s4 hLL hlen;lia)
   ·(refine rwl (mS m) ?_;refine rwr hacc ?_);exact Ao _
  refine this.perm λb m=>?_
  simp only [List.mem_append,List.mem_cons,List.mem_singleton] at m⊢
  rcases m with m|m|m|m|m
  ·exact .inl (.inl m)
  ·exact .inr (.inl m)
  ·exact .inl (.inr (by simp [m]))
  ·exact .inr (.inr (.inl m))
  ·exact .inr (.inr (.inr m))
 have run:codeAny (model prog w) A (.compLoop (.ListComp elt (g::gs) scope pos) 0 (.ref it) (.ref acc) env') (RR (.ref acc) L) {s₂ with heap:=H5}:=by
  refine SY hA hev htb hasg hall gs g 0 rfl (hall g (.head _)).1 rfl ts _ out σ' hl (acc::(Mu++H0)) Mu' ad {s₂ with heap:=H5} it acc [] _ F5 nit (.head _) hBit hBac I6 il5 (by simpa using hlen) λh' k ws kp F' il hd=>?_
  obtain⟨m,nL⟩:=F'.ns;refine hRR acc L h' k ws m fra frL (λq=>by have q: @Eq Nat acc L:=q;(clear nit L5 itfr s4 hLL hacc hlen;lia)) nL (by simpa using il) (hd.less λb m=>?_) λb o e=>kp b o (λm=>?_) (sb15 _ _ e)
  ·rcases mC m with rfl|m
   ·exact List.mem_append_left _ (List.mem_filter.mpr ⟨List.mem_range.mpr L5,by simp⟩)
   ·exact List.mem_append_right _ (.tail _ m)
  ·rcases mC m with rfl|m
   ·rw [fr] at e;cases e
   ·rcases mC m with rfl|m
    ·rw [fra] at e;cases e
    ·rw [frMu b m] at e;cases e
 obtain⟨tg,iter,ifs,asy⟩:=g;have h0:asy=0:=(hall _ (.head _)).1;subst h0;subst hH5 hcs hH4;have e:∀(e1:(H3.push {cls:=.type "dict",data:=.dict #[]}).objs.size=L+1),True:=λ_=>trivial
 have run':=run;exact Cm (d:=0) rfl run (I5.self (s:={s₂ with heap:=_}) run)
end
section
variable{prog:Program}{w:World}{C:Cx}{B:Heap}{A:Around}{H0 Mu:List Addr}{env:Env}{σ σ₁ σ₂:Sig}{n:Nat}{t x:T}{ad:Str->Addr}{h h':Heap}
variable{ev:Expr->Sig->T->Sig->Prop}{tb:Expr->Sig->Bool->Sig->Prop}{asg:Expr->T->Sig->Sig->Prop}
theorem Et{f:Fs}{scope:Scope}(ok:Cc f scope=true):scope.kind=.function:=by
 unfold Cc at ok;simp only [Bool.and_eq_true,decide_eq_true_eq] at ok;exact ok.1.1
theorem Ff{f:Fs}{scope:Scope}(ok:Cc f scope=true):∀x∈scope.names,x.2=.local->scope.names.lookup x.1=some .local:=by
 unfold Cc at ok;simp only [Bool.and_eq_true,decide_eq_true_eq,List.all_eq_true,Bool.or_eq_true,bne_iff_ne,beq_iff_eq] at ok;exactλx m e=>(ok.2 x m).resolve_left λq=>q e
theorem Eu{f:Fs}{scope:Scope}(lk:Lk C env f)(ok:Cc f scope=true):∀x∈scope.names,x.2=.free->(env.cells.lookup x.1).isSome=true:=by
 unfold Cc at ok;simp only [Bool.and_eq_true,decide_eq_true_eq,List.all_eq_true,Bool.or_eq_true,bne_iff_ne,beq_iff_eq,List.contains_iff_mem] at ok;exactλx m e=>lk.cn _ ((ok.1.2 x.1 (List.mem_map.mpr ⟨x,List.mem_filter.mpr ⟨m,by simp [e]⟩,rfl⟩)).1.1.1.1)
theorem Kb{elt:Expr}{g:Comprehension}{gs:List Comprehension}{scope:Scope}{pos:Pos}{f:Fs}{ts out:List T}{σ':Sig}
  (hA:AOk A n) (lk:Lk C env f) (ok:Cc f scope=true) (hall:∀c∈g::gs,c.is_async=0/\CE c.iter=true)
  (hev:∀(C':Cx) (env':Env),Lk C' env' (Dg f scope)->C'.cls=C.cls->(∀e σ t σ',ev e σ t σ'->PE prog w C' B A env' e σ t σ')/\(∀e σ b σ',tb e σ b σ'->PB prog w C' B A env' e σ b σ')/\∀e t σ σ',asg e t σ σ'->PA prog w C' B A env' e σ t σ')
  (pe:PE prog w C B A env g.iter σ x σ₁) (hi:DK x=some ts)
  (hl:Dv (λt σ o σ'=>HU ev tb asg elt g gs t σ o σ') ts (frz (DM scope.names) σ₁) out σ') (hlen:out.length<=4000):
  PE prog w C B A env (.ListComp elt (g::gs) scope pos) σ (.list out) σ₁:=λH0 Mu ad s Q E F hQ=>by
 obtain⟨cl,hcl,hcl1,hcl2⟩:=Fg (Eu lk ok)
 (simp only [eval_ListComp])
 have hg:=hall g (.head _);have ha:firstAsync (g::gs)=false:=by
  obtain⟨a,b,c,d⟩:=g;have:d=0:=hg.1;subst this;rfl
 have hf:firstIter (g::gs) env=eval g.iter env:=by obtain⟨a,b,c,d⟩:=g;rfl
 (refine rwl ha ?_;refine rwl hf ?_)
 refine wpAny_comprehension_free (use:=none) rfl (B6 hg.2 env) hcl (Et ok) (Ff ok) (pe H0 Mu ad s _ _ F λxv h₁ k₁ kp₁ F₁ hx=>?_);refine G6 hA F₁.hlive hx hi λit h₂ k₂ sb fr I=>?_
 refine H6 (RR:=λacc C=>compPost (model prog w) A E none Q acc C) (s₁:={s with heap:=h₁,toks:=k₁}) (s₂:={s with heap:=h₂,toks:=k₂}) hA lk ok hall hcl1 hcl2 hev hl hlen F₁ sb fr I ?_;intro acc L h' k ws m fa fL ne nL il hd sb';refine⟨m,nL,λh'' hs=>?_⟩;have sb'':Sub h₁ h'':=λb o e=>hs.extBut b o (λq=>by rw [q,show h₁.get? L=none from fL] at e;cases e) (sb' b o e)
 have na:acc∉Mu++H0:=λm=>by
  obtain⟨o,ho⟩:=F₁.live acc m;rw [show h₁.get? acc=none from fa] at ho;cases ho
 have k1:=By hs;refine hQ _ h'' k (kp₁.trans (Kp.of_sub sb'')) (F₁.up sb'') ⟨acc,ws,rfl,na,il.extBut hs.extBut ne,?_⟩;exact(hd.up (k1.mono λb m=>by refine rwl (mS m) ?_;exact .head _)).less λb m=>.tail _ m
theorem GW{elt:Expr}{g:Comprehension}{gs:List Comprehension}{scope:Scope}{pos spos py:Pos}{y:Str}{f:Fs}{ts out:List T}{σ':Sig}
  (hA:AOk A n) (lk:Lk C env f) (ok:Cc f scope=true) (hall:∀c∈g::gs,c.is_async=0/\CE c.iter=true)
  (hev:∀(C':Cx) (env':Env),Lk C' env' (Dg f scope)->C'.cls=C.cls->(∀e σ t σ',ev e σ t σ'->PE prog w C' B A env' e σ t σ')/\(∀e σ b σ',tb e σ b σ'->PB prog w C' B A env' e σ b σ')/\∀e t σ σ',asg e t σ σ'->PA prog w C' B A env' e σ t σ')
  (pe:PE prog w C B A env g.iter σ x σ₁) (hi:DK x=some ts)
  (hl:Dv (λt σ o σ'=>HU ev tb asg elt g gs t σ o σ') ts (frz (DM scope.names) σ₁) out σ') (hlen:out.length<=4000)
  (hsw:swapsWith (.ListComp elt (g::gs) scope pos) (some (.Name y py)) spos.line env=pure true) (hst:CA C env y=true):
  PX prog w C B A env (.Assign [.Name y py] (.ListComp elt (g::gs) scope pos) spos) σ (.nxt ((y,.fz (.list out))::σ₁)):=λH0 Mu ad s Q E ht F hQ=>by
 obtain⟨cl,hcl,hcl1,hcl2⟩:=Fg (Eu lk ok);refine rwl (exec_Assign_Name_used _ _ _ _ hsw) ?_;have hg:=hall g (.head _);have ha:firstAsync (g::gs)=false:=by
  obtain⟨a,b,c,d⟩:=g;have:d=0:=hg.1;subst this;rfl
 have hf:firstIter (g::gs) env=eval g.iter env:=by obtain⟨a,b,c,d⟩:=g;rfl
 refine wpAny_bind (wpAny_standAt (wpAny_bind ?_));show wpAny _ A (do let _ ←comprehension (.ListComp elt (g::gs) scope pos) scope env (firstIterPos (g::gs) pos) (newList []) (firstAsync (g::gs)) (firstIter (g::gs) env) (some (assign (.Name y py) env))) _ _ s
 (refine rwl ha ?_;refine rwl hf ?_)
 refine wpAny_bind (wpAny_mono (wpAny_comprehension_free (use:=some (assign (.Name y py) env)) (Q:=λ_ s'=>Q .next s') rfl (B6 hg.2 env) hcl (Et ok) (Ff ok) (pe H0 Mu ad s _ _ F λxv h₁ k₁ kp₁ F₁ hx=>?_)) (λ_ s' hq=>wpAny_pure (wpAny_pure hq)) λ_ _ e=>e);refine G6 hA F₁.hlive hx hi λit h₂ k₂ sb fr I=>?_
 refine H6 (RR:=λacc C=>compPost (model prog w) A E (some (assign (.Name y py) env)) (λ_ s'=>Q .next s') acc C) (s₁:={s with heap:=h₁,toks:=k₁}) (s₂:={s with heap:=h₂,toks:=k₂}) hA lk ok hall hcl1 hcl2 hev hl hlen F₁ sb fr I ?_;intro acc L h' k ws m fa fL ne nL il hd sb';have fL:h₁.get? L=none:=fL;have fa:h₁.get? acc=none:=fa;have exL:∃o,h'.get? L=some o:=by obtain⟨o,_,_,ho,_⟩:=nL;exact⟨o,ho⟩
 have FL:Fm prog w C B (L::H0) Mu env σ₁ ad h':=F₁.hide sb' fL exL;have na:acc∉Mu++(L::H0):=λm=>by
  have q:acc∈Mu++H0:=by
   rcases mA m with m|m
   ·exact List.mem_append_left _ m
   ·exact List.mem_append_right _ ((mC m).resolve_left ne)
  obtain⟨o,ho⟩:=F₁.live acc q;rw [fa] at ho;cases ho
 have hv:Holds prog w (Mu++(L::H0)) h' (.list out) (.ref acc):=⟨acc,ws,rfl,na,il,hd.less λb m=>by
  rcases mA m with m|m
  ·exact .tail _ (List.mem_append_left _ m)
  ·rcases mC m with rfl|m
   ·exact .head _
   ·exact .tail _ (List.mem_append_right _ m)⟩
 refine Ft (prog:=prog) (w:=w) (B:=B) (A:=A) (pos:=py) (σ:=σ₁) hst (L::H0) Mu ad {s with heap:=h',toks:=k} (.ref acc) _ _ FL hv λh₃ k₃ kp₃ F₃=>?_
 have nLm:L∉Mu:=λq=>FL.apart L q (.head _)
 obtain⟨o,es,ep,ho,r⟩:=nL;refine⟨m,⟨o,es,ep,kp₃ _ _ nLm ho,r⟩,λh₄ hs=>?_⟩;have nLh:L∉H0:=λm=>by
  obtain⟨o,ho⟩:=F₁.live L (List.mem_append_right _ m);rw [fL] at ho;cases ho
 have hB:B.get? L=none:=by
  cases q:B.get? L with
  |none=>rfl
  |some o=>
   have:=F₁.base L o q;rw [fL] at this;cases this
 have F₄:=F₃.stopN (λn c e q=>by
  obtain⟨⟨v,o,ho,_⟩,_⟩:=F₁.cells n c e;rw [q,fL] at ho;cases ho) nLh hB (By hs)
 refine hQ _ h₄ k₃ [] ad (λ_ m=>nomatch m) (λb o mb e=>?_) ⟨rfl,F₄⟩;have e1:=kp₁ b o mb e;exact hs.extBut b o (λq=>by rw [q,fL] at e1;cases e1) (kp₃ b o mb (sb' b o e1))
end
noncomputable def CQ(ps:List Str)(ts:List T):Sig:=(ps.zip ts).map λx=>(x.1,Slot.fz x.2)
noncomputable def FU(ps:List Str)(scope:Scope):Bool:=
 decide ps.Nodup&&ps.all (λp=>scope.names.lookup p==some .local||scope.names.lookup p==some .cell)&&decide (scope.kind=.function)&& !scope.isCoroutine&& !scope.isGenerator&&(DM scope.names).isEmpty
noncomputable def HF(ps:List Str)(scope:Scope):Nat:=match ps with
 |p::_=>if scope.names.lookup p=some .local then 1 else 0
 |[]=>0
noncomputable def En(scope:Scope):Fs:=⟨scope.names,B9 scope.names,B9 scope.names⟩
inductive FdAt(h:Heap)(a:Addr)(ps:List Str)(body:List Stmt)(scope:Scope):Prop
 |mk (o:Obj) (fd:FuncData) (h1:h.get? a=some o) (h2:o.data=.func fd) (h3:fd.body=.stmts body) (h4:fd.scope=scope) (h5:fd.closure=[]) (h6:fd.globals=mainGlobals) (h7:fd.builtins=builtinsNs) (h8:h.CodeRec fd.code fd.qualname)
  (h9:∀vals:List Value,vals.length=ps.length->bindArgs fd ⟨vals,[]⟩=pure (ps.zip vals))
theorem I7{kindOf:Str->Option NameKind}:∀{binds:List (Str×Value)} {m:Str->Option Value} {x:Str},x∉binds.map (·.1)->bindL kindOf binds m x=m x
 |[],_,_,_=>rfl
 |(n,v)::r,m,x,h=>by
  unfold bindL;refine rwl (I7 (λq=>h (by simp at q⊢;exact .inr q))) ?_;have:x≠n:=λq=>h (by simp [q])
  split
  ·exact if_neg this
  ·rfl
theorem I8{kindOf:Str->Option NameKind}:∀{binds:List (Str×Value)} {m:Str->Option Value} {x:Str},x∉binds.map (·.1)->bindC kindOf binds m x=m x
 |[],_,_,_=>rfl
 |(n,v)::r,m,x,h=>by
  unfold bindC;refine rwl (I8 (λq=>h (by simp at q⊢;exact .inr q))) ?_;have:x≠n:=λq=>h (by simp [q])
  split
  ·rfl
  ·exact if_neg this
theorem Co{kindOf:Str->Option NameKind}:∀{binds:List (Str×Value)} {m:Str->Option Value} {x:Str} {v:Value},(binds.map (·.1)).Nodup->binds.lookup x=some v->kindOf x=some .local->bindL kindOf binds m x=some v
 |(n,u)::r,m,x,v,hn,h,hk=>by
  rw [List.map_cons,List.nodup_cons] at hn;rw [List.lookup_cons] at h;unfold bindL
  cases q:x==n with
  |true=>
   rw [q] at h;cases h;have:=beq_iff_eq.mp q;subst this
   (refine rwl (if_pos hk) ?_;refine rwl (I7 hn.1) ?_);simp
  |false=>rw [q] at h;exact Co hn.2 h hk
theorem KQ{kindOf:Str->Option NameKind}:∀{binds:List (Str×Value)} {m:Str->Option Value} {x:Str} {v:Value},(binds.map (·.1)).Nodup->binds.lookup x=some v->kindOf x≠some .local->bindC kindOf binds m x=some v
 |(n,u)::r,m,x,v,hn,h,hk=>by
  rw [List.map_cons,List.nodup_cons] at hn;rw [List.lookup_cons] at h;unfold bindC
  cases q:x==n with
  |true=>
   rw [q] at h;cases h;have:=beq_iff_eq.mp q;subst this
   (refine rwl (if_neg hk) ?_;refine rwl (I8 hn.1) ?_);simp
  |false=>rw [q] at h;exact KQ hn.2 h hk
theorem Fk{α β:Type}:∀{ps:List α} {vs:List β},vs.length=ps.length->(ps.zip vs).map (·.1)=ps
 |[],[]=>λ_=>rfl
 |p::ps,v::vs=>λh=>by(simp only [List.zip_cons_cons,List.map_cons,Fk (by simpa using h)])
 |[],_::_=>λh=>by simp at h
 |_::_,[]=>λh=>by simp at h
section
variable{prog:Program}{w:World}{A:Around}{s:Shared}
theorem Jc{M:Model}{E:Value->Shared->Prop}{scope:Scope}{globals:Addr}{ps:List Str}{binds:List (Str×Value)}{qual:Str}{func:Option Addr}{code:Value}{builtins:Addr}{Q:Env->Shared->Prop}
  (hk:scope.kind=.function) (hb:binds.map (·.1)=ps)
  (hkind:∀x∈binds,scope.names.lookup x.1=some .local\/(scope.names.lookup x.1=some .cell/\((cellsFrom (s.heap.objs.size+1) scope.names []).lookup x.1).isSome=true))
  (hQ:∀env,env=newEnv scope s.heap.objs.size globals (cellsFrom (s.heap.objs.size+1) scope.names []) qual func code none builtins->
   ∀s',InCallC s env.locals (bindL env.kindOf binds λ_=>none) env.cells (bindC env.kindOf binds λ_=>none) s'->HF ps scope<=s'.toks->Q env s'):
  wpAny M A (newFunctionEnv scope globals [] binds qual func code none builtins) Q E s:=by
 refine wpAny_bind (wpAny_alloc ?_);refine wpAny_bind (wpAny_layCells _ (λname kind cells=>by cases hkc:kind==NameKind.cell<;>simp [hkc]) _ _ _ _ ?_);have ok:=cellsFrom_ok scope.names (s.heap.push {cls:=.type "frame",data:=.dict #[]}) (s.heap.objs.size+1) [] ⟨(λ_ _ hm=>(nomatch hm)),List.Pairwise.nil⟩ (by rw [Heap.size_push];exact Nat.le_refl _);rw [Heap.size_push] at ok;refine rwl (show({s with heap:=s.heap.push {cls:=.type "frame",data:=.dict #[]}}:Shared).heap.objs.size=s.heap.objs.size+1 from Heap.size_push ..) ?_;have X0:InCallC s s.heap.objs.size (λ_=>none) (cellsFrom (s.heap.objs.size+1) scope.names []) (λ_=>none) {s with heap:=pushCells (s.heap.push {cls:=.type "frame",data:=.dict #[]}) scope.names}:=
  ⟨⟨⟨_,_,rfl⟩,(Heap.Ns.new s.heap (.type "frame")).keeps (pushCells_keeps _ _),λb o e=>pushCells_keeps _ _ b o (Heap.get?_push_of_some _ e),Nat.le_refl _⟩,
   λn c hc=>(ok.empty n c (mem_of_lookup hc)).1,ok.apart,λn c hm=>(ok.empty n c hm).2⟩
 have whole:∀(f:Str×Value->PUnit->Sem (ForInStep PUnit)),(∀n v u,f (n,v) u=(do storeName (newEnv scope s.heap.objs.size globals (cellsFrom (s.heap.objs.size+1) scope.names []) qual func code none builtins) n v;pure (.yield ⟨⟩)))->
   wpAny M A (forIn binds PUnit.unit f) (λ_ s'=>Q (newEnv scope s.heap.objs.size globals (cellsFrom (s.heap.objs.size+1) scope.names []) qual func code none builtins) s') E {s with heap:=pushCells (s.heap.push {cls:=.type "frame",data:=.dict #[]}) scope.names}:=λf hf=>by
  generalize he:newEnv scope s.heap.objs.size globals (cellsFrom (s.heap.objs.size+1) scope.names []) qual func code none builtins=env at hf hQ⊢;have hloc:env.locals=s.heap.objs.size:=by refine rwr he ?_;rfl
  have hcs:env.cells=cellsFrom (s.heap.objs.size+1) scope.names []:=by refine rwr he ?_;rfl
  have hsc:env.scope=scope:=by refine rwr he ?_;rfl
  have hkk:env.scope.kind=.function:=by refine rwl hsc ?_;exact hk
  have hkd:∀x∈binds,env.kindOf x.1=some .local\/(env.kindOf x.1=some .cell/\(env.cells.lookup x.1).isSome=true):=λx hx=>by
   unfold Env.kindOf;(refine rwl hsc ?_;refine rwl hcs ?_);exact hkind x hx
  rw [←hcs,←hloc] at X0;have hQ':=hQ env rfl;subst hb
  cases binds with
  |nil=>exact wpAny_bindParams f hf hkk [] _ _ _ _ X0 hkd λs' X=>hQ' s' X (Nat.zero_le _)
  |cons p r=>
   obtain⟨n,v⟩:=p
   by_cases hl:scope.names.lookup n=some .local
   ·have hl':env.kindOf n=some .local:=by unfold Env.kindOf;refine rwl hsc ?_;exact hl
    rw [List.forIn_cons,hf];refine wpAny_bind (wpAny_bind (wpAny_storeName_local hl' X0.toInCall.ns (λh' hn' hs'=>?_) (by refine rwl hkk ?_;rfl)));refine wpAny_pure ?_;have X1:InCallC s env.locals (λy=>if y=n then some v else none) env.cells (λ_=>none) {s with heap:=h',toks:=s.toks+1}:=by
     refine⟨⟨⟨h',_,rfl⟩,hn',λb o e=>?_,X0.toInCall.fresh⟩,λk c hc=>?_,X0.apart,X0.above⟩
     ·exact hs'.extBut b o (Nat.ne_of_lt (Nat.lt_of_lt_of_le (Heap.lt_size e) X0.toInCall.fresh)) (X0.toInCall.keep b o e)
     ·exact(X0.cell k c hc).sameBut hs' (Nat.ne_of_gt (X0.above k c (mem_of_lookup hc)))
    refine wpAny_with_toks (n:=1) (Nat.succ_le_succ (Nat.zero_le s.toks)) (wpAny_bindParams f hf hkk r _ _ _ _ X1 (λx hx=>hkd x (.tail _ hx)) λs' X=>λhtk=>hQ' s' ?_ ?_)
    ·unfold bindL bindC;(refine rwl (if_pos hl') ?_;refine rwl (if_pos hl') ?_);exact X
    ·show(if _ then 1 else 0)<=_;refine rwl (if_pos hl) ?_;exact htk
   ·refine wpAny_bindParams f hf hkk _ _ _ _ _ X0 hkd λs' X=>hQ' s' X ?_
    show(if _ then 1 else 0)<=_;refine rwl (if_neg hl) ?_;exact Nat.zero_le _
 exact wpAny_bind (wpAny_mono (whole _ λ_ _ _=>rfl) (λ_ _ h=>wpAny_pure h) λ_ _ h=>h)
set_option backward.match.sparseCases true in
theorem Mc{R:Result->Shared->Prop}{a:Addr}{o:Obj}{fd:FuncData}{body:List Stmt}{ps:List Str}{vals:List Value}{binds:List (Str×Value)}
  (hroom:A.depth<recursionLimit) (ho:s.heap.get? a=some o) (hdata:o.data=.func fd) (hlim:s.heap.NoLimit) (hcd:s.heap.CodeRec fd.code fd.qualname)
  (hbody:fd.body=.stmts body) (hbind:bindArgs fd ⟨vals,[]⟩=pure binds) (hps:binds.map (·.1)=ps) (hclo:fd.closure=[])
  (hkind:∀x∈binds,fd.scope.names.lookup x.1=some .local\/(fd.scope.names.lookup x.1=some .cell/\((cellsFrom (s.heap.objs.size+1) fd.scope.names []).lookup x.1).isSome=true))
  (h:∀s₁,InCallC s (callEnvC fd s.heap.objs.size a).locals (bindL (callEnvC fd s.heap.objs.size a).kindOf binds λ_=>none) (callEnvC fd s.heap.objs.size a).cells
    (bindC (callEnvC fd s.heap.objs.size a).kindOf binds λ_=>none) s₁->HF ps fd.scope<=s₁.toks->
   wpAny (model prog w) (A.deeper (callEnvC fd s.heap.objs.size a)) (execs body (callEnvC fd s.heap.objs.size a)) (λf s'=>R (.ok (.ret (match f with|.ret v=>v|_=>.none))) s')
    (λe s'=>wpAny (model prog w) (A.deeper (callEnvC fd s.heap.objs.size a)) (leaving (callEnvC fd s.heap.objs.size a) e) (λ_ s''=>R (.error e) s'') (λe' s''=>R (.error e') s'') s') s₁)
  (hco:fd.scope.isCoroutine=false) (hgen:fd.scope.isGenerator=false) (hk:fd.scope.kind=.function):
  codeAny (model prog w) A (.call (.ref a) ⟨vals,[]⟩) R s:=by
 refine codeAny_call_function hroom ho hdata hco hgen hbody hcd ?_
 (refine rwl hbind ?_;refine rwl hclo ?_)
 refine wpAny_pure (Jc hk hps hkind λenv he s' x tk=>?_);subst he;exact⟨hlim.keeps x.toInCall.keep,codeAny_func (h s' x tk)⟩
end
section
variable{prog:Program}{w:World}{C:Cx}{B:Heap}{A:Around}{H0 Mu:List Addr}{env:Env}{σ σ₁ σ₂:Sig}{n:Nat}{t r:T}{ad:Str->Addr}{h h':Heap}
theorem Ci{X:List Addr}{sl:Slot}{x:Str}:∀{ps:List Str} {ts:List T} {vs:List Value},HoldsL prog w X h ts vs->(CQ ps ts).lookup x=some sl->∃t v,sl=.fz t/\(ps.zip vs).lookup x=some v/\Holds prog w X h t v
 |[],ts=>λ_ e=>by cases e
 |p::ps,[]=>λ_ e=>by cases e
 |p::ps,t::ts=>λhv e=>by
  obtain⟨v,r,rfl,hv,hr⟩:=hv;have e':List.lookup x ((p,Slot.fz t)::CQ ps ts)=some sl:=e;rw [List.lookup_cons] at e'
  (simp only [List.zip_cons_cons,List.lookup_cons])
  cases q:x==p with
  |true=>rw [q] at e';cases e';exact⟨t,v,rfl,rfl,hv⟩
  |false=>rw [q] at e';exact Ci hr e'
theorem y1{p q:Bool}(h:(p&&q)=true):p=true:=(Af h).1
theorem y2{p q:Bool}(h:(p&&q)=true):q=true:=(Af h).2
theorem Gw{a:Bool}(h:(!a)=true):a=false:=by cases a<;>first|rfl|cases h
theorem Xc{o:Option NameKind}{x y:NameKind}(h:(o==some x||o==some y)=true):o=some x\/o=some y:=by
 rw [Bool.or_eq_true] at h;exact h.imp eq_of_beq eq_of_beq
theorem KO{a:Addr}{ps:List Str}{body:List Stmt}{scope:Scope}{ts:List T}{vs:List Value}{s:Shared}{Q:Value->Shared->Prop}{E:Value->Shared->Prop}{Hd:List Addr}{R:Value->Heap->Prop}{o:Obj}{fd:FuncData}
  (hA:AOk A (n+1)) (lim:B.NoLimit) (ho:B.get? a=some o) (hd:o.data=.func fd) (hbody:fd.body=.stmts body) (hsc:fd.scope=scope) (hclo:fd.closure=[]) (hglob:fd.globals=mainGlobals) (hblt:fd.builtins=builtinsNs) (hcd:B.CodeRec fd.code fd.qualname)
  (hbind:∀vals:List Value,vals.length=ps.length->bindArgs fd ⟨vals,[]⟩=pure (ps.zip vals)) (ok:FU ps scope=true) (hl:ts.length=ps.length)
  (run:∀(C':Cx) (env':Env) (Mu:List Addr) (ad:Str->Addr) (h₁:Heap) (k₁:Nat) (Q':Flow->Shared->Prop) (E':Value->Shared->Prop),Lk C' env' (En scope)->C'.cls=C.cls->C'.tk=HF ps scope->env'.code=fd.code->C'.tk<=k₁->Sub s.heap h₁->
   Fm prog w C' B Hd Mu env' (CQ ps ts) ad h₁->(∀b∈Mu,s.heap.get? b=none)->(∀v h' k,R v h'->Q' (.ret v) {s with heap:=h',toks:=k})->wpAny (model prog w) (A.deeper env') (execs body env') Q' E' {s with heap:=h₁,toks:=k₁})
  (base:Sub B s.heap) (live:Live Hd s.heap) (hv:HoldsL prog w Hd s.heap ts vs)
  (hQ:∀v h' k,R v h'->Q v {s with heap:=h',toks:=k}):wpAny (model prog w) A (call (.ref a) vs []) Q E s:=by
 have hfr:=y2 ok;have ok:=y1 ok;have hge:=Gw (y2 ok);have ok:=y1 ok;have hco:=Gw (y2 ok);have ok:=y1 ok;have hk:=of_decide_eq_true (y2 ok);have ok:=y1 ok;have hnd:ps.Nodup:=of_decide_eq_true (y1 ok);have hps:∀x∈ps,scope.names.lookup x=some .local\/scope.names.lookup x=some .cell:=λx m=>Xc (List.all_eq_true.mp (y2 ok) x m)
 have hvl:vs.length=ps.length:=hv.length.trans hl;have lay0:Lay (s.heap.objs.size+1) [] (s.heap.push {cls:=.type "frame",data:=.dict #[]}) (s.heap.push {cls:=.type "frame",data:=.dict #[]}) [] []:=by
  refine⟨(λx c e=>by cases e),(λx m=>nomatch m),(λx h=>h),(λx c e=>by cases e),(λx y c e=>by cases e),by rw [Heap.size_push];exact Nat.le_refl _,λb h1 h2=>?_,λ_ _ e=>e⟩;rw [Heap.size_push] at h2;exact absurd h2 (Nat.not_lt.mpr h1)
 obtain⟨S',hS,LY⟩:=lay scope.names _ [] [] lay0;rw [Heap.size_push] at LY;replace hS:∀x,x∈S'<->x∈B9 scope.names:=λx=>by rw [hS];simp
 subst hsc;refine wpAny_call (Mc (ps:=ps) hA.room (base _ _ ho) hd (lim.keeps base) (hcd.keeps base) hbody (hbind vs hvl) (Fk hvl) hclo (λx hx=>?_) (λs₁ X tk=>?_) hco hge hk)
 ·have hm:x.1∈ps:=by rw [←Fk hvl];exact List.mem_map.mpr ⟨x,hx,rfl⟩
  rcases hps _ hm with q|q
  ·exact .inl q
  ·exact .inr ⟨q,LY.own _ ((hS _).mpr (by unfold B9;exact List.mem_map.mpr ⟨(x.1,.cell),List.mem_filter.mpr ⟨mem_of_lookup q,rfl⟩,rfl⟩))⟩
 ·generalize he:callEnvC fd s.heap.objs.size a=env' at X;have hloc:env'.locals=s.heap.objs.size:=by refine rwr he ?_;rfl
  have hcs:env'.cells=cellsFrom (s.heap.objs.size+1) fd.scope.names []:=by refine rwr he ?_;rfl
  have hscope:env'.scope=fd.scope:=by refine rwr he ?_;rfl
  have lk:Lk ⟨C.cls,B9 fd.scope.names,HF ps fd.scope⟩ env' (En fd.scope):=⟨by refine rwl hscope ?_;rfl,λn m=>by refine rwl hcs ?_;exact LY.own n ((hS n).mpr m),rfl,by refine rwl hscope ?_;exact hk⟩;obtain⟨⟨⟨h₁,k₁,rfl⟩,ns,keep,fresh⟩,cel,apart,above⟩:=X;rw [hloc] at ns fresh above;have keep:Sub s.heap h₁:=keep;have big:∀b o,s.heap.get? b=some o→@LT.lt Nat _ b s.heap.objs.size:=λb o e=>Heap.lt_size e
  have new:∀b,b∈s.heap.objs.size::(B9 fd.scope.names).filterMap (env'.cells.lookup ·)→@LE.le Nat _ s.heap.objs.size b:=λb m=>by
   rcases mC m with rfl|m
   ·exact Nat.le_refl _
   ·obtain⟨x,hx,hc⟩:=List.mem_filterMap.mp m;exact Nat.le_of_lt (above x b (mem_of_lookup hc))
  have nofr:∀b,b∈s.heap.objs.size::(B9 fd.scope.names).filterMap (env'.cells.lookup ·)->s.heap.get? b=none:=λb m=>by
   cases q:s.heap.get? b with
   |none=>rfl
   |some o=>exact absurd (big b o q) (Nat.not_lt.mpr (new b m))
  have F':Fm prog w ⟨C.cls,B9 fd.scope.names,HF ps fd.scope⟩ B Hd (s.heap.objs.size::(B9 fd.scope.names).filterMap (env'.cells.lookup ·)) env' (CQ ps ts) (λ_=>0) h₁:=by
   refine⟨by refine rwl hscope ?_;exact hk,by refine rwr he ?_;exact hglob,by refine rwr he ?_;exact hblt,Sub.trans' base keep,λb m=>?_,λb m=>?_,λb m q=>?_,⟨_,by refine rwl hloc ?_;exact ns⟩,by refine rwl hloc ?_;exact .head _,λn c e=>⟨⟨_,cel n c e⟩,?_⟩,λn m c e=>.tail _ (List.mem_filterMap.mpr ⟨n,m,e⟩),λn n' c e e'=>name_of_addr apart (mem_of_lookup e) (mem_of_lookup e'),λx t e=>?_,λx o e=>?_,λx y o o' e=>?_,λx c e=>?_⟩
   ·cases q:B.get? b with
    |none=>rfl
    |some o=>(refine rwr (nofr b m) ?_;refine rwl (base b o q) ?_;rfl)
   ·rcases mA m with m|m
    ·rcases mC m with rfl|m
     ·exact by obtain⟨o,_,_,ho,_⟩:=ns;exact⟨o,ho⟩
     ·obtain⟨x,hx,hc⟩:=List.mem_filterMap.mp m;obtain⟨o,ho,_⟩:=cel x b hc;exact⟨o,ho⟩
    ·obtain⟨o,ho⟩:=live b m;exact⟨o,keep _ _ ho⟩
   ·obtain⟨o,ho⟩:=live b q;rw [nofr b m] at ho;cases ho
   ·refine rwl hloc ?_;exactλq=>Nat.lt_irrefl s.heap.objs.size (q▸above n c (mem_of_lookup e))
   ·obtain⟨t',v,e1,e2,hh⟩:=Ci hv e
    cases e1
    have hnd':((ps.zip vs).map (·.1)).Nodup:=by refine rwl (Fk hvl) ?_;exact hnd
    have hm:x∈ps:=by
     have:=mem_of_lookup e2;rw [←Fk hvl];exact List.mem_map.mpr ⟨_,this,rfl⟩
    refine⟨v,?_,hh.mv (Kp.of_sub keep) λb m=>?_⟩
    ·rcases hps _ hm with q|q
     ·have kq:env'.kindOf x=some .local:=by unfold Env.kindOf;refine rwl hscope ?_;exact q
      exact .loc _ kq (by refine rwl hloc ?_;exact ns) (Co hnd' e2 kq)
     ·have kq:env'.kindOf x=some .cell:=by unfold Env.kindOf;refine rwl hscope ?_;exact q
      have:(env'.cells.lookup x).isSome=true:=by refine rwl hcs ?_;exact LY.own _ ((hS _).mpr (by unfold B9;exact List.mem_map.mpr ⟨(x,.cell),List.mem_filter.mpr ⟨mem_of_lookup q,rfl⟩,rfl⟩))
      obtain⟨c,hc⟩:=Option.isSome_iff_exists.mp this;have ic:=cel x c hc;rw [KQ hnd' e2 (by refine rwl kq ?_;decide)] at ic;exact .cel c kq hc ic
    ·rcases mA m with m|m
     ·exact .inr (nofr b m)
     ·exact .inl m
   ·obtain⟨_,_,e1,_⟩:=Ci hv e;cases e1
   ·obtain⟨_,_,e1,_⟩:=Ci hv e;cases e1
   ·obtain⟨_,_,e1,_⟩:=Ci hv e;cases e1
  exact run _ env' _ _ h₁ k₁ _ _ lk rfl rfl (by refine rwr he ?_;rfl) tk keep F' nofr λv h' k r=>hQ v h' k r
theorem TL{a:Addr}{ps:List Str}{body:List Stmt}{scope:Scope}{ts:List T}{vs:List Value}{s:Shared}{Q:Value->Shared->Prop}{E:Value->Shared->Prop}{Hd:List Addr}
  (hA:AOk A (n+1)) (lim:B.NoLimit) (fa:FdAt B a ps body scope) (ok:FU ps scope=true) (hl:ts.length=ps.length)
  (run:∀(C':Cx) (env':Env),Lk C' env' (En scope)->C'.cls=C.cls->C'.tk=HF ps scope->PS prog w C' B (A.deeper env') env' body (CQ ps ts) (.ret r))
  (base:Sub B s.heap) (live:Live Hd s.heap) (hv:HoldsL prog w Hd s.heap ts vs)
  (hQ:∀v h' k,Sub s.heap h'->Holds prog w Hd h' r v->Q v {s with heap:=h',toks:=k}):wpAny (model prog w) A (call (.ref a) vs []) Q E s:=by
 obtain⟨o,fd,ho,hd,hbody,hsc,hclo,hglob,hblt,hcd,hbind⟩:=fa;refine KO (C:=C) (R:=λv h'=>Sub s.heap h'/\Holds prog w Hd h' r v) hA lim ho hd hbody hsc hclo hglob hblt hcd hbind ok hl (λC' env' Mu ad h₁ k₁ Q' E' lk hc ht hco htk keep F nofr hQ'=>?_) base live hv λv h' k q=>hQ v h' k q.1 q.2
 refine run C' env' lk hc ht Hd Mu ad {s with heap:=h₁,toks:=k₁} _ _ htk F λfl h₂ k₂ nw ad₂ hn kp ok=>?_
 obtain⟨v,rfl,hv⟩:=ok;exact hQ' v h₂ k₂ ⟨λb o e=>kp b o (λm=>nomatch (nofr b m).symm.trans e) (keep b o e),hv⟩
end
noncomputable def NV{α:Type}(f:T->Option α):List T->Option (List α)
 |[]=>some []
 |t::r=>(f t).bind λi=>(NV f r).map (i:: ·)
noncomputable def Iu:List T->Option (List Int):=NV T.int?
section
variable{prog:Program}{w:World}{A:Around}{Hd:List Addr}{s:Shared}{n:Nat}{a b c:Value}{X:List Addr}{h:Heap}
theorem LG{α:Type}{f:T->Option α}{P:List Value->List α->Prop}(z:P [] [])(k:∀t v j vs js,f t=some j->Holds prog w X h t v->P vs js->P (v::vs) (j::js)):∀(ts:List T) (vs:List Value) (ns:List α),HoldsL prog w X h ts vs->NV f ts=some ns->P vs ns
 |[]=>λvs ns hv e=>by
  have q:vs=[]:=hv;subst q;cases e;exact z
 |t::ts=>λvs ns hv e=>by
  obtain⟨v,r,rfl,hx,hr⟩:=hv;obtain⟨j,q,e⟩:=Option.bind_eq_some_iff.mp e;obtain⟨js,q',rfl⟩:=Option.map_eq_some_iff.mp e;exact k _ _ _ _ _ q hx (LG z k _ _ _ hr q')
theorem K3{ts:List T}{vs:List Value}{ns:List Int}(hv:HoldsL prog w X h ts vs)(e:Iu ts=some ns):IntsAre vs ns:=
 LG (P:=IntsAre) .nil (λt v j vs js q hx ih=>by rw [int?_eq q] at hx;obtain⟨t,rfl⟩:=hx;exact .cons _ _ ih) _ _ _ hv e
theorem Kx{α:Type}{f:T->Option α}{g:α->T}(h:∀a,f (g a)=some a)(l:List α):NV f (l.map g)=some l:=by
 induction l with
 |nil=>rfl
 |cons a r ih=>
  show(f (g a)).bind (λi=>(NV f (r.map g)).map (i:: ·))=_
  (rw [h];refine rwl ih ?_);rfl
theorem LK{vs:List Value}{ns:List Int}(q:IntsAre vs ns):HoldsL prog w X h (ns.map T.int) vs:=by
 induction q with
 |nil=>exact rfl
 |cons n t r ih=>exact⟨_,_,rfl,⟨t,rfl⟩,ih⟩
theorem V4{ts:List T}{ns:List Int}(hA:AOk A n)(e:Iu ts=some ns)(hv:Holds prog w Hd s.heap (.list ts) a):Op prog w A Hd s (call (.builtin "sum") [a]) (.int ns.sum):=by
 obtain⟨l,vs,rfl,_,il,hl⟩:=hv;replace il:=il.is;have hi:=K3 hl e;intro Q E hQ;obtain⟨xs,hx⟩:=hi.allInts.items;have hl':s.heap.IsList l (intItems xs):=hx▸il;refine sum_intListG hA.handled hl' λh' tk t' hk=>?_
 have e1:ns=xs.toList.map (·.1):=by
  (rw [←nums_intItems];refine rwr hx ?_)
  exact(show numsOf vs.toArray.toList=ns from hi.numsOf).symm
 have e2:preSum (numAt xs) xs.size=ns.sum:=by
  (rw [preSum_eq,List.take_of_length_le (by simp)];refine rwl e1 ?_;rfl)
 refine rwl e2 ?_;exact hQ _ h' tk hk ⟨t',rfl⟩
theorem Kj{ts:List T}(e:ts.length<=4096)(hv:Holds prog w Hd s.heap (.list ts) a):Op prog w A Hd s (call (.builtin "len") [a]) (.int ts.length):=by
 obtain⟨l,vs,rfl,_,il,hl⟩:=hv;replace il:=il.is;intro Q E hQ;refine call_len_list il (by(refine rwl List.size_toArray ?_;refine rwl hl.length ?_);(refine Int.not_le.mp λh=>?_;lia)) ?_
 (refine rwl List.size_toArray ?_;refine rwl hl.length ?_)
 exact hQ _ s.heap _ (λ_ _ e=>e) ⟨_,rfl⟩
theorem L3{x:Str}(e:x.length<=4096)(hv:Holds prog w Hd s.heap (.str x) a):Op prog w A Hd s (call (.builtin "len") [a]) (.int x.length):=by
 obtain⟨t,rfl⟩:=hv;intro Q E hQ;exact P.len_str (by lia) (hQ _ s.heap _ (λ_ _ e=>e) ⟨_,rfl⟩)
theorem PG{i:Int}(hl:Live Hd s.heap)(hv:Holds prog w Hd s.heap (.int i) a):Op prog w A Hd s (call (.type "range") [a]) (.rng i):=by
 obtain⟨t,rfl⟩:=hv;intro Q E hQ;exact call_range_1 (hQ _ _ _ (Sub.push' _ _) ⟨_,_,_,_,rfl,hl.new,IsRange.new ..⟩)
theorem SH{i j:Int}(hA:AOk A n)(hv:Holds prog w Hd s.heap (.int i) a)(hw:Holds prog w Hd s.heap (.int j) b):Op prog w A Hd s (call (.builtin "max") [a,b]) (.int (if j>i then j else i)):=by
 obtain⟨t,rfl⟩:=hv;obtain⟨u,rfl⟩:=hw;intro Q E hQ;refine max_two_ints hA.handled λh' tk hk=>hQ _ h' tk hk ?_
 split<;>exact⟨_,rfl⟩
theorem SE{i j:Int}(hA:AOk A n)(hv:Holds prog w Hd s.heap (.int i) a)(hw:Holds prog w Hd s.heap (.int j) b):Op prog w A Hd s (call (.builtin "min") [a,b]) (.int (if j<i then j else i)):=by
 obtain⟨t,rfl⟩:=hv;obtain⟨u,rfl⟩:=hw;intro Q E hQ;refine min_two_ints hA.handled λh' tk hk=>hQ _ h' tk hk ?_
 split<;>exact⟨_,rfl⟩
noncomputable def M0(a b c:Bool)(x y z:UInt64):UInt64:=bif a then(bif b then z else y) else bif c then z else x
noncomputable def maxF(x y z:UInt64):UInt64:=let m:=if Float64.cmp x y==some .lt then y else x;if Float64.cmp m z==some .lt then z else m
noncomputable def minF(x y z:UInt64):UInt64:=let m:=if Float64.cmp y x==some .lt then y else x;if Float64.cmp z m==some .lt then z else m
theorem Ux{b:Bool}{x y:UInt64}:(if b=true then x else y)=bif b then x else y:=by cases b<;>rfl
theorem Mz{f:UInt64->Bool}{a:Bool}{x y z:UInt64}:(if f (if a=true then y else x)=true then z else(if a=true then y else x))=M0 a (f y) (f x) x y z:=by
 cases a with
 |true=>exact Ux
 |false=>exact Ux
theorem SV(x y z:UInt64):maxF x y z=M0 (Float64.cmp x y==some .lt) (Float64.cmp y z==some .lt) (Float64.cmp x z==some .lt) x y z:=Mz (f:=λm=>Float64.cmp m z==some .lt)
theorem SU(x y z:UInt64):minF x y z=M0 (Float64.cmp y x==some .lt) (Float64.cmp z y==some .lt) (Float64.cmp z x==some .lt) x y z:=Mz (f:=λm=>Float64.cmp z m==some .lt)
theorem Uy{b:Bool}{x y:Nat}:(if b=true then x else y)=bif b then x else y:=by cases b<;>rfl
theorem XY{bt:Nat->Nat->Bool}{P:Nat->Prop}(h:P (argBest bt 2)):bif bt 1 0 then(bif bt 2 1 then P 2 else P 1) else bif bt 2 0 then P 2 else P 0:=by
 have e1:argBest bt 1=bif bt 1 0 then 1 else 0:=Uy
 have e2:argBest bt 2=bif bt 2 (argBest bt 1) then 2 else argBest bt 1:=Uy
 rw [e2,e1] at h;revert h
 cases bt 1 0 with
 |true=>
  show P (bif bt 2 1 then 2 else 1)->bif bt 2 1 then P 2 else P 1
  cases bt 2 1 with
  |true=>exact id
  |false=>exact id
 |false=>
  show P (bif bt 2 0 then 2 else 0)->bif bt 2 0 then P 2 else P 0
  cases bt 2 0 with
  |true=>exact id
  |false=>exact id
theorem My{a b c:Bool}{x y z:UInt64}{t u v:Tok}{r:Value}(h:bif a then(bif b then some (Value.float z v)=some r else some (Value.float y u)=some r) else bif c then some (Value.float z v)=some r else some (Value.float x t)=some r):∃k,r=.float (M0 a b c x y z) k:=by
 cases a with
 |true=>
  cases b with
  |true=>exact⟨v,(Option.some.inj h).symm⟩
  |false=>exact⟨u,(Option.some.inj h).symm⟩
 |false=>
  cases c with
  |true=>exact⟨v,(Option.some.inj h).symm⟩
  |false=>exact⟨t,(Option.some.inj h).symm⟩
theorem JG(h:Heap)(o1 o2:Obj):∀d∈[(h.push o1).objs.size,h.objs.size],d<((h.push o1).push o2).objs.size:=λd hd=>by
 rw [Heap.size_push]
 rcases mC hd with rfl|hd
 ·exact Nat.lt_succ_self _
 ·(simp only [mS hd,Heap.size_push])
  exact Nat.lt_succ_of_lt (Nat.lt_succ_self _)
theorem HW{h h':Heap}{o1 o2:Obj}(hk:∀b o,b∉[(h.push o1).objs.size]->((h.push o1).push o2).get? b=some o->h'.get? b=some o):Sub h h':=λd o e=>
 hk d o (λm=>Nat.lt_irrefl _ (Nat.lt_of_succ_lt ((Heap.size_push h o1▸mS m)▸Heap.lt_size e))) (Heap.get?_push_of_some _ (Heap.get?_push_of_some _ e))
theorem Xh{x y z:UInt64}{t u v:Tok}:∀q∈ #[Value.float x t,.float y u,.float z v],PySem.Flt.NumV q:=by
 intro q hq;simp at hq
 rcases hq with rfl|rfl|rfl<;>constructor
theorem SG{x y z:UInt64}(hA:AOk A n)(hv:Holds prog w Hd s.heap (.flt x) a)(hw:Holds prog w Hd s.heap (.flt y) b)(hz:Holds prog w Hd s.heap (.flt z) c):Op prog w A Hd s (call (.builtin "max") [a,b,c]) (.flt (maxF x y z)):=by
 obtain⟨t,rfl⟩:=hv;obtain⟨u,rfl⟩:=hw;obtain⟨v,rfl⟩:=hz;intro Q E hQ;have hT:(s.heap.push {cls:=.type "tuple",data:=.seq #[.float x t,.float y u,.float z v]}).IsTuple s.heap.objs.size #[.float x t,.float y u,.float z v]:=⟨_,Heap.get?_push_size _ rfl,rfl,0,rfl⟩;rw [SV] at hQ;refine call_max_three (wpAny_pyIter_tuple hT ?_);exact⟨_,[_,s.heap.objs.size],[_],_,_,_,_,rfl,Walks.tuple (A:=A.in1) hA.handled _ s.heap.objs.size (by(simp only [Heap.size_push]);exact Nat.ne_of_lt (Nat.lt_succ_self _)) #[.float x t,.float y u,.float z v],
  ⟨⟨_,Heap.get?_push_size _ rfl,rfl,rfl⟩,hT.push _⟩,JG _ _ _,Nat.succ_pos 2,PySem.Flt.cmpOf_gt #[.float x t,.float y u,.float z v] Xh,λr h' tk hP hk=>hQ _ h' tk (HW hk) (My (XY (P:=λi=> #[Value.float x t,.float y u,.float z v][i]? =some r) hP))⟩
theorem SD{x y z:UInt64}(hA:AOk A n)(hv:Holds prog w Hd s.heap (.flt x) a)(hw:Holds prog w Hd s.heap (.flt y) b)(hz:Holds prog w Hd s.heap (.flt z) c):Op prog w A Hd s (call (.builtin "min") [a,b,c]) (.flt (minF x y z)):=by
 obtain⟨t,rfl⟩:=hv;obtain⟨u,rfl⟩:=hw;obtain⟨v,rfl⟩:=hz;intro Q E hQ;have hT:(s.heap.push {cls:=.type "tuple",data:=.seq #[.float x t,.float y u,.float z v]}).IsTuple s.heap.objs.size #[.float x t,.float y u,.float z v]:=⟨_,Heap.get?_push_size _ rfl,rfl,0,rfl⟩;rw [SU] at hQ;refine call_min_three (wpAny_pyIter_tuple hT ?_);exact⟨_,[_,s.heap.objs.size],[_],_,_,_,_,rfl,Walks.tuple (A:=A.in1) hA.handled _ s.heap.objs.size (by(simp only [Heap.size_push]);exact Nat.ne_of_lt (Nat.lt_succ_self _)) #[.float x t,.float y u,.float z v],
  ⟨⟨_,Heap.get?_push_size _ rfl,rfl,rfl⟩,hT.push _⟩,JG _ _ _,Nat.succ_pos 2,PySem.Flt.cmpOf_lt #[.float x t,.float y u,.float z v] Xh,λr h' tk hP hk=>hQ _ h' tk (HW hk) (My (XY (P:=λi=> #[Value.float x t,.float y u,.float z v][i]? =some r) hP))⟩
theorem VC{i:Int}(hv:Holds prog w Hd s.heap (.int i) a):Op prog w A Hd s (call (.builtin "abs") [a]) (.int (if i<0 then-i else i)):=by
 obtain⟨t,rfl⟩:=hv;intro Q E hQ;refine call_function_entry kind_abs plain_abs entry_abs (args_abs _) ?_;refine wpAny_bind (wpAny_pure ?_);refine wpAny_bind (m:=callSpecial? (.int i t) (Str.ofString "__abs__")) (wpAny_callSpecial?_slot (name:=Str.ofString "__abs__") (typeIs_int s i t) F.slot_int_abs ?_)
 by_cases c:i<0
 ·refine call_gives F.slot_int_abs (typeIs_int s i t) F.entry_int_abs (F.args_int_abs_1 _) (AutoIntG0.int___abs___int_0 i t c) (wpAny_pure ⟨_,rfl,?_⟩);rw [if_pos c] at hQ;exact hQ _ s.heap _ (λ_ _ e=>e) ⟨_,rfl⟩
 ·refine call_gives F.slot_int_abs (typeIs_int s i t) F.entry_int_abs (F.args_int_abs_1 _) (AutoIntG1.int___abs___int_1 i t c) (wpAny_pure ⟨_,rfl,?_⟩);rw [if_neg c] at hQ;exact hQ _ s.heap s.toks (λ_ _ e=>e) ⟨_,rfl⟩
noncomputable def intF(x:UInt64):Option Int:=match Float64.decode x with
 |.fin sg m e=>some (Float64.truncOf sg m e)
 |_=>none
set_option tactic.hygienic true in
theorem L4{x:UInt64}{i:Int}(e:intF x=some i)(hv:Holds prog w Hd s.heap (.flt x) a):Op prog w A Hd s (call (.type "int") [a]) (.int i):=by
 obtain⟨t,rfl⟩:=hv;intro Q E hQ;unfold intF at e
 split at e
 ·rename_i sg m ex hd
  cases e
  exact call_int_float hd (hQ _ s.heap _ (λ_ _ e=>e) ⟨_,rfl⟩)
 ·cases e
theorem Lh{h:Heap}{vs:List Value}{out:Array Value}:Sub h (sortedAll h vs out):=λ_ _=>sortedAll_old
theorem Hc{ts:List T}{ns:List Int}(hl:Live Hd s.heap)(e:Iu ts=some ns)(h64:ts.length<64)(hv:Holds prog w Hd s.heap (.list ts) a):Op prog w A Hd s (call (.builtin "sorted") [a]) (.list ((PySem.W.sortI ns).map T.int)):=by
 obtain⟨l,vs,rfl,_,il,hvl⟩:=hv;replace il:=il.is;intro Q E hQ;refine sorted_ints il (K3 hvl e) (by refine rwl hvl.length ?_;exact h64) λout ns' a1 a2 a3=>?_
 obtain⟨e,he⟩:=sortedAll_at s.heap vs out;have hq:ns'=PySem.W.sortI ns:=PySem.W.eq_sortI a2 a3;subst hq;refine hQ _ _ s.toks Lh ⟨_,out.toList,rfl,λm=>?_,⟨_,he,rfl,e,by simp [seqObj],rfl,rfl⟩,LK a1⟩;obtain⟨o,ho⟩:=hl _ m;exact absurd (Heap.lt_size ho) (Nat.not_lt.mpr (Nat.le_succ _))
noncomputable def BT(xs:List Nat):List Nat:=xs.mergeSort Nat.ble
theorem Dy(l:List Nat):(BT l).Perm l:=List.mergeSort_perm ..
theorem Gc(l:List Nat):(BT l).Pairwise (·≤ ·):=
 (List.pairwise_mergeSort (le:=Nat.ble) (λ_ _ _ h k=>Nat.ble_eq_true_of_le (Nat.le_trans (Nat.le_of_ble_eq_true h) (Nat.le_of_ble_eq_true k))) (λa b=>Bool.or_eq_true_iff.mpr ((Nat.le_total a b).imp Nat.ble_eq_true_of_le Nat.ble_eq_true_of_le)) l).imp (λh=>Nat.le_of_ble_eq_true h)
noncomputable def sg(c:Nat):Str:=⟨#[c]⟩
theorem rises_sg:∀(l:List Nat),sortedS (l.map sg)=true->l.Pairwise (·≤ ·)
 |[]=>λ_=>.nil
 |[_]=>λ_=>by simp
 |x::y::r=>λh=>by
  have h':(!ltCps [y] [x]&&risingS (sg y) (r.map sg))=true:=h;rw [Bool.and_eq_true] at h';have h1:¬y<x:=by
   have:=h'.1;simp [ltCps] at this
   (exact Nat.not_lt.mpr this)
  have ih:=rises_sg (y::r) h'.2;refine List.pairwise_cons.mpr ⟨λz hz=>?_,ih⟩
  rcases mC hz with rfl|hz
  ·(exact Nat.le_of_not_lt h1)
  ·have:=(List.pairwise_cons.mp ih).1 z hz;lia
theorem QX{l:List Nat}{ss:List Str}(hp:ss.Perm (l.map sg))(hs:sortedS ss=true):ss=(BT l).map sg:=by
 have back:∀(k:List Nat),(k.map sg).map (λx:Str=>x.cps.getD 0 0)=k:=λk=>by refine rwl List.map_map ?_;exact List.map_id'' (λc=>rfl) k
 have hk:(ss.map (λx:Str=>x.cps.getD 0 0)).Perm l:=by
  have:=hp.map (λx:Str=>x.cps.getD 0 0)
  rwa [back] at this
 have all:∀x∈ss,sg (x.cps.getD 0 0)=x:=λx hx=>by
  obtain⟨c,_,rfl⟩:=mM (hp.mem_iff.mp hx);rfl
 have e:(ss.map (λx:Str=>x.cps.getD 0 0)).map sg=ss:=by
  refine rwl List.map_map ?_;have:∀x∈ss,(sg∘ λx:Str=>x.cps.getD 0 0) x=id x:=all
  (simp only [List.map_congr_left this,List.map_id])
 rw [←e] at hs⊢
 congr 1
 exact List.Perm.eq_of_pairwise (λ_ _ _ _ a b=>Nat.le_antisymm a b) (rises_sg _ hs) (Gc l) (hk.trans (Dy l).symm)
theorem Mm:∀{cs:List Nat} {vs:List Value},vs.length=cs.length->(∀(j:Nat) (v:Value),vs[j]? =some v->∃(c:Nat) (u:Tok),cs[j]? =some c/\v=Value.str ⟨#[c]⟩ u)->StrsAre vs (cs.map sg)
 |[],[]=>λ_ _=>.nil
 |[],_::_=>λe _=>by simp at e
 |_::_,[]=>λe _=>by simp at e
 |c::cs,v::vs=>λe h=>by
  obtain⟨c',u,hc,rfl⟩:=h 0 v rfl
  cases hc
  exact .cons _ _ (Mm (by simpa using e) λj v hv=>h (j+1) v hv)
theorem Ld{vs:List Value}{ss:List Str}(q:StrsAre vs ss):HoldsL prog w X h (ss.map T.str) vs:=by
 induction q with
 |nil=>exact rfl
 |cons y t r ih=>exact⟨_,_,rfl,⟨t,rfl⟩,ih⟩
theorem HI{x:Str}(hA:AOk A n)(hl:Live Hd s.heap)(h64:x.length<64)(hv:Holds prog w Hd s.heap (.str x) a):Op prog w A Hd s (call (.builtin "sorted") [a]) (.list ((BT x.cps.toList).map λc=>T.str (sg c))):=by
 obtain⟨t,rfl⟩:=hv;intro Q E hQ;refine Calls.call_function_entry kind_sorted plain_sorted entry_sorted (args_sorted1 _) ?_;refine wpAny_bind (m:=checkCount "sorted" 1 1 _) (wpAny_pure ?_);have hx:x.cps.size<64:=h64;refine wpAny_bind (wpAny_collect_str (show A.in1.handled=none from hA.handled) x t (λs' acc hk hg hd ho hi=>?_) (Nat.le_trans (Nat.le_of_lt hx) (by decide)));obtain⟨hi1,hi2⟩:=hi;have hS:StrsAre acc.toList (x.cps.toList.map sg):=Mm (by simpa using hi1) λj v hv=>by
  obtain⟨c,u,hc,e⟩:=hi2 j v (by simpa using hv);exact⟨c,u,by simpa using hc,e⟩
 refine wpAny_bind (wpAny_newList ?_ (by(refine rwl Array.length_toList ?_;refine rwl hi1 ?_);exact Nat.le_trans (Nat.le_of_lt hx) (by decide)));have hoL:(s'.heap.push (seqObj "list" acc.toList.toArray 0)).get? s'.heap.objs.size=some (seqObj "list" acc.toList.toArray 0):=Heap.get?_push_size _ rfl;show wpAny _ _ _ _ _ {s' with heap:=s'.heap.push (seqObj "list" acc.toList.toArray 0)};refine wpAny_bind (wpAny_holding (wpAny_call_entry slot_list_sort ⟨_,hoL,rfl⟩ entry_list_sort (list_sort_treeK strKind_oneLt hoL hS.keysOf (λv₁ v₂ rest e=>keyKind_strs (by refine rwr e ?_;exact hS)) (by simpa [hi1] using hx) λst' hp hs=>?_) (args_list_sort _)));obtain⟨ss',h1,h2,h3⟩:=sorted_out_str hS hp hs;have hq:=QX h2 h3;subst hq;refine⟨_,rfl,wpAny_pure ⟨_,rfl,?_⟩⟩;obtain⟨hh,hgn,hdr,htk,hos⟩:=s';dsimp only at hg hd ho hk⊢;subst hg hd ho;obtain⟨e,he⟩:∃e,(sortedHeap (hh.push (seqObj "list" acc.toList.toArray 0)) hh.objs.size acc.toList ((arrOf st').map (·.2))).get? hh.objs.size=some (seqObj "list" ((arrOf st').map (·.2)) e):=sortedHeap_at hoL;have sb:Sub s.heap (sortedHeap (hh.push (seqObj "list" acc.toList.toArray 0)) hh.objs.size acc.toList ((arrOf st').map (·.2))):=λb o eb=>by
  have hb:=hk b o eb;rw [sortedHeap_old (Nat.ne_of_lt (Heap.lt_size hb)) (by rw [Heap.size_push];exact Nat.lt_succ_of_lt (Heap.lt_size hb))];exact Heap.get?_push_of_some _ hb
 refine hQ _ _ _ sb ⟨_,((arrOf st').map (·.2)).toList,rfl,λm=>?_,⟨_,he,rfl,e,by simp only [seqObj],rfl,rfl⟩,?_⟩
 ·obtain⟨o,ho⟩:=hl _ m;have:=hk _ _ ho;exact Nat.lt_irrefl _ (Heap.lt_size this)
 ·have:=Ld (prog:=prog) (w:=w) (X:=Hd) (h:=sortedHeap (hh.push (seqObj "list" acc.toList.toArray 0)) hh.objs.size acc.toList ((arrOf st').map (·.2))) h1;rw [List.map_map] at this;exact this
end
noncomputable def plainE:Expr->Bool
 |.Starred .. =>false
 |_=>true
theorem Aa{e:Expr}{es:List Expr}{env:Env}(h:plainE e=true):starEach (e::es) env=(false,eval e env)::starEach es env:=by
 cases e<;>first|rfl|exact Bool.noConfusion (show false=true from h)
theorem FO{es:List Expr}{env:Env}{pos:Pos}(h:∀e∈es,plainE e=true):(backTo pos (starEach es env)).any (·.1)=false:=by
 induction es with
 |nil=>rfl
 |cons e es ih=>
  refine rwl (Aa (h e (.head _))) ?_;refine rwl (ih λe m=>h e (.tail _ m)) ?_;rfl
theorem BW{es:List Expr}{env:Env}{pos:Pos}(h:∀e∈es,plainE e=true):(backTo pos (starEach es env)).all (λx=> !x.1)=true:=by
 induction es with
 |nil=>rfl
 |cons e es ih=>
  refine rwl (Aa (h e (.head _))) ?_;refine rwl (ih λe m=>h e (.tail _ m)) ?_;rfl
noncomputable def GlobAt(B:Heap)(x:Str)(v:Value):Prop:=∃mg,B.Ns mainGlobals mg/\(mg x=some v\/(mg x=none/\∃mb,B.Ns builtinsNs mb/\mb x=some v))
theorem GlobAt.is{B h:Heap}{env:Env}{x:Str}{v:Value}(g:GlobAt B x v)(k:Sub B h)(hk:env.kindOf x=some .globalImplicit):GlobIs env h x v:=by
 obtain⟨mg,n,e⟩:=g;refine⟨hk,mg,n.keeps k,e.imp id ?_⟩
 rintro ⟨e,mb,nb,eb⟩
 exact⟨e,mb,nb.keeps k,eb⟩
section
variable{prog:Program}{w:World}{C:Cx}{B:Heap}{A:Around}{H0 Mu:List Addr}{env:Env}{σ σ₁ σ₂:Sig}{n:Nat}{t r c:T}{ts:List T}{ad:Str->Addr}{h h':Heap}{pos apos np:Pos}{x:Str}{es:List Expr}{v:Value}
theorem FF{f:Value}{s:Shared}{Q:Args->Shared->Prop}{E:Value->Shared->Prop}(hp:∀e∈es,plainE e=true)(pa:PEs prog w C B A env pos es σ ts σ₁)(F:Fm prog w C B H0 Mu env σ ad s.heap)
  (hQ:∀vs h' k,Kp Mu s.heap h'->Fm prog w C B H0 Mu env σ₁ ad h'->HoldsL prog w (Mu++H0) h' ts vs->Q ⟨vs,[]⟩ {s with heap:=h',toks:=k}):
  wpAny (model prog w) A (evalArgs f true (backTo pos (starEach es env)) []) Q E s:=by
 cases es with
 |nil=>
  refine wpAny_bind (pa H0 Mu ad s _ _ F λvs h' k kp F' hv=>?_);refine wpAny_bind (wpAny_pure ?_);refine wpAny_holding ?_;exact wpAny_bind (wpAny_pure (wpAny_bind (wpAny_pure (wpAny_pure (hQ vs h' k kp F' hv)))))
 |cons e es=>
  have:=pa H0 Mu ad s (λvs s'=>Q ⟨vs,[]⟩ s') E F λvs h' k kp F' hv=>hQ vs h' k kp F' hv
  rw [Aa (hp e (.head _))] at this⊢;exact evalArgs_plain this
theorem Pw(hd:(x==("__debug__":Str))=false)(hk:env.kindOf x=some .globalImplicit)(g:GlobAt B x v)(hv:∀X h,Holds prog w X h t v):PE prog w C B A env (.Name x pos) σ t σ:=λH0 Mu ad s Q E F hQ=>
 wpAny_Name (Bc F.kind F.glob F.blt (g.is F.base hk) (hQ v s.heap s.toks (Kp.refl _ _) F (hv _ _))) hd
theorem MM{s:Shared}{m:Sem Value}{Q:Value->Shared->Prop}{E:Value->Shared->Prop}{s0:Heap}(F:Fm prog w C B H0 Mu env σ ad s.heap)(kp:Kp Mu s0 s.heap)(o:Op prog w A (Mu++H0) s m c)
  (hQ:∀v h' k,Kp Mu s0 h'->Fm prog w C B H0 Mu env σ ad h'->Holds prog w (Mu++H0) h' c v->Q v {s with heap:=h',toks:=k}):wpAny (model prog w) A m Q E s:=
 Ii F o λv h' k sb F' hv=>hQ v h' k (kp.trans (Kp.of_sub sb)) F' hv
theorem Lx{a:Addr}{ps:List Str}{body:List Stmt}{scope:Scope}(hd:(x==("__debug__":Str))=false)(hk:env.kindOf x=some .globalImplicit)(g:GlobAt B x (.ref a))
  (hA:AOk A (n+1)) (lim:B.NoLimit) (fa:FdAt B a ps body scope) (ok:FU ps scope=true) (hl:ts.length=ps.length) (hp:∀e∈es,plainE e=true) (pa:PEs prog w C B A env pos es σ ts σ₁)
  (run:∀(C':Cx) (env':Env),Lk C' env' (En scope)->C'.cls=C.cls->C'.tk=HF ps scope->PS prog w C' B (A.deeper env') env' body (CQ ps ts) (.ret r)):PE prog w C B A env (.Call (.Name x np) es [] pos) σ r σ₁:=λH0 Mu ad s Q E F hQ=>by
 refine Call_Name rfl (wpAny_Name (Bc F.kind F.glob F.blt (g.is F.base hk) ?_) hd);obtain⟨o,fd,ho,hdt,rest⟩:=id fa;refine callWith_function_kw (o:=o) (fd:=fd) (FF hp pa F λvs h₁ k₁ kp₁ F₁ hv=>⟨⟨F₁.base _ _ ho,hdt⟩,?_⟩);exact TL (s:={s with heap:=h₁,toks:=k₁}) hA lim fa ok hl run F₁.base F₁.hlive hv λv h₂ k₂ sb hr=>hQ v h₂ k₂ (kp₁.trans (Kp.of_sub sb)) (F₁.up sb) hr
noncomputable def C2:Expr->Bool
 |.Call .. =>false
 |_=>true
theorem Aw{o:Expr}{name:Str}(h:C2 o=true):attributeBase o name env (eval o env)=eval o env:=by
 cases o<;>first|rfl|exact Bool.noConfusion (show false=true from h)
theorem IW{o:Expr}{name:Str}{id:String}{y:Str}(slot:PySem.Slot "str" name id)(ty:typeOf (.builtin id)=pure (.type "method_descriptor"))(hn:C2 o=true)(hline:(apos.endLine==pos.line)=true)(hlen:es.length<30)
  (hp:∀e∈es,plainE e=true) (pl:PE prog w C B A env o σ (.str y) σ₁) (pa:PEs prog w C B A env pos es σ₁ ts σ₂)
  (po:∀Hd s a vs,Live Hd s.heap->Holds prog w Hd s.heap (.str y) a->HoldsL prog w Hd s.heap ts vs->Op prog w A Hd s (call (.builtin id) (a::vs)) c):PE prog w C B A env (.Call (.Attribute o name apos) es [] pos) σ c σ₂:=λH0 Mu ad s Q E F hQ=>by
 refine wpAny_Call_method_lateS (Aw hn) (by refine rwl (BW hp) ?_;show(true&&true&&decide (es.length+0+0<30))=true;simpa using hlen) hline (pl H0 Mu ad s _ _ F λov h₁ k₁ kp₁ F₁ hv=>?_);have hv':=hv;obtain⟨t,rfl⟩:=hv';refine⟨"str",id,PySem.F.plainAttrs_str,slot,ty,typeIs_str _ _ _,(λ_ e=>nomatch e),?_⟩;refine Calls.callWith_builtin (FO hp) (FF (s:={s with heap:=h₁,toks:=k₁}) hp pa F₁ λvs h₂ k₂ kp₂ F₂ hvs=>?_);exact MM (s:={s with heap:=h₂,toks:=k₂}) F₂ (kp₁.trans kp₂) (po _ _ _ _ F₂.hlive (BJ hv kp₂) hvs) hQ
end
noncomputable def Mn:List T->Option (List Str):=NV T.str?
section
variable{prog:Program}{w:World}{A:Around}{Hd:List Addr}{s:Shared}{n:Nat}{a:Value}{vs:List Value}{X:List Addr}{h:Heap}{x y:Str}{ts:List T}{c:T}
theorem OO{ts:List T}{vs:List Value}{ns:List Str}(hv:HoldsL prog w X h ts vs)(e:Mn ts=some ns):∃l:List (Str×Tok),vs=strValues l/\l.map (·.1)=ns:=
 LG (P:=λvs ns=>∃l:List (Str×Tok),vs=strValues l/\l.map (·.1)=ns) ⟨[],rfl,rfl⟩ (λt v j vs js q hx ⟨l,e1,e2⟩=>by
  rw [str?_eq q] at hx;obtain⟨t,rfl⟩:=hx;subst e1 e2;exact⟨(j,t)::l,rfl,rfl⟩) _ _ _ hv e
theorem Ct:∀(l:List (Str×Tok)),HoldsL prog w X h ((l.map (·.1)).map T.str) (strValues l)
 |[]=>rfl
 |(x,t)::l=>⟨_,_,rfl,⟨t,rfl⟩,Ct l⟩
noncomputable def fit(x:Str):Option T:=if x.length<=4096 then some (.str x) else none
theorem Go{x:Str}(h:x.length<=4096):Builtin.Str.tooLong x.length=false:=by
 unfold Builtin.Str.tooLong;exact decide_eq_false (Nat.not_lt.mpr (Nat.le_trans h (by decide)))
noncomputable def no0(k:Option T)(ts:List T):Option T:=match ts with
 |[]=>k
 |_::_=>none
noncomputable def arg(k:T->Option T)(ts:List T):Option T:=match ts with
 |[]=>none
 |t::r=>no0 (k t) r
theorem PY{k:Option T}{P:List Value->Prop}(e:no0 k ts=some c)(hv:HoldsL prog w X h ts vs)(q:k=some c->P []):P vs:=by
 cases ts with
 |cons _ _=>cases e
 |nil=>
  have q':vs=[]:=hv;subst q';exact q e
theorem UC{k:T->Option T}{P:List Value->Prop}(e:arg k ts=some c)(hv:HoldsL prog w X h ts vs)(q:∀t v,k t=some c->Holds prog w X h t v->P [v]):P vs:=by
 cases ts with
 |nil=>cases e
 |cons t r=>
  obtain⟨v,r,rfl,hx,hr⟩:=hv;exact PY (P:=λr=>P (v::r)) e hr λe=>q t v e hx
set_option genCtorIdx true in
inductive Met where
 |lower|upper|find|rfind|startswith|join|split
noncomputable def Met.run(m:Met)(x:Str):List T->Option T:=match m with
 |.lower=>no0 (fit (Txt.lower x))
 |.upper=>no0 (fit (Txt.upper x))
 |.find=>arg (·.onS λy=>some (.int (Txt.find x y)))
 |.rfind=>arg (·.onS λy=>some (.int (Txt.rfind x y)))
 |.startswith=>arg (·.onS λy=>some (.bool (Txt.startswith x y)))
 |.join=>arg (·.onL λts=>(Mn ts).bind λl=>if JoinOk x l then some (.str (Txt.join x l)) else none)
 |.split=>arg (·.onS λy=>if y.length≠0/\x.length<=4096/\(Txt.split x y).length<=4096/\(Builtin.Str.partsBetween x (Builtin.Str.occurrences x y 0 x.length (x.length+1)) y.length).length<=4096 then some (.list ((Txt.split x y).map .str)) else none)
noncomputable def Met.id:Met->String
 |.lower=>"str.lower"|.upper=>"str.upper"|.find=>"str.find"|.rfind=>"str.rfind"|.startswith=>"str.startswith"|.join=>"str.join"|.split=>"str.split"
noncomputable def Met.name:Met->Str
 |.lower=>"lower"|.upper=>"upper"|.find=>"find"|.rfind=>"rfind"|.startswith=>"startswith"|.join=>"join"|.split=>"split"
theorem Met.slot(m:Met):PySem.Slot "str" m.name m.id:=by
 cases m
 ·exact PySem.F.slot_str_lower
 ·exact PySem.F.slot_str_upper
 ·exact PySem.F.slot_str_find
 ·exact PySem.F.slot_str_rfind
 ·exact PySem.F.slot_str_startswith
 ·exact PySem.F.slot_str_join
 ·exact PySem.F.slot_str_split
theorem Met.ty(m:Met):typeOf (.builtin m.id)=pure (.type "method_descriptor"):=by
 cases m
 ·exact PySem.F.type_str_lower
 ·exact PySem.F.type_str_upper
 ·exact PySem.F.type_str_find
 ·exact PySem.F.type_str_rfind
 ·exact PySem.F.type_str_startswith
 ·exact PySem.F.type_str_join
 ·exact PySem.F.type_str_split
theorem M9{f:Str->Option T}{F:List Value->Sem Value}(e:arg (·.onS f) ts=some c)(hv:HoldsL prog w Hd s.heap ts vs)(k:∀y u,f y=some c->Op prog w A Hd s (F [.str y u]) c):Op prog w A Hd s (F vs) c:=
 UC (P:=λvs=>Op prog w A Hd s (F vs) c) e hv λt v e hx=>Gg (P:=λv=>Op prog w A Hd s (F [v]) c) e hx k
theorem Met.op(m:Met)(e:m.run x ts=some c)(hl:Live Hd s.heap)(ha:Holds prog w Hd s.heap (.str x) a)(hv:HoldsL prog w Hd s.heap ts vs):Op prog w A Hd s (call (.builtin m.id) (a::vs)) c:=by
 obtain⟨t,rfl⟩:=ha
 cases m with
 |lower=>exact PY (P:=λvs=>Op prog w A Hd s (call (.builtin "str.lower") (.str x t::vs)) c) e hv λe=>its e λh e=>EP e λQ E hQ=>SC.lower (Go h) (hQ _ s.heap _ (λ_ _ e=>e) ⟨_,rfl⟩)
 |upper=>exact PY (P:=λvs=>Op prog w A Hd s (call (.builtin "str.upper") (.str x t::vs)) c) e hv λe=>its e λh e=>EP e λQ E hQ=>SC.upper (Go h) (hQ _ s.heap _ (λ_ _ e=>e) ⟨_,rfl⟩)
 |find=>exact M9 (F:=λvs=>call (.builtin "str.find") (.str x t::vs)) e hv λy u e=>EP e λQ E hQ=>SC.find (hQ _ s.heap _ (λ_ _ e=>e) ⟨_,rfl⟩)
 |rfind=>exact M9 (F:=λvs=>call (.builtin "str.rfind") (.str x t::vs)) e hv λy u e=>EP e λQ E hQ=>SC.rfind (hQ _ s.heap _ (λ_ _ e=>e) ⟨_,rfl⟩)
 |startswith=>exact M9 (F:=λvs=>call (.builtin "str.startswith") (.str x t::vs)) e hv λy u e=>EP e λQ E hQ=>SC.startswith (hQ _ s.heap s.toks (λ_ _ e=>e) rfl)
 |join=>
  refine UC (P:=λvs=>Op prog w A Hd s (call (.builtin "str.join") (.str x t::vs)) c) e hv λb v e hx=>Uk e λys q e=>?_
  subst q;obtain⟨D,ws,rfl,hD,il,hw⟩:=hx;obtain⟨l,q,e⟩:=Option.bind_eq_some_iff.mp e;obtain⟨l',rfl,rfl⟩:=OO hw q;exact its e λh e=>EP e λQ E hQ=>SC.join il.is rfl h λt' k=>hQ _ s.heap k (λ_ _ e=>e) ⟨_,rfl⟩
 |split=>
  refine M9 (F:=λvs=>call (.builtin "str.split") (.str x t::vs)) e hv λy u e=>its e λhc e=>EP e λQ E hQ=>?_
  obtain⟨h0,h1,h2,h3⟩:=hc;have out:∀(l:List (Str×Tok)) (k:Nat),l.map (·.1)=Txt.split x y->Q (.ref s.heap.objs.size) {s with toks:=k,heap:=s.heap.push {cls:=.type "list",data:=.seq (strValues l).toArray}}:=λl k hq=>
   hQ _ _ k (Sub.push' _ _) ⟨_,strValues l,rfl,hl.new,⟨_,Heap.get?_push_size _ rfl,rfl,_,rfl,rfl,rfl⟩,by refine rwr hq ?_;exact Ct l⟩
  have hy:(y.length==0)=false:=beq_false_of_ne h0
  cases h1':(decide (x.length<y.length)||decide (Builtin.Str.strKind x<Builtin.Str.strKind y))
  ·cases hf:(Builtin.Str.occurrences x y 0 x.length (x.length+1)).isEmpty
   ·refine call_meets PySem.F.slot_str_split (typeIs_str _ _ _) PySem.F.entry_str_split (PySem.F.args_str_split_2 _ _) (meets_str_split_sep x y t u h1' hy hf (Nat.le_trans h1 (by decide)) (Nat.le_trans h3 (by decide))) ?_;show wants Q E _ {s with toks:=_,heap:=s.heap.push {cls:=.type "list",data:=.seq (strsFrom s.toks (Builtin.Str.partsBetween x (Builtin.Str.occurrences x y 0 x.length (x.length+1)) y.length)).toArray}};rw [strsFrom_eq];exact out _ _ ((numbered_texts _ _).trans ((if_neg (ne_true_of_eq_false h1')).trans (if_neg (ne_true_of_eq_false hf))).symm)
   ·exact call_meets PySem.F.slot_str_split (typeIs_str _ _ _) PySem.F.entry_str_split (PySem.F.args_str_split_2 _ _) (meets_str_split_not_found x y t u h1' hy hf)
     (out [(x,t)] _ ((if_neg (ne_true_of_eq_false h1')).trans (if_pos hf)).symm)
  ·exact call_meets PySem.F.slot_str_split (typeIs_str _ _ _) PySem.F.entry_str_split (PySem.F.args_str_split_2 _ _) (meets_str_split_cannot_occur x y t u h1')
    (out [(x,t)] _ (if_pos h1').symm)
end
section
variable{prog:Program}{w:World}{C:Cx}{B:Heap}{A:Around}{H0 Mu:List Addr}{env:Env}{σ σ₁ σ₂:Sig}{n:Nat}{t r c:T}{ad:Str->Addr}{h h':Heap}{pos:Pos}{x:Str}{o:Own}{a:Addr}
theorem OwnAt.mv{Hd Hd' Mu Mu':List Addr}(k:Sub h h')(hy:∀b∈Hd',b∈Hd\/h.get? b=none)(q:OwnAt prog w C Hd Mu h a o):OwnAt prog w C Hd' Mu' h' a o:=by
 exact q.mvK (k _) (Kp.of_sub k) hy
theorem OwnAt.some{Hd Mu:List Addr}(q:OwnAt prog w C Hd Mu h a o):∃ob,h.get? a=some ob:=by
 cases o with
 |list xs=>obtain⟨vs,⟨o,ho⟩,hl⟩:=q;exact⟨_,ho⟩
 |dI f n=>obtain⟨g,⟨o,es,ep,ho,r⟩,hg⟩:=q;exact⟨_,ho⟩
 |acc xs=>obtain⟨vs,d,⟨⟨n,hn⟩,r⟩,hl⟩:=q;exact⟨_,hn⟩
theorem Fm.adopt(F:Fm prog w C B H0 Mu env σ ad h)(k:Sub h h')(fr:h.get? a=none)(ex:∃o,h'.get? a=some o):Fm prog w C B H0 (a::Mu) env σ ad h':=by
 refine F.add k fr ex (λ_ m=>.tail _ m) (λ_ m=>mC m) (λ_ m=>mC m) λb m q=>?_
 rcases mC m with rfl|m
 ·exact F.new fr (List.mem_append_right _ q)
 ·exact F.apart b m q
theorem HX{s:Shared}{Q:Unit->Shared->Prop}{E:Value->Shared->Prop}(hl:env.kindOf x=some .local)(F:Fm prog w C B H0 Mu env σ ad s.heap)(O:Mine1 prog w C H0 Mu env σ ad s.heap a o)
  (hQ:∀h' k,Kp [env.locals] s.heap h'->Fm prog w C B H0 Mu env ((x,.ow o)::σ) (λy=>if y=x then a else ad y) h'->Q () {s with heap:=h',toks:=k}):wpAny (model prog w) A (storeName env x (.ref a)) Q E s:=by
 exact GJ hl F λh' k k1 f=>hQ h' k k1 (f _ _ (.ow (if_pos rfl) rfl O.mem O.loc O.cel O.own λy o _ e=>O.new y o e) λ_ q=>if_neg q)
theorem Lf{s:Shared}{v:Value}{Q:Unit->Shared->Prop}{E:Value->Shared->Prop}(hl:env.kindOf x=some .local)(F:Fm prog w C B H0 Mu env σ ad s.heap)(hv:Holds prog w (Mu++H0) s.heap t v)
  (hQ:∀h' k,Kp [env.locals] s.heap h'->Fm prog w C B H0 Mu env ((x,.fz t)::σ) ad h'->Q () {s with heap:=h',toks:=k}):wpAny (model prog w) A (storeName env x v) Q E s:=by
 exact GF (.inl hl) F hv λh' k _ k1 F'=>hQ h' k (k1 hl) F'
end
section
variable{prog:Program}{w:World}{C:Cx}{B:Heap}{A:Around}{H0 Mu:List Addr}{env:Env}{σ σ₁ σ₂:Sig}{n:Nat}{t r c:T}{ad:Str->Addr}{h h':Heap}{pos:Pos}{x:Str}{o:Own}{a:Addr}
noncomputable def CrL(prog:Program)(w:World)(C:Cx)(H0 Mu:List Addr)(env:Env)(σ:Sig)(ad:Str->Addr)(h:Heap):List Slot->List Value->List Addr->Prop
 |[],vs,as=>vs=[]/\as=[]
 |.fz t::r,vs,as=>∃v vs',vs=v::vs'/\Holds prog w (Mu++H0) h t v/\CrL prog w C H0 Mu env σ ad h r vs' as
 |.ow o::r,vs,as=>∃a vs' as',vs=.ref a::vs'/\as=a::as'/\Mine1 prog w C H0 Mu env σ ad h a o/\a∉as'/\CrL prog w C H0 Mu env σ ad h r vs' as'
 |.ch _::_,_,_=>False
theorem CrL.mv{Mu':List Addr}(k:Sub h h')(sub:∀b∈Mu,b∈Mu')(hy:∀b∈Mu',b∈Mu\/h.get? b=none){sls:List Slot}:∀{vs:List Value} {as:List Addr},CrL prog w C H0 Mu env σ ad h sls vs as->CrL prog w C H0 Mu' env σ ad h' sls vs as:=by
 have old:∀b∈Mu'++H0,b∈Mu++H0\/h.get? b=none:=λb m=>(mA m).elim (λm=>(hy b m).imp (List.mem_append_left _) id) λm=>.inl (List.mem_append_right _ m)
 induction sls with
 |nil=>intro _ _ q;exact q
 |cons sl r ih=>cases sl with
  |fz t=>intro _ _ q;obtain⟨v,vs',e,hv,hr⟩:=q;exact⟨v,vs',e,hv.mv (Kp.of_sub k) old,ih hr⟩
  |ow o=>intro _ _ q;obtain⟨a,vs',as',e1,e2,O,hn,hr⟩:=q;exact⟨a,vs',as',e1,e2,⟨sub _ O.mem,O.loc,O.cel,O.own.mv k old,O.new⟩,hn,ih hr⟩
  |ch c=>intro _ _ q;exact q
theorem CrL.live{sls:List Slot}:∀{vs:List Value} {as:List Addr},CrL prog w C H0 Mu env σ ad h sls vs as->∀a∈as,a∈Mu:=by
 induction sls with
 |nil=>intro _ _ q a m;rw [q.2] at m;cases m
 |cons sl r ih=>cases sl with
  |fz t=>intro _ _ q;obtain⟨v,vs',e,hv,hr⟩:=q;exact ih hr
  |ow o=>
   intro _ _ q b m;refine lid λgg kk=>?_
   obtain⟨a,vs',as',e1,rfl,O,hn,hr⟩:=q;refine kk ?_
   rcases mC m with rfl|m
   ·exact O.mem
   ·exact ih hr _ m
  |ch c=>intro _ _ q;exact q.elim
noncomputable def PC(prog:Program)(w:World)(C:Cx)(B:Heap)(A:Around)(env:Env)(e:Expr)(σ:Sig)(sl:Slot):Prop:=
 match sl with
 |.fz t=>∀(H0 Mu:List Addr) (ad:Str->Addr) (s:Shared) (Q:Value->Shared->Prop) (E:Value->Shared->Prop),Fm prog w C B H0 Mu env σ ad s.heap->
  (∀v h' k,Sub s.heap h'->Holds prog w (Mu++H0) h' t v->Q v {s with heap:=h',toks:=k})->wpAny (model prog w) A (eval e env) Q E s
 |.ow o=>∀(H0 Mu:List Addr) (ad:Str->Addr) (s:Shared) (Q:Value->Shared->Prop) (E:Value->Shared->Prop),Fm prog w C B H0 Mu env σ ad s.heap->
  (∀a h' k,Sub s.heap h'->s.heap.get? a=none->OwnAt prog w C (a::(Mu++H0)) (a::Mu) h' a o->Q (.ref a) {s with heap:=h',toks:=k})->wpAny (model prog w) A (eval e env) Q E s
 |.ch _=>False
theorem Fm.mine(F:Fm prog w C B H0 Mu env σ ad h)(fa:h.get? a=none)(O:OwnAt prog w C (a::(Mu++H0)) (a::Mu) h' a o):Mine1 prog w C H0 (a::Mu) env σ ad h' a o:=by
 refine⟨.head _,λq=>?_,λn c e q=>?_,O,λy o' e q=>?_⟩
 ·obtain⟨m,oo,es,ep,ho,_⟩:=F.ns;rw [←q,fa] at ho;cases ho
 ·obtain⟨⟨v,oo,ho,_⟩,_⟩:=F.cells n c e;rw [←q,fa] at ho;cases ho
 ·obtain⟨_,mm,_,_,_⟩:=F.owns y o' e;obtain⟨oo,ho⟩:=F.live _ (List.mem_append_left _ mm);rw [q,fa] at ho;cases ho
theorem Hu(k:Sub h h'){b:Addr}(e:h'.get? b=none):h.get? b=none:=by
 cases q:h.get? b with
 |none=>rfl
 |some o=>rw [k b o q] at e;cases e
theorem Wx(es:List Expr):∀(sls:List Slot),(∀e∈es,plainE e=true)->sls.length=es.length->(∀(i:Nat) (e:Expr) (sl:Slot),es[i]? =some e->sls[i]? =some sl->PC prog w C B A env e σ sl)->
  ∀(Mu:List Addr) (s:Shared) (rsl:List Slot) (rvs:List Value) (as:List Addr) (Q:List Value->Shared->Prop) (E:Value->Shared->Prop),Fm prog w C B H0 Mu env σ ad s.heap->CrL prog w C H0 Mu env σ ad s.heap rsl rvs as->
  (∀vs h' k nw as',Sub s.heap h'->(∀b∈nw,s.heap.get? b=none)->Fm prog w C B H0 (nw++Mu) env σ ad h'->CrL prog w C H0 (nw++Mu) env σ ad h' (sls.reverse++rsl) (vs.reverse++rvs) as'->vs.length=es.length->Q vs {s with heap:=h',toks:=k})->
  wpAny (model prog w) A (spliced (backTo pos (starEach es env))) Q E s:=by
 induction es with
 |nil=>
  intro sls _ hl _ Mu s rsl rvs as Q E F L hQ;have:sls=[]:=List.length_eq_zero_iff.mp hl;subst this;exact spliced_nil (hQ [] s.heap s.toks [] as (λ_ _ e=>e) (λ_ m=>nomatch m) F L rfl)
 |cons e es ih=>
  intro sls hp hl hpc Mu s rsl rvs as Q E F L hQ
  cases sls with
  |nil=>cases hl
  |cons sl sls=>
   refine rwl (Aa (hp e (.head _))) ?_;show wpAny (model prog w) A (spliced ((false,eval e env)::backTo pos (starEach es env))) Q E s;have ih:=ih sls (λe m=>hp e (.tail _ m)) (Nat.succ.inj hl) λi=>hpc (i+1)
   have pc:=hpc 0 e sl rfl rfl
   cases sl with
   |ch c=>exact pc.elim
   |fz t=>
    refine spliced_cons (pc H0 Mu ad s _ _ F λv h₁ k₁ sb₁ hv=>?_);refine ih Mu {s with heap:=h₁,toks:=k₁} (.fz t::rsl) (v::rvs) as _ _ (F.up sb₁) ⟨v,rvs,rfl,hv,L.mv sb₁ (λ_ m=>m) λ_ m=>.inl m⟩ λvs h' k nw as' sb' fr F' L' hlen=>?_
    exact hQ (v::vs) h' k nw as' (Sub.trans' sb₁ sb') (λb m=>Hu sb₁ (fr b m)) F' (by rw [List.reverse_cons,List.reverse_cons,←List.append_cons sls.reverse,←List.append_cons vs.reverse];exact L') (congrArg Nat.succ hlen)
   |ow o=>
    refine spliced_cons (pc H0 Mu ad s _ _ F λa h₁ k₁ sb₁ fa O=>?_);have na:a∉as:=λm=>by
     obtain⟨oo,ho⟩:=F.live a (List.mem_append_left _ (L.live a m));rw [fa] at ho;cases ho
    refine ih (a::Mu) {s with heap:=h₁,toks:=k₁} (.ow o::rsl) (.ref a::rvs) (a::as) _ _ (F.adopt sb₁ fa O.some) ⟨a,rvs,as,rfl,rfl,F.mine fa O,na,L.mv sb₁ (λ_ m=>.tail _ m) λb m=>?_⟩ λvs h' k nw as' sb' fr F' L' hlen=>?_
    ·rcases mC m with rfl|m
     ·exact .inr fa
     ·exact .inl m
    ·rw [List.append_cons nw a Mu] at F' L';refine hQ (.ref a::vs) h' k (nw++[a]) as' (Sub.trans' sb₁ sb') (λb m=>?_) F' (by rw [List.reverse_cons,List.reverse_cons,←List.append_cons sls.reverse,←List.append_cons vs.reverse];exact L') (congrArg Nat.succ hlen)
     rcases mA m with m|m
     ·exact Hu sb₁ (fr b m)
     ·refine rwl (mS m) ?_;exact fa
noncomputable def GK:List Str->List Slot->Sig->Sig
 |x::xs,sl::sls,σ=>GK xs sls ((x,sl)::σ)
 |_,_,σ=>σ
theorem Mine1.next{h':Heap}{b:Addr}{x:Str}{sl:Slot}(O:Mine1 prog w C H0 Mu env σ ad h a o)(k:Kp [env.locals] h h')(lm:env.locals∈Mu)(ne:∀o',sl=.ow o'->a≠b)(ad':Str->Addr)(hd:ad'=λy=>if y=x then b else ad y):
  Mine1 prog w C H0 Mu env ((x,sl)::σ) ad' h' a o:=by
 refine⟨O.mem,O.loc,O.cel,O.own.turn lm O.loc k,λy o1 e=>?_⟩;rw [AE] at e
 by_cases hy:y=x
 ·rw [if_pos hy] at e;cases e;refine rwl hd ?_;simp only [if_pos hy];exactλq=>ne _ rfl q.symm
 ·rw [if_neg hy] at e;refine rwl hd ?_;simp only [if_neg hy];exact O.new y o1 e
theorem CrL.next{h':Heap}{b:Addr}{x:Str}{sl:Slot}(k:Kp [env.locals] h h')(lm:env.locals∈Mu)(ad':Str->Addr)(hd:ad'=λy=>if y=x then b else ad y)
  {sls:List Slot}:∀{vs:List Value} {as:List Addr},(∀o',sl=.ow o'->b∉as)->CrL prog w C H0 Mu env σ ad h sls vs as->CrL prog w C H0 Mu env ((x,sl)::σ) ad' h' sls vs as:=by
 induction sls with
 |nil=>intro _ _ _ q;exact q
 |cons q r ih=>cases q with
  |fz t=>intro _ _ ne q;obtain⟨v,vs',e,hv,hr⟩:=q;exact⟨v,vs',e,hv.up (k.mono λb m=>by refine rwl (mS m) ?_;exact List.mem_append_left _ lm),ih ne hr⟩
  |ow o=>intro _ _ ne q;obtain⟨a,vs',as',e1,e2,O,hn,hr⟩:=q;exact⟨a,vs',as',e1,e2,O.next k lm (λo' e q=>ne o' e (by(refine rwl e2 ?_;refine rwl q ?_);exact .head _)) ad' hd,hn,ih (λo' e m=>ne o' e (by refine rwl e2 ?_;exact .tail _ m)) hr⟩
  |ch c=>intro _ _ _ q;exact q
theorem GG(xs:List Str):∀(sls:List Slot) (vs:List Value) (as:List Addr) (σ:Sig) (ad:Str->Addr) (s:Shared) (Q:Unit->Shared->Prop) (E:Value->Shared->Prop),(∀x∈xs,env.kindOf x=some .local)->xs.length=sls.length->
  Fm prog w C B H0 Mu env σ ad s.heap->CrL prog w C H0 Mu env σ ad s.heap sls vs as->
  (∀h' k ad',Kp Mu s.heap h'->Fm prog w C B H0 Mu env (GK xs sls σ) ad' h'->Q () {s with heap:=h',toks:=k})->wpAny (model prog w) A (assignInOrder (xs.map λn=>bindName env n) vs) Q E s:=by
 induction xs with
 |nil=>
  intro sls vs as σ ad s Q E hk hl F L hQ;have:sls=[]:=List.length_eq_zero_iff.mp hl.symm;subst this;obtain⟨rfl,rfl⟩:=L;exact wpAny_assignInOrder_none (hQ s.heap s.toks ad (Kp.refl _ _) F)
 |cons x xs ih=>
  intro sls vs as σ ad s Q E hk hl F L hQ
  cases sls with
  |nil=>cases hl
  |cons sl sls=>
   have hx:=hk x (.head _);have lm:∀b∈[env.locals],b∈Mu:=λb m=>by refine rwl (mS m) ?_;exact F.lmu
   have ih:=λvs as σ ad s Q E=>ih sls vs as σ ad s Q E (λy m=>hk y (.tail _ m)) (Nat.succ.inj hl)
   cases sl with
   |ch c=>exact L.elim
   |fz t=>
    obtain⟨v,vs',rfl,hv,hr⟩:=L;refine wpAny_assignInOrder_more (wpAny_bindName (Lf hx F hv λh' k k1 F'=>?_));exact ih vs' as _ ad {s with heap:=h',toks:=k} Q E F' (hr.next (b:=ad x) k1 F.lmu ad (by funext y;by_cases q:y=x<;>simp [q]) (λo' e=>nomatch e)) λh₂ k₂ ad₂ kp₂ F₂=>hQ h₂ k₂ ad₂ ((k1.mono lm).trans kp₂) F₂
   |ow o=>
    obtain⟨a,vs',as',rfl,rfl,O,hn,hr⟩:=L;refine wpAny_assignInOrder_more (wpAny_bindName (HX hx F O λh' k k1 F'=>?_));exact ih vs' as' _ _ {s with heap:=h',toks:=k} Q E F' (hr.next (b:=a) k1 F.lmu _ rfl (λo' _=>hn)) λh₂ k₂ ad₂ kp₂ F₂=>hQ h₂ k₂ ad₂ ((k1.mono lm).trans kp₂) F₂
theorem NG{ts es:List Expr}{k1 k2:Nat}{tp vp spos:Pos}{names:List Str}{sls:List Slot}(hA:AOk A n)(hp:∀e∈es,plainE e=true)(hl:sls.length=es.length)(h1000:es.length<=1000)(hn:names.length=es.length)
  (hpc:∀(i:Nat) (e:Expr) (sl:Slot),es[i]? =some e->sls[i]? =some sl->PC prog w C B A env e σ sl) (hk:∀x∈names,env.kindOf x=some .local)
  (hs:swapsWithSole [.Tuple ts k1 tp] (.Tuple es k2 vp) spos.line env=pure false) (hw:swappedStores [.Tuple ts k1 tp] (.Tuple es k2 vp) env=pure (some names)):
  PX prog w C B A env (.Assign [.Tuple ts k1 tp] (.Tuple es k2 vp) spos) σ (.nxt (GK names.reverse sls.reverse σ)):=λH0 Mu ad s Q E ht F hQ=>by
 refine Assign_Tuple_swapped ?_ hs hw;refine wpAny_Tuple_spliced (Wx es sls hp hl hpc Mu s [] [] [] _ _ F ⟨rfl,rfl⟩ λvs h₁ k₁ nw as sb fr F₁ L hlen=>?_);refine⟨Nat.le_trans (by refine rwl hlen ?_;exact h1000) (by decide),?_⟩;have sz:((List.toArray vs).size)=names.length:=by exact rwl List.size_toArray (rwl hlen (rwl hn rfl))
 have it:(h₁.push {cls:=.type "tuple",data:=.seq vs.toArray}).IsTuple h₁.objs.size vs.toArray:=⟨_,Heap.get?_push_size _ rfl,rfl,0,rfl⟩;have sb1:Sub h₁ (h₁.push {cls:=.type "tuple",data:=.seq vs.toArray}):=Sub.push' _ _;refine rwr sz ?_;refine unpackItems_tuple (s:={s with heap:=h₁.push {cls:=.type "tuple",data:=.seq vs.toArray},toks:=k₁}) hA.handled it λh₂ he=>?_
 have sb2:Sub (h₁.push {cls:=.type "tuple",data:=.seq vs.toArray}) h₂:=IH he;have sb12:=Sub.trans' sb1 sb2;have L2:CrL prog w C H0 (nw++Mu) env σ ad h₂ sls.reverse vs.reverse as:=by
  have:=L.mv sb12 (λ_ m=>m) (λ_ m=>.inl m)
  simpa using this
 refine GG (Mu:=nw++Mu) names.reverse sls.reverse vs.reverse as σ ad {s with heap:=h₂,toks:=k₁} _ _ (λx m=>hk x (List.mem_reverse.mp m)) (by simp [hn,hl]) (F₁.up sb12) L2 λh₃ k₃ ad₃ kp₃ F₃=>?_
 exact hQ _ h₃ k₃ nw ad₃ fr ((Kp.of_sub (Sub.trans' sb sb12)).through kp₃ fr) ⟨rfl,F₃⟩
theorem Lr{e:Expr}{np spos:Pos}{x:Str}{o:Own}(hpc:PC prog w C B A env e σ (.ow o))(hk:env.kindOf x=some .local)
  (hs:swapsWith e (some (.Name x np)) spos.line env=pure false) (hw:swappedStores [.Name x np] e env=pure none):
  PX prog w C B A env (.Assign [.Name x np] e spos) σ (.nxt ((x,.ow o)::σ)):=λH0 Mu ad s Q E ht F hQ=>by
 refine wpAny_Assign_stores (hpc H0 Mu ad s _ _ F λa h₁ k₁ sb₁ fa O=>?_) hs hw;refine Bo (wpAny_assign_Name (HX (s:={s with heap:=h₁,toks:=k₁}) hk (F.adopt sb₁ fa O.some) (F.mine fa O) λh' k k1 F'=>?_));refine hQ _ h' k [a] _ (λb m=>by refine rwl (mS m) ?_;exact fa) ((Kp.of_sub sb₁:Kp Mu s.heap h₁).through (nw:=[a]) (k1.mono λb m=>by refine rwl (mS m) ?_;exact List.Mem.tail _ F.lmu) (λb m=>by refine rwl (mS m) ?_;exact fa)) ⟨rfl,F'⟩
theorem Sz{x:Str}(hd:(x==("__debug__":Str))=false)(hv:σ.lookup x=some (.fz t)):PC prog w C B A env (.Name x pos) σ (.fz t.wk):=λH0 Mu ad s Q E F hQ=>by
 obtain⟨v,i,hv⟩:=F.vars x t hv;exact wpAny_Name (Ej F.kind i (hQ v s.heap s.toks (λ_ _ e=>e) hv.wk)) hd
theorem Vx{i:Str}{k:Nat}:PC prog w C B A env (.Constant (.str i) k pos) σ (.fz (.str i)):=λH0 Mu ad s Q E F hQ=>Calls.Constant_str (hQ _ s.heap _ (λ_ _ e=>e) ⟨_,rfl⟩)
theorem Vy{i:Int}{k:Nat}:PC prog w C B A env (.Constant (.int i) k pos) σ (.fz (.int i)):=λH0 Mu ad s Q E F hQ=>wpAny_Constant_int (hQ _ s.heap _ (λ_ _ e=>e) ⟨_,rfl⟩)
theorem S1(hs:∃o,B.get? sysModules=some o):PC prog w C B A env (.Dict [] [] pos) σ (.ow (.dI (λ_=>none) 0)):=λH0 Mu ad s Q E F hQ=>by
 obtain⟨o,ho⟩:=hs;refine wpAny_Dict_empty (hQ _ _ s.toks (Sub.push' _ _) (Ao _) ⟨[],Heap.DictOf.new _,Nat.le_refl _,λk=>rfl,beq_eq_false_iff_ne.mpr λq=>?_⟩);have:=F.base _ _ ho;rw [←q,Ao] at this;cases this
noncomputable def mkC(q:Str×Nat×Pos):Expr:=.Constant (.str q.1) q.2.1 q.2.2
theorem LX(l:List (Str×Nat×Pos)):∀(s:Shared) (Q:List Value->Shared->Prop) (E:Value->Shared->Prop),(∀(u:List (Str×Tok)) k,u.map (·.1)=l.map (·.1)->Q (strValues u) {s with toks:=k})->wpAny (model prog w) A (spliced (backTo pos (starEach (l.map mkC) env))) Q E s:=by
 induction l with
 |nil=>exactλs Q E hQ=>spliced_nil (hQ [] s.toks rfl)
 |cons q l ih=>
  intro s Q E hQ
  (refine rwl List.map_cons ?_;refine rwl (Aa rfl) ?_)
  show wpAny (model prog w) A (spliced ((false,eval _ env)::backTo pos (starEach (l.map mkC) env))) Q E s;exact spliced_cons (Calls.Constant_str (ih _ _ _ λu k hl=>hQ ((q.1,s.toks)::u) k (by(refine rwl List.map_cons ?_;refine rwl hl ?_);rfl)))
theorem S0{l:List (Str×Nat×Pos)}{xs:List Str}(e:l.map (·.1)=xs)(h:xs.length<=1000):PC prog w C B A env (.List (l.map mkC) pos) σ (.ow (.list (xs.map .str))):=λH0 Mu ad s Q E F hQ=>by
 refine wpAny_List_spliced (LX l s _ _ λl k hl=>?_);replace hl:=hl.trans e;refine⟨Nat.le_trans (by show(strValues l).length<=1000;(rw [strValues,List.length_map,←List.length_map (f:=(·.1))];refine rwl hl ?_);exact h) (by decide),?_⟩;exact hQ _ _ k (Sub.push' _ _) (Ao _) ⟨strValues l,⟨_,Heap.get?_push_size _ rfl⟩,by refine rwr hl ?_;exact Ct l⟩
end
section
variable{prog:Program}{w:World}{C:Cx}{B:Heap}{A:Around}{H0 Mu:List Addr}{env:Env}{σ σ₁ σ₂:Sig}{n:Nat}{t r c:T}{ad:Str->Addr}{h h':Heap}{pos np apos:Pos}{x:Str}{o o':Own}{a:Addr}{xs:List T}{e:Expr}
theorem Fm.reown(F:Fm prog w C B H0 Mu env σ ad h)(e:σ.lookup x=some (.ow o))(k:Kp [ad x] h h')(O':OwnAt prog w C (Mu++H0) Mu h' (ad x) o'):Fm prog w C B H0 Mu env ((x,.ow o')::σ) ad h':=by
 obtain⟨i,am,al,ac,q⟩:=F.owns x o e;have off:∀b o,b≠ad x->h.get? b=some o->h'.get? b=some o:=λb o q e=>k b o (λm=>q (mS m)) e
 have vi:∀y v,VarIs env h y v->VarIs env h' y v:=λy v i=>i.at' (λo e=>off _ _ (Ne.symm al) e) λn c e o q=>off _ _ (Ne.symm (ac n c e)) q
 exact F.set am k O'.some (by obtain⟨m,n⟩:=F.ns;exact⟨m,n.at' λo e=>off _ _ (Ne.symm al) e⟩) (λn c e=>by obtain⟨⟨v,o,ho,hd⟩,_⟩:=F.cells n c e;exact⟨v,o,off _ _ (Ne.symm (ac n c e)) ho,hd⟩) (λy u _=>vi y u) (vi _ _ i) (λy o1 hy e1=>F.oapart y x o1 o e1 e hy) (.ow rfl rfl am al ac O' λy o1 hy e1=>F.oapart y x o1 o e1 e hy) λ_ _=>rfl
theorem B0{s:Shared}{Q:Value->Shared->Prop}{E:Value->Shared->Prop}(hd:(x==("__debug__":Str))=false)(hv:σ.lookup x=some (.ow o))(F:Fm prog w C B H0 Mu env σ ad s.heap)(hQ:Q (.ref (ad x)) s):wpAny (model prog w) A (eval (.Name x np) env) Q E s:=
 wpAny_Name (Ej F.kind (F.owns x o hv).1 hQ) hd
theorem NM(hd:(x==("__debug__":Str))=false)(hx:σ.lookup x=some (.ow o))(hx1:σ₁.lookup x=some (.ow (.list xs)))(ho:∃ys,o=.list ys)(hp:plainE e=true)(hline:(apos.endLine==pos.line)=true)(hlen:xs.length<=1000)
  (pe:PE prog w C B A env e σ t σ₁):PE prog w C B A env (.Call (.Attribute (.Name x np) "append" apos) [e] [] pos) σ .none ((x,.ow (.list (xs++[t])))::σ₁):=λH0 Mu ad s Q E F hQ=>by
 refine lid λgg kk=>?_
 obtain⟨ys,rfl⟩:=ho;refine kk ?_;refine wpAny_Call_method_lateS (Aw rfl) (by rw [BW (λe' m=>by refine rwl (mS m) ?_;exact hp)];rfl) hline (B0 hd hx F ?_);refine lid λgg kk=>?_
 obtain⟨_,_,_,_,vs0,⟨n0,h0⟩,_⟩:=F.owns x _ hx;refine kk ?_;refine⟨"list",_,PySem.F.plainAttrs_list,PySem.F.slot_list_append,PySem.F.type_list_append,⟨_,h0,rfl⟩,(λa q=>by cases q;exact⟨_,h0,rfl⟩),?_⟩;refine rwl (Aa hp) ?_;refine Calls.callWith_builtin rfl (Calls.evalArgs_plain (Calls.spliced_cons (pe H0 Mu ad s _ _ F λv h₁ k₁ kp₁ F₁ hv=>Calls.spliced_nil ?_)));refine lid λgg kk=>?_
 obtain⟨i1,am,al,ac,vs,pl,hl⟩:=F₁.owns x _ hx1;refine kk ?_;refine wpAny_list_append_plain (s:={s with heap:=h₁,toks:=k₁}) pl (λh' pl' hs=>?_) (by(refine rwl List.size_toArray ?_;refine rwl hl.length ?_);exact Nat.le_trans hlen (by decide));have k1:=By hs;have kk:Kp (Mu++H0) h₁ h':=k1.mono λc m=>by refine rwl (mS m) ?_;exact List.mem_append_left _ am
 refine hQ _ h' k₁ (kp₁.trans (k1.mono λb m=>by refine rwl (mS m) ?_;exact am)) (F₁.reown hx1 k1 ⟨vs++[v],by simpa using pl',(hl.up kk).append (.one (hv.up kk))⟩) rfl
theorem HoldsL.erase{X:List Addr}:∀{ts:List T} {vs:List Value},HoldsL prog w X h ts vs->∀i,HoldsL prog w X h (ts.eraseIdx i) (vs.eraseIdx i)
 |[],vs,x,i=>by refine rwl (show vs=[] from x) ?_;exact rfl
 |t::ts,_,x,i=>by
  obtain⟨v,r,rfl,hv,hr⟩:=x
  cases i with
  |zero=>exact hr
  |succ i=>exact⟨v,r.eraseIdx i,rfl,hv,HoldsL.erase hr i⟩
theorem Pv{i:Int}{j:Nat}(hd:(x==("__debug__":Str))=false)(hx:σ.lookup x=some (.ow o))(hx1:σ₁.lookup x=some (.ow (.list xs)))(ho:∃ys,o=.list ys)(hp:plainE e=true)(hline:(apos.endLine==pos.line)=true)(hlen:xs.length<=1000)
  (pe:PE prog w C B A env e σ (.int i) σ₁) (hfit:Ca i=true) (hj:seqIndex? i xs.length=some j) (ht:xs[j]? =some t):
  PE prog w C B A env (.Call (.Attribute (.Name x np) "pop" apos) [e] [] pos) σ t ((x,.ow (.list (xs.eraseIdx j)))::σ₁):=λH0 Mu ad s Q E F hQ=>by
 refine lid λgg kk=>?_
 obtain⟨ys,rfl⟩:=ho;refine kk ?_;refine wpAny_Call_method_lateS (Aw rfl) (by rw [BW (λe' m=>by refine rwl (mS m) ?_;exact hp)];rfl) hline (B0 hd hx F ?_);refine lid λgg kk=>?_
 obtain⟨_,_,_,_,vs0,⟨n0,h0⟩,_⟩:=F.owns x _ hx;refine kk ?_;refine⟨"list",_,PySem.F.plainAttrs_list,PySem.F.slot_list_pop,PySem.F.type_list_pop,⟨_,h0,rfl⟩,(λa q=>by cases q;exact⟨_,h0,rfl⟩),?_⟩;refine rwl (Aa hp) ?_;refine Calls.callWith_builtin rfl (Calls.evalArgs_plain (Calls.spliced_cons (pe H0 Mu ad s _ _ F λv h₁ k₁ kp₁ F₁ hv=>Calls.spliced_nil ?_)));refine lid λgg kk=>?_
 obtain⟨u,rfl⟩:=hv;obtain⟨i1,am,al,ac,vs,⟨m,pl⟩,hl⟩:=F₁.owns x _ hx1;obtain⟨y,hy,hty⟩:=hl.get ht;refine kk ?_;simp only [Ca,Bool.and_eq_true,decide_eq_true_eq] at hfit;refine call_meets (s:={s with heap:=h₁,toks:=k₁}) PySem.F.slot_list_pop ⟨_,pl,rfl⟩ PySem.F.entry_list_pop (PySem.F.args_list_pop_2 _ _) (MeetsSeq.list_pop_at (ad x) vs.toArray m i u j y (by unfold Builtin.List.listFitsIndex;simp;assumption) (by(refine rwl List.size_toArray ?_;refine rwl hl.length ?_);exact hj) (by simpa using hy) (by(refine rwl List.size_toArray ?_;refine rwl hl.length ?_);exact Nat.le_trans hlen (by decide))) ⟨pl,?_⟩;have up:∃m',(h₁.update (ad x) (Obj.mapSeq λxs=>xs.eraseIdxIfInBounds j)).get? (ad x)=some {cls:=.type "list",data:=.seq (vs.toArray.eraseIdxIfInBounds j) m'}:=by
  have z:∃m',(Obj.mapSeq λxs=>xs.eraseIdxIfInBounds j) {cls:=.type "list",data:=.seq vs.toArray m}={cls:=.type "list",data:=.seq (vs.toArray.eraseIdxIfInBounds j) m'}:=by
   exact⟨_,rfl⟩
  refine lid λgg kk=>?_
  obtain⟨m',z⟩:=z;refine kk ?_;exact⟨m',by rw [Heap.get?_update_self _ pl (by refine rwl z ?_;rfl),z]⟩
 refine lid λgg kk=>?_
 obtain⟨m',up⟩:=up;refine kk ?_;have k1:Kp [ad x] h₁ (h₁.update (ad x) (Obj.mapSeq λxs=>xs.eraseIdxIfInBounds j)):=By (Heap.SameBut.update ..);have kk:Kp (Mu++H0) h₁ (h₁.update (ad x) (Obj.mapSeq λxs=>xs.eraseIdxIfInBounds j)):=k1.mono λc m=>by refine rwl (mS m) ?_;exact List.mem_append_left _ am
 have lt:j<vs.length:=by
  refine lid λgg kk=>?_
  obtain⟨q,_⟩:=List.getElem?_eq_some_iff.mp hy;refine kk ?_;exact q
 have er:vs.toArray.eraseIdxIfInBounds j=(vs.eraseIdx j).toArray:=by
  simp [Array.eraseIdxIfInBounds,lt]
 refine hQ _ _ k₁ (kp₁.trans (k1.mono λb m=>by refine rwl (mS m) ?_;exact am)) (F₁.reown hx1 k1 ⟨vs.eraseIdx j,⟨m',by refine rwr er ?_;exact up⟩,(hl.erase j).up kk⟩) (hty.up kk)
theorem HG(hd:(x==("__debug__":Str))=false)(hx:σ.lookup x=some (.ow (.list xs))):PX prog w C B A env (.Return (some (.Name x np)) pos) σ (.ret (.list xs)):=λH0 Mu ad s Q E ht F hQ=>by
 refine wpAny_Return_some (B0 hd hx F ?_);obtain⟨i1,am,al,ac,vs,pl,hl⟩:=F.owns x _ hx;exact hQ _ s.heap s.toks [] ad (λ_ m=>nomatch m) (Kp.refl _ _) ⟨_,rfl,ad x,vs,rfl,F.apart _ am,Lst.of pl,hl.less λb m=>List.mem_append_right _ m⟩
theorem GV{f:Str->Option Int}{m:Nat}(hd:(x==("__debug__":Str))=false)(hx:σ.lookup x=some (.ow (.dI f m)))(hm:m<=4096):PX prog w C B A env (.Return (some (.Name x np)) pos) σ (.ret (.dI f)):=λH0 Mu ad s Q E ht F hQ=>by
 refine wpAny_Return_some (B0 hd hx F ?_);obtain⟨i1,am,al,ac,g,hg,hl,hv⟩:=F.owns x _ hx;exact hQ _ s.heap s.toks [] ad (λ_ m=>nomatch m) (Kp.refl _ _) ⟨_,rfl,ad x,rfl,F.apart _ am,g,hg,Nat.le_trans hl hm,hv⟩
theorem NL{f:Str->Option Int}{m:Nat}{k:Str}{i:Int}(hd:(x==("__debug__":Str))=false)(hx:σ.lookup x=some (.ow o))(ho:∃f m,o=.dI f m)(hx1:σ₁.lookup x=some (.ow (.dI f m)))(pe:PE prog w C B A env e σ (.str k) σ₁)(hf:f k=some i):
  PE prog w C B A env (.Subscript (.Name x np) e pos) σ (.int i) σ₁:=λH0 Mu ad s Q E F hQ=>by
 refine Subscript_ (B0 hd hx F (pe H0 Mu ad s _ _ F λv h₁ k₁ kp₁ F₁ hv=>?_));refine lid λgg kk=>?_
 obtain⟨u,rfl⟩:=hv;obtain⟨i1,am,al,ac,g,hg,hl,hv⟩:=F₁.owns x _ hx1;have:=hv.1 k;rw [hf] at this;obtain⟨t,ht⟩:=this;have hm:=hg.mapOf;obtain⟨ops,h⟩:=DF e (.ref (ad x)) (.str k u);refine kk ?_;refine tail_any (s:={s with heap:=h₁,toks:=k₁}) hm.typeIs slot_dict_getitem.lookup (wpAny_getItem_of (GE _ _) hm ht ?_) h;exact hQ _ h₁ _ kp₁ F₁ ⟨_,rfl⟩
end
theorem DT{kvs:List (Str×Value)}{k:Str}{v:Value}(k':Str):valueAt (stored kvs k v) k'=if k'=k then some v else valueAt kvs k':=by
 unfold stored
 split
 ·rename_i hany
  induction kvs with
  |nil=>simp at hany
  |cons p r ih=>
   unfold valueAt
   (refine rwl List.map_cons ?_;refine rwl (List.find?_cons) ?_)
   by_cases hp:p.1=k
   ·by_cases hk:k'=k
    ·subst hk;simp [hp]
    ·simp only [hp,if_true,if_neg hk];have:decide (k=k')=false:=by simp;exactλq=>hk q.symm
     refine rwl this ?_
     (simp only [List.find?_cons])
     have:decide (p.1=k')=false:=by simp [hp];exactλq=>hk q.symm
     refine rwl this ?_;simp only
     by_cases h2:r.any (λkv=>decide (kv.1=k))=true
     ·have:=ih h2;unfold valueAt at this
      (exact(this).trans (if_neg hk))
     ·have e:r.map (λkv=>if kv.1=k then(kv.1,v) else kv)=r:=by
       have:∀x∈r,(if x.1=k then(x.1,v) else x)=x:=λx hx=>by
        have:¬x.1=k:=λq=>h2 (List.any_eq_true.mpr ⟨x,hx,by simp [q]⟩)
        (exact(if_neg this))
       (simp only [List.map_congr_left this,List.map_id'])
      (refine rwl e ?_;rfl)
   ·have h2:r.any (λkv=>decide (kv.1=k))=true:=by
     rw [List.any_cons] at hany
     simpa [hp] using hany
    simp only [if_neg hp]
    (simp only [List.find?_cons])
    by_cases hq:p.1=k'
    ·have hk:¬k'=k:=λq=>hp (hq.trans q)
     simp [hq,hk]
    ·have:decide (p.1=k')=false:=by simp [hq]
     refine rwl this ?_;have:=ih h2;unfold valueAt at this
     simpa using this
 ·rename_i hany
  unfold valueAt;refine rwl (List.find?_append) ?_
  by_cases hk:k'=k
  ·subst hk;have:kvs.find? (λkv=>decide (kv.1=k'))=none:=by
    (simp only [List.find?_eq_none])
    intro x hx q;exact hany (List.any_eq_true.mpr ⟨x,hx,q⟩)
   refine rwl this ?_;simp
  ·refine rwl (if_neg hk) ?_
   cases kvs.find? (λkv=>decide (kv.1=k')) with
   |some p=>rfl
   |none=>
    have:¬k=k':=λq=>hk q.symm
    simp [this]
noncomputable def KW(f:Str->Option Int)(k:Str)(i:Int):Str->Option Int:=λx=>if x=k then some i else f x
section
variable{prog:Program}{w:World}{C:Cx}{B:Heap}{A:Around}{H0 Mu:List Addr}{env:Env}{σ σ₁ σ₂:Sig}{n:Nat}{t r c:T}{ad:Str->Addr}{h h':Heap}{pos np apos:Pos}{x:Str}{o o':Own}{a:Addr}{xs:List T}{ek ev:Expr}
theorem Ri{s:Shared}{d:Addr}{Hd:List Addr}{f:Str->Option Int}{m:Nat}{k:Str}{u t:Tok}{i:Int}{Q:Unit->Shared->Prop}{E:Value->Shared->Prop}(O:OwnAt prog w C Hd Mu s.heap d (.dI f m))(hm:m<=4096)
  (hQ:∀h',Heap.SameBut d s.heap h'->OwnAt prog w C Hd Mu h' d (.dI (KW f k i) (m+1))->Q () {s with heap:=h',toks:=s.toks+1}):wpAny (model prog w) A (setItem (.ref d) (.str k u) (.int i t)) Q E s:=by
 refine lid λgg kk=>?_
 obtain⟨g,hg,hl,hv⟩:=O;refine kk ?_;refine wpAny_setItem_pairs (GE k u) hg (λh' hg' hs=>hQ h' hs ⟨stored g k (.int i t),hg',Nat.le_trans (stored_length_le _ _ _) (Nat.succ_le_succ hl),λk'=>?_,hv.2⟩) (Nat.le_trans (Nat.le_trans hl hm) (by decide));rw [DT];unfold KW
 by_cases q:k'=k
 ·(refine rwl (if_pos q) ?_;refine rwl (if_pos q) ?_);exact⟨t,rfl⟩
 ·(refine rwl (if_neg q) ?_;refine rwl (if_neg q) ?_);exact hv.1 k'
theorem Lu{fname:Str}{fa:Addr}{scope:Scope}{p1 p2 p3 p4 p5:Pos}{f:Str->Option Int}{m:Nat}{k:Str}{i:Int}(hd:(x==("__debug__":Str))=false)(hdf:(fname==("__debug__":Str))=false)
  (hk:env.kindOf fname=some .globalImplicit) (g:GlobAt B fname (.ref fa)) (hA:AOk A (n+1)) (lim:B.NoLimit)
  (fd:FdAt B fa ["a","b","c"] [.Assign [.Subscript (.Name "a" p1) (.Name "b" p2) p3] (.Name "c" p4) p5] scope) (ok:FU ["a","b","c"] scope=true) (hla:scope.names.lookup ("a":Str)=some NameKind.local) (hlb:scope.names.lookup ("b":Str)=some NameKind.local) (hlc:scope.names.lookup ("c":Str)=some NameKind.local)
  (hx:σ.lookup x=some (.ow o)) (hx1:σ₂.lookup x=some (.ow (.dI f m))) (hm:m<=4096) (pk:plainE ek=true) (pv:plainE ev=true)
  (pek:PE prog w C B A env ek σ (.str k) σ₁) (pev:PE prog w C B A env ev σ₁ (.int i) σ₂):
  PE prog w C B A env (.Call (.Name fname np) [.Name x apos,ek,ev] [] pos) σ .none ((x,.ow (.dI (KW f k i) (m+1)))::σ₂):=λH0 Mu ad s Q E F hQ=>by
 refine Call_Name rfl (wpAny_Name (Bc F.kind F.glob F.blt (g.is F.base hk) ?_) hdf);refine lid λgg kk=>?_
 obtain⟨of,fdd,ho,hdt,hbody,hsc,hclo,hglob,hblt,hcd,hbind⟩:=fd;refine kk ?_
 (refine rwl (Aa rfl) ?_;refine rwl (Aa pk) ?_;refine rwl (Aa pv) ?_)
 refine callWith_function_kw (o:=of) (fd:=fdd) (Calls.evalArgs_plain (Calls.spliced_cons (B0 hd hx F ?_)));refine Calls.spliced_cons (pek H0 Mu ad s _ _ F λkv h₁ k₁ kp₁ F₁ hkv=>?_);refine Calls.spliced_cons (pev H0 Mu ad {s with heap:=h₁,toks:=k₁} _ _ F₁ λvv h₂ k₂ kp₂ F₂ hvv=>Calls.spliced_nil ?_);refine lid λgg kk=>?_
 obtain⟨tk,rfl⟩:=hkv;obtain⟨tv,rfl⟩:=hvv;refine kk ?_;refine⟨⟨F₂.base _ _ ho,hdt⟩,?_⟩;refine lid λgg kk=>?_
 obtain⟨i1,am,al,ac,O⟩:=F₂.owns x _ hx1;unfold FU at ok;simp only [Bool.and_eq_true,decide_eq_true_eq,Bool.not_eq_true'] at ok;obtain⟨⟨⟨⟨⟨hnd,_⟩,hkf⟩,hco⟩,hge⟩,_⟩:=ok;refine kk ?_;subst hsc;refine wpAny_call (s:={s with heap:=h₂,toks:=k₂}) (codeAny_call_cells hA.room (F₂.base _ _ ho) hdt (lim.keeps F₂.base) (hcd.keeps F₂.base) hbody (hbind [.ref (ad x),.str k tk,.int i tv] rfl) hclo (λy hy=>?_) (λs₁ X=>?_) hco hge hkf)
 ·have:y=(("a":Str),Value.ref (ad x))\/y=(("b":Str),Value.str k tk)\/y=(("c":Str),Value.int i tv):=by simpa using hy
  rcases this with rfl|rfl|rfl
  ·exact .inl hla
  ·exact .inl hlb
  ·exact .inl hlc
 ·generalize he:callEnvC fdd h₂.objs.size fa=env' at X;have hscope:env'.scope=fdd.scope:=by refine rwr he ?_;rfl
  have hloc:env'.locals=h₂.objs.size:=by refine rwr he ?_;rfl
  have ka:env'.kindOf "a"=some .local:=by unfold Env.kindOf;refine rwl hscope ?_;exact hla
  have kb:env'.kindOf "b"=some .local:=by unfold Env.kindOf;refine rwl hscope ?_;exact hlb
  have kc:env'.kindOf "c"=some .local:=by unfold Env.kindOf;refine rwl hscope ?_;exact hlc
  have hkk:env'.scope.kind=.function:=by refine rwl hscope ?_;exact hkf
  have nd:((((["a","b","c"]:List Str).zip [Value.ref (ad x),Value.str k tk,Value.int i tv])).map (·.1)).Nodup:=hnd;have va:=Co (kindOf:=env'.kindOf) (m:=λ_=>none) nd (x:="a") (v:=.ref (ad x)) rfl ka;have vb:=Co (kindOf:=env'.kindOf) (m:=λ_=>none) nd (x:="b") (v:=.str k tk) (by rfl) kb;have vc:=Co (kindOf:=env'.kindOf) (m:=λ_=>none) nd (x:="c") (v:=.int i tv) (by rfl) kc;refine lid λgg kk=>?_
  obtain⟨⟨⟨h₃,k₃,rfl⟩,ns,keep,fresh⟩,_,_,_⟩:=X;refine kk ?_;have keep:Sub h₂ h₃:=keep;have O3:OwnAt prog w C (Mu++H0) Mu h₃ (ad x) (.dI f m):=O.mv keep λ_ m=>.inl m
  refine wpAny_execs_cons (wpAny_Assign_Subscript (wpAny_Name (wpAny_loadName_local hkk kc ns vc ?_) rfl) rfl);refine wpAny_Name (wpAny_loadName_local hkk ka ns va ?_) rfl;refine wpAny_Name (wpAny_loadName_local hkk kb ns vb ?_) rfl;refine Ri O3 hm λh₄ hs O4=>?_
  refine wpAny_execs_nil ?_;have k4:=By hs;have F3:=F₂.up keep;refine hQ .none h₄ _ ((kp₁.trans kp₂).trans ((Kp.of_sub keep).trans (k4.mono λb m=>by refine rwl (mS m) ?_;exact am))) (F3.reown hx1 k4 O4) rfl
end
open PySem.W
section
variable{prog:Program}{w:World}{A:Around}{E:Value->Shared->Prop}{s:Shared}{env:Env}
theorem BO{o:Expr}{name:Str}{apos pos:Pos}{args:List Expr}{Q:Value->Shared->Prop}
  (hbase:attributeBase o name env (eval o env)=eval o env)
  (hfew:((backTo pos (starEach args env)).all (λx=> !x.1)&&(backToKw pos (keywordEach [] env)).all (λx=>x.1.isSome)
   &&decide (args.length+([]:List Keyword).length+(if([]:List Keyword).isEmpty then 0 else 1)<30))=true)
  (hline:(apos.endLine==pos.line)=true)
  (h:wpAny (model prog w) A (eval o env) (λov s₁=>∀pl,wpAny (model prog w) A (getMethod ov name pl) (λfx s₂=>wpAny (model prog w) A (callWith pos fx.1 fx.2 (backTo pos (starEach args env)) []) Q E s₂) E s₁) E s):
  wpAny (model prog w) A (eval (.Call (.Attribute o name apos) args [] pos) env) Q E s:=by
 (simp only [arm_eval_Call,hbase])
 refine wpAny_bind (wpAny_mono h (λov s₁ h₁=>?_) λ_ _ e=>e);refine wpAny_bind (wpAny_standAt ?_);have hform:methodCallForm (args.length+([]:List Keyword).length) (backTo pos (starEach args env)) (backToKw pos (keywordEach [] env))=true:=hfew;have hpos:methodCallPos true o env apos pos=pure pos:=by unfold methodCallPos;simp [hline]
 unfold methodCall;refine rwl hform ?_;refine wpAny_bind (wpAny_holding (wpAny_mono (h₁ _) (λfx s₂ h₂=>?_) λ_ _ e=>e));exact wpAny_bind (wpAny_of_eq hpos h₂)
theorem Mb{M:Model}{A:Around}{E:Value->Shared->Prop}{s:Shared}{i owner n:String}{self:Value}{rest:List Value}{kw:List (Str×Value)}{Q:Unit->Shared->Prop}
  (hk:builtinKind i=some .method) (hs:splitId i=some (owner,n)) (hi:Looks M s.heap (isInstance self (.type owner)) true) (ha:argsOk i ⟨self::rest,kw⟩) (q:Q () s):
  wpAny M A (checkBuiltinCall i ⟨self::rest,kw⟩) Q E s:=by
 simp only [checkBuiltinCall,hk,hs];refine wpAny_bind (hi.here ?_)
 cases hsig:Manifest.signature? i with
 |none=>exact wpAny_pure q
 |some sig=>
  simp only [argsOk,hsig] at ha;have h2:Bind.checkArgs i sig ⟨self::rest,kw⟩=pure ():=ha;show wpAny M A (Bind.checkArgs i sig ⟨self::rest,kw⟩) Q E s;refine rwl h2 ?_;exact wpAny_pure q
variable{K:Frag}{x C:Addr}{ox:Obj}{od:Option Obj}{pl:Sem Bool}{name:Str}
theorem HS:(Manifest.canonical "list.__getattribute__" !="object.__getattribute__")=false:=by decide+kernel
theorem Eg{v:Value}{tn:String}{Q:Value×List Value->Shared->Prop}(X:K.In s.heap)(I:InstAt s.heap x ox C od)(hga:findIn K (.ref C) "__getattribute__"=some (some (.builtin "list.__getattribute__")))(hk:findIn K (.ref C) "__getattr__"=some none)
  (hf:findIn K (.ref C) name=some (some v)) (ht:Looks (model prog w) s.heap (typeOf v) (.type tn)) (hc:tn="function"\/tn="method_descriptor") (hs:shadowIn od name=some false) (h:Q (v,[.ref x]) s):
  wpAny (model prog w) A (getMethod (.ref x) name pl) Q E s:=by
 have hcan:=HS;refine wpAny_bind (wpAny_bind (I.type.here ((looks_findIn X hga).here ?_)));dsimp only
 (refine rwl hcan ?_;refine rwl (if_neg (by decide)) ?_)
 refine wpAny_bind (wpAny_bind (I.type.here ((looks_findIn X hk).here ?_)));refine wpAny_bind (wpAny_bind (I.type.here ((looks_findIn X hf).here (wpAny_bind (ht.here ?_)))));have hcc:¬(((Value.type tn !=Value.type "function")&&(Value.type tn !=Value.type "method_descriptor")&&(Value.type tn !=Value.type "wrapper_descriptor"))=true):=by rcases hc with rfl|rfl<;>decide+kernel
 refine rwl (if_neg hcc) ?_;refine wpAny_bind (wpAny_loadPart I.at_ ?_);have hd:=I.dict
 cases e:ox.dict with
 |none=>exact wpAny_bind (wpAny_rule (wpAny_pure h))
 |some dx=>
  cases od with
  |none=>rw [e] at hd;exact hd.elim
  |some o=>
   rw [e] at hd;obtain⟨r,a,b⟩:=Option.map_eq_some_iff.mp hs;refine wpAny_bind (wpAny_bind (wpAny_loadPart hd ?_));refine rwl (nsLook_of a) ?_;refine wpAny_pure ?_;refine rwl b ?_;exact wpAny_bind (wpAny_rule (wpAny_pure h))
structure AccK(K:Frag)(C:Addr):Prop where
 ga:findIn K (.ref C) "__getattribute__"=some (some (.builtin "list.__getattribute__"))
 gt:findIn K (.ref C) "__getattr__"=some none
 app:findIn K (.ref C) "append"=some (some (.builtin "list.append"))
 sub:mroIn K C (.type "list")=some true
theorem Cg{h:Heap}{a d:Addr}{vs:List Value}(q:CM h C a vs d):∃n o,h.get? d=some o/\(∀x:Str,x≠("_initial_size":Str)->shadowIn (some o) x=some false)/\InstAt h a {cls:=.ref C,dict:=some d,data:=.seq (List.toArray vs) n,slots:= #[]} C (some o):=by
 refine lid λgg kk=>?_
 obtain⟨⟨n,hn⟩,o,_,_,ho,hc,hl⟩:=q;refine kk ?_;exact⟨n,o,ho,λx hx=>by show((lookIn x o).map (·.isSome))=some false;refine rwl (hl x hx) ?_;rfl,⟨hn,rfl,rfl,ho⟩⟩
theorem Ti{h:Heap}{M:Model}{a:Addr}(X:K.In h)(I:InstAt h a ox C od)(hs:mroIn K C (.type "list")=some true):Looks M h (isInstance (.ref a) (.type "list")) true:=
 I.type.andThen (looks_mroIn X hs)
theorem Mi{a d:Addr}{vs:List Value}{v:Value}{Q:Value->Shared->Prop}(k:AccK K C)(X:K.In s.heap)(O:CM s.heap C a vs d)(hsz:vs.length<=4096)
  (hQ:∀h',CM h' C a (vs++[v]) d->Heap.SameBut a s.heap h'->Q .none {s with heap:=h'}):wpAny (model prog w) A (call (.builtin "list.append") [.ref a,v]) Q E s:=by
 refine lid λgg kk=>?_
 obtain⟨n,o,ho,hsh,I⟩:=Cg O;refine kk ?_;have nda:d≠a:=λq=>by
  have:=I.at_;rw [←q,ho] at this
  cases this
  refine lid λgg kk=>?_
  obtain⟨_,o',_,_,ho',hc',_⟩:=O;refine kk ?_;rw [ho] at ho';cases ho'
  cases hc'
 refine wpAny_call (codeAny_call_builtin PySem.F.slot_list_append.plain PySem.F.entry_list_append (Mb (owner:="list") (n:="append") (by decide+kernel) (by decide+kernel) (Ti X I k.sub) (PySem.F.args_list_append_2 _ _) ?_));show wpAny _ _ (updateSeq a (·.push v)>>= λ_=>ret .none) _ _ s;refine wpAny_bind (wpAny_updateSeq I.at_ rfl (wpAny_pure (hQ _ ?_ (Heap.SameBut.update ..))) (by refine rwl List.size_toArray ?_;exact Nat.le_trans hsz (by decide)));have z:∃m',(Obj.mapSeq (·.push v)) {cls:=.ref C,dict:=some d,data:=.seq (List.toArray vs) n,slots:= #[]}={cls:=.ref C,dict:=some d,data:=.seq (List.toArray (vs++[v])) m',slots:= #[]}:=by
  unfold Obj.mapSeq;exact⟨_,by simp;rfl⟩
 refine lid λgg kk=>?_
 obtain⟨m',z⟩:=z;obtain⟨_,o',u1,u2,ho',hc',hl'⟩:=O;refine kk ?_;refine⟨⟨m',by rw [Heap.get?_update_self _ I.at_ (by refine rwl z ?_;rfl),z]⟩,o',u1,u2,?_,hc',hl'⟩;exact((Heap.SameBut.update _ _ _).2 d nda).trans ho'
end
section
variable{prog:Program}{w:World}{C:Cx}{B:Heap}{A:Around}{H0 Mu:List Addr}{env:Env}{σ σ₁ σ₂:Sig}{n:Nat}{t t₁ t₂ r c:T}{ad:Str->Addr}{h h':Heap}{pos np apos:Pos}{x:Str}{o o':Own}{xs:List T}{K:Frag}
noncomputable def Fq(p:Nat->Pos)(kk:Nat):List Stmt:=[.Expr (.Call (.Attribute (.Name "self" (p 1)) "append" (p 2)) [.Tuple [.Name "fws" (p 3),.Name "string" (p 4)] kk (p 5)] [] (p 6)) (p 7)]
theorem R5{a d fp:Addr}{cl:Addr}{vs:List Value}{v1 v2:Value}{s:Shared}{scope:Scope}{p:Nat->Pos}{kk:Nat}{Q:Value->Shared->Prop}{E:Value->Shared->Prop}(k:AccK K cl)(X:K.In B)(lim:B.NoLimit)
  (fd:FdAt B fp ["self","fws","string"] (Fq p kk) scope) (hline:((p 2).endLine==(p 6).line)=true) (hkf:scope.kind=.function) (hco:scope.isCoroutine=false) (hge:scope.isGenerator=false)
  (h1:scope.names.lookup ("self":Str)=some NameKind.local) (h2:scope.names.lookup ("fws":Str)=some NameKind.local) (h3:scope.names.lookup ("string":Str)=some NameKind.local)
  (hroom:A.depth<recursionLimit) (base:Sub B s.heap) (O:CM s.heap cl a vs d) (hsz:vs.length<=4096)
  (hQ:∀h' k tup,Kp [a] s.heap h'->s.heap.get? tup=none->h'.IsTuple tup #[v1,v2]->CM h' cl a (vs++[.ref tup]) d->Q .none {s with heap:=h',toks:=k}):
  wpAny (model prog w) A (call (.ref fp) [.ref a,v1,v2] []) Q E s:=by
 obtain⟨of,fdd,ho,hdt,hbody,hsc,hclo,hglob,hblt,hcd,hbind⟩:=fd;subst hsc;refine wpAny_call (codeAny_call_cells hroom (base _ _ ho) hdt (lim.keeps base) (hcd.keeps base) hbody (hbind [.ref a,v1,v2] rfl) hclo (λy hy=>?_) (λs₁ Y=>?_) hco hge hkf)
 ·have:y=(("self":Str),Value.ref a)\/y=(("fws":Str),v1)\/y=(("string":Str),v2):=by simpa using hy
  rcases this with rfl|rfl|rfl
  ·exact .inl h1
  ·exact .inl h2
  ·exact .inl h3
 ·generalize he:callEnvC fdd s.heap.objs.size fp=env' at Y;have hscope:env'.scope=fdd.scope:=by refine rwr he ?_;rfl
  have ka:env'.kindOf "self"=some .local:=by unfold Env.kindOf;refine rwl hscope ?_;exact h1
  have kb:env'.kindOf "fws"=some .local:=by unfold Env.kindOf;refine rwl hscope ?_;exact h2
  have kc:env'.kindOf "string"=some .local:=by unfold Env.kindOf;refine rwl hscope ?_;exact h3
  have hkk:env'.scope.kind=.function:=by refine rwl hscope ?_;exact hkf
  have nd:((((["self","fws","string"]:List Str).zip [Value.ref a,v1,v2])).map (·.1)).Nodup:=by show(["self","fws","string"]:List Str).Nodup;decide+kernel
  have va:=Co (kindOf:=env'.kindOf) (m:=λ_=>none) nd (x:="self") (v:=.ref a) rfl ka;have vb:=Co (kindOf:=env'.kindOf) (m:=λ_=>none) nd (x:="fws") (v:=v1) (by kernel_rfl) kb;have vc:=Co (kindOf:=env'.kindOf) (m:=λ_=>none) nd (x:="string") (v:=v2) (by kernel_rfl) kc;obtain⟨⟨⟨hh₁,k₁,rfl⟩,ns,keep,fresh⟩,_,_,_⟩:=Y;have keep:Sub s.heap hh₁:=keep;have O1:CM hh₁ cl a vs d:=by
   obtain⟨⟨m,hm⟩,o,u1,u2,ho,r⟩:=O;exact⟨⟨m,keep _ _ hm⟩,o,u1,u2,keep _ _ ho,r⟩
  refine wpAny_execs_cons (wpAny_Expr ?_ (by unfold interactive;refine rwl hkk ?_;rfl) rfl);refine BO (Aw rfl) (by rfl) hline (wpAny_Name (wpAny_loadName_local hkk ka ns va λpl=>?_) rfl);obtain⟨m,od,hod,hsh,I⟩:=Cg O1;refine Eg (s:={s with heap:=hh₁,toks:=k₁}) (X.keeps (Sub.trans' base keep)) I k.ga k.gt k.app (Looks.of_pure PySem.F.type_list_append) (.inr rfl) (hsh _ (by decide+kernel)) ?_;refine rwl (Aa rfl) ?_;refine Calls.callWith_builtin rfl (Calls.evalArgs_plain (Calls.spliced_cons ?_));refine wpAny_Tuple_spliced (x1:=kk) ?_
  (refine rwl (Aa rfl) ?_;refine rwl (Aa rfl) ?_)
  refine Calls.spliced_cons (wpAny_Name (wpAny_loadName_local hkk kb ns vb ?_) rfl);refine Calls.spliced_cons (wpAny_Name (wpAny_loadName_local hkk kc ns vc ?_) rfl);refine Calls.spliced_nil ⟨by show 2<=sizeLine;decide,Calls.spliced_nil ?_⟩;have sb2:Sub hh₁ (hh₁.push {cls:=.type "tuple",data:=.seq (List.toArray [v1,v2])}):=Sub.push' _ _;have O2:CM (hh₁.push {cls:=.type "tuple",data:=.seq (List.toArray [v1,v2])}) cl a vs d:=by
   obtain⟨⟨m,hm⟩,o,u1,u2,ho,r⟩:=O1;exact⟨⟨m,sb2 _ _ hm⟩,o,u1,u2,sb2 _ _ ho,r⟩
  refine Mi (s:={s with heap:=hh₁.push {cls:=.type "tuple",data:=.seq (List.toArray [v1,v2])},toks:=k₁}) k (X.keeps (Sub.trans' base (Sub.trans' keep sb2))) O2 hsz λh' O3 hs=>?_
  refine wpAny_execs_nil ?_;have kp:=By hs;have fr:s.heap.get? hh₁.objs.size=none:=by
   cases q:s.heap.get? hh₁.objs.size with
   |none=>rfl
   |some oo=>exact absurd (Heap.lt_size (keep _ _ q)) (Nat.lt_irrefl _)
  have na:hh₁.objs.size≠a:=λq=>by
   obtain⟨⟨m,hm⟩,_⟩:=O;rw [q,hm] at fr;cases fr
  have it:(hh₁.push {cls:=.type "tuple",data:=.seq (List.toArray [v1,v2])}).IsTuple hh₁.objs.size #[v1,v2]:=⟨_,Heap.get?_push_size _ rfl,rfl,0,rfl⟩;refine hQ h' k₁ hh₁.objs.size ((Kp.of_sub (Sub.trans' keep sb2)).trans kp) fr ?_ O3;obtain⟨oo,hoo,r⟩:=it;exact⟨oo,kp _ _ (λm=>na (mS m)) hoo,r⟩
theorem Sw{fp:Addr}{scope:Scope}{p:Nat->Pos}{kk:Nat}{e1 e2:Expr}(hd:(x==("__debug__":Str))=false)(k:AccK K C.cls)(X:K.In B)(lim:B.NoLimit)(hpf:findIn K (.ref C.cls) "push"=some (some (.ref fp)))(hpt:typeIn K (.ref fp)=some (.type "function"))
  (fd:FdAt B fp ["self","fws","string"] (Fq p kk) scope) (hline:((p 2).endLine==(p 6).line)=true) (hkf:scope.kind=.function) (hco:scope.isCoroutine=false) (hge:scope.isGenerator=false)
  (h1:scope.names.lookup ("self":Str)=some NameKind.local) (h2:scope.names.lookup ("fws":Str)=some NameKind.local) (h3:scope.names.lookup ("string":Str)=some NameKind.local)
  (hA:AOk A n) (hline2:(apos.endLine==pos.line)=true) (p1:plainE e1=true) (p2:plainE e2=true)
  (hx:σ.lookup x=some (.ow o)) (hx1:σ₂.lookup x=some (.ow (.acc xs))) (ho:∃ys,o=.acc ys) (hlen:xs.length<=1000)
  (pe1:PE prog w C B A env e1 σ t₁ σ₁) (pe2:PE prog w C B A env e2 σ₁ t₂ σ₂):
  PE prog w C B A env (.Call (.Attribute (.Name x np) "push" apos) [e1,e2] [] pos) σ .none ((x,.ow (.acc (xs++[.tup [t₁,t₂]])))::σ₂):=λH0 Mu ad s Q E F hQ=>by
 refine lid λgg kk=>?_
 obtain⟨ys,rfl⟩:=ho;refine kk ?_;refine BO (Aw rfl) (by refine rwl (BW (λe' m=>by simp at m;rcases m with rfl|rfl<;>assumption)) ?_;rfl) hline2 (B0 hd hx F λpl=>?_);refine lid λgg kk=>?_
 obtain⟨i0,am0,al0,ac0,vs0,d0,O0,hd0,_⟩:=F.owns x _ hx;obtain⟨m,od,hod,hsh,I⟩:=Cg O0;refine kk ?_;refine Eg (X.keeps F.base) I k.ga k.gt hpf (looks_typeIn (X.keeps F.base) hpt) (.inl rfl) (hsh _ (by decide+kernel)) ?_
 (refine rwl (Aa p1) ?_;refine rwl (Aa p2) ?_)
 refine lid λgg kk=>?_
 obtain⟨of,fdd,hof,hdt,rest⟩:=id fd;refine kk ?_;refine callWith_function_kw (o:=of) (fd:=fdd) (Calls.evalArgs_plain (Calls.spliced_cons (pe1 H0 Mu ad s _ _ F λv1 h₁ k₁ kp₁ F₁ hv1=>?_)));refine Calls.spliced_cons (pe2 H0 Mu ad {s with heap:=h₁,toks:=k₁} _ _ F₁ λv2 h₂ k₂ kp₂ F₂ hv2=>Calls.spliced_nil ?_);refine⟨⟨F₂.base _ _ hof,hdt⟩,?_⟩;refine lid λgg kk=>?_
 obtain⟨i1,am,al,ac,vs,d,O,hdm,hl⟩:=F₂.owns x _ hx1;refine kk ?_;refine R5 (s:={s with heap:=h₂,toks:=k₂}) k X lim fd hline hkf hco hge h1 h2 h3 hA.room F₂.base O (by refine rwl hl.length ?_;exact Nat.le_trans hlen (by decide)) λh₃ k₃ tup kp₃ ft it O3=>?_
 have kk:Kp (Mu++H0) h₂ h₃:=kp₃.mono λc m=>by refine rwl (mS m) ?_;exact List.mem_append_left _ am
 have ntup:tup∉Mu++H0:=λm=>by
  refine lid λgg kk=>?_
  obtain⟨oo,hoo⟩:=F₂.live tup m;refine kk ?_;rw [show h₂.get? tup=none from ft] at hoo;cases hoo
 refine hQ .none h₃ k₃ ((kp₁.trans kp₂).trans (kp₃.mono λb m=>by refine rwl (mS m) ?_;exact am)) (F₂.reown hx1 kp₃ ⟨vs++[.ref tup],d,O3,hdm,(hl.up kk).append (.one ⟨tup,[v1,v2],rfl,ntup,it,_,_,rfl,(BJ hv1 kp₂).up kk,_,_,rfl,hv2.up kk,rfl⟩)⟩) rfl
end
section
variable{prog:Program}{w:World}{M:Model}{A:Around}{E:Value->Shared->Prop}{h:Heap}{g:Array GenState}{d:Drawn}{t:Nat}{os:OsState}
theorem Xm:typeLookup (.type "wrapper_descriptor") "__get__"=pure (some (.builtin "wrapper_descriptor.__get__")):=by rw [typeLookup_type,builtinLookup_eq_fast];kernel_rfl
theorem slot_wd:PySem.Slot "wrapper_descriptor" "__get__" "wrapper_descriptor.__get__":=.of (owner:="wrapper_descriptor") (n:="__get__") Xm (by decide+kernel) (by decide+kernel) (by decide+kernel)
 (by first|exact .inl (by decide+kernel)|exact .inr (by decide+kernel)) (by rw [isSubtype_type];kernel_rfl)
theorem Hy:entryFor table "wrapper_descriptor.__get__"=some Builtin.«wrapper_descriptor.__get__»:=entryFor_of_tree (by kernel_rfl)
theorem J7(a b c:Value):argsOk "wrapper_descriptor.__get__" ⟨[a,b,c],[]⟩:=by unfold argsOk;kernel_rfl
theorem UL:typeOf (.builtin "list.__len__")=pure (.type "wrapper_descriptor"):=by show builtinType _=_;rw [builtinType_eq_fast];kernel_rfl
theorem An{α β:Type}{M:Model}{A:Around}{t:Sem α}{f:α->Sem β}{r:α}{Q:β->Shared->Prop}{E:Value->Shared->Prop}{h:Heap}{g d tk os}(x:Looks M h t r)(q:wpAny M A (f r) Q E ⟨h,g,d,tk,os⟩):wpAny M A (t>>=f) Q E ⟨h,g,d,tk,os⟩:=wpAny_bind (x.at q)
theorem JC{c:Prop}[Decidable c]{α:Type}{M:Model}{A:Around}{a b:Sem α}{Q:α->Shared->Prop}{E:Value->Shared->Prop}{s:Shared}(h:¬c)(q:wpAny M A b Q E s):wpAny M A (if c then a else b) Q E s:=by rw [if_neg h];exact q
theorem W2(a:String):¬(a !=a)=true:=by rw [bne_self_eq_false];exact Bool.false_ne_true
theorem Gz{α:Type}{M:Model}{A:Around}{a b:Sem α}{Q:α->Shared->Prop}{E:Value->Shared->Prop}{s:Shared}(h:a=b)(q:wpAny M A b Q E s):wpAny M A a Q E s:=h▸q
theorem S7:".".intercalate ("list.__len__".cutAt '.').dropLast="list":=by decide+kernel
theorem Ms{id:String}(e:".".intercalate (id.cutAt '.').dropLast="list"){x C D:Addr}{ox:Obj}{Q:Fin->Shared->Prop}(hx:h.get? x=some ox)(hc:ox.cls=.ref C)(hi:Looks M h (isSubtype (.ref C) (.type "list")) true)
  (hq:Q (.done (.ret (.ref h.objs.size))) ⟨h.push {cls:=.type "method-wrapper",data:=.fields #[.builtin id,.ref x]},g,d,t,os⟩):
  wpAny M A (Builtin.«wrapper_descriptor.__get__» ⟨[.builtin id,.ref x,.ref D],[]⟩) Q E ⟨h,g,d,t,os⟩:=by
 refine An (Looks.of_pure rfl) ?_;refine wpAny_bind ?_;refine wpAny_bind (wpAny_of_eq rfl ?_);refine rwl e ?_;refine An ((hc▸(Looks.ld (part:=none) hx).andThen .now:Looks M h (typeOf (.ref x)) (.ref C)).andThen hi) ?_;refine wpAny_pure ?_;exact wpAny_bind (wpAny_newObj_type (T:="method-wrapper") (wpAny_pure hq))
theorem Vf{x C D:Addr}{ox:Obj}{Q:Fin->Shared->Prop}(hx:h.get? x=some ox)(hc:ox.cls=.ref C)(hi:Looks M h (isSubtype (.ref C) (.type "list")) true)
  (hq:Q (.done (.ret (.ref h.objs.size))) ⟨h.push {cls:=.type "method-wrapper",data:=.fields #[.builtin "list.__len__",.ref x]},g,d,t,os⟩):
  wpAny M A (Builtin.«wrapper_descriptor.__get__» ⟨[.builtin "list.__len__",.ref x,.ref D],[]⟩) Q E ⟨h,g,d,t,os⟩:=Ms S7 hx hc hi hq
theorem P5:".".intercalate ("list.__init__".cutAt '.').dropLast="list":=by decide+kernel
theorem RH:typeOf (.builtin "list.__init__")=pure (.type "wrapper_descriptor"):=by show builtinType _=_;rw [builtinType_eq_fast];kernel_rfl
theorem Xn:typeLookup (.type "method_descriptor") "__get__"=pure (some (.builtin "method_descriptor.__get__")):=by rw [typeLookup_type,builtinLookup_eq_fast];kernel_rfl
theorem Si:PySem.Slot "method_descriptor" "__get__" "method_descriptor.__get__":=.of (owner:="method_descriptor") (n:="__get__") Xn (by decide+kernel) (by decide+kernel) (by decide+kernel)
 (by first|exact .inl (by decide+kernel)|exact .inr (by decide+kernel)) (by rw [isSubtype_type];kernel_rfl)
theorem QZ:entryFor table "method_descriptor.__get__"=some Builtin.«method_descriptor.__get__»:=entryFor_of_tree (by kernel_rfl)
theorem TO(a b c:Value):argsOk "method_descriptor.__get__" ⟨[a,b,c],[]⟩:=by unfold argsOk;kernel_rfl
theorem S6:".".intercalate ("list.pop".cutAt '.').dropLast="list":=by decide+kernel
theorem OJ:Manifest.toldItsClass.contains "list.pop"=false:=by decide+kernel
theorem UT{so D x C:Addr}{id:String}{tn gid bt:String}{Bi:Builtin}{l₀ l:List Value}{K:Frag}{name:Str}{tk:Tok}{Q:Fin->Shared->Prop}
  (hso:h.get? so=some {cls:=.type "super",dict:=none,data:=.fields #[.ref D,.ref x,.ref C],slots:= #[]}) (hno:Looks (model prog w) h (opaqueClassAbove (.ref C)) none)
  (hC:Looks (model prog w) h (mroOf (.ref C)) l₀) (hl:(l₀.dropWhile (·!=.ref D)).drop 1=l) (X:K.In h)
  (hf:alongIn K name l=some (some (.builtin id))) (hty:typeOf (.builtin id)=pure (.type tn)) (S:PySem.Slot tn "__get__" gid) (hen:entryFor table gid=some Bi) (har:argsOk gid ⟨[.builtin id,.ref x,.ref C],[]⟩) (hxC:x≠C) (hn:(name==("__class__":Str))=false)
  (run:∀{A':Around} {E':Value->Shared->Prop} {Q':Fin->Shared->Prop},Q' (.done (.ret (.ref h.objs.size))) ⟨h.push {cls:=.type bt,data:=.fields #[.builtin id,.ref x]},g,d,t,os⟩->wpAny (model prog w) A' (Bi ⟨[.builtin id,.ref x,.ref C],[]⟩) Q' E' ⟨h,g,d,t,os⟩)
  (hq:Q (.done (.ret (.ref h.objs.size))) ⟨h.push {cls:=.type bt,data:=.fields #[.builtin id,.ref x]},g,d,t,os⟩):
  wpAny (model prog w) A (Builtin.«super.__getattribute__» ⟨[.ref so,.str name tk],[]⟩) Q E ⟨h,g,d,t,os⟩:=by
 have hlk:=S.lookup;have hne:(Value.ref x==Value.ref C)=false:=by simp [hxC]
 have hTf:(⟨h,g,d,t,os⟩:Shared).TypeIs (.builtin id) tn:=hty;have hdt:({cls:=.type "super",dict:=none,data:=.fields #[.ref D,.ref x,.ref C],slots:= #[]}:Obj).data=.fields #[.ref D,.ref x,.ref C]:=rfl;have f0:(#[.ref D,.ref x,.ref C]:Array Value)[0]? =some (.ref D):=rfl;have f1:(#[.ref D,.ref x,.ref C]:Array Value)[1]? =some (.ref x):=rfl;have f2:(#[.ref D,.ref x,.ref C]:Array Value)[2]? =some (.ref C):=rfl;refine An (Looks.of_pure rfl) ?_;refine An (Looks.of_pure rfl) ?_;refine wpAny_bind (wpAny_field hso hdt f0 ?_);refine wpAny_bind (wpAny_field hso hdt f1 ?_);refine wpAny_bind (wpAny_field hso hdt f2 ?_);refine JC (λq=>Bool.false_ne_true (hn.symm.trans q)) ?_;refine wpAny_bind (ks_wpAny_notOpaque hno ?_);refine An hC ?_;refine wpAny_bind (ks_forIn_along X (λ_ _=>rfl) rfl ?_ (hl.symm▸hf));refine wpAny_bind (wpAny_typeOf hTf ?_);refine wpAny_bind (wpAny_of_eq hlk ?_);refine wpAny_bind (wpAny_holding ?_);refine rwl (if_neg (hne▸Bool.false_ne_true)) ?_;refine wpAny_call_entry S hTf hen ?_ har;refine run ⟨_,rfl,?_⟩;exact wpAny_bind (wpAny_pure (wpAny_pure (wpAny_pure hq)))
end
section
variable{prog:Program}{w:World}{M:Model}{A:Around}{E:Value->Shared->Prop}{h:Heap}{g:Array GenState}{d:Drawn}{t:Nat}{os:OsState}
theorem Vg{x C D:Addr}{ox:Obj}{Q:Fin->Shared->Prop}(hx:h.get? x=some ox)(hc:ox.cls=.ref C)(hi:Looks M h (isSubtype (.ref C) (.type "list")) true)
  (hq:Q (.done (.ret (.ref h.objs.size))) ⟨h.push {cls:=.type "builtin_function_or_method",data:=.fields #[.builtin "list.pop",.ref x]},g,d,t,os⟩):
  wpAny M A (Builtin.«method_descriptor.__get__» ⟨[.builtin "list.pop",.ref x,.ref D],[]⟩) Q E ⟨h,g,d,t,os⟩:=by
 refine An (Looks.of_pure rfl) ?_;refine JC (OJ▸Bool.false_ne_true) ?_;refine wpAny_bind ?_;refine wpAny_bind (wpAny_of_eq rfl ?_);refine rwl S6 ?_;refine An ((hc▸(Looks.ld (part:=none) hx).andThen .now:Looks M h (typeOf (.ref x)) (.ref C)).andThen hi) ?_;refine wpAny_pure ?_;exact wpAny_bind (wpAny_newObj_type (T:="builtin_function_or_method") (wpAny_pure hq))
end
section
variable{prog:Program}{w:World}{M:Model}{A:Around}{E:Value->Shared->Prop}{h:Heap}{g:Array GenState}{d:Drawn}{t:Nat}{os:OsState}
theorem EO{so D x C:Addr}{id:String}{tn gid bt:String}{Bi:Builtin}{l₀ l:List Value}{K:Frag}{name:Str}{pl:Sem Bool}{Q:Value×List Value->Shared->Prop}
  (hso:h.get? so=some {cls:=.type "super",dict:=none,data:=.fields #[.ref D,.ref x,.ref C],slots:= #[]}) (hno:Looks (model prog w) h (opaqueClassAbove (.ref C)) none)
  (hC:Looks (model prog w) h (mroOf (.ref C)) l₀) (hl:(l₀.dropWhile (·!=.ref D)).drop 1=l) (X:K.In h)
  (hf:alongIn K name l=some (some (.builtin id))) (hty:typeOf (.builtin id)=pure (.type tn)) (S:PySem.Slot tn "__get__" gid) (hen:entryFor table gid=some Bi) (har:argsOk gid ⟨[.builtin id,.ref x,.ref C],[]⟩) (hxC:x≠C) (hn:(name==("__class__":Str))=false)
  (run:∀{t':Nat} {A':Around} {E':Value->Shared->Prop} {Q':Fin->Shared->Prop},Q' (.done (.ret (.ref h.objs.size))) ⟨h.push {cls:=.type bt,data:=.fields #[.builtin id,.ref x]},g,d,t',os⟩->wpAny (model prog w) A' (Bi ⟨[.builtin id,.ref x,.ref C],[]⟩) Q' E' ⟨h,g,d,t',os⟩)
  (hq:Q (.ref h.objs.size,[]) ⟨h.push {cls:=.type bt,data:=.fields #[.builtin id,.ref x]},g,d,t+1,os⟩):
  wpAny (model prog w) A (getMethod (.ref so) name pl) Q E ⟨h,g,d,t,os⟩:=by
 have hlk:=PySem.F.ks_slot_super_ga.lookup;have hcan:=PySem.F.ks_canon_super_ga;have hT:∀t',(⟨h,g,d,t',os⟩:Shared).TypeIs (.ref so) "super":=λ_=>⟨_,hso,rfl⟩
 refine wpAny_bind (wpAny_specialOf (hT _) hlk ?_);show wpAny _ _ (if(Manifest.canonical "super.__getattribute__" !="object.__getattribute__")=true then _ else _) _ _ _;refine rwl (if_pos hcan) ?_;refine wpAny_bind (wpAny_bind (wpAny_mkText (wpAny_holding (wpAny_bind (wpAny_typeOf (hT _) (wpAny_bind (wpAny_of_eq hlk ?_)))))));show wpAny _ _ (getAttrByItsOwn (.ref so) (.str name t) (.type "super") (.builtin "super.__getattribute__") true false) _ _ _;refine wpAny_bind (wpAny_of_eq (show(if onTheHeap (.type "super") then typeLookup (.type "super") "__getattr__" else pure none)=pure none from rfl) ?_);refine wpAny_bind (wpAny_attempt (wpAny_holding ?_));show wpAny _ _ (bindSpecial (.builtin "super.__getattribute__") (.ref so)>>=_) _ _ _;refine wpAny_bind (wpAny_of_eq (PySem.F.ks_slot_super_ga.bind _) ?_);refine wpAny_mono (Q:=λv s'=>v=.ref h.objs.size/\s'=⟨h.push {cls:=.type bt,data:=.fields #[.builtin id,.ref x]},g,d,t+1,os⟩) (E:=λ_ _=>False)
  (wpAny_call_entry PySem.F.ks_slot_super_ga (hT _) PySem.F.ks_entry_super_ga (UT hso hno hC hl X hf hty S hen har hxC hn run ⟨_,rfl,rfl,rfl⟩) (PySem.F.ks_gaArgs_super _ _)) (λv s' hv=>?_) λ_ _ z=>z.elim
 obtain⟨rfl,rfl⟩:=hv;exact wpAny_pure (wpAny_pure hq)
theorem TK(a:Addr):checkBoundCall "list.__len__" ⟨[.ref a],[]⟩=pure ():=by kernel_rfl
theorem O8{b a:Addr}{cl d0:Addr}{vs:List Value}{n:Nat}{s:Shared}{Q:Value->Shared->Prop}(hb:s.heap.get? b=some {cls:=.type "method-wrapper",data:=.fields #[.builtin "list.__len__",.ref a]})
  (ha:s.heap.get? a=some {cls:=.ref cl,dict:=some d0,data:=.seq (List.toArray vs) n,slots:= #[]}) (hsz:vs.length<=4096)
  (hq:∀t' k,Q (.int vs.length t') {s with toks:=k}):wpAny (model prog w) A (call (.ref b) []) Q E s:=by
 refine wpAny_call (codeAny_of_tree ?_);show wpAny _ A.in1 (callAny (.ref b) ⟨[],[]⟩) _ _ s;refine wpAny_bind (wpAny_load hb ?_);dsimp only;refine rwl (if_pos (by decide+kernel)) ?_;simp only [List.getElem?_toArray,List.getElem?_cons_zero,List.getElem?_cons_succ];refine wpAny_bind (wpAny_of_eq (TK a) ?_);refine wpAny_pure ⟨plainId_quiet slot_list_len.plain _,codeAny_builtin entry_list_len ?_⟩;refine rwl (Around.under_plainId slot_list_len.plain _) ?_;show wpAny _ _ (do retInt (←seqSize a)) _ _ s;refine wpAny_bind (wpAny_bind (wpAny_load ha ?_));refine wpAny_pure (wpAny_bind (wpAny_mkInt (wpAny_pure ?_)));have:=hq s.toks (s.toks+1)
 simpa using this
theorem Sk{a:Addr}{cl d0:Addr}{items:Array Value}{n:Nat}{y:Value}{Q:Fin->Shared->Prop}(hl:h.get? a=some {cls:=.ref cl,dict:=some d0,data:=.seq items n,slots:= #[]})(hy:items[items.size-1]? =some y)(hs1:items.size<=sizeLine)
  (hq:Q (.done (.ret y)) ⟨h.update a (Obj.mapSeq λxs=>xs.eraseIdxIfInBounds (items.size-1)),g,d,t,os⟩):wpAny (model prog w) A (Builtin.«list.pop» ⟨[.ref a],[]⟩) Q E ⟨h,g,d,t,os⟩:=by
 have hpos:0<items.size:=by
  rcases Nat.eq_zero_or_pos items.size with h0|h0
  ·simp [h0] at hy
  ·exact h0
 have hne:¬items.isEmpty=true:=by
  intro he;have:items.size=0:=by simpa using he
  lia
 have hk:seqIndex? (-1) items.size=some (items.size-1):=by
  refine rwl (MeetsSeq.seqIndex_neg (by decide) (by lia)) ?_;congr 1;lia
 have hz':(items.eraseIdxIfInBounds (items.size-1)).size<=sizeLine+1:=Nat.le_trans (MeetsSeq.size_erased items _) (Nat.le_succ_of_le hs1)
 wp_walk using wpAny_loadPart' hl
 simp only [hk,hy,Option.bind_some,Option.map_some]
 wp_walk using (wpAny_updateSeq hl rfl (hz:=hs1) (_hz':=hz')),wpAny_loadPart' hl
 exact hq
end
structure AccK2(K:Frag)(C:Addr)(cd:ClassData):Prop extends AccK K C where
 cls:clsIn K C=some cd
 self_:mroIn K C (.ref C)=some true
 nomod:mroIn K C (.type "module")=some false
 meta_:typeIn K (.ref C)=some (.type "type")
 popck:∀(sig:Manifest.Signature) (a:Addr),Manifest.signature? "list.pop"=some sig->Bind.checkArgs "list.pop" {sig with full:=s!"{cd.qualname.toString}.{Bind.lastOf "list.pop"}"} ⟨[.ref a],[]⟩=pure ()
 opq:nsIn K cStatics "thirdparty.any"=some none
 len:alongIn K "__len__" ((cd.mro.dropWhile (·!=.ref C)).drop 1)=some (some (.builtin "list.__len__"))
 pop:alongIn K "pop" ((cd.mro.dropWhile (·!=.ref C)).drop 1)=some (some (.builtin "list.pop"))
section
variable{prog:Program}{w:World}{M:Model}{A:Around}{E:Value->Shared->Prop}{s:Shared}{K:Frag}{C:Addr}{cd:ClassData}
theorem Sj:∃sig,Manifest.signature? "list.pop"=some sig:=by
 have:(Manifest.signature? "list.pop").isSome=true:=by decide+kernel
 exact Option.isSome_iff_exists.mp this
theorem UH:Manifest.varargsMethods.contains "list.pop"=false:=by decide+kernel
theorem UG{c:Prop}[Decidable c]{α:Type}{M:Model}{A:Around}{a b:Sem α}{Q:α->Shared->Prop}{E:Value->Shared->Prop}{s:Shared}(h:c)(q:wpAny M A a Q E s):wpAny M A (if c then a else b) Q E s:=by rw [if_pos h];exact q
theorem Qx:builtinKind "list.pop"=some .method:=by decide+kernel
theorem O7{b a d0:Addr}{vs:List Value}{v:Value}{n:Nat}{od:Obj}{Q:Value->Shared->Prop}(k:AccK2 K C cd)(X:K.In s.heap)(hb:s.heap.get? b=some {cls:=.type "builtin_function_or_method",data:=.fields #[.builtin "list.pop",.ref a]})
  (I:InstAt s.heap a {cls:=.ref C,dict:=some d0,data:=.seq (List.toArray (vs++[v])) n,slots:= #[]} C (some od)) (hsz:vs.length<=4096)
  (hq:∀h' m,h'.get? a=some {cls:=.ref C,dict:=some d0,data:=.seq (List.toArray vs) m,slots:= #[]}->Heap.SameBut a s.heap h'->Q v {s with heap:=h'}):wpAny (model prog w) A (call (.ref b) []) Q E s:=by
 have ha:=I.at_;refine wpAny_call (codeAny_of_tree ?_);show wpAny _ A.in1 (callAny (.ref b) ⟨[],[]⟩) _ _ s;refine wpAny_bind (wpAny_load hb ?_);refine UG (by kernel_rfl) ?_;refine UG (by kernel_rfl) ?_;refine wpAny_bind ?_;obtain⟨sig,hsig⟩:=Sj;unfold checkBoundCall;refine rwl hsig ?_;refine rwl Qx ?_;refine JC (by decide+kernel) ?_;have hm:Looks (model prog w) s.heap (isInstance (.ref a) (.type "module")) false:=I.type.andThen (looks_mroIn X k.nomod);refine wpAny_bind (hm.here ?_);refine JC (UH▸Bool.false_ne_true) ?_;have hit:∀{Q':Bool->Shared->Prop} {E':Value->Shared->Prop},Q' false s->wpAny (model prog w) A.in1 (isType (.ref a)) Q' E' s:=λq=>by
  obtain⟨hh,g,d,t,os⟩:=s;exact ks_wpAny_isType_inst ha (λc e=>nomatch e) q
 refine wpAny_bind (hit ?_);refine wpAny_bind (I.type.here ?_);refine wpAny_bind ((looks_clsIn X k.cls).here ?_);refine wpAny_bind ((looks_typeIn X k.meta_).here ?_);refine UG (by decide+kernel) ?_;refine wpAny_of_eq (k.popck sig a hsig) ?_;refine wpAny_pure ⟨plainId_quiet PySem.F.slot_list_pop.plain _,codeAny_builtin PySem.F.entry_list_pop ?_⟩;refine rwl (Around.under_plainId PySem.F.slot_list_pop.plain _) ?_;obtain⟨hh,g,d,t,os⟩:=s;refine Sk (y:=v) ha (by simp) (by(refine rwl List.size_toArray ?_;refine rwl List.length_append ?_);show vs.length+1<=sizeLine;exact Nat.le_trans (Nat.succ_le_succ hsz) (by decide)) ?_;have er:(List.toArray (vs++[v])).eraseIdxIfInBounds ((List.toArray (vs++[v])).size-1)=List.toArray vs:=by
  have:(List.toArray (vs++[v])).size-1=vs.length:=by simp
  refine rwl this ?_;simp [Array.eraseIdxIfInBounds,List.eraseIdx_append_of_length_le]
 have z:∃m',(Obj.mapSeq λxs=>xs.eraseIdxIfInBounds ((List.toArray (vs++[v])).size-1)) {cls:=.ref C,dict:=some d0,data:=.seq (List.toArray (vs++[v])) n,slots:= #[]}={cls:=.ref C,dict:=some d0,data:=.seq ((List.toArray (vs++[v])).eraseIdxIfInBounds ((List.toArray (vs++[v])).size-1)) m',slots:= #[]}:=by
  exact⟨_,rfl⟩
 rw [er] at z;obtain⟨m',z⟩:=z;exact hq _ m' (by rw [Heap.get?_update_self _ ha (by refine rwl z ?_;rfl),z]) (Heap.SameBut.update ..)
end
section
variable{prog:Program}{w:World}{M:Model}{A:Around}{E:Value->Shared->Prop}{s:Shared}{K:Frag}{C:Addr}{cd:ClassData}{env:Env}{B:Heap}
theorem Q6{o:Expr}{name:Str}{apos pos:Pos}(hline:(apos.endLine==pos.line)=true):∃pl,eval (.Call (.Attribute o name apos) [] [] pos) env=(do
   let ov ←attributeBase o name env (eval o env)
   standAt apos.atName
   let(f,first) ←holding [ov] (getMethod ov name pl)
   callWith pos f first (backTo pos (starEach [] env)) []):=by
 have hpos:methodCallPos true o env apos pos=pure pos:=by unfold methodCallPos;simp [hline]
 refine⟨(do return (←importBound o env).getD true:Sem Bool),?_⟩
 (simp only [arm_eval_Call])
 unfold methodCall;have hform:methodCallForm (([]:List Expr).length+([]:List Keyword).length) (backTo pos (starEach [] env)) (backToKw pos (keywordEach [] env))=true:=rfl
 (refine rwl hform ?_;refine rwl hpos ?_)
 rfl
inductive FdAtS(prog:Program)(C:Addr)(h:Heap)(a:Addr)(ps:List Str)(body:List Stmt)(scope:Scope):Prop
 |mk (o:Obj) (fd:FuncData) (cc:Addr) (h1:h.get? a=some o) (h2:o.data=.func fd) (h3:fd.body=.stmts body) (h4:fd.scope=scope) (h5:fd.closure=[(("__class__":Str),cc)]) (h6:fd.globals=mainGlobals) (h7:fd.builtins=builtinsNs) (h8:h.CodeRec fd.code fd.qualname)
  (h9:∀vals:List Value,vals.length=ps.length->bindArgs fd ⟨vals,[]⟩=pure (ps.zip vals)) (h10:h.IsCell cc (some (.ref C))) (h11:∃ar,(fd.params.posonlyargs++fd.params.args).head? =some ar/\ar.arg=("self":Str))
  (h12:∃cda oc vs file tf,fd.code=.ref cda/\h.get? cda=some oc/\oc.data=.fields vs/\vs[2]? =some (.str file tf)/\((prog.main.file:Str)==file)=true)
structure SupOk(scope:Scope):Prop where
 kind:scope.kind=.function
 co:scope.isCoroutine=false
 ge:scope.isGenerator=false
 nocell:∀x∈scope.names,x.2≠.cell
 self_:scope.names.lookup ("self":Str)=some NameKind.local
 super_:scope.names.lookup ("super":Str)=some NameKind.globalImplicit
 cls_:scope.names.lookup ("__class__":Str)=some NameKind.free
structure SupEnv(prog:Program)(B:Heap)(C f:Addr)(fd:FuncData)(env:Env):Prop where
 ho:∃o,B.get? f=some o/\o.data=.func fd
 ok:SupOk fd.scope
 scope:env.scope=fd.scope
 func:env.func=some f
 code:env.code=fd.code
 glob:env.globals=mainGlobals
 blt:env.builtins=builtinsNs
 cell:∃cc,env.cells.lookup ("__class__":Str)=some cc/\B.IsCell cc (some (.ref C))
 hp:∃ar,(fd.params.posonlyargs++fd.params.args).head? =some ar/\ar.arg=("self":Str)
 file:∃cda oc vs file tf,fd.code=.ref cda/\B.get? cda=some oc/\oc.data=.fields vs/\vs[2]? =some (.str file tf)/\((prog.main.file:Str)==file)=true
 sup:GlobAt B "super" (.type "super")
 top:(prog.main.scope.names.lookup ("super":Str)).isSome=false
theorem SupEnv.kind{f:Addr}{fd:FuncData}(S:SupEnv prog B C f fd env){x:Str}{k:NameKind}(h:fd.scope.names.lookup x=some k):env.kindOf x=some k:=by
 unfold Env.kindOf;refine rwl S.scope ?_;exact h
theorem SupEnv.fn{f:Addr}{fd:FuncData}(S:SupEnv prog B C f fd env):env.scope.kind=.function:=S.scope▸S.ok.kind
theorem GlobAt.sub{h h':Heap}{x:Str}{v:Value}(g:GlobAt h x v)(k:Sub h h'):GlobAt h' x v:=by
 refine lid λgg kk=>?_
 obtain⟨mg,n,e⟩:=g;refine kk ?_;refine⟨mg,n.keeps k,e.imp id ?_⟩
 rintro ⟨e,mb,nb,eb⟩
 exact⟨e,mb,nb.keeps k,eb⟩
theorem Wz{h:Heap}(k:clsIn K C=some cd)(X:K.In h):∃o,h.get? C=some o/\o.data=.cls cd:=by
 unfold clsIn at k
 cases q:K.lookup C with
 |none=>rw [q] at k;cases k
 |some o=>
  rw [q] at k;obtain⟨c,d,da,sl⟩:=o
  cases da with
  |cls cd'=>cases k;exact⟨_,X _ _ q,rfl⟩
  |_=>cases k
theorem Qu{h:Heap}(k:clsIn K C=some cd)(X:K.In h):Looks (model prog w) h (mroOf (.ref C)) cd.mro:=λA Q E s k' q=>wpAny_bind ((looks_clsIn X k) A _ E s k' (wpAny_pure q))
theorem EN{body:List Stmt}{p0 p1:Pos}{attr:Str}{whole:Sem Value}{a f:Addr}{od ox:Obj}{m:Str->Option Value}{fd:FuncData}{Q:Value->Shared->Prop}(k:AccK2 K C cd)(X:K.In s.heap)(S:SupEnv prog B C f fd env)(b:Sub B s.heap)
  (hat:(attr==("__class__":Str))=false) (ns:s.heap.Ns env.locals m) (hm:m "self"=some (.ref a)) (I:InstAt s.heap a ox C (some od)) (hdat:∀c,ox.data≠.cls c)
  (hq:∀h' so,Sub s.heap h'->s.heap.get? so=none->h'.get? so=some {cls:=.type "super",dict:=none,data:=.fields #[.ref C,.ref a,.ref C],slots:= #[]}->Q (.ref so) {s with heap:=h'}):
  _root_.PySem.wpAt (model prog w) A (.func body env) (attributeBase (.Call (.Name "super" p0) [] [] p1) attr env whole) Q E s:=by
 refine lid λgg kk=>?_
 obtain⟨ar,har,has⟩:=S.hp;obtain⟨cda,oc,vs,file,tf,hc1,hc2,hc3,hc4,hc5⟩:=S.file;obtain⟨of,hf,hfd⟩:=S.ho;obtain⟨cc,hcell,hcc⟩:=S.cell;refine kk ?_;have hks:=S.kind S.ok.super_;refine ks_wpAt_super_base hks (S.kind S.ok.cls_) hat S.func (b _ _ hf) hfd har (S.code.trans hc1) (b _ _ hc2) hc3 hc4 hc5 S.top ?_;refine Bc S.fn S.glob S.blt (S.sup.is b hks) ⟨rfl,?_⟩;refine wpAny_loadName_free S.fn (S.kind S.ok.cls_) hcell (hcc.keeps b) ?_;refine rwl has ?_;refine wpAny_loadName_local S.fn (S.kind S.ok.self_) ns hm ?_;refine lid λgg kk=>?_
 obtain⟨oC,hC1,hC2⟩:=Wz k.cls X;obtain⟨hh,g,d,t,os⟩:=s;refine kk ?_;refine ks_wpAny_isType_cls hC1 hC2 ⟨rfl,?_⟩;exact ks_wpAny_call_super hC1 hC2 I.at_ I.cls hdat (looks_mroIn X k.self_) λh' e kp=>hq h' _ kp (Ao hh) e
noncomputable def ED(p:Nat->Pos):List Stmt:=[.Return (some (.Call (.Attribute (.Call (.Name "super" (p 0)) [] [] (p 1)) "__len__" (p 2)) [] [] (p 3))) (p 4)]
theorem Fi{h h':Heap}{a d:Addr}{vs:List Value}(O:CM h C a vs d)(k:Sub h h'):CM h' C a vs d:=by
 refine lid λgg kk=>?_
 obtain⟨⟨m,hm⟩,o,u1,u2,ho,r⟩:=O;refine kk ?_;exact⟨⟨m,k _ _ hm⟩,o,u1,u2,k _ _ ho,r⟩
theorem J1{M:Model}{h:Heap}{b:Addr}{bt:String}{vs:Array Value}(hb:h.get? b=some {cls:=.type bt,data:=.fields vs})(hbt:(Value.type bt !=Value.type "method")=true)(hbt2:(Value.type bt==Value.type "builtin_function_or_method"||Value.type bt==Value.type "method-wrapper")=true):Looks M h (keeperOf (.ref b)) .machine:=by
 intro A Q E s k q;unfold keeperOf;refine wpAny_bind (wpAny_load (k _ _ hb) ?_);dsimp only
 (refine rwl (if_pos hbt) ?_;refine rwl (if_pos hbt2) ?_)
 exact wpAny_pure q
theorem Ev{h0:Heap}{b:Addr}{bt:String}{vs:Array Value}{pos:Pos}{Q:Value->Shared->Prop}(hb:s.heap.get? b=some {cls:=.type bt,data:=.fields vs})(hbt:(Value.type bt !=Value.type "method")=true)(hbt2:(Value.type bt==Value.type "builtin_function_or_method"||Value.type bt==Value.type "method-wrapper")=true)
  (h:wpAny (model prog w) A (call (.ref b) []) Q E s):wpAny (model prog w) A (callWith pos (.ref b) [] (backTo pos (starEach [] env)) []) Q E s:=by
 unfold callWith;refine wpAny_bind (wpAny_holding (evalArgs_nil3 (wpAny_bind (wpAny_standAt ?_))));refine wpAny_bind ((J1 hb hbt hbt2).here ?_);exact wpAny_bind (wpAny_mono h (λr s₂ hr=>wpAny_bind (wpAny_holding (wpAny_point (wpAny_pure hr)))) λ_ _ x=>x)
theorem IF{o:Obj}{fd:FuncData}{cc fp L:Addr}(h1:B.get? fp=some o)(h2:o.data=.func fd)(h5:fd.closure=[(("__class__":Str),cc)])(h6:fd.globals=mainGlobals)(h7:fd.builtins=builtinsNs)(h10:B.IsCell cc (some (.ref C)))
  (h11:∃ar,(fd.params.posonlyargs++fd.params.args).head? =some ar/\ar.arg=("self":Str)) (h12:∃cda oc vs file tf,fd.code=.ref cda/\B.get? cda=some oc/\oc.data=.fields vs/\vs[2]? =some (.str file tf)/\((prog.main.file:Str)==file)=true)
  (ok:SupOk fd.scope) (htop:(prog.main.scope.names.lookup ("super":Str)).isSome=false) (hsup:GlobAt B "super" (.type "super")):SupEnv prog B C fp fd (callEnv fd L fp):=
 ⟨⟨o,h1,h2⟩,ok,rfl,rfl,rfl,h6,h7,⟨cc,by show List.lookup _ fd.closure=_;refine rwl h5 ?_;rfl,h10⟩,h11,h12,hsup,htop⟩
theorem I9{a d fp:Addr}{vs:List Value}{scope:Scope}{p:Nat->Pos}{Q:Value->Shared->Prop}(k:AccK2 K C cd)(X:K.In B)(lim:B.NoLimit)(fd:FdAtS prog C B fp ["self"] (ED p) scope)(hline:((p 2).endLine==(p 3).line)=true)(ok:SupOk scope)
  (htop:(prog.main.scope.names.lookup ("super":Str)).isSome=false) (hsup:GlobAt B "super" (.type "super")) (hroom:A.depth<recursionLimit) (base:Sub B s.heap) (O:CM s.heap C a vs d) (hsz:vs.length<=4096)
  (hQ:∀h' k t,Sub s.heap h'->Q (.int vs.length t) {s with heap:=h',toks:=k}):
  wpAny (model prog w) A (call (.ref fp) [.ref a] []) Q E s:=by
 refine lid λgg kk=>?_
 obtain⟨of,fdd,cc,ho,hdt,hbody,hsc,hclo,hglob,hblt,hcd,hbind,hcc,hp,hcode⟩:=fd;refine kk ?_;subst hsc;refine wpAny_call (ks_codeAny_call_defAt hroom (base _ _ ho) hdt (lim.keeps base) (hcd.keeps base) hbody (BindsTo.of_eq (hbind [.ref a] rfl)) ok.nocell (λy hy=>?_) (λh₀ ns keep=>?_) ok.co ok.ge ok.kind)
 ·refine rwl (mS hy) ?_;exact ok.self_
 ·have S:=IF (L:=s.heap.objs.size) ho hdt hclo hglob hblt hcc hp hcode ok htop hsup;revert ns S;generalize he:callEnv fdd s.heap.objs.size fp=env';intro ns S;have hloc:s.heap.objs.size=env'.locals:=by refine rwr he ?_;rfl
  clear he hp hcode hbody;have keep:Sub s.heap h₀:=keep;refine lid λgg kk=>?_
  obtain⟨m,od,hod,hsh,I⟩:=Cg (Fi O keep);obtain⟨pl,hev⟩:=Q6 (o:=.Call (.Name "super" (p 0)) [] [] (p 1)) (name:="__len__") (apos:=p 2) (pos:=p 3) (env:=env') hline;refine kk ?_;refine ks_wpAt_execs_cons (ks_wpAt_Return_some (ks_wpAt_MethodCall ?_ hev));refine EN (s:={s with heap:=h₀,toks:=s.toks+1}) (m:=λx=>List.lookup x [(("self":Str),Value.ref a)]) k (X.keeps (Sub.trans' base keep)) S (Sub.trans' base keep) (by decide+kernel) (hloc▸ns) rfl I (λc e=>nomatch e) λh₁ so sb₁ fso hso=>?_
  have sb01:Sub s.heap h₁:=Sub.trans' keep sb₁;refine lid λgg kk=>?_
  obtain⟨m2,od2,hod2,hsh2,I2⟩:=Cg (Fi O sb01);refine kk ?_;have X1:K.In h₁:=X.keeps (Sub.trans' base sb01);refine EO (l₀:=cd.mro) hso (looks_opaque X1 k.opq) (Qu k.cls X1) rfl X1 k.len UL slot_wd Hy (J7 _ _ _) (ks_ne X1 I2 k.cls) (by decide+kernel) (bt:="method-wrapper") (λhq=>Vf I2.at_ rfl (looks_mroIn X1 k.sub) hq) ?_;refine Ev (h0:=h₁) (Heap.get?_push_size _ rfl) (by decide+kernel) (by decide+kernel) ?_;exact O8 (Heap.get?_push_size _ rfl) (Sub.push' _ _ _ _ I2.at_) hsz λt' k'=>hQ _ _ t' (Sub.trans' sb01 (Sub.push' _ _))
end
section
variable{prog:Program}{w:World}{M:Model}{A:Around}{E:Value->Shared->Prop}{s:Shared}{K:Frag}{C:Addr}{cd:ClassData}{env:Env}{B:Heap}
noncomputable def IT(p:Nat->Pos)(k:Nat->Nat):List Stmt:=
 [.If (.Compare (.Call (.Attribute (.Name "self" (p 5)) "part_count" (p 6)) [] [] (p 7)) [.Eq] [.Constant (.int 0) (k 0) (p 8)] (p 9)) [.Return (some (.Tuple [.Constant (.str "") (k 1) (p 11),.Constant (.str "") (k 2) (p 12)] (k 3) (p 13))) (p 14)] [] (p 10),
  .Return (some (.Call (.Attribute (.Call (.Name "super" (p 0)) [] [] (p 1)) "pop" (p 2)) [] [] (p 3))) (p 4)]
theorem UK:typeOf (.builtin "list.pop")=pure (.type "method_descriptor"):=PySem.F.type_list_pop
theorem OX(vs:List Value)(v:Value):((((vs++[v]).length:Nat):Int)==0)=false:=by
 rw [List.length_append,beq_eq_false_iff_ne];exact Int.ofNat_ne_zero.mpr (Nat.succ_ne_zero _)
theorem TQ{a d fp fc:Addr}{vs:List Value}{scope scope':Scope}{p q:Nat->Pos}{kk:Nat->Nat}{Q:Value->Shared->Prop}(k:AccK2 K C cd)(X:K.In B)(lim:B.NoLimit)
  (fd:FdAtS prog C B fp ["self"] (IT p kk) scope) (hline:((p 2).endLine==(p 3).line)=true) (hline2:((p 6).endLine==(p 7).line)=true) (ok:SupOk scope)
  (fdc:FdAtS prog C B fc ["self"] (ED q) scope') (hlinec:((q 2).endLine==(q 3).line)=true) (okc:SupOk scope') (hpc:findIn K (.ref C) "part_count"=some (some (.ref fc))) (htc:typeIn K (.ref fc)=some (.type "function"))
  (htop:(prog.main.scope.names.lookup ("super":Str)).isSome=false) (hsup:GlobAt B "super" (.type "super")) (hroom:A.depth+1<recursionLimit) (base:Sub B s.heap) (O:CM s.heap C a vs d) (hsz:vs.length<=4096)
  (hQ0:vs=[]->∀h' k tup t1 t2,Sub s.heap h'->s.heap.get? tup=none->h'.IsTuple tup #[.str "" t1,.str "" t2]->Q (.ref tup) {s with heap:=h',toks:=k})
  (hQ1:∀vs' v,vs=vs'++[v]->∀h' k,Kp [a] s.heap h'->CM h' C a vs' d->Q v {s with heap:=h',toks:=k}):
  wpAny (model prog w) A (call (.ref fp) [.ref a] []) Q E s:=by
 obtain⟨of,fdd,cc,ho,hdt,hbody,hsc,hclo,hglob,hblt,hcd,hbind,hcc,hp,hcode⟩:=fd;subst hsc;refine wpAny_call (ks_codeAny_call_defAt (Nat.lt_of_succ_lt hroom) (base _ _ ho) hdt (lim.keeps base) (hcd.keeps base) hbody (BindsTo.of_eq (hbind [.ref a] rfl)) ok.nocell (λy hy=>?_) (λh₀ ns keep=>?_) ok.co ok.ge ok.kind)
 ·refine rwl (mS hy) ?_;exact ok.self_
 ·have S:=IF (L:=s.heap.objs.size) ho hdt hclo hglob hblt hcc hp hcode ok htop hsup;revert ns S;generalize he:callEnv fdd s.heap.objs.size fp=env';intro ns S;have hloc:s.heap.objs.size=env'.locals:=by refine rwr he ?_;rfl
  clear he hp hcode hbody;have keep:Sub s.heap h₀:=keep;have b0:=Sub.trans' base keep;have ns:h₀.Ns env'.locals (λx=>List.lookup x [(("self":Str),Value.ref a)]):=hloc▸ns;obtain⟨m,od,hod,hsh,I⟩:=Cg (Fi O keep);obtain⟨pl,hev⟩:=Q6 (o:=.Call (.Name "super" (p 0)) [] [] (p 1)) (name:="pop") (apos:=p 2) (pos:=p 3) (env:=env') hline;refine ks_wpAt_execs_cons (ks_wpAt_If (wpAt_of_wpAny ?_));refine wpAny_isTrue_Compare1 ?_ rfl;refine BO (Aw rfl) rfl hline2 (wpAny_Name (wpAny_loadName_local S.fn (S.kind ok.self_) ns rfl λpl'=>?_) rfl);refine Eg (s:={s with heap:=h₀,toks:=s.toks+1}) (X.keeps b0) I k.ga k.gt hpc (looks_typeIn (X.keeps b0) htc) (.inl rfl) (hsh _ (by decide+kernel)) ?_;obtain⟨of2,fdd2,ho2,hdt2⟩:∃o fd,B.get? fc=some o/\o.data=.func fd:=by obtain⟨o,fd,_,h1,h2,_⟩:=fdc;exact⟨o,fd,h1,h2⟩
  refine callWith_function_kw (o:=of2) (fd:=fdd2) (evalArgs_nil3 ⟨⟨b0 _ _ ho2,hdt2⟩,?_⟩);refine I9 (A:=A.deeper env') k X lim fdc hlinec okc htop hsup hroom b0 (Fi O keep) hsz λh₁ k₁ t₁ sb₁=>?_
  refine wpAny_Constant_int (eq_int (wpAny_truthy_bool ?_));have sb01:Sub s.heap h₁:=Sub.trans' keep sb₁;clear fdc hpc htc ho2 hdt2 hod hsh I
  rcases List.eq_nil_or_concat vs with hv|⟨vs',v,hv⟩
  ·have e:(((vs.length:Nat):Int)==0)=true:=by refine rwl hv ?_;rfl
   (refine rwl e ?_;refine rwl (if_pos rfl) ?_)
   refine ks_wpAt_execs_cons (ks_wpAt_Return_some (wpAt_of_wpAny (wpAny_Tuple_spliced (x1:=kk 3) ?_)))
   (refine rwl (Aa rfl) ?_;refine rwl (Aa rfl) ?_)
   refine Calls.spliced_cons (Calls.Constant_str (pos:=p 11) (k:=kk 1) (Calls.spliced_cons (Calls.Constant_str (pos:=p 12) (k:=kk 2) (Calls.spliced_nil ⟨by show 2<=sizeLine;decide,?_⟩))));have fr:s.heap.get? h₁.objs.size=none:=by
    cases q:s.heap.get? h₁.objs.size with
    |none=>rfl
    |some oo=>exact absurd (Heap.lt_size (sb01 _ _ q)) (Nat.lt_irrefl _)
   exact hQ0 hv _ _ _ _ _ (Sub.trans' sb01 (Sub.push' _ _)) fr ⟨_,Heap.get?_push_size _ rfl,rfl,0,rfl⟩
  ·rw [List.concat_eq_append] at hv;subst hv
   (rw [OX];refine rwl (if_neg Bool.false_ne_true) ?_)
   refine wpAt_of_wpAny (wpAny_execs_nil ?_);refine ks_wpAt_execs_cons (ks_wpAt_Return_some (ks_wpAt_MethodCall ?_ hev));have b1:=Sub.trans' b0 sb₁;refine lid λgg kk=>?_
   obtain⟨m3,od3,hod3,hsh3,I3⟩:=Cg (Fi O sb01);refine kk ?_;refine EN (s:={s with heap:=h₁,toks:=_}) (m:=λx=>List.lookup x [(("self":Str),Value.ref a)]) k (X.keeps b1) S b1 (by decide+kernel) (ns.keeps sb₁) rfl I3 (λc e=>nomatch e) λh₂ so sb₂ fso hso=>?_
   have sb02:Sub s.heap h₂:=Sub.trans' sb01 sb₂;clear ns I3 hod3 hsh3;have O2:=Fi O sb02;refine lid λgg kk=>?_
   obtain⟨m2,od2,hod2,hsh2,I2⟩:=Cg O2;refine kk ?_;have X1:K.In h₂:=X.keeps (Sub.trans' base sb02);refine EO (l₀:=cd.mro) hso (looks_opaque X1 k.opq) (Qu k.cls X1) rfl X1 k.pop UK Si QZ (TO _ _ _) (ks_ne X1 I2 k.cls) (by decide+kernel) (bt:="builtin_function_or_method") (λhq=>Vg I2.at_ rfl (looks_mroIn X1 k.sub) hq) ?_;have sb23:Sub h₂ (h₂.push {cls:=.type "builtin_function_or_method",data:=.fields #[.builtin "list.pop",.ref a]}):=Sub.push' _ _;refine Ev (h0:=h₂) (Heap.get?_push_size _ rfl) (by decide+kernel) (by decide+kernel) ?_;refine O7 k (X1.keeps sb23) (Heap.get?_push_size _ rfl) ⟨sb23 _ _ I2.at_,rfl,rfl,sb23 _ _ hod2⟩ (by rw [List.length_append] at hsz;exact Nat.le_of_succ_le hsz) λh₄ m4 ha4 hs4=>?_
   have kp:Kp [a] s.heap h₄:=(Kp.of_sub (Sub.trans' sb02 sb23)).trans (By hs4);refine lid λgg kk=>?_
   obtain⟨_,o',u1,u2,ho',hc',hl'⟩:=O;refine kk ?_;refine hQ1 vs' v rfl h₄ _ kp ⟨⟨m4,ha4⟩,o',u1,u2,kp _ _ (λm=>?_) ho',hc',hl'⟩;have e:=sb02 _ _ ho';rw [mS m,I2.at_] at e
   cases e
   cases hc'
end
structure MakesL(M:Model)(h:Heap)(C:Addr):Prop where
 obj:∃oc od cd sl,h.get? C=some ⟨oc,od,.cls cd,sl⟩/\cd.abstract=false/\cd.hasDel=false/\cd.mro.isEmpty=false
 made:Looks M h (Bind.madeBy (.ref C)) (some "list.__new__")
 madeL:Looks M h (Bind.madeBy (.type "list")) (some "list.__new__")
 base:Looks M h (Bind.staticBase (.ref C)) (.ref C)
 self:Looks M h (isSubtype (.ref C) (.ref C)) true
 top:Looks M h (isSubtype (.ref C) (.type "list")) true
 call:Looks M h (specialOf (.ref C) "__call__") (some (.builtin "type.__call__"))
 typ:Looks M h (isInstance (.ref C) (.type "type")) true
noncomputable abbrev CZ(C dx:Addr):Obj:={cls:=.ref C,dict:=some dx,data:=.seq #[]}
noncomputable abbrev Bm:Obj:={cls:=.type "dict",data:=.dict #[]}
section
variable{prog:Program}{w:World}{A:Around}{K:Frag}{C:Addr}{R:Result->Shared->Prop}{h:Heap}{g:Array GenState}{d:Drawn}{t:Nat}{os:OsState}
theorem Tc:builtinKind "list.__new__"=some .builtinFn:=by decide+kernel
theorem OR:splitId "list.__new__"=some ("list","__new__"):=by decide+kernel
theorem TP(C:Addr):argsOk "list.__new__" ⟨[.ref C],[]⟩:=by unfold argsOk;kernel_rfl
theorem Yg:("__new__"=="__new__")=true:=by decide+kernel
theorem Xi(Y:MakesL (model prog w) h C)
  (hq:R (.ok (.ret (.ref (h.objs.size+1)))) ⟨(h.push Bm).push (CZ C h.objs.size),g,d,t,os⟩):
  codeAny (model prog w) A (.call (.builtin "list.__new__") ⟨[.ref C],[]⟩) R ⟨h,g,d,t,os⟩:=by
 refine lid λgg kk=>?_
 obtain⟨⟨oc,od,cd,sl,hC,e1,e2,e4⟩,made,madeL,base,self,top,call,typ⟩:=Y;refine kk ?_;refine codeAny_of_tree ?_;show wpAny _ A.in1 (do checkBuiltinCall "list.__new__" ⟨[.ref C],[]⟩;again (.builtin "list.__new__" ⟨[.ref C],[]⟩)) _ _ _;refine wpAny_bind ?_;unfold checkBuiltinCall;refine rwl Tc ?_;refine rwl OR ?_;dsimp only;have isT:Looks (model prog w) h (isType (.ref C)) true:=by
  exact(Looks.ld (part:=none) hC).andThen .now
 refine An isT ?_;refine An top ?_;refine An base ?_;refine An made ?_;refine JC (W2 _) ?_;have ha:=TP C;unfold argsOk at ha
 cases hsig:Manifest.signature? "list.__new__" with
 |none=>
  have:(Manifest.signature? "list.__new__").isSome=true:=by decide+kernel
  rw [hsig] at this;cases this
 |some sig=>
  rw [hsig] at ha;refine Gz (show Bind.checkArgs "list.__new__" sig ⟨[.ref C],[]⟩=pure () from ha) ?_;refine wpAny_pure ?_;refine wpAny_pure (a:=Fin.again (.builtin "list.__new__" ⟨[.ref C],[]⟩)) ?_;refine And.intro (plainId_quiet PySem.F.plain_list_new _) (codeAny_builtin_stack PySem.F.entry_list_new rfl λp st=>?_);refine rwl (Around.under_plainId PySem.F.plain_list_new _) ?_;dsimp only;refine rwl owner_list_new ?_;refine An isT ?_;refine An top ?_;have hC1:=Heap.get?_push_of_some Bm hC;have hC2:=Heap.get?_push_of_some (CZ C h.objs.size) hC1;refine wpAny_bind (wpAny_pure ?_);refine wpAny_bind (wpAny_newObj_type (T:="dict") ?_);refine wpAny_bind (wpAny_bind (wpAny_alloc (wpAny_bind (wpAny_bind (wpAny_load hC2 (wpAny_pure ?_))))));refine JC (e2▸Bool.false_ne_true) ?_;refine wpAny_pure (wpAny_pure ?_);show R _ _;rw [Heap.size_push];exact hq
theorem VN{init:Value}(Y:MakesL (model prog w) h C)(hi:Looks (model prog w) h (typeLookup (.ref C) "__init__") (some init))
  (hb:∀self,Looks (model prog w) h (bindSpecial init self) (init,[self]))
  (hq:codeAny (model prog w) (A.under (.builtin "type.__call__" ⟨[.ref C],[]⟩)) (.call init ⟨[.ref (h.objs.size+1)],[]⟩) (InitBack (h.objs.size+1) R) ⟨(h.push Bm).push (CZ C h.objs.size),g,d,t,os⟩):
  codeAny (model prog w) A (.call (.ref C) ⟨[],[]⟩) R ⟨h,g,d,t,os⟩:=by
 have Y':=Y;obtain⟨⟨oc,od,cd,sl,hC,e1,e2,e4⟩,made,madeL,base,self,top,call,typ⟩:=Y;refine codeAny_of_tree ?_;refine nd_load hC ?_;show wpAny _ _ (callAny.viaDunder (.ref C) _) _ _ _;refine wpAny_bind (call.at ?_);dsimp only;rw [tc_bind];refine wpAny_bind (wpAny_pure (wpAny_bind (wpAny_pure ?_)));refine wpAny_pure (a:=Fin.again (.call (.builtin "type.__call__") ⟨[.ref C],[]⟩)) (And.intro rfl ?_);refine codeAny_call_builtin_at (Code.quiet_builtin _ (by decide+kernel)) entry_typeCall (check_slot tc_kind tc_split typ (tc_args _ _ _) ?_);have hm:Looks (model prog w) h (mroOf (.ref C)) cd.mro:=((Looks.ld (part:=none) hC).andThen .now).andThen .now;refine An hm ?_;refine JC (e4▸Bool.false_ne_true) ?_;refine An made ?_;refine wpAny_bind (wpAny_pure ?_);refine wpAny_bind (wpAny_holding (wpAny_call ?_));refine Xi Y' ?_;have k:∀b o,h.get? b=some o->((h.push Bm).push (CZ C h.objs.size)).get? b=some o:=λb o e=>Heap.get?_push_of_some _ (Heap.get?_push_of_some _ e)
 have hx:((h.push Bm).push (CZ C h.objs.size)).get? (h.objs.size+1)=some (CZ C h.objs.size):=by heap_get
 have t1:Looks (model prog w) ((h.push Bm).push (CZ C h.objs.size)) (typeOf (.ref (h.objs.size+1))) (.ref C):=(Looks.ld hx).andThen .now;have s1:=self.keeps k;have i1:=hi.keeps k;have b1:=(hb (.ref (h.objs.size+1))).keeps k;refine An (t1.andThen s1) ?_;refine wpAny_bind (wpAny_holding ?_);refine An (t1.andThen i1) ?_;refine wpAny_holding ?_;refine An b1 ?_;refine wpAny_bind (wpAny_call ?_);refine codeAny_mono hq λr s' z=>?_
 rcases r with e|(v|_|_|_)<;>first|exact z|exact z.elim|skip
 obtain⟨rfl,z⟩:=z;exact wpAny_pure (wpAny_pure z)
end
structure AccK3(K:Frag)(C:Addr)(cd:ClassData):Prop extends AccK2 K C cd where
 mro:cd.mro=[.ref C,.type "list",.type "object"]
 hasD:cd.hasDict=true
 sa:findIn K (.ref C) "__setattr__"=some (some (.builtin "object.__setattr__"))
 noat:findIn K (.ref C) "_initial_size"=some none
 init:alongIn K "__init__" ((cd.mro.dropWhile (·!=.ref C)).drop 1)=some (some (.builtin "list.__init__"))
section
variable{prog:Program}{w:World}{M:Model}{A:Around}{E:Value->Shared->Prop}{s:Shared}{K:Frag}{C:Addr}{cd:ClassData}{env:Env}{B:Heap}
theorem NC(self:Value):refuseLoop self "__setattr__" [.type "list",.type "object"]=pure ():=by kernel_rfl
theorem LH{y m:Str}{t:Nat}{z:Int}{v c:Value}(hy:y≠m):lookIn y {cls:=c,data:=.dict #[⟨z,.str m t,v⟩] 1}=some none:=by
 unfold lookIn;dsimp only;rw [List.find?_cons_of_neg (p:=λx:DictEntry=>x.key.isStr y) (a:=⟨z,.str m t,v⟩) (λq=>hy (eq_of_beq (a:=m) (b:=y) q).symm)];rfl
theorem N8{x dx:Addr}{ox:Obj}{v:Value}{Q:Unit->Shared->Prop}(k:AccK3 K C cd)(X:K.In s.heap)(I:InstAt s.heap x ox C (some Bm))(hd:ox.dict=some dx)(hdx:s.heap.get? dx=some Bm)
  (hQ:∀h' t o,Kp [dx] s.heap h'->h'.get? dx=some o->o.cls=.type "dict"->(∀y:Str,y≠("_initial_size":Str)->lookIn y o=some none)->Q () {s with heap:=h',toks:=t}):
  wpAny (model prog w) A (setAttr (.ref x) "_initial_size" v) Q E s:=by
 refine set_plain X I k.sa ?_;obtain⟨hh,gg,dd,tt,oo⟩:=s;have I1:InstAt hh x ox C (some Bm):=I;have X1:K.In hh:=X;have SF:=PySem.F.store_object;have ne:cd.mro.isEmpty=false:=by refine rwl k.mro ?_;rfl
 have sub:Looks (model prog w) hh (isInstance (.ref x) (.type "object")) true:=I1.type.andThen (looks_mroIn X1 (by unfold mroIn;rw [k.cls,Option.bind_some,if_neg (by refine rwl ne ?_;decide),k.mro];simp));refine codeAny_call_builtin SF.slot.plain SF.entry (@check_slot (model prog w) _ _ ⟨hh,gg,dd,tt+1,oo⟩ "object.__setattr__" "object" "__setattr__" (.ref x) [.str "_initial_size" tt,v] [] _ SF.kind SF.split sub (SF.args (.ref x) (.str "_initial_size" tt) v) ?_);have hm:Looks (model prog w) hh (mroOf (.ref C)) cd.mro:=(looks_clsIn X1 k.cls).andThen .now;refine Gz (osa_eq (.ref x) v "_initial_size" tt) ?_;refine wpAny_bind (wpAny_bind (I1.type.here (wpAny_bind (hm.here ?_))));refine Gz (show refuseLoop (.ref x) "__setattr__" cd.mro=pure () from by rw [k.mro,refuseLoop_ref,NC]) ?_;refine wpAny_pure (wpAny_bind (I1.type.here (wpAny_bind ((looks_findIn X1 k.noat).here (wpAny_bind (Looks.now.here ?_))))));have D:hh.get? dx=some Bm:=hdx;refine lid λg2 kk=>?_
 obtain⟨hx,hcl,hn,-⟩:=I1;obtain⟨oc,odi,oda,osl⟩:=ox;refine kk ?_;dsimp only at hcl hd;subst hcl hd;refine wpAny_bind (wpAny_pure (wpAny_bind (wpAny_bind (wpAny_loadPart hx (wpAny_bind ((looks_clsIn X1 k.cls).here ?_))))));refine rwl k.hasD ?_;refine wpAny_pure (a:=some dx) (wpAny_bind (wpAny_pure (wpAny_bind ?_)));refine wpAny_bind (wpAny_bind (wpAny_askSetting (wpAny_pure (wpAny_bind (wpAny_mkText (wpAny_bind (wpAny_loadPart D ?_)))))));refine JC (by decide+kernel) ?_;have eo:Obj.putName ("_initial_size":Str) (PyData.keyHash w.params "_initial_size") (.str "_initial_size" (tt+1)) v Bm={cls:=.type "dict",data:=.dict #[⟨PyData.keyHash w.params "_initial_size",.str "_initial_size" (tt+1),v⟩] 1}:=by kernel_rfl
 refine wpAny_updatePart D ?_;have D':=(Heap.get?_update_self (Obj.putName ("_initial_size":Str) (PyData.keyHash w.params "_initial_size") (.str "_initial_size" (tt+1)) v) D (by refine rwl eo ?_;rfl)).trans (congrArg some eo);refine wpAny_bind (wpAny_lookBehind D' (pastItsLine_dict (by show 1<=_;rw [sizeLine_eq];decide)) ?_);refine wpAny_pure ?_;have hq:=hQ _ ((tt+1)+1) _ (By (Heap.SameBut.update ..)) D' rfl λy hy=>by
  exact LH hy
 exact hq
end
section
variable{prog:Program}{w:World}{M:Model}{A:Around}{E:Value->Shared->Prop}{s:Shared}{K:Frag}{C:Addr}{cd:ClassData}{env:Env}{B:Heap}
theorem Ru(a:Addr):checkBoundCall "list.__init__" ⟨[.ref a],[]⟩=pure ():=by kernel_rfl
theorem Md{b a:Addr}{cl d0:Addr}{n:Nat}{Q:Value->Shared->Prop}(hb:s.heap.get? b=some {cls:=.type "method-wrapper",data:=.fields #[.builtin "list.__init__",.ref a]})
  (ha:s.heap.get? a=some {cls:=.ref cl,dict:=some d0,data:=.seq #[] n,slots:= #[]})
  (hq:∀h' m,h'.get? a=some {cls:=.ref cl,dict:=some d0,data:=.seq #[] m,slots:= #[]}->Heap.SameBut a s.heap h'->Q .none {s with heap:=h'}):wpAny (model prog w) A (call (.ref b) []) Q E s:=by
 refine wpAny_call (codeAny_of_tree ?_);show wpAny _ A.in1 (callAny (.ref b) ⟨[],[]⟩) _ _ s;refine wpAny_bind (wpAny_load hb ?_);dsimp only;refine rwl (if_pos (by decide+kernel)) ?_;simp only [List.getElem?_toArray,List.getElem?_cons_zero,List.getElem?_cons_succ];refine wpAny_bind (wpAny_of_eq (Ru a) ?_);refine wpAny_pure ⟨plainId_quiet PySem.F.slot_list_init.plain _,codeAny_builtin PySem.F.entry_list_init ?_⟩;refine rwl (Around.under_plainId PySem.F.slot_list_init.plain _) ?_;obtain⟨hh,g,d,t,os⟩:=s;have z:∃m',(Obj.mapSeq λ_=> #[]) {cls:=.ref cl,dict:=some d0,data:=.seq #[] n,slots:= #[]}={cls:=.ref cl,dict:=some d0,data:=.seq #[] m',slots:= #[]}:=by
  exact⟨_,rfl⟩
 obtain⟨m',z⟩:=z;have up:(hh.update a (Obj.mapSeq λ_=> #[])).get? a=some {cls:=.ref cl,dict:=some d0,data:=.seq #[] m',slots:= #[]}:=by rw [Heap.get?_update_self _ ha (by refine rwl z ?_;rfl),z]
 have fin:=hq _ m' up (Heap.SameBut.update _ _ _);have h1:(#[]:Array Value).size<=sizeLine:=Nat.zero_le _;have h2:(#[]:Array Value).size<=sizeLine+1:=Nat.zero_le _
 wp_walk using wpAny_loadPart' ha,(wpAny_updateSeq ha rfl (hz:=h1) (_hz':=h2))
 exact fin
noncomputable def F9(p:Nat->Pos):List Stmt:=
 [.Assign [.Attribute (.Name "self" (p 5)) "_initial_size" (p 6)] (.Name "initial_size" (p 7)) (p 8),.Expr (.Call (.Attribute (.Call (.Name "super" (p 0)) [] [] (p 1)) "__init__" (p 2)) [] [] (p 3)) (p 4)]
inductive FdAtI(prog:Program)(C:Addr)(h:Heap)(a:Addr)(body:List Stmt)(scope:Scope):Prop
 |mk (o:Obj) (fd:FuncData) (cc:Addr) (dv:Value) (h1:h.get? a=some o) (h2:o.data=.func fd) (h3:fd.body=.stmts body) (h4:fd.scope=scope) (h5:fd.closure=[(("__class__":Str),cc)]) (h6:fd.globals=mainGlobals) (h7:fd.builtins=builtinsNs) (h8:h.CodeRec fd.code fd.qualname)
  (h9:∀(s':Shared) (v:Value),Sub h s'.heap->BindsTo s' fd ⟨[v],[]⟩ [(("self":Str),v),(("initial_size":Str),dv)]) (h10:h.IsCell cc (some (.ref C))) (h11:∃ar,(fd.params.posonlyargs++fd.params.args).head? =some ar/\ar.arg=("self":Str))
  (h12:∃cda oc vs file tf,fd.code=.ref cda/\h.get? cda=some oc/\oc.data=.fields vs/\vs[2]? =some (.str file tf)/\((prog.main.file:Str)==file)=true)
theorem R6{a dx fp:Addr}{scope:Scope}{p:Nat->Pos}{R:Result->Shared->Prop}(k:AccK3 K C cd)(X:K.In B)(lim:B.NoLimit)(fd:FdAtI prog C B fp (F9 p) scope)(hline:((p 2).endLine==(p 3).line)=true)(ok:SupOk scope)
  (hin:scope.names.lookup ("initial_size":Str)=some NameKind.local) (htop:(prog.main.scope.names.lookup ("super":Str)).isSome=false) (hsup:GlobAt B "super" (.type "super")) (hroom:A.depth<recursionLimit) (base:Sub B s.heap)
  (hBa:B.get? a=none) (hBd:B.get? dx=none) (hx:s.heap.get? a=some (CZ C dx)) (hdx:s.heap.get? dx=some Bm)
  (hQ:∀h' t,Kp [a,dx] s.heap h'->CM h' C a [] dx->R (.ok (.ret .none)) {s with heap:=h',toks:=t}):
  codeAny (model prog w) A (.call (.ref fp) ⟨[.ref a],[]⟩) R s:=by
 obtain⟨of,fdd,cc,dv,ho,hdt,hbody,hsc,hclo,hglob,hblt,hcd,hbind,hcc,hp,hcode⟩:=fd;subst hsc;refine ks_codeAny_call_defAt hroom (base _ _ ho) hdt (lim.keeps base) (hcd.keeps base) hbody (hbind s (.ref a) base) ok.nocell (λy hy=>?_) (λh₀ ns keep=>?_) ok.co ok.ge ok.kind
 ·rcases mC hy with rfl|hy
  ·exact ok.self_
  ·refine rwl (mS hy) ?_;exact hin
 ·have S:=IF (L:=s.heap.objs.size) ho hdt hclo hglob hblt hcc hp hcode ok htop hsup;have hini:=S.kind hin;revert ns S hini;generalize he:callEnv fdd s.heap.objs.size fp=env';intro ns S hini;have hloc:s.heap.objs.size=env'.locals:=by refine rwr he ?_;rfl
  clear he hp hcode hbody hbind;have keep:Sub s.heap h₀:=keep;have nsd:a≠dx:=λq=>by rw [q,hdx] at hx;cases hx
  have I:InstAt h₀ a (CZ C dx) C (some Bm):=⟨keep _ _ hx,rfl,rfl,keep _ _ hdx⟩;obtain⟨pl,hev⟩:=Q6 (o:=.Call (.Name "super" (p 0)) [] [] (p 1)) (name:="__init__") (apos:=p 2) (pos:=p 3) (env:=env') hline;have v1:(λx=>List.lookup x [(("initial_size":Str),dv),(("self":Str),Value.ref a)]) "initial_size"=some dv:=by kernel_rfl
  have v2:(λx=>List.lookup x [(("initial_size":Str),dv),(("self":Str),Value.ref a)]) "self"=some (.ref a):=by kernel_rfl
  have ns':h₀.Ns env'.locals (λx=>List.lookup x [(("initial_size":Str),dv),(("self":Str),Value.ref a)]):=hloc▸ns;have hL:env'.locals≠dx:=λq=>Nat.lt_irrefl _ ((hloc.trans q)▸Heap.lt_size hdx)
  clear ns hloc;generalize (λx=>List.lookup x [(("initial_size":Str),dv),(("self":Str),Value.ref a)])=mp at*;refine ks_wpAt_execs_cons (ks_wpAt_Assign_Attr (wpAt_of_wpAny (wpAny_Name (wpAny_loadName_local S.fn hini ns' v1 ?_) rfl)) rfl);refine wpAny_Name (wpAny_loadName_local S.fn (S.kind ok.self_) ns' v2 ?_) rfl;refine N8 (s:={s with heap:=h₀,toks:=s.toks+2}) k (X.keeps (Sub.trans' base keep)) I rfl (keep _ _ hdx) λh₁ t₁ od kp₁ hod hoc hol=>?_
  have out:∀b o,b≠dx->h₀.get? b=some o->h₁.get? b=some o:=λb o q e=>kp₁ b o (λm=>q (mS m)) e
  have b1:Sub B h₁:=λb o e=>out b o (λq=>by rw [q,hBd] at e;cases e) (keep _ _ (base _ _ e))
  refine ks_wpAt_execs_cons (ks_wpAt_Expr_any (ks_wpAt_MethodCall ?_ hev) (by unfold interactive;refine rwl S.fn ?_;rfl) rfl);refine EN (s:={s with heap:=h₁,toks:=t₁}) (m:=mp) k.toAccK2 (X.keeps b1) S b1 (by decide+kernel) (ns'.at' λo e=>out _ _ hL e) v2 ⟨out _ _ nsd (keep _ _ hx),rfl,rfl,hod⟩ (λc e=>nomatch e) λh₂ so sb₂ fso hso=>?_
  clear ns' v1 v2 I;have I2:InstAt h₂ a (CZ C dx) C (some od):=⟨sb₂ _ _ (out _ _ nsd (keep _ _ hx)),rfl,rfl,sb₂ _ _ hod⟩;have X1:K.In h₂:=X.keeps (Sub.trans' b1 sb₂);refine EO (l₀:=cd.mro) hso (looks_opaque X1 k.opq) (Qu k.cls X1) rfl X1 k.init RH slot_wd Hy (J7 _ _ _) (ks_ne X1 I2 k.cls) (by decide+kernel) (bt:="method-wrapper") (λhq=>Ms P5 I2.at_ rfl (looks_mroIn X1 k.sub) hq) ?_;have sb23:Sub h₂ (h₂.push {cls:=.type "method-wrapper",data:=.fields #[.builtin "list.__init__",.ref a]}):=Sub.push' _ _;refine Ev (h0:=h₂) (Heap.get?_push_size _ rfl) (by decide+kernel) (by decide+kernel) ?_;refine Md (Heap.get?_push_size _ rfl) (sb23 _ _ I2.at_) λh₄ m4 ha4 hs4=>?_
  refine wpAt_of_wpAny (wpAny_execs_nil ?_);have k4:=By hs4;exact hQ h₄ _ (λb o m e=>k4 b o (λq=>m (by refine rwl (mS q) ?_;exact .head _)) (sb23 _ _ (sb₂ _ _ (out b o (λq=>m (by refine rwl q ?_;exact .tail _ (.head _))) (keep _ _ e)))))
   ⟨⟨m4,ha4⟩,od,(),(),k4 _ _ (λm=>nsd (mS m).symm) (sb23 _ _ (sb₂ _ _ hod)),hoc,hol⟩
theorem TR{fp:Addr}{scope:Scope}{p:Nat->Pos}{Q:Value->Shared->Prop}(k:AccK3 K C cd)(X:K.In B)(lim:B.NoLimit)(mk:∀M h,K.In h->MakesL M h C)(hfi:findIn K (.ref C) "__init__"=some (some (.ref fp)))(hft:typeIn K (.ref fp)=some (.type "function"))
  (fd:FdAtI prog C B fp (F9 p) scope) (hline:((p 2).endLine==(p 3).line)=true) (ok:SupOk scope)
  (hin:scope.names.lookup ("initial_size":Str)=some NameKind.local) (htop:(prog.main.scope.names.lookup ("super":Str)).isSome=false) (hsup:GlobAt B "super" (.type "super")) (hroom:A.depth+2<recursionLimit) (base:Sub B s.heap)
  (hQ:∀a d h' t,Sub s.heap h'->s.heap.get? a=none->s.heap.get? d=none->d≠a->CM h' C a [] d->Q (.ref a) {s with heap:=h',toks:=t}):
  wpAny (model prog w) A (call (.ref C) []) Q E s:=by
 have X1:K.In s.heap:=X.keeps base;obtain⟨hh,g,dd,t,os⟩:=s;refine wpAny_call (VN (mk _ _ X1) (looks_findIn X1 hfi) (λself=>bind_fn X1 self hft) ?_);have base:Sub B hh:=base;have sb:Sub hh ((hh.push Bm).push (CZ C hh.objs.size)):=Sub.trans' (Sub.push' _ _) (Sub.push' _ _);have fa:hh.get? (hh.objs.size+1)=none:=by
  cases q:hh.get? (hh.objs.size+1) with
  |none=>rfl
  |some o=>exact absurd (Heap.lt_size q) (Nat.not_lt.mpr (Nat.le_succ _))
 have fd':hh.get? hh.objs.size=none:=Ao hh;have nb:∀b,hh.get? b=none->B.get? b=none:=λb e=>by
  cases q:B.get? b with
  |none=>rfl
  |some o=>rw [base _ _ q] at e;cases e
 refine R6 (s:=⟨(hh.push Bm).push (CZ C hh.objs.size),g,dd,t,os⟩) k X lim fd hline ok hin htop hsup ?_ (Sub.trans' base sb) (nb _ fa) (nb _ fd') (by show((hh.push Bm).push (CZ C hh.objs.size)).get? (hh.objs.size+1)=_;heap_get) (by show((hh.push Bm).push (CZ C hh.objs.size)).get? hh.objs.size=_;exact Sub.push' _ _ _ _ (Heap.get?_push_size _ rfl)) λh' t' kp O=>?_
 ·have e:(Code.builtin "type.__call__" ⟨[.ref C],[]⟩).weight<=2:=by first|exact(show(0:Nat)<=2 by decide)|exact(show(1:Nat)<=2 by decide)|exact(show(2:Nat)<=2 by decide)
  (exact Nat.lt_of_succ_lt hroom)
 ·refine⟨rfl,hQ (hh.objs.size+1) hh.objs.size h' t' (λb o e=>kp b o (λm=>?_) (sb b o e)) fa fd' (Nat.ne_of_lt (Nat.lt_succ_self _)) O⟩
  rcases mC m with q|m
  ·rw [q,fa] at e;cases e
  ·rw [mS m,fd'] at e;cases e
end
inductive CntM(prog:Program)(K:Frag)(B:Heap)(C:Addr):Prop
 |mk (p:Nat->Pos) (f:Addr) (s:Scope) (h1:findIn K (.ref C) "part_count"=some (some (.ref f))) (h2:typeIn K (.ref f)=some (.type "function")) (h3:FdAtS prog C B f ["self"] (ED p) s) (h4:((p 2).endLine==(p 3).line)=true) (h5:SupOk s)
inductive PopM(prog:Program)(K:Frag)(B:Heap)(C:Addr):Prop
 |mk (p:Nat->Pos) (k:Nat->Nat) (f:Addr) (s:Scope) (h1:findIn K (.ref C) "pop"=some (some (.ref f))) (h2:typeIn K (.ref f)=some (.type "function")) (h3:FdAtS prog C B f ["self"] (IT p k) s) (h4:((p 2).endLine==(p 3).line)=true) (h5:((p 6).endLine==(p 7).line)=true) (h6:SupOk s)
inductive IniM(prog:Program)(K:Frag)(B:Heap)(C:Addr):Prop
 |mk (p:Nat->Pos) (f:Addr) (s:Scope) (h1:findIn K (.ref C) "__init__"=some (some (.ref f))) (h2:typeIn K (.ref f)=some (.type "function")) (h3:FdAtI prog C B f (F9 p) s) (h4:((p 2).endLine==(p 3).line)=true) (h5:SupOk s) (h6:s.names.lookup ("initial_size":Str)=some NameKind.local)
inductive PshM(K:Frag)(B:Heap)(C:Addr):Prop
 |mk (p:Nat->Pos) (k:Nat) (f:Addr) (s:Scope) (h1:findIn K (.ref C) "push"=some (some (.ref f))) (h2:typeIn K (.ref f)=some (.type "function")) (h3:FdAt B f ["self","fws","string"] (Fq p k) s) (h4:((p 2).endLine==(p 6).line)=true) (h5:s.kind=.function) (h6:s.isCoroutine=false) (h7:s.isGenerator=false)
  (h8:s.names.lookup ("self":Str)=some NameKind.local) (h9:s.names.lookup ("fws":Str)=some NameKind.local) (h10:s.names.lookup ("string":Str)=some NameKind.local)
structure AccB(prog:Program)(K:Frag)(B:Heap)(C:Addr):Prop where
 X:K.In B
 lim:B.NoLimit
 name:GlobAt B "_Accumulator" (.ref C)
 sup:GlobAt B "super" (.type "super")
 top:(prog.main.scope.names.lookup ("super":Str)).isSome=false
 makes:∀M h,K.In h->MakesL M h C
 k:∃cd,AccK3 K C cd
 cls:∃oc od cd sl,B.get? C=some ⟨oc,od,.cls cd,sl⟩
 callC:specialIn K (.ref C) "__call__"=some (some (.builtin "type.__call__"))
 cnt:CntM prog K B C
 pop:PopM prog K B C
 ini:IniM prog K B C
 psh:PshM K B C
section
variable{prog:Program}{w:World}{C:Cx}{B:Heap}{A:Around}{H0 Mu:List Addr}{env:Env}{σ σ₁ σ₂:Sig}{n:Nat}{t t₁ t₂ r c:T}{ad:Str->Addr}{h h':Heap}{pos np apos:Pos}{x:Str}{o o':Own}{xs:List T}{K:Frag}
theorem FdAtS.fn{C' f:Addr}{ps:List Str}{b:List Stmt}{s:Scope}(x:FdAtS prog C' B f ps b s):∃o fd,B.get? f=some o/\o.data=.func fd:=match x with|.mk o fd _ h1 h2 .. =>⟨o,fd,h1,h2⟩
theorem AOk.room2{A:Around}{n:Nat}(a:AOk A n):A.depth+2<recursionLimit:=by
 have:=a.depth;show A.depth+2<1000
 (refine Nat.lt_of_not_le λh=>?_;lia)
theorem Pu{e1 e2:Expr}(hd:(x==("__debug__":Str))=false)(W:AccB prog K B C.cls)(hA:AOk A n)(hline2:(apos.endLine==pos.line)=true)(p1:plainE e1=true)(p2:plainE e2=true)
  (hx:σ.lookup x=some (.ow o)) (hx1:σ₂.lookup x=some (.ow (.acc xs))) (ho:∃ys,o=.acc ys) (hlen:xs.length<=1000)
  (pe1:PE prog w C B A env e1 σ t₁ σ₁) (pe2:PE prog w C B A env e2 σ₁ t₂ σ₂):
  PE prog w C B A env (.Call (.Attribute (.Name x np) "push" apos) [e1,e2] [] pos) σ .none ((x,.ow (.acc (xs++[.tup [t₁,t₂]])))::σ₂):=by
 obtain⟨cd,k⟩:=W.k;obtain⟨p,kk,f,su,h1,h2,h3,h4,h5,h6,h7,h8,h9,h10⟩:=W.psh;exact Sw hd k.toAccK W.X W.lim h1 h2 h3 h4 h5 h6 h7 h8 h9 h10 hA hline2 p1 p2 hx hx1 ho hlen pe1 pe2
theorem Px(hd:(x==("__debug__":Str))=false)(W:AccB prog K B C.cls)(hA:AOk A n)(hline2:(apos.endLine==pos.line)=true)(hx:σ.lookup x=some (.ow (.acc xs)))(hlen:xs.length<=1000):
  PE prog w C B A env (.Call (.Attribute (.Name x np) "part_count" apos) [] [] pos) σ (.int xs.length) σ:=λH0 Mu ad s Q E F hQ=>by
 refine lid λgg kk=>?_
 obtain⟨cd,k⟩:=W.k;obtain⟨p,f,sc,h1,h2,h3,h4,h5⟩:=W.cnt;refine kk ?_;refine BO (Aw rfl) rfl hline2 (B0 hd hx F λpl=>?_);refine lid λgg kk=>?_
 obtain⟨i0,am,al,ac,vs,d,O,hdm,hl⟩:=F.owns x _ hx;obtain⟨m,od,hod,hsh,I⟩:=Cg O;refine kk ?_;refine Eg (W.X.keeps F.base) I k.ga k.gt h1 (looks_typeIn (W.X.keeps F.base) h2) (.inl rfl) (hsh _ (by decide+kernel)) ?_;refine lid λgg kk=>?_
 obtain⟨of2,fdd2,ho2,hdt2⟩:=h3.fn;refine kk ?_;refine callWith_function_kw (o:=of2) (fd:=fdd2) (evalArgs_nil3 ⟨⟨F.base _ _ ho2,hdt2⟩,?_⟩);refine I9 k.toAccK2 W.X W.lim h3 h4 h5 W.top W.sup hA.room F.base O (by refine rwl hl.length ?_;exact Nat.le_trans hlen (by decide)) λh' k' t' sb=>?_
 refine hQ _ h' k' (Kp.of_sub sb) (F.up sb) ⟨t',?_⟩
 (refine rwl hl.length ?_;rfl)
noncomputable def JY(xs:List T):T×List T:=match xs.reverse with
 |[]=>(.tup [.str "",.str ""],[])
 |t::r=>(t,r.reverse)
theorem FN(xs:List T)(t:T):JY (xs++[t])=(t,xs):=by
 unfold JY;refine rwl List.reverse_append ?_;show(t,xs.reverse.reverse)=(t,xs);rw [List.reverse_reverse]
theorem HoldsL.snoc{X:List Addr}{ts:List T}{vs:List Value}{v:Value}(x:HoldsL prog w X h ts (vs++[v])):∃ts' t,ts=ts'++[t]/\HoldsL prog w X h ts' vs/\Holds prog w X h t v:=by
 have hr:=x.reverse;rw [List.reverse_append] at hr
 cases q:ts.reverse with
 |nil=>rw [q] at hr;exact absurd (show [v].reverse++vs.reverse=[] from hr) (by simp)
 |cons t r=>
  rw [q] at hr;refine lid λgg kk=>?_
  obtain⟨v',r',e,hv,hr⟩:=hr;refine kk ?_;have e:v::vs.reverse=v'::r':=by simpa using e
  cases e
  refine⟨r.reverse,t,?_,?_,hv⟩
  ·have:=congrArg List.reverse q
   simpa using this
  ·have:=hr.reverse
   simpa using this
theorem Vw(hd:(x==("__debug__":Str))=false)(W:AccB prog K B C.cls)(hA:AOk A n)(hline2:(apos.endLine==pos.line)=true)(hx:σ.lookup x=some (.ow (.acc xs)))(hlen:xs.length<=1000):
  PE prog w C B A env (.Call (.Attribute (.Name x np) "pop" apos) [] [] pos) σ (JY xs).1 ((x,.ow (.acc (JY xs).2))::σ):=λH0 Mu ad s Q E F hQ=>by
 obtain⟨cd,k⟩:=W.k;obtain⟨q,fc,sc,h1,h2,h3,h4,h5⟩:=W.cnt;obtain⟨p,kk,fp,sp,h6,h7,h8,h9,h10,h11⟩:=W.pop;refine BO (Aw rfl) rfl hline2 (B0 hd hx F λpl=>?_);refine lid λgg kk=>?_
 obtain⟨i0,am,al,ac,vs,d,O,hdm,hl⟩:=F.owns x _ hx;obtain⟨m,od,hod,hsh,I⟩:=Cg O;refine kk ?_;refine Eg (W.X.keeps F.base) I k.ga k.gt h6 (looks_typeIn (W.X.keeps F.base) h7) (.inl rfl) (hsh _ (by decide+kernel)) ?_;refine lid λgg kk=>?_
 obtain⟨of2,fdd2,ho2,hdt2⟩:=h8.fn;refine kk ?_;refine callWith_function_kw (o:=of2) (fd:=fdd2) (evalArgs_nil3 ⟨⟨F.base _ _ ho2,hdt2⟩,?_⟩);refine TQ k.toAccK2 W.X W.lim h8 h9 h10 h11 h3 h4 h5 h1 h2 W.top W.sup (Nat.lt_of_succ_lt hA.room2) F.base O (by refine rwl hl.length ?_;exact Nat.le_trans hlen (by decide)) (λhv h' k' tup t1 t2 sb ft it=>?_) (λvs' v hv h' k' kp O'=>?_)
 ·subst hv;have hxs:xs=[]:=List.length_eq_zero_iff.mp (hl.length.symm.trans rfl);subst hxs;refine hQ _ h' k' (Kp.of_sub sb) ((F.up sb).reown hx (Kp.refl _ _) ⟨[],d,Fi O sb,hdm,rfl⟩) ⟨tup,[.str "" t1,.str "" t2],rfl,λm=>?_,it,_,_,rfl,⟨_,rfl⟩,_,_,rfl,⟨_,rfl⟩,rfl⟩;refine lid λgg kk=>?_
  obtain⟨oo,hoo⟩:=F.live tup m;refine kk ?_;rw [ft] at hoo;cases hoo
 ·subst hv;refine lid λgg kk=>?_
  obtain⟨ts',t,rfl,hl',ht⟩:=hl.snoc;refine kk ?_;have kk:Kp (Mu++H0) s.heap h':=kp.mono λc m=>by refine rwl (mS m) ?_;exact List.mem_append_left _ am
  rw [FN] at hQ;exact hQ _ h' k' (kp.mono λb m=>by refine rwl (mS m) ?_;exact am) (F.reown hx kp ⟨vs',d,O',hdm,hl'.up kk⟩) (ht.up kk)
theorem Vz(W:AccB prog K B C.cls)(hA:AOk A n)(hk:env.kindOf "_Accumulator"=some .globalImplicit):PC prog w C B A env (.Call (.Name "_Accumulator" np) [] [] pos) σ (.ow (.acc [])):=λH0 Mu ad s Q E F hQ=>by
 refine lid λgg kk=>?_
 obtain⟨cd,k⟩:=W.k;obtain⟨p,f,si,h1,h2,h3,h4,h5,h6⟩:=W.ini;obtain⟨oc,odc,cdc,sl,hC⟩:=W.cls;refine kk ?_;refine Call_Name rfl (wpAny_Name (Bc F.kind F.glob F.blt (W.name.is F.base hk) ?_) (by decide+kernel));refine wpAny_bind (wpAny_holding (evalArgs_nil3 (wpAny_bind (wpAny_standAt ?_))));have keep:Looks (model prog w) s.heap (keeperOf (.ref C.cls)) .machine:=by
  intro A Q E s' kk q;refine wpAny_bind (wpAny_load (kk _ _ (F.base _ _ hC)) ?_);refine wpAny_bind ((looks_specialIn (W.X.keeps (λb o e=>kk b o (F.base b o e))) W.callC).here ?_);exact wpAny_pure q
 refine wpAny_bind (keep.here ?_);refine wpAny_bind (wpAny_mono (TR (Q:=λr s₂=>Q r s₂) k W.X W.lim W.makes h1 h2 h3 h4 h5 h6 W.top W.sup hA.room2 F.base λa d h' t' sb fa fd nda O=>?_) (λr s₂ hr=>wpAny_bind (wpAny_holding (wpAny_point (wpAny_pure hr)))) λ_ _ e=>e);refine hQ a h' t' sb fa ⟨[],d,O,λm=>?_,rfl⟩
 rcases mC m with e|m
 ·exact nda e
 ·refine lid λgg kk=>?_
  obtain⟨oo,hoo⟩:=F.live d m;refine kk ?_;rw [fd] at hoo;cases hoo
end
noncomputable def dmS:Slot->Slot
 |.ch c=>.fz (.str c)
 |s=>s
noncomputable def dem(σ:Sig):Sig:=σ.map λx=>(x.1,dmS x.2)
theorem Rj{σ:Sig}{x:Str}:(dem σ).lookup x=(σ.lookup x).map dmS:=by
 induction σ with
 |nil=>rfl
 |cons p r ih=>
  obtain⟨y,s⟩:=p;show List.lookup x ((y,dmS s)::dem r)=_
  (simp only [List.lookup_cons,List.lookup_cons])
  cases x==y with
  |true=>rfl
  |false=>exact ih
inductive ForS(y:Str)(body:Sig->Out->Prop):List Nat->Sig->Out->Prop
 |nil {σ:Sig}:ForS y body [] σ (.nxt σ)
 |next {c:Nat} {cs:List Nat} {σ σ₂:Sig} {r:Out}:body ((y,.ch ⟨#[c]⟩)::σ) (.nxt σ₂)->ForS y body cs (dem σ₂) r->ForS y body (c::cs) σ r
 |ret {c:Nat} {r:T} {cs:List Nat} {σ:Sig}:body ((y,.ch ⟨#[c]⟩)::σ) (.ret r)->ForS y body (c::cs) σ (.ret r)
theorem ForS.inv{y:Str}{body:Sig->Out->Prop}{t:Nat}{ts:List Nat}{σ:Sig}{r:Out}(x:ForS y body (t::ts) σ r):
  ∃o,body ((y,.ch ⟨#[t]⟩)::σ) o/\match o with|.ret v=>r=.ret v|.nxt σ₂=>ForS y body ts (dem σ₂) r:=by
 cases x with
 |next b c=>exact⟨_,b,c⟩
 |ret b=>exact⟨_,b,rfl⟩
section
variable{prog:Program}{w:World}{C:Cx}{B:Heap}{A:Around}{H0 Mu:List Addr}{env:Env}{σ σ₁ σ₂:Sig}{n:Nat}{t t₁ t₂ r c:T}{ad:Str->Addr}{h h':Heap}{pos np apos:Pos}{x:Str}{o o':Own}{xs:List T}{K:Frag}
theorem OwnAt.cx{Hd:List Addr}{C':Cx}(e:C'.cls=C.cls){a:Addr}(q:OwnAt prog w C Hd Mu h a o):OwnAt prog w C' Hd Mu h a o:=by
 cases o with
 |list xs=>exact q
 |dI f n=>exact q
 |acc xs=>obtain⟨vs,d,q,r⟩:=q;exact⟨vs,d,by refine rwl e ?_;exact q,r⟩
theorem Fm.raise{k:Nat}(F:Fm prog w C B H0 Mu env σ ad h)(hk:C.tk<=k):Fm prog w {C with tk:=k} B H0 Mu env σ ad h where
 kind:=F.kind
 glob:=F.glob
 blt:=F.blt
 base:=F.base
 off:=F.off
 live:=F.live
 apart:=F.apart
 ns:=F.ns
 lmu:=F.lmu
 cells:=F.cells
 cmu:=F.cmu
 capart:=F.capart
 vars:=F.vars
 owns:=λx o e=>by obtain⟨i,a,b,c,q⟩:=F.owns x o e;exact⟨i,a,b,c,q.cx rfl⟩
 oapart:=F.oapart
 chs:=λx c e=>by obtain⟨t,i,q1,q2⟩:=F.chs x c e;exact⟨t,i,q1,Nat.le_trans q2 hk⟩
theorem KJ{σ:Sig}{x:Str}{s:Slot}{P:Prop}(e:(dem σ).lookup x=some s)(k1:σ.lookup x=some s->(∀c,s≠.ch c)->P)(k2:∀c,σ.lookup x=some (.ch c)->s=.fz (.str c)->P):P:=by
 rw [Rj] at e
 cases q:σ.lookup x with
 |none=>rw [q] at e;cases e
 |some s'=>
  rw [q] at e
  cases s' with
  |ch c=>exact k2 c q (Option.some.inj e).symm
  |_=>cases e;exact k1 q λc r=>nomatch r
theorem Fm.lower{k:Nat}(F:Fm prog w {C with tk:=k} B H0 Mu env σ ad h):Fm prog w C B H0 Mu env (dem σ) ad h where
 kind:=F.kind
 glob:=F.glob
 blt:=F.blt
 base:=F.base
 off:=F.off
 live:=F.live
 apart:=F.apart
 ns:=F.ns
 lmu:=F.lmu
 cells:=F.cells
 cmu:=F.cmu
 capart:=F.capart
 vars:=λx t e=>KJ e (λq _=>F.vars x t q) λc q r=>by
  cases r
  obtain⟨t,i,_⟩:=F.chs x c q;exact⟨_,i,⟨_,rfl⟩⟩
 owns:=λx o e=>KJ e (λq _=>by obtain⟨i,a,b,c,q⟩:=F.owns x o q;exact⟨i,a,b,c,q.cx rfl⟩) λ_ _ r=>nomatch r
 oapart:=λx y o o' e e'=>KJ e (λq _=>KJ e' (λq' _=>F.oapart x y o o' q q') λ_ _ r=>nomatch r) λ_ _ r=>nomatch r
 chs:=λx c e=>KJ e (λ_ n=>(n c rfl).elim) λ_ _ r=>nomatch r
theorem OQ{s:Shared}{c:Str}{k:Nat}{Q:Unit->Shared->Prop}{E:Value->Shared->Prop}(hl:env.kindOf x=some .local)(F:Fm prog w C B H0 Mu env σ ad s.heap)(h1:1<=k)(h2:k+1<=C.tk)
  (hQ:∀h' k',Kp [env.locals] s.heap h'->Fm prog w C B H0 Mu env ((x,.ch c)::σ) ad h'->Q () {s with heap:=h',toks:=k'}):wpAny (model prog w) A (storeName env x (.str c k)) Q E s:=by
 exact GJ hl F λh' k' k1 f=>hQ h' k' k1 (f _ _ (.ch k rfl h1 h2) λ_ _=>rfl)
theorem DU{u:Str}{tu:Tok}{it:Addr}{h:Heap}{i:Nat}(x:h.IsStrIter it "str_ascii_iterator" u tu i):ItObj h it:=by obtain⟨o,ho,hc,hd⟩:=x;exact⟨o,_,ho,hc,by decide,λv q=>by rw [hd] at q;cases q⟩
inductive SInv(prog:Program)(w:World)(C:Cx)(B:Heap)(env:Env)(H0 Mu:List Addr)(it:Addr)(u:Str)(tu:Tok)(s:Shared)(y:Str)(bd:Sig->Out->Prop)(r:Out):Nat->Shared->Prop
 |mk (i:Nat) (σ':Sig) (ad':Str->Addr) (nw:List Addr) (h:Heap) (k:Nat) (hk:C.tk<=k) (hi:i<=u.cps.size) (hr:ForS y bd (u.cps.toList.drop i) σ' r) (F:Fm prog w C B (it::H0) (nw++Mu) env σ' ad' h) (I:h.IsStrIter it "str_ascii_iterator" u tu i) (kp:Kp Mu s.heap h) (fn:∀b∈nw,s.heap.get? b=none):
  SInv prog w C B env H0 Mu it u tu s y bd r (u.cps.size-i) {s with heap:=h,toks:=k}
theorem SInv.elim{it:Addr}{u:Str}{tu:Tok}{s:Shared}{y:Str}{bd:Sig->Out->Prop}{r:Out}{G:Nat->Shared->Prop}{m:Nat}{s':Shared}(i:SInv prog w C B env H0 Mu it u tu s y bd r m s')
  (h0:∀i σ' ad' nw h k,u.cps[i]? =none->r=.nxt σ'->Fm prog w C B (it::H0) (nw++Mu) env σ' ad' h->h.IsStrIter it "str_ascii_iterator" u tu i->Kp Mu s.heap h->(∀b∈nw,s.heap.get? b=none)->G (u.cps.size-i) {s with heap:=h,toks:=k})
  (h1:∀i c σ' ad' nw h k o,u.cps[i]? =some c->C.tk<=k->i<u.cps.size->bd ((y,.ch ⟨#[c]⟩)::σ') o->(match o with|.ret v=>r=.ret v|.nxt σ₂=>ForS y bd (u.cps.toList.drop (i+1)) (dem σ₂) r)->Fm prog w C B (it::H0) (nw++Mu) env σ' ad' h->h.IsStrIter it "str_ascii_iterator" u tu i->Kp Mu s.heap h->(∀b∈nw,s.heap.get? b=none)->G (u.cps.size-i) {s with heap:=h,toks:=k}):G m s':=by
 obtain⟨i,σ',ad',nw,h,k,hk,hi,hr,F,I,kp,fn⟩:=i
 cases hc:u.cps[i]? with
 |none=>
  rw [List.drop_eq_nil_of_le (Array.getElem?_eq_none_iff.mp hc)] at hr
  cases hr
  exact h0 i _ ad' nw h k hc rfl F I kp fn
 |some c=>
  obtain⟨hlt,q⟩:=Array.getElem?_eq_some_iff.mp hc;rw [List.drop_eq_getElem_cons (show i<u.cps.toList.length from hlt),Array.getElem_toList,q] at hr;obtain⟨o,q2,hr⟩:=hr.inv;exact h1 i c σ' ad' nw h k o hc hk hlt q2 hr F I kp fn
theorem Lq{y u:Str}{e:Expr}{body:List Stmt}{bd:Sig->Out->Prop}{r:Out}(hA:AOk A n)(h1:1<=C.tk)(hl:env.kindOf y=some .local)(hu:u.cps.all (·<128)=true)
  (pe:PE prog w C B A env e σ (.str u) σ₁) (pb:∀k σ r,C.tk<=k->bd σ r->PS prog w {C with tk:=k} B A env body σ r) (hr:ForS y bd u.cps.toList σ₁ r) (hf:∀x,foldedSetIterable e env x=pure x):
  PX prog w C B A env (.For (.Name y np) e body [] pos) σ r:=λH0 Mu ad s Q E ht F hQ=>by
 refine wpAny_For (wpAny_with_toks (n:=C.tk) ht (pe H0 Mu ad s _ _ F λv h₁ k₁ kp₁ F₁ hv=>λht₁=>lid λgg kg=>?_)) hf;obtain⟨tu,rfl⟩:=hv;refine kg (wpAny_pyIter_ascii (s:={s with heap:=h₁,toks:=k₁}) hu (lid λgg kg=>?_));have fr:h₁.get? h₁.objs.size=none:=Ao h₁;have hB:=Hh F₁ fr;have fr0:s.heap.get? h₁.objs.size=none:=F.older (nw:=[]) F₁ kp₁ fr;have nh:=Jb F₁ fr;have sb:Sub h₁ (h₁.push {cls:=.type "str_ascii_iterator",data:=.fields #[.str u tu,.int 0 0]}):=Sub.push' _ _;have it0:(h₁.push {cls:=.type "str_ascii_iterator",data:=.fields #[.str u tu,.int 0 0]}).IsStrIter h₁.objs.size "str_ascii_iterator" u tu 0:=⟨_,Heap.get?_push_size _ rfl,rfl,rfl⟩;have F₂:=F₁.hide sb fr (by obtain⟨o,_,ho,_⟩:=(DU it0).at_;exact⟨o,ho⟩);have kp₂:=kp₁.trans (Kp.of_sub sb);refine kg ?_;clear kg F₁ kp₁ fr sb F pe ht hf;revert it0 F₂ kp₂ hB fr0 nh;generalize h₁.push {cls:=.type "str_ascii_iterator",data:=.fields #[.str u tu,.int 0 0]}=h₂;generalize h₁.objs.size=it;intro hB fr0 nh it0 F₂ kp₂;refine codeAny_forLoop_any (I:=SInv prog w C B env H0 Mu it u tu s y bd r) ?_ (u.cps.size-0) ⟨0,σ₁,ad,[],h₂,k₁,ht₁,Nat.zero_le _,hr,F₂,it0,kp₂,λ_ m=>nomatch m⟩;clear it0 F₂ kp₂ hr ht₁;intro m s' i;apply i.elim
 ·intro i σ' ad' nw h k hc er F' I' kp fn;subst er;exact wpAny_pyNext_ascii_end hA.handled I' hc λh' he=>wpAny_execs_nil (hQ _ _ _ nw ad' fn (Jk fr0 kp (Qw he)) ⟨rfl,F'.stop (DU I') nh hB (Qw he)⟩)
 ·intro i c σ' ad' nw h k o hc h0k hlt q2 hr F' I' kp fn;refine wpAny_pyNext_ascii_item I' hc λh' I2 hs=>E2 (DU I2) ?_
  have kp':=By hs;refine wpAny_with_toks (n:=k+1) (Nat.le_refl _) (wpAny_assign_Name (OQ (s:={s with heap:=h',toks:=k+1}) (k:=k) (c:=⟨#[c]⟩) hl ((F'.tick (DU I') (DU I2) hB kp').raise (k:=k+1) (Nat.le_succ_of_le h0k)) (Nat.le_trans h1 h0k) (Nat.le_refl _) λh₃ k₃ kp₃ F₃=>λht₃=>?_));refine wpAny_with_toks (n:=C.tk) (Nat.le_trans (Nat.le_succ_of_le h0k) ht₃) (pb (k+1) _ _ (Nat.le_succ_of_le h0k) q2 (it::H0) (nw++Mu) ad' {s with heap:=h₃,toks:=k₃} _ _ ht₃ F₃ λfl h₄ k₄ nw₄ ad₄ fn₄ kp₄ ok=>λht₄=>?_);have kp₃':Kp (nw++Mu) h' h₃:=kp₃.mono λb m=>by refine rwl (mS m) ?_;exact F'.lmu
  have kp3:Kp Mu s.heap h₃:=(Jk fr0 kp kp').through kp₃' fn;have kp4:Kp Mu s.heap h₄:=kp3.through kp₄ fn;have old:∀b,h₃.get? b=none->s.heap.get? b=none:=λb=>Fm.older' (λb m=>F₃.live b (List.mem_append_left _ (List.mem_append_right _ m))) kp3
  have fn4:∀b∈nw₄++nw,s.heap.get? b=none:=λb m=>(mA m).elim (λm=>old b (fn₄ b m)) (fn b)
  have nm:it∉nw++Mu:=λm=>F'.apart it m (.head _)
  clear old kp3 F' kp fn kp' I'
  cases o with
  |ret t=>
   refine lid λgg kg=>?_
   obtain⟨v,rfl,hv⟩:=ok;subst hr;exact kg (hQ _ _ _ (nw₄++nw) ad₄ fn4 kp4 ⟨v,rfl,hv.less λb m=>.tail _ m⟩)
  |nxt σb=>
   obtain⟨rfl,F4⟩:=ok;have I4:h₄.IsStrIter it "str_ascii_iterator" u tu (i+1):=by obtain⟨o,ho,r⟩:=I2;exact⟨o,kp₄ _ _ nm (kp₃' _ _ nm ho),r⟩
   have F4:=F4.lower;rw [←List.append_assoc] at F4;exact⟨u.cps.size-(i+1),Nat.sub_succ_lt_self _ _ hlt,⟨i+1,dem σb,ad₄,nw₄++nw,h₄,k₄,ht₄,hlt,hr,F4,I4,kp4,fn4⟩⟩
end
noncomputable def PEk(prog:Program)(w:World)(C:Cx)(B:Heap)(A:Around)(env:Env)(e:Expr)(σ:Sig)(t:T)(σ':Sig):Prop:=
 ∀(H0 Mu:List Addr) (ad:Str->Addr) (s:Shared) (Q:Value->Shared->Prop) (E:Value->Shared->Prop),C.tk<=s.toks->Fm prog w C B H0 Mu env σ ad s.heap->
  (∀v h' k,Kp Mu s.heap h'->Fm prog w C B H0 Mu env σ' ad h'->Holds prog w (Mu++H0) h' t v->Q v {s with heap:=h',toks:=k})->wpAny (model prog w) A (eval e env) Q E s
noncomputable def OC(prog:Program)(w:World)(C:Cx)(B:Heap)(A:Around)(env:Env)(pos:Pos)(es:List Expr)(σ:Sig)(ts:List T)(σ':Sig):Prop:=
 ∀(H0 Mu:List Addr) (ad:Str->Addr) (s:Shared) (Q:List Value->Shared->Prop) (E:Value->Shared->Prop),C.tk<=s.toks->Fm prog w C B H0 Mu env σ ad s.heap->
  (∀vs h' k,Kp Mu s.heap h'->Fm prog w C B H0 Mu env σ' ad h'->HoldsL prog w (Mu++H0) h' ts vs->Q vs {s with heap:=h',toks:=k})->
  wpAny (model prog w) A (spliced (backTo pos (starEach es env))) Q E s
noncomputable def Sy(i:Int):Str:=Str.ofString "."++Str.ofString (toString i)
section
variable{prog:Program}{w:World}{C:Cx}{B:Heap}{A:Around}{H0 Mu:List Addr}{env:Env}{σ σ₁ σ₂:Sig}{n:Nat}{t t₁ t₂ r c:T}{ad:Str->Addr}{h h':Heap}{pos np apos:Pos}{x:Str}{o o':Own}{xs:List T}{K:Frag}{e:Expr}{es:List Expr}{ts:List T}
theorem PE.k(p:PE prog w C B A env e σ t σ₁):PEk prog w C B A env e σ t σ₁:=λH0 Mu ad s Q E _ F hQ=>p H0 Mu ad s Q E F hQ
theorem Pp:OC prog w C B A env pos [] σ [] σ:=λH0 Mu ad s Q E _ F hQ=>spliced_nil (hQ [] s.heap s.toks (Kp.refl _ _) F rfl)
theorem NJ(hs:plainE e=true)(pe:PEk prog w C B A env e σ t σ₁)(ps:OC prog w C B A env pos es σ₁ ts σ₂):OC prog w C B A env pos (e::es) σ (t::ts) σ₂:=λH0 Mu ad s Q E ht F hQ=>by
 refine rwl (Aa hs) ?_;show wpAny (model prog w) A (spliced ((false,eval e env)::backTo pos (starEach es env))) Q E s;refine spliced_cons (wpAny_with_toks (n:=C.tk) ht (pe H0 Mu ad s _ _ ht F λa h₁ k₁ kp₁ F₁ ha=>λht₁=>ps H0 Mu ad {s with heap:=h₁,toks:=k₁} _ _ ht₁ F₁ λvs h₂ k₂ kp₂ F₂ hb=>?_));exact hQ _ h₂ k₂ (kp₁.trans kp₂) F₂ ⟨a,vs,rfl,BJ ha kp₂,hb⟩
theorem Pr(ps:OC prog w C B A env pos es σ ts σ₁)(hl:ts.length<=1000):PEk prog w C B A env (.List es pos) σ (.list ts) σ₁:=λH0 Mu ad s Q E ht F hQ=>by
 refine wpAny_List_spliced (ps H0 Mu ad s _ _ ht F λvs h₁ k₁ kp₁ F₁ hv=>?_);have hs:vs.length<=1000:=by refine rwl hv.length ?_;exact hl
 refine⟨Nat.le_trans hs (by decide),hQ _ _ _ (kp₁.trans (Kp.of_sub (Sub.push' _ _))) (F₁.up (Sub.push' _ _)) ⟨_,vs,rfl,F₁.hlive.new,⟨_,Heap.get?_push_size _ rfl,rfl,0,rfl,rfl,rfl⟩,hv.up (Kp.of_sub (Sub.push' _ _))⟩⟩
theorem NK{n:Nat}(ps:OC prog w C B A env pos es σ ts σ₁)(hl:ts.length<=1000):PEk prog w C B A env (.Tuple es n pos) σ (.tup ts) σ₁:=λH0 Mu ad s Q E ht F hQ=>by
 refine wpAny_Tuple_spliced (ps H0 Mu ad s _ _ ht F λvs h₁ k₁ kp₁ F₁ hv=>?_);have hs:vs.length<=1000:=by refine rwl hv.length ?_;exact hl
 refine⟨Nat.le_trans hs (by decide),hQ _ _ _ (kp₁.trans (Kp.of_sub (Sub.push' _ _))) (F₁.up (Sub.push' _ _)) ⟨_,vs,rfl,F₁.hlive.new,⟨_,Heap.get?_push_size _ rfl,rfl,0,rfl⟩,hv.up (Kp.of_sub (Sub.push' _ _))⟩⟩
theorem JW{tg:Expr}(pe:PEk prog w C B A env e σ t σ₁)(pa:PA prog w C B A env tg σ₁ t σ₂)(hs:swapsWith e (some tg) pos.line env=pure false)(hw:swappedStores [tg] e env=pure none)
  (ht:assignEach [tg] env=[(false,assign tg env)]):PX prog w C B A env (.Assign [tg] e pos) σ (.nxt σ₂):=λH0 Mu ad s Q E htk F hQ=>by
 refine wpAny_Assign_stores (pe H0 Mu ad s _ _ htk F λv h₁ k₁ kp₁ F₁ hv=>?_) hs hw;refine rwl ht ?_;refine Bo (pa H0 Mu ad _ v _ _ F₁ hv λh₂ k₂ kp₂ F₂=>?_);exact hQ _ h₂ k₂ [] ad (λ_ m=>nomatch m) (kp₁.trans kp₂) ⟨rfl,F₂⟩
theorem JZ{y z u:Str}{p1:Pos}{k1:Nat}(hn:C2 e=true)(hline:(apos.endLine==pos.line)=true)(hd:(x==("__debug__":Str))=false)(pl:PE prog w C B A env e σ (.str u) σ₁)(hx:σ₁.lookup x=some (.ch y))(hyz:(y==z)=false)(hb:u.length<=4096)(hz:z.length<=14):
  PEk prog w C B A env (.Call (.Attribute e "replace" apos) [.Name x np,.Constant (.str z) k1 p1] [] pos) σ (.str (Txt.replace u y z)) σ₁:=λH0 Mu ad s Q E ht F hQ=>by
 refine wpAny_Call_method_lateS (Aw hn) (by rw [BW (λe' m=>by simp at m;rcases m with rfl|rfl<;>rfl)];rfl) hline (wpAny_with_toks (n:=C.tk) ht (pl H0 Mu ad s _ _ F λov h₁ k₁ kp₁ F₁ hv=>λht₁=>?_));obtain⟨tu,rfl⟩:=hv;refine⟨"str",_,PySem.F.plainAttrs_str,PySem.F.slot_str_replace,PySem.F.type_str_replace,typeIs_str _ _ _,(λ_ e=>nomatch e),?_⟩
 (refine rwl (Aa rfl) ?_;refine rwl (Aa rfl) ?_)
 obtain⟨t,i,hta,htb⟩:=F₁.chs x y hx;refine Calls.callWith_builtin rfl (Calls.evalArgs_plain (Calls.spliced_cons (wpAny_Name (Ej F₁.kind i ?_) hd)));refine Calls.spliced_cons (Calls.Constant_str (pos:=p1) (k:=k1) (Calls.spliced_nil ?_));have ht₁:C.tk<=k₁:=ht₁;have e1:t<k₁:=Nat.lt_of_lt_of_le (Nat.lt_of_succ_le htb) ht₁;refine SC.replaceW (s:={s with heap:=h₁,toks:=k₁+1}) (u:=t) (v:=k₁) (by intro q;rw [q] at hta;exact absurd hta (by decide)) (by intro q;rw [q] at e1;exact Nat.not_lt_zero _ e1) (by intro q;rw [q] at e1;exact Nat.lt_irrefl _ e1) hyz (Nat.le_trans hb (by decide)) hz λt' k=>?_
 exact hQ _ h₁ k kp₁ F₁ ⟨_,rfl⟩
noncomputable def Ba(x y z:Str):Str:=
 if((Builtin.Str.occurrences x y 0 x.length 1).isEmpty||(y.length==0&&z.length==0))=true then x
 else Builtin.Str.glued z (Builtin.Str.partsBetween x (Builtin.Str.occurrences x y 0 x.length 1) y.length)
theorem Hs(x y z:Str)(t u v d:Tok)(h0:(u==0||v==0)=false)(huv:(u==v)=false)(hyz:(y==z)=false)(hl:Builtin.Str.tooLong (x.length+(Builtin.Str.occurrences x y 0 x.length 1).length*z.length)=false):
  Gives (Builtin.«str.replace» ⟨[.str x t,.str y u,.str z v,.int 1 d],[]⟩) (if((Builtin.Str.occurrences x y 0 x.length 1).isEmpty||(y.length==0&&z.length==0))=true then .val (.str x t) else .str (Builtin.Str.glued z (Builtin.Str.partsBetween x (Builtin.Str.occurrences x y 0 x.length 1) y.length))):=by
 show Gives (if((Builtin.Str.occurrences x y 0 x.length 1).isEmpty||(y.length==0&&z.length==0))=true then(do rule "str.replace.nothing";ret (.str x t)) else
     (do
       let same ←isSame (.str y u) (.str z v)
       if same=true then(do rule "str.replace.old-is-new";ret (.str x t)) else
       if Builtin.Str.tooLong (x.length+(Builtin.Str.occurrences x y 0 x.length 1).length*z.length)=true then unsupported "str.replace:memory" else
       PySem.retStr (Builtin.Str.glued z (Builtin.Str.partsBetween x (Builtin.Str.occurrences x y 0 x.length 1) y.length)))) _
 cases hc:((Builtin.Str.occurrences x y 0 x.length 1).isEmpty||(y.length==0&&z.length==0))
 ·(refine rwl (isSame_str_other y z u v h0 huv hyz) ?_;refine rwl hl ?_)
  exact .of_eq rfl
 ·exact .rule (.of_eq rfl)
end
section
variable{prog:Program}{w:World}{C:Cx}{B:Heap}{A:Around}{H0 Mu:List Addr}{env:Env}{σ σ₁ σ₂:Sig}{n:Nat}{t t₁ t₂ r c:T}{ad:Str->Addr}{h h':Heap}{pos np apos p1 p2 p3:Pos}{x:Str}{o o':Own}{xs:List T}{K:Frag}{e:Expr}{es:List Expr}{ts:List T}{s:Shared}{a b:Value}{Hd:List Addr}
theorem JV{A:Around}{s:Shared}{x y z:Str}{t u v d:Tok}{Q:Value->Shared->Prop}{E:Value->Shared->Prop}(hu:u≠0)(hv:v≠0)(huv:u≠v)(hyz:(y==z)=false)(hb:x.length+x.length*z.length+z.length<=16777216)
  (hm:(Ba x y z).length<=16777216) (hq:∀t' k,Q (.str (Ba x y z) t') {s with toks:=k}):wpAny (model prog w) A (call (.builtin "str.replace") [.str x t,.str y u,.str z v,.int 1 d]) Q E s:=by
 have hl:Builtin.Str.tooLong (x.length+(Builtin.Str.occurrences x y 0 x.length 1).length*z.length)=false:=by
  have h1:=StrLaws.occ_length_le x y 0 x.length 1;have h2:(Builtin.Str.occurrences x y 0 x.length 1).length*z.length<=(x.length+1)*z.length:=Nat.mul_le_mul_right _ (by exact Nat.le_add_left_of_le h1);have h3:(x.length+1)*z.length=x.length*z.length+z.length:=Nat.succ_mul _ _;unfold Builtin.Str.tooLong;refine rwl sizeLine_eq ?_;exact decide_eq_false (by lia)
 refine call_gives PySem.F.slot_str_replace (typeIs_str _ _ _) PySem.F.entry_str_replace (PySem.F.args_str_replace_4 _ _ _ _)
  (Hs x y z t u v d (by simp [hu,hv]) (by simp [huv]) hyz hl) ?_
 have hq':=hq;have hm':=hm;unfold Ba at hq' hm'
 cases hc:((Builtin.Str.occurrences x y 0 x.length 1).isEmpty||(y.length==0&&z.length==0))
 ·rw [hc] at hq' hm';simp only [Bool.false_eq_true,if_false] at hq' hm'⊢;exact⟨by refine rwl sizeLine_eq ?_;exact hm',hq' _ _⟩
 ·rw [hc] at hq';simp only [if_true] at hq'⊢;exact hq' t s.toks
theorem IU{y z u:Str}{k1 k2 k3:Nat}{p1 p2 p3:Pos}(h1:1<=C.tk)(hn:C2 e=true)(hline:(apos.endLine==pos.line)=true)(pl:PE prog w C B A env e σ (.str u) σ₁)(hyz:(y==z)=false)(hb:u.length<=4096)(hz:z.length<=14)
  (hm:(Ba u y z).length<=4096):
  PEk prog w C B A env (.Call (.Attribute e "replace" apos) [.Constant (.str y) k1 p1,.Constant (.str z) k2 p2,.Constant (.int 1) k3 p3] [] pos) σ (.str (Ba u y z)) σ₁:=λH0 Mu ad s Q E ht F hQ=>by
 refine wpAny_Call_method_lateS (Aw hn) (by rw [BW (λe' m=>by simp at m;rcases m with rfl|rfl|rfl<;>rfl)];rfl) hline (wpAny_with_toks (n:=C.tk) ht (pl H0 Mu ad s _ _ F λov h₁ k₁ kp₁ F₁ hv=>λht₁=>?_));obtain⟨tu,rfl⟩:=hv;refine⟨"str",_,PySem.F.plainAttrs_str,PySem.F.slot_str_replace,PySem.F.type_str_replace,typeIs_str _ _ _,(λ_ e=>nomatch e),?_⟩
 (refine rwl (Aa rfl) ?_;refine rwl (Aa rfl) ?_;refine rwl (Aa rfl) ?_)
 have ht₁:C.tk<=k₁:=ht₁;refine Calls.callWith_builtin rfl (Calls.evalArgs_plain (Calls.spliced_cons (Calls.Constant_str (pos:=p1) (k:=k1) ?_)));refine Calls.spliced_cons (Calls.Constant_str (pos:=p2) (k:=k2) ?_);refine Calls.spliced_cons (wpAny_Constant_int (pos:=p3) (k:=k3) (Calls.spliced_nil ?_));refine JV (by show k₁≠0;lia) (by show k₁+1≠0;(exact Ne.symm (Nat.zero_ne_add_one k₁))) (by show k₁≠k₁+1;(exact Nat.ne_add_one k₁)) hyz ?_ (Nat.le_trans hm (by decide)) λt' k=>?_
 ·have:u.length*z.length<=4096*14:=Nat.mul_le_mul hb hz;lia
 ·exact hQ _ h₁ k kp₁ F₁ ⟨_,rfl⟩
theorem V6{i:Int}(h0:0<=i)(h1:i<10^10)(ha:Holds prog w Hd s.heap (.str (Str.ofString ".%d")) a)(hb:Holds prog w Hd s.heap (.int i) b):Op prog w A Hd s (binaryOp .Mod a b) (.str (Sy i)):=λQ E hQ=>by
 obtain⟨t,rfl⟩:=ha;obtain⟨u,rfl⟩:=hb;refine' KPc.mod_int ?kpcF ?kpcl ?kpch ?kpcm ?_
 case kpcF=>kpc_eq
 case kpcl=>exact h0
 case kpch=>exact h1
 case kpcm=>kpc_run
 exactλt' k=>hQ _ s.heap k (λ_ _ e=>e) ⟨_,rfl⟩
theorem Ly:PB prog w C B A env (.BoolOp .And [] pos) σ true σ:=λH0 Mu ad s Q E F hQ=>isTrue_and_nil (hQ s.heap s.toks (Kp.refl _ _) F)
theorem NO:PB prog w C B A env (.BoolOp .Or [] pos) σ false σ:=λH0 Mu ad s Q E F hQ=>isTrue_or_nil (hQ s.heap s.toks (Kp.refl _ _) F)
theorem P0{b₁ b:Bool}(p:PB prog w C B A env e σ b₁ σ₁)(ht:b₁=true->PB prog w C B A env (.BoolOp .And es pos) σ₁ b σ₂)(hf:b₁=false->b=false/\σ₂=σ₁):PB prog w C B A env (.BoolOp .And (e::es) pos) σ b σ₂:=λH0 Mu ad s Q E F hQ=>by
 refine isTrue_and (p H0 Mu ad s _ _ F λh₁ k₁ kp₁ F₁=>?_)
 cases b₁ with
 |true=>exact ht rfl H0 Mu ad _ _ _ F₁ λh₂ k₂ kp₂ F₂=>hQ h₂ k₂ (kp₁.trans kp₂) F₂
 |false=>obtain⟨rfl,rfl⟩:=hf rfl;exact hQ h₁ k₁ kp₁ F₁
theorem Uj{b₁ b:Bool}(p:PB prog w C B A env e σ b₁ σ₁)(hf:b₁=false->PB prog w C B A env (.BoolOp .Or es pos) σ₁ b σ₂)(ht:b₁=true->b=true/\σ₂=σ₁):PB prog w C B A env (.BoolOp .Or (e::es) pos) σ b σ₂:=λH0 Mu ad s Q E F hQ=>by
 refine isTrue_or (p H0 Mu ad s _ _ F λh₁ k₁ kp₁ F₁=>?_)
 cases b₁ with
 |false=>exact hf rfl H0 Mu ad _ _ _ F₁ λh₂ k₂ kp₂ F₂=>hQ h₂ k₂ (kp₁.trans kp₂) F₂
 |true=>obtain⟨rfl,rfl⟩:=ht rfl;exact hQ h₁ k₁ kp₁ F₁
theorem Rm:∀{ts:List T} {vs:List Value},HoldsL prog w (Mu++H0) h ts vs->CrL prog w C H0 Mu env σ ad h (ts.map Slot.fz) vs []
 |[]=>λx=>⟨x,rfl⟩
 |t::ts=>λx=>by obtain⟨v,r,rfl,hv,hr⟩:=x;exact⟨v,r,rfl,hv,Rm hr⟩
theorem Lp{ts:List Expr}{us:List T}{k1 k2:Nat}{tp vp spos:Pos}{names:List Str}(hA:AOk A n)(ps:PEs prog w C B A env vp es σ us σ₁)(h1000:us.length<=1000)(hn:us.length=names.length)(hk:∀x∈names,env.kindOf x=some .local)
  (hs:swapsWithSole [.Tuple ts k1 tp] (.Tuple es k2 vp) spos.line env=pure false) (hw:swappedStores [.Tuple ts k1 tp] (.Tuple es k2 vp) env=pure (some names)):
  PX prog w C B A env (.Assign [.Tuple ts k1 tp] (.Tuple es k2 vp) spos) σ (.nxt (GK names.reverse (us.map Slot.fz).reverse σ₁)):=λH0 Mu ad s Q E ht F hQ=>by
 refine Assign_Tuple_swapped (Ka ps h1000 H0 Mu ad s _ _ F λv h₁ k₁ kp₁ F₁ hv=>?_) hs hw;refine lid λgg kk=>?_
 obtain⟨a,vs,rfl,ha,it,hl⟩:=hv;refine kk ?_;have sz:((List.toArray vs).size)=names.length:=by(refine rwl List.size_toArray ?_;refine rwl hl.length ?_;refine rwl hn ?_;rfl)
 refine rwr sz ?_;refine unpackItems_tuple (s:={s with heap:=h₁,toks:=k₁}) hA.handled it λh₂ he=>?_
 have sb2:Sub h₁ h₂:=IH he;have L2:CrL prog w C H0 Mu env σ₁ ad h₂ (us.map Slot.fz).reverse vs.reverse []:=by
  refine rwr List.map_reverse ?_;exact Rm (hl.up (Kp.of_sub sb2)).reverse
 refine GG names.reverse (us.map Slot.fz).reverse vs.reverse [] σ₁ ad {s with heap:=h₂,toks:=k₁} _ _ (λx m=>hk x (List.mem_reverse.mp m)) (by simp [hn]) (F₁.up sb2) L2 λh₃ k₃ ad₃ kp₃ F₃=>?_
 exact hQ _ h₃ k₃ [] ad₃ (λ_ m=>nomatch m) ((kp₁.trans (Kp.of_sub sb2)).trans kp₃) ⟨rfl,F₃⟩
theorem FM{cnd:Expr}{b:Bool}{k:Nat}(hd:(x==("__debug__":Str))=false)(pc:PB prog w C B A env cnd σ b σ₁)(hx:σ₁.lookup x=some (.ow (.list xs))):
  PX prog w C B A env (.Return (some (.IfExp cnd (.Name x np) (.Constant .none k p1) p2)) pos) σ (.ret (if b then .list xs else .none)):=λH0 Mu ad s Q E ht F hQ=>by
 refine wpAny_Return_some (wpAny_IfExp (pc H0 Mu ad s _ _ F λh₁ k₁ kp₁ F₁=>?_))
 cases b with
 |true=>
  refine B0 hd hx F₁ ?_;refine lid λgg kk=>?_
  obtain⟨i1,am,al,ac,vs,pl,hl⟩:=F₁.owns x _ hx;refine kk ?_;exact hQ _ h₁ k₁ [] ad (λ_ m=>nomatch m) kp₁ ⟨_,rfl,ad x,vs,rfl,F₁.apart _ am,Lst.of pl,hl.less λb m=>List.mem_append_right _ m⟩
 |false=>
  refine show wpAny _ _ (pure Value.none) _ E _ from wpAny_pure ?_
  exact hQ _ h₁ k₁ [] ad (λ_ m=>nomatch m) kp₁ ⟨_,rfl,rfl⟩
end
noncomputable def T.wf:T->T
 |.fn x=>.flt x
 |t=>t
theorem Holds.wf{prog:Program}{w:World}{X:List Addr}{h:Heap}{t:T}{v:Value}(x:Holds prog w X h t v):Holds prog w X h t.wf v:=by
 cases t with
 |fn y=>obtain⟨t,_,e⟩:=x;exact⟨t,e⟩
 |_=>exact x
noncomputable def T.fn?(b:T):Option UInt64:=match b with
 |.fn j=>some j
 |_=>Option.none
noncomputable def T.tup?(b:T):Option (List T):=match b with
 |.tup j=>some j
 |_=>Option.none
theorem fn?_eq{b:T}{j:UInt64}(e:b.fn? =some j):b=.fn j:=by
 cases b with
 |fn i=>exact congrArg _ (Option.some.inj e)
 |_=>exact nomatch e
theorem tup?_eq{b:T}{j:List T}(e:b.tup? =some j):b=.tup j:=by
 cases b with
 |tup i=>exact congrArg _ (Option.some.inj e)
 |_=>exact nomatch e
noncomputable def Wm(x y:UInt64):Bool:=x==y&&(!Float64.isNaN x&&Float64.cmp x y==some .eq)
noncomputable def eqE(a b:T):Option Bool:=
 onO a.int? (λi=>onO b.int? (λj=>some (i==j)) (onO b.flt? (λy=>some (Float64.cmpInt y i==some .eq)) (onO b.fn? (λy=>some (Float64.cmpInt y i==some .eq)) none)))
  (onO a.str? (λx=>b.onS λy=>some (x==y)) (onO a.flt? (λx=>b.onI λj=>some (Float64.cmpInt x j==some .eq))
   (onO a.fn? (λx=>onO b.fn? (λy=>if Wm x y then some true else none) (b.onI λj=>some (Float64.cmpInt x j==some .eq))) none)))
noncomputable def EK(xs ys:List T)(j:Nat):Option Bool:=eqE (xs[j]?.getD .none) (ys[j]?.getD .none)
noncomputable def UM(xs ys:List T):Option Bool:=if xs.length=ys.length/\(List.range xs.length).all (λj=>(EK xs ys j).isSome)=true then some ((List.range xs.length).all λj=>(EK xs ys j).getD false) else eqT (.tup xs) (.tup ys)
noncomputable def eqX(a b:T):Option Bool:=
 onO a.int? (λi=>onO b.flt? (λy=>some (Float64.cmpInt y i==some .eq)) (eqT a b)) (onO a.tup? (λxs=>onO b.tup? (λys=>UM xs ys) (eqT a b)) (eqT a b))
noncomputable def BS(op:CmpOp)(a b:T):Option Bool:=match op with
 |.Eq=>eqX a b
 |.NotEq=>(eqX a b).map (!·)
 |op=>XP op a b
section
variable{prog:Program}{w:World}{A:Around}{Hd:List Addr}{s:Shared}{n:Nat}{a b:Value}{c:Bool}{x y:T}
theorem LJ{M:Model}{A:Around}{E:Value->Shared->Prop}{s:Shared}{y z:UInt64}{u v:Tok}{Q:Bool->Shared->Prop}
  (h0:(u==0||v==0)=false) (hb:NoneBooked s.heap) (hq:∀b,Q b s):wpAny M A (isSame (.float y u) (.float z v)) Q E s:=by
 show wpAny M A (isSame.created (y==z&& !Float64.isNaN y) u v) Q E s;unfold isSame.created
 (refine rwl h0 ?_;refine rwl (if_neg Bool.false_ne_true) ?_)
 refine wpAny_ite_split (λ_=>wpAny_pure (hq _)) λ_=>wpAny_ite_split (λ_=>wpAny_pure (hq _)) λ_=>?_
 refine wpAny_bind (wpAny_sharingNotTold_none hb ?_);refine wpAny_bind (wpAny_sharingNotTold_none hb ?_);exact wpAny_bind (wpAny_rule (wpAny_bind (wpAny_askSetting (wpAny_pure (hq _)))))
theorem XJ{x:UInt64}{t:Tok}{j:Int}{u:Tok}:SeqAt.EqAt A s (.float x t) (.int j u) (Float64.cmpInt x j==some .eq):=by
 intro prog w E Q h;refine wpAny_holding ?_;refine wpAny_ite_split (λhab=>absurd (eq_of_beq hab) nofun) (λ_=>?_);exact wpAny_bind (show wpAny (model prog w) A (compareOp .Eq _ _) _ _ _ from eq_fi (wpAny_truthy_bool h))
theorem XI{x:UInt64}{t:Tok}{j:Int}{u:Tok}:SeqAt.EqAt A s (.int j u) (.float x t) (Float64.cmpInt x j==some .eq):=by
 intro prog w E Q h;refine wpAny_holding ?_;refine wpAny_ite_split (λhab=>absurd (eq_of_beq hab) nofun) (λ_=>?_);exact wpAny_bind (show wpAny (model prog w) A (compareOp .Eq _ _) _ _ _ from eq_if (wpAny_truthy_bool h))
theorem D9{k:Bool}(e:some k=some c)(h:SeqAt.EqAt A s a b k):SeqAt.EqAt A s a b c:=Option.some.inj e▸h
theorem Y5{x y:UInt64}{t u:Tok}(nb:NoneBooked s.heap)(ht:t≠0)(hu:u≠0)(q:Wm x y=true):SeqAt.EqAt A s (.float x t) (.float y u) true:=by
 obtain⟨q1,q⟩:=Af q;obtain⟨_,hq⟩:=Af q
 cases eq_of_beq q1
 intro prog w E Q h;refine wpAny_holding (wpAny_ite_split (λhab=>wpAny_bind (wpAny_rule (wpAny_pure h))) λ_=>?_);refine wpAny_bind (LJ (by(refine rwl (beq_eq_false_iff_ne.mpr ht) ?_;refine rwl (beq_eq_false_iff_ne.mpr hu) ?_);rfl) nb λb=>?_)
 cases b with
 |true=>exact wpAny_pure h
 |false=>exact wpAny_bind (show wpAny (model prog w) A (compareOp .Eq _ _) _ _ _ from AutoFloatOps.eq_0 (wpAny_truthy_bool (by refine rwl hq ?_;exact h)))
theorem VE{α:Type}{k:α}{P:Value->Prop}{z:Option α}{f:UInt64->Option α}(e:onO x.fn? f z=some k)(ha:Holds prog w Hd s.heap x a)(k1:∀i t,t≠0->f i=some k->P (.float i t))(k2:z=some k->P a):P a:=
 B5 e (λj q e=>by rw [fn?_eq q] at ha;obtain⟨t,ht,rfl⟩:=ha;exact k1 j t ht e) k2
theorem QY(nb:NoneBooked s.heap)(e:eqE x y=some c)(ha:Holds prog w Hd s.heap x a)(hb:Holds prog w Hd s.heap y b):SeqAt.EqAt A s a b c:=
 Kl (P:=λa=>SeqAt.EqAt A s a b c) e ha (λi t e=>Kl (P:=λb=>SeqAt.EqAt A s _ b c) e hb (λj u e=>D9 e (SeqAt.EqAt.int_int _ _ _ _))
   λe=>NR (P:=λb=>SeqAt.EqAt A s _ b c) e hb (λj u e=>D9 e XI) λe=>VE (P:=λb=>SeqAt.EqAt A s _ b c) e hb (λj u _ e=>D9 e XI) Aj) λe=>
 SK (P:=λa=>SeqAt.EqAt A s a b c) e ha (λi t e=>Gg (P:=λb=>SeqAt.EqAt A s _ b c) e hb λj u e=>D9 e (SeqAt.EqAt.str_str _ _ _ _)) λe=>
 NR (P:=λa=>SeqAt.EqAt A s a b c) e ha (λi t e=>Dn (P:=λb=>SeqAt.EqAt A s _ b c) e hb λj u e=>D9 e XJ) λe=>
 VE (P:=λa=>SeqAt.EqAt A s a b c) e ha (λi t ht e=>VE (P:=λb=>SeqAt.EqAt A s _ b c) e hb (λj u hu e=>its e λq e=>D9 e (Y5 nb ht hu q))
   λe=>Dn (P:=λb=>SeqAt.EqAt A s _ b c) e hb λj u e=>D9 e XJ) Aj
theorem R3{vs:List Value}{v:Value}{j:Nat}(e:vs[j]? =some v)(h:j<vs.toArray.size):vs.toArray[j]=v:=by
 obtain⟨_,z⟩:=List.getElem?_eq_some_iff.mp e;exact z
theorem S9(nb:NoneBooked s.heap)(hA:AOk A n){xs ys:List T}(e:UM xs ys=some c)(ha:Holds prog w Hd s.heap (.tup xs) a)(hb:Holds prog w Hd s.heap (.tup ys) b):HE prog w A Hd s c a b:=by
 unfold UM at e
 by_cases q:xs.length=ys.length/\(List.range xs.length).all (λj=>(EK xs ys j).isSome)=true
 ·rw [if_pos q] at e;refine EC e ?_;clear e;refine lid λgg kk=>?_
  obtain⟨q1,q2⟩:=q;obtain⟨l,vs,rfl,hl1,il,hv⟩:=ha;obtain⟨r,ws,rfl,hr1,ir,hw⟩:=hb;refine kk ?_;have sz:vs.toArray.size=xs.length:=hv.length;have sz2:ws.toArray.size=xs.length:=hw.length.trans q1.symm;have he:∀j (h1:j<vs.toArray.size) (h2:j<ws.toArray.size),SeqAt.EqAt A.in1 s vs.toArray[j] ws.toArray[j] ((EK xs ys j).getD false):=by
   intro j h1 h2;have h1':j<xs.length:=sz▸h1;have h2':j<ys.length:=q1▸h1';refine lid λgg kk=>?_
   obtain⟨k,hk⟩:=Option.isSome_iff_exists.mp (List.all_eq_true.mp q2 j (List.mem_range.mpr h1'));refine kk ?_;refine rwl hk ?_;refine lid λgg kk=>?_
   obtain⟨v,ev,hh⟩:=hv.get (List.getElem?_eq_getElem h1');obtain⟨v2,ev2,hh2⟩:=hw.get (List.getElem?_eq_getElem h2');refine kk ?_;unfold EK at hk;rw [List.getElem?_eq_getElem h1',List.getElem?_eq_getElem h2'] at hk
   (refine rwl (R3 ev h1) ?_;refine rwl (R3 ev2 h2) ?_)
   exact QY nb hk hh hh2
  have hu:A.units<cLine:=Nat.lt_of_le_of_lt (Nat.le_add_right _ _) hA.cl;have fin:((List.range (min vs.toArray.size ws.toArray.size)).all (λj=>(EK xs ys j).getD false)&&vs.toArray.size==ws.toArray.size)=(List.range xs.length).all λj=>(EK xs ys j).getD false:=by
   (simp only [sz,sz2,Nat.min_self,beq_self_eq_true,Bool.and_true])
  exact⟨AT λQ E h=>SeqAt.RcAt.tuples il ir hu he prog w E Q (fin▸h),AT λQ E h=>SeqAt.RcNeAt.tuples il ir hu he prog w E Q (fin▸h)⟩
 ·rw [if_neg q] at e;exact Ij hA e ha hb
theorem PH(nb:NoneBooked s.heap)(hA:AOk A n)(e:eqX x y=some c)(ha:Holds prog w Hd s.heap x a)(hb:Holds prog w Hd s.heap y b):HE prog w A Hd s c a b:=by
 refine B5 e (λi q e=>?_) λe=>B5 e (λxs q e=>B5 e (λys q2 e=>S9 nb hA e (tup?_eq q▸ha) (tup?_eq q2▸hb)) λe=>Ij hA e ha hb) λe=>Ij hA e ha hb
 refine B5 e (λj q2 e=>?_) λe=>Ij hA e ha hb
 rw [int?_eq q] at ha;rw [flt?_eq q2] at hb;obtain⟨t,rfl⟩:=ha;obtain⟨u,rfl⟩:=hb;exact EC e ⟨AT λQ E h=>eq_if h,AT λQ E h=>ne_if h⟩
theorem M7{op:CmpOp}(nb:NoneBooked s.heap)(hA:AOk A n)(e:BS op x y=some c)(ha:Holds prog w Hd s.heap x a)(hb:Holds prog w Hd s.heap y b):Op prog w A Hd s (compareOp op a b) (.bool c):=by
 cases op with
 |Eq=>exact(PH nb hA e ha hb).1
 |NotEq=>exact DJ e λk q e=>e▸(PH nb hA q ha hb).2
 |_=>exact VA hA e ha hb
end
section
variable{prog:Program}{w:World}{A:Around}{E:Value->Shared->Prop}{h:Heap}{g:Array GenState}{d:Drawn}{t:Nat}{os:OsState}{x:Str}{u:Tok}
theorem TX:typeOf (.builtin "str.__getitem__")=pure (.type "wrapper_descriptor"):=by show builtinType _=_;rw [builtinType_eq_fast];kernel_rfl
theorem V3:".".intercalate ("str.__getitem__".cutAt '.').dropLast="str":=by decide+kernel
theorem JI:isSubtype (.type "str") (.type "str")=pure true:=by rw [isSubtype_type];kernel_rfl
theorem Vh{A:Around}{E:Value->Shared->Prop}{Q:Fin->Shared->Prop}
  (hq:Q (.done (.ret (.ref h.objs.size))) ⟨h.push {cls:=.type "method-wrapper",data:=.fields #[.builtin "str.__getitem__",.str x u]},g,d,t,os⟩):
  wpAny (model prog w) A (Builtin.«wrapper_descriptor.__get__» ⟨[.builtin "str.__getitem__",.str x u,.type "str"],[]⟩) Q E ⟨h,g,d,t,os⟩:=by
 have hT:(⟨h,g,d,t,os⟩:Shared).TypeIs (.str x u) "str":=rfl;have f1:=JI;unfold Builtin.«wrapper_descriptor.__get__»
 repeat (first|(unfold newFields)|(rw [V3])|(with_reducible refine wpAny_newObj_type ?_ (by size_fits))|wp_step)
 all_goals exact hq
theorem QG{tk:Tok}{Q:Fin->Shared->Prop}(hq:Q (.done (.ret (.ref h.objs.size))) ⟨h.push {cls:=.type "method-wrapper",data:=.fields #[.builtin "str.__getitem__",.str x u]},g,d,t,os⟩):
  wpAny (model prog w) A (Builtin.«object.__getattribute__» ⟨[.str x u,.str "__getitem__" tk],[]⟩) Q E ⟨h,g,d,t,os⟩:=by
 have hT:(⟨h,g,d,t,os⟩:Shared).TypeIs (.str x u) "str":=rfl;have hT5:(⟨h,g,d,t,os⟩:Shared).TypeIs (.builtin "str.__getitem__") "wrapper_descriptor":=TX;have f4:=PySem.F.slot_str_getitem.lookup;have f5:=TX;have f6:=slot_wd.lookup;have f7:typeLookup (.type "wrapper_descriptor") "__set__"=pure none:=by rw [typeLookup_type,builtinLookup_eq_fast];kernel_rfl
 have f8:typeLookup (.type "wrapper_descriptor") "__delete__"=pure none:=by rw [typeLookup_type,builtinLookup_eq_fast];kernel_rfl
 unfold Builtin.«object.__getattribute__»
 repeat (first
  |(with_reducible refine wpAny_call_entry slot_wd hT5 Hy ?_ (J7 _ _ _))
  |(with_reducible refine Vh ?_)
  |(with_reducible refine⟨_,rfl,?_⟩)
  |wp_step|dsimp only)
 all_goals exact hq
theorem Tv{tk:Tok}{R:Result->Shared->Prop}(hq:R (.ok (.ret (.ref h.objs.size))) ⟨h.push {cls:=.type "method-wrapper",data:=.fields #[.builtin "str.__getitem__",.str x u]},g,d,t,os⟩):
  codeAny (model prog w) A (.call (.builtin "object.__getattribute__") ⟨[.str x u,.str "__getitem__" tk],[]⟩) R ⟨h,g,d,t,os⟩:=
 codeAny_call_builtin PySem.F.slot_str_getattribute.plain PySem.F.entry_object_getattribute (PySem.F.slot_str_getattribute.check _ _ _ _ _ _ _ _ (show(⟨h,g,d,t,os⟩:Shared).TypeIs (.str x u) "str" from rfl) (PySem.F.args_object_getattribute_2 _ _) (QG hq))
theorem X8{tk:Tok}{Q:Value->Shared->Prop}(hq:Q (.ref h.objs.size) ⟨h.push {cls:=.type "method-wrapper",data:=.fields #[.builtin "str.__getitem__",.str x u]},g,d,t,os⟩):wpAny (model prog w) A (getAttrBy (.str x u) (.str "__getitem__" tk) false) Q E ⟨h,g,d,t,os⟩:=by
 have hT:(⟨h,g,d,t,os⟩:Shared).TypeIs (.str x u) "str":=rfl;have f2:=PySem.F.slot_str_getattribute.lookup;have f3:=PySem.F.slot_str_getattribute.bind (.str x u)
 repeat (any_goals (first|assumption|wp_step))
 refine Tv ?_
 repeat (any_goals (first|assumption|wp_step))
theorem HP:entryFor table "hasattr"=some Builtin.«hasattr»:=entryFor_of_tree (by kernel_rfl)
set_option maxHeartbeats 2000000 in
theorem HM{tk:Tok}{Q:Fin->Shared->Prop}(hq:Q (.done (.ret (.bool true))) ⟨h.push {cls:=.type "method-wrapper",data:=.fields #[.builtin "str.__getitem__",.str x u]},g,d,t,os⟩):
  wpAny (model prog w) A (Builtin.«hasattr» ⟨[.str x u,.str "__getitem__" tk],[]⟩) Q E ⟨h,g,d,t,os⟩:=by
 have hT:(⟨h,g,d,t,os⟩:Shared).TypeIs (.str x u) "str":=rfl;have f2:=PySem.F.slot_str_getattribute.lookup;have f4:=PySem.F.slot_str_getitem.lookup;have f5:(withoutEnding? "str.__getitem__" "#data").isSome=false:=by decide+kernel
 unfold Builtin.«hasattr»
 repeat (any_goals (first|assumption|with_reducible apply X8|wp_step))
end
section
variable{prog:Program}{w:World}{C:Cx}{B:Heap}{A:Around}{H0 Mu:List Addr}{env:Env}{σ σ₁ σ₂:Sig}{n:Nat}{t t₁ t₂ r c:T}{ad:Str->Addr}{h h':Heap}{pos np apos p1 p2 p3:Pos}{x:Str}{o o':Own}{xs:List T}{K:Frag}{e:Expr}{es:List Expr}{ts:List T}{s:Shared}{a b:Value}{Hd:List Addr}
theorem HH:plainId "hasattr"=true:=by decide+kernel
theorem Jm:builtinKind "hasattr"=none:=by decide+kernel
theorem J8(a b:Value):argsOk "hasattr" ⟨[a,b],[]⟩:=by unfold argsOk;kernel_rfl
theorem L6{x:Str}(ha:Holds prog w Hd s.heap (.str x) a)(hb:Holds prog w Hd s.heap (.str "__getitem__") b):Op prog w A Hd s (call (.builtin "hasattr") [a,b]) (.bool true):=by
 obtain⟨t,rfl⟩:=ha;obtain⟨u,rfl⟩:=hb;intro Q E hQ;refine call_function_entry Jm HH HP (J8 _ _) ?_;obtain⟨h,g,d,tk,os⟩:=s;exact HM ⟨_,rfl,hQ _ _ _ (Sub.push' _ _) rfl⟩
end
section
namespace Rx
open PySem.Sre
noncomputable def code:Array Nat:= #[14,8,1,2,4294967295,1,1,46,0,16,46,24,9,1,4294967295,13,4,8,0,0,1,6,5,1]
theorem WE(c:Nat)(seen:Sre.Seen):accepts code 15 c seen=if(isDigit c !=false)=true then .ok (true,(seen.add 8).add 55) else .ok (false,((seen.add 8).add 55).add 0):=by kernel_rfl
theorem Mh(c:Nat)(seen:Sre.Seen):∃seen',accepts code 15 c seen=.ok (isDigit c,seen'):=by
 rw [WE]
 cases isDigit c
 ·exact⟨_,rfl⟩
 ·exact⟨_,rfl⟩
noncomputable def digs(l:List Nat):Nat:=(l.takeWhile isDigit).length
theorem Ow(c:Nat)(r:List Nat):digs (c::r)=bif isDigit c then digs r+1 else 0:=by
 unfold digs;refine rwl List.takeWhile_cons ?_
 cases isDigit c<;>rfl
theorem Iz(text:Array Nat)(s:Nat)(h:s<text.size):text.toList.drop s=text.getD s 0::text.toList.drop (s+1):=by
 rw [List.drop_eq_getElem_cons (Array.length_toList▸h:s<text.toList.length),Array.getD,dif_pos h];rfl
theorem Hz(text:Array Nat)(s:Nat)(h:text.size<=s):text.toList.drop s=[]:=List.drop_eq_nil_of_le (Array.length_toList▸h)
theorem JS(text:Array Nat):∀(n p found:Nat) (seen:Sre.Seen),p+n=text.size->∃seen',Sre.run code text 15 n p found seen=.ok (found+digs (text.toList.drop p),seen')
 |0,p,found,seen,h=>⟨seen,by refine rwl (Hz text p (Nat.le_of_eq h.symm)) ?_;rfl⟩
 |n+1,p,found,seen,h=>by
  obtain⟨s1,e1⟩:=Mh (text.getD p 0) seen;have ih:=λf s=>JS text n (p+1) f s ((Nat.succ_add p n).trans h)
  rw [Iz text p (h▸Nat.lt_add_of_pos_right (Nat.succ_pos n)),Ow];unfold Sre.run;refine rwl e1 ?_
  cases isDigit (text.getD p 0)
  ·exact⟨s1,rfl⟩
  ·obtain⟨s2,e2⟩:=ih (found+1) s1;exact⟨s2,e2.trans (by rw [Nat.succ_add];rfl)⟩
noncomputable def st(text:Array Nat)(s:Nat)(first:Bool)(seen:Sre.Seen):M:=
 {code,text,lim:=text.size,start:=s,lastStart:=text.size,pc:=9,pos:=s,handed:=s,outermost:=first,marks:= #[],seen
  frames:=[{wait:=.nextStart,pc:=9,pos:=s,outermost:=first}],weight:=1}
noncomputable def Ends(b:Nat)(m:M)(o:Bool):Prop:=∃k,k<=b/\(match (M.runFor k m).outcome with|some .matched=>o=true|some .failed=>o=false|_=>False)
theorem Ends.step{b:Nat}{m:M}{o:Bool}(h:m.outcome.isSome=false)(e:Ends b m.step o):Ends (b+1) m o:=by
 obtain⟨k,hb,hk⟩:=e;refine⟨k+1,Nat.succ_le_succ hb,?_⟩;unfold M.runFor;refine rwl h ?_;exact hk
theorem Ends.le{b c:Nat}{m:M}{o:Bool}(e:Ends b m o)(h:b<=c):Ends c m o:=by
 obtain⟨k,hb,hk⟩:=e;exact⟨k,Nat.le_trans hb h,hk⟩
noncomputable def nx(text:Array Nat)(s:Nat)(first:Bool)(seen:Sre.Seen)(handed pc pos:Nat)(om:Bool):M:=
 {code,text,lim:=text.size,start:=s,lastStart:=text.size,pc,pos,handed,outermost:=om,marks:= #[],seen
  frames:=[{wait:=.nextStart,pc:=9,pos:=s,outermost:=first}],weight:=1,answer:=some false}
section
variable{text:Array Nat}{s j:Nat}{first:Bool}{seen:Sre.Seen}{handed pc pos:Nat}{om:Bool}
theorem Um:(nx text s first seen handed pc pos om).step=if s<text.size then st text (s+1) false seen else {nx text s first seen handed 9 s first with frames:=[],weight:=0}:=by kernel_rfl
theorem VF(h:¬s<text.size):Ends 2 (nx text s first seen handed pc pos om) false:=by
 refine Ends.step rfl ?_
 (refine rwl Um ?_;refine rwl (if_neg h) ?_)
 exact⟨1,Nat.le_refl _,rfl⟩
theorem Ub:(st text s first seen).step=if s>=text.size then nx text s first (seen.add 16) s 9 s first else
  bif text.getD s 0==46 then {st text s first (seen.add 16) with pc:=11,pos:=s+1} else nx text s first (seen.add 16) s 9 s first:=by kernel_rfl
noncomputable def st1(text:Array Nat)(s:Nat)(first:Bool)(seen:Sre.Seen):M:={st text s first seen with pc:=11,pos:=s+1}
noncomputable def gb(text:Array Nat)(s j:Nat)(c:Int)(first:Bool)(seen:Sre.Seen):M:=
 {code,text,lim:=text.size,start:=s,lastStart:=text.size,pc:=21,pos:=s+1+j,handed:=s+1+j,outermost:=first,marks:= #[],seen
  frames:=[{wait:=.giveBack,pc:=11,pos:=s+1+j,outermost:=first,count:=c,kept:={lastmark:=-1,lastindex:=-1,whole:=false,marks:= #[]}},{wait:=.nextStart,pc:=9,pos:=s,outermost:=first}],weight:=2}
noncomputable def aft(text:Array Nat)(s:Nat)(first:Bool)(seen:Sre.Seen)(o:Except String (Nat×Sre.Seen)):M:=match o with
 |.error why=>(st1 text s first (seen.add 24)).stick why
 |.ok (n,sn)=>if n<1 then nx text s first sn s 11 (s+1) first else gb text s n n first sn
theorem UY:(st1 text s first seen).step=if(1:Int)>(text.size:Int)-((s+1:Nat):Int) then nx text s first (seen.add 24) s 11 (s+1) first else
  aft text s first seen (Sre.run code text 15 (min 4294967295 ((text.size:Int)-((s+1:Nat):Int)).toNat) (s+1) 0 ((seen.add 24).add 13)):=by kernel_rfl
theorem Sm{a b n:Nat}(h:a+n=b):(b:Int)-(a:Int)=(n:Int):=by(exact Int.sub_eq_iff_eq_add'.mpr (congrArg Nat.cast (id (Eq.symm h))))
theorem Sb{n:Nat}(h:s+1+n=text.size)(hsz:text.size<=4096):∃sn,(st1 text s first seen).step=if digs (text.toList.drop (s+1))<1 then nx text s first sn s 11 (s+1) first else gb text s (digs (text.toList.drop (s+1))) (digs (text.toList.drop (s+1))) first sn:=by
 (refine rwl UY ?_;refine rwl (Sm h) ?_)
 cases n with
 |zero=>
  (refine rwl (if_pos (by decide)) ?_;refine rwl (Hz text (s+1) (Nat.le_of_eq h.symm)) ?_)
  exact⟨_,rfl⟩
 |succ n=>
  obtain⟨s2,e2⟩:=JS text (n+1) (s+1) 0 ((seen.add 24).add 13) h;have le:n+1<=4294967295:=Nat.le_trans (Nat.le_trans (h▸Nat.le_add_left _ _) hsz) (by decide);rw [if_neg (by exact of_decide_eq_false rfl),Int.toNat_natCast,Nat.min_eq_right le,e2,Nat.zero_add];exact⟨s2,rfl⟩
theorem U2{c:Int}:(gb text s j c first seen).step=if(s+1+j==text.size||(s+1+j+1==text.size&&text.getD (s+1+j) 0==10))=true then {gb text s j c first ((seen.add 6).add 48) with pc:=23} else {gb text s j c first ((seen.add 6).add 48) with answer:=some false}:=by kernel_rfl
theorem Wh{c:Int}(h:s+1+j=text.size):Ends 5 (gb text s j c first seen) true:=by
 refine Ends.step rfl ?_;rw [U2,if_pos (by rw [h,beq_self_eq_true];rfl)];refine⟨4,Nat.le_refl _,?_⟩
 cases first
 ·exact rfl
 ·exact rfl
theorem Tx{c:Int}:({gb text s j c first seen with answer:=some false}:M).step=if c-1<((1:Nat):Int) then nx text s first seen (s+1+j) 11 (s+1+j) first else {gb text s j (c-1) first seen with pos:=s+1+j-1,handed:=s+1+j-1,frames:=[{wait:=.giveBack,pc:=11,pos:=s+1+j-1,outermost:=first,count:=c-1,kept:={lastmark:=-1,lastindex:=-1,whole:=false,marks:= #[]}},{wait:=.nextStart,pc:=9,pos:=s,outermost:=first}]}:=by kernel_rfl
theorem MU{b:Nat}{o:Bool}(nl:∀p,text.getD p 0≠10)(next:∀seen' handed pc pos om,Ends b (nx text s first seen' handed pc pos om) o):
  ∀(j:Nat) (seen:Sre.Seen),s+1+(j+1)<text.size->Ends (b+2*j+2) (gb text s (j+1) (j+1:Nat) first seen) o
 |j,seen,hl=>by
  refine Ends.step (b:=b+2*j+1) rfl ?_;rw [U2,if_neg (by(simp only [beq_eq_false_iff_ne.mpr (Nat.ne_of_lt hl),beq_eq_false_iff_ne.mpr (nl _),Bool.and_false]);exact Bool.false_ne_true)];refine Ends.step rfl ?_;rw [Tx,show(((j+1:Nat):Int)-1)=(j:Int) by(simp only [Int.natCast_succ]);exact Int.add_sub_cancel _ _]
  match j with
  |0=>
   exact next _ _ _ _ _
  |j+1=>
   exact MU nl next j _ (Nat.lt_of_succ_lt hl)
end
noncomputable def hit(l:List Nat):Bool:=match l with
 |[]=>false
 |c::r=>c==46&&(decide (1<=digs r)&&digs r==r.length)
noncomputable def rxB:List Nat->Bool
 |[]=>false
 |c::r=>hit (c::r)||rxB r
theorem TB(l:List Nat):digs l<=l.length:=by unfold digs;exact(List.takeWhile_sublist _).length_le
noncomputable def bd:Nat->Nat
 |0=>10000
 |k+1=>bd k+10000
theorem UB:∀k,bd k=k*10000+10000
 |0=>rfl
 |k+1=>by unfold bd;rw [UB k,Nat.succ_mul]
theorem Mp{text:Array Nat}(nl:∀p,text.getD p 0≠10)(hsz:text.size<=4096):∀(k s:Nat) (first:Bool) (seen:Sre.Seen),s+k=text.size->Ends (bd k) (st text s first seen) (rxB (text.toList.drop s))
 |0,s,first,seen,h=>by
  have h:text.size<=s:=Nat.le_of_eq h.symm;refine rwl (Hz text s h) ?_;refine Ends.step (b:=9999) rfl ?_
  (refine rwl Ub ?_;refine rwl (if_pos h) ?_)
  exact(VF (Nat.not_lt.mpr h)).le (by decide)
 |k+1,s,first,seen,h=>by
  have h1:s+1+k=text.size:=(Nat.succ_add s k).trans h;have lt:s<text.size:=h▸Nat.lt_add_of_pos_right (Nat.succ_pos k);have go:∀seen' handed pc pos om,Ends (bd k+1) (nx text s first seen' handed pc pos om) (rxB (text.toList.drop (s+1))):=λseen' a b c d=>by
   refine Ends.step rfl ?_
   (refine rwl Um ?_;refine rwl (if_pos lt) ?_)
   exact Mp nl hsz k (s+1) false seen' h1
  have up:∀{m:M} {o:Bool},Ends (bd k+1) m o->Ends (bd k+9998) m o:=λe=>e.le (Nat.add_le_add_left (by decide) _)
  have hlen:(text.toList.drop (s+1)).length=k:=by(simp only [List.length_drop,Array.length_toList,←h1,Nat.add_sub_cancel_left])
  have hdl:=TB (text.toList.drop (s+1));have hk:k<=4096:=Nat.le_trans (h1▸Nat.le_add_left k (s+1)) hsz;refine rwl (Iz text s lt) ?_;show Ends (bd k+10000) _ ((text.getD s 0==46&&(decide (1<=digs (text.toList.drop (s+1)))&&digs (text.toList.drop (s+1))==(text.toList.drop (s+1)).length))||rxB (text.toList.drop (s+1)));refine Ends.step (b:=bd k+9999) rfl ?_
  (refine rwl Ub ?_;refine rwl (if_neg (Nat.not_le.mpr lt)) ?_)
  cases (text.getD s 0==46)
  ·exact(up (go _ _ _ _ _)).le (Nat.le_succ _)
  ·refine Ends.step (m:=st1 text s first (seen.add 16)) (b:=bd k+9998) rfl ?_;obtain⟨s2,e2⟩:=Sb (first:=first) (seen:=seen.add 16) h1 hsz
   (refine rwl e2 ?_;refine rwl hlen ?_)
   rw [hlen] at hdl;revert hdl go;generalize rxB (text.toList.drop (s+1))=z;generalize digs (text.toList.drop (s+1))=d;intro go hdl
   match d,hdl with
   |0,_=>exact up (go _ _ _ _ _)
   |d+1,hdl=>
    (refine rwl (if_neg (Nat.not_lt.mpr (Nat.succ_le_succ (Nat.zero_le d)))) ?_;refine rwl (decide_eq_true (Nat.succ_le_succ (Nat.zero_le d))) ?_)
    by_cases full:d+1=k
    ·rw [full,beq_self_eq_true];exact(Wh h1).le (Nat.le_trans (by decide) (Nat.le_add_left 9998 _))
    ·refine rwl (beq_eq_false_iff_ne.mpr full) ?_;refine(MU nl go d _ (h1▸Nat.add_lt_add_left (Nat.lt_of_le_of_ne hdl full) _)).le ?_;clear go nl up;lia
noncomputable def base(text:Array Nat):M:={code,text,lim:=text.size,start:=0,pc:=9,pos:=0,handed:=0,marks:= #[],mustAdvance:=false,seen:=({}:Sre.Seen).add 14}
theorem NA(text:Array Nat):Sre.forSearch code text 0 0 text.size false=if(decide (0>text.size)||decide (text.size-0<2))=true then(base text).say false else st text 0 true (({}:Sre.Seen).add 14):=by kernel_rfl
theorem Pd:∀l:List Nat,l.length<2->rxB l=false
 |[],_=>rfl
 |[c],_=>by show(c==46&&false||false)=false;rw [Bool.and_false];rfl
 |_::_::r,h=>absurd h (Nat.not_lt.mpr (Nat.le_add_left 2 r.length))
theorem search_ends{text:Array Nat}(nl:∀p,text.getD p 0≠10)(hsz:text.size<=4096):Ends 41000000 (Sre.forSearch code text 0 0 text.size false) (rxB text.toList):=by
 rw [NA]
 by_cases short:text.size<2
 ·rw [Pd _ short,if_pos (by(simp only [Nat.sub_zero,decide_eq_true short,Bool.or_true]))];exact⟨1,by decide,rfl⟩
 ·rw [if_neg (by(simp only [Nat.sub_zero,decide_eq_false short]);exact Bool.false_ne_true)];refine(Mp nl hsz text.size 0 true _ (Nat.zero_add _)).le ?_;rw [UB];exact Nat.le_trans (Nat.add_le_add_right (Nat.mul_le_mul_right 10000 hsz) 10000) (by decide)
end Rx
end
section
namespace Rx
open PySem.Sre PySem.Builtin.Re
theorem DV:∀(n:Nat) (m:M),m.outcome.isSome=true->M.runFor n m=m
 |0=>λ_ _=>rfl
 |n+1=>λm h=>by unfold M.runFor;refine rwl h ?_;rfl
theorem ES:∀(a b:Nat) (m:M),M.runFor (a+b) m=M.runFor b (M.runFor a m)
 |0=>λb m=>by rw [Nat.zero_add];rfl
 |a+1=>λb m=>by
  refine rwl (show a+1+b=(a+b)+1 by(exact Nat.add_right_comm a 1 b)) ?_;show(if m.outcome.isSome=true then m else M.runFor (a+b) m.step)=M.runFor b (if m.outcome.isSome=true then m else M.runFor a m.step)
  cases h:m.outcome.isSome
  ·simp only [Bool.false_eq_true,if_false];exact ES a b _
  ·simp only [if_true];exact(DV b m h).symm
noncomputable def Over(m:M)(o:Bool):Prop:=match m.outcome with|some .matched=>o=true|some .failed=>o=false|_=>False
theorem Over.c{m:M}{o:Bool}{P:Prop}(h:Over m o)(k1:m.outcome=Option.some .matched->o=true->P)(k2:m.outcome=Option.some .failed->o=false->P):P:=by
 unfold Over at h;generalize m.outcome=x at*
 cases x with
 |none=>exact h.elim
 |some y=>cases y with
  |matched=>exact k1 rfl h
  |failed=>exact k2 rfl h
  |stuck=>exact h.elim
theorem Over.some{m:M}{o:Bool}(h:Over m o):m.outcome.isSome=true:=h.c (λe _=>congrArg Option.isSome e) λe _=>congrArg Option.isSome e
section
variable{Mo:Model}{A:Around}{E:Value->Shared->Prop}{s:Shared}
theorem drive:∀(turns k:Nat) (m:M) (o:Bool) (Q:M->Shared->Prop),k<=4*turns->1<=turns->Over (M.runFor k m) o->(∀m',Over m' o->Q m' s)->wpAny Mo A (reDrive turns m) Q E s
 |0=>λ_ _ _ _ _ h1 _ _=>by omega
 |turns+1=>λk m o Q hk _ ho hQ=>by
  show wpAny Mo A (if((m.runFor reTurnSteps).outcome.isSome)=true then pure (m.runFor reTurnSteps) else(do rule "sre.turn";reDrive turns (m.runFor reTurnSteps))) Q E s;have e4:reTurnSteps=4:=rfl;refine rwl e4 ?_
  by_cases le:k<=4
  ·have e:M.runFor 4 m=M.runFor k m:=by
    rw [show 4=k+(4-k) by(exact Eq.symm (Nat.add_sub_of_le le)),ES,DV _ _ ho.some]
   (refine rwl e ?_;refine rwl (if_pos ho.some) ?_)
   exact wpAny_pure (hQ _ ho)
  ·have e:M.runFor k m=M.runFor (k-4) (M.runFor 4 m):=by
    (simp only [←ES]);congr 1;lia
   rw [e] at ho;refine wpAny_ite_split (λh=>?_) (λ_=>?_)
   ·rw [DV _ _ h] at ho;exact wpAny_pure (hQ _ ho)
   ·exact wpAny_bind (wpAny_rule (drive turns (k-4) _ o Q (by exact Nat.sub_le_of_le_add hk) (by(refine Nat.lt_of_not_le λh=>?_;lia)) ho hQ))
theorem toEnd{m:M}{o:Bool}{b:Nat}{Q:Option M->Shared->Prop}(h:Ends b m o)(hb:b<=1000000000)(hQ:∀r:Option M,r.isSome=o->Q r s):wpAny Mo A (reRunToEnd m) Q E s:=by
 obtain⟨k,hk,ho⟩:=h;refine wpAny_bind (drive (2^64) k m o _ (Nat.le_trans hk (Nat.le_trans hb (by decide))) (by decide) ho λm' ho'=>?_);refine wpAny_bind (wpAny_forIn_list _ (λ_ _ s'=>s'=s) _ (λx rest b s' hs=>?_) (λ_ s' hs=>?_) _ _ rfl)
 ·subst hs;refine wpAny_ite_split (λ_=>?_) (λ_=>?_)
  ·exact wpAny_bind (wpAny_rule (wpAny_pure rfl))
  ·exact wpAny_pure rfl
 ·subst hs;refine ho'.c (λe r=>?_) λe r=>?_
  ·refine rwl e ?_;exact wpAny_pure (hQ _ r.symm)
  ·refine rwl e ?_;exact wpAny_pure (hQ _ r.symm)
end
end Rx
end
theorem Gd:PySem.Slot "re.Pattern" "search" "re.Pattern.search":=
 .of (owner:="re.Pattern") (n:="search") (by(simp only [typeLookup_type,builtinLookup_eq_fast]);kernel_rfl) (by decide+kernel) (by decide+kernel) (by decide+kernel)
  (by first|exact .inl (by decide+kernel)|exact .inr (by decide+kernel)) (by rw [isSubtype_type];kernel_rfl)
theorem JE:typeOf (.builtin "re.Pattern.search")=pure (.type "method_descriptor"):=by show builtinType _=_;rw [builtinType_eq_fast];kernel_rfl
theorem Jy:entryFor table "re.Pattern.search"=some Builtin.«re.Pattern.search»:=entryFor_of_tree (by kernel_rfl)
theorem KU(a b:Value):argsOk "re.Pattern.search" ⟨[a,b],[]⟩:=by
 unfold argsOk;kernel_rfl
theorem mb:typeLookup (.type "re.Match") "__bool__"=pure none:=by(simp only [typeLookup_type,builtinLookup_eq_fast]);kernel_rfl
theorem ml:typeLookup (.type "re.Match") "__len__"=pure none:=by(simp only [typeLookup_type,builtinLookup_eq_fast]);kernel_rfl
noncomputable def PatAt(h:Heap)(p:Addr):Prop:=∃(f0 f1 f3 f4:Value) (t2 t6:Tok) (ct:Addr) (its:Array Value),
 h.get? p=some {cls:=.type "re.Pattern",data:=.fields #[f0,f1,.int 0 t2,f3,f4,.ref ct,.int 0 t6]}/\h.IsTuple ct its/\(its.map Builtin.Re.reRawOf).map (·.toNat)=Rx.code
section
variable{prog:Program}{w:World}{A:Around}{E:Value->Shared->Prop}{s:Shared}
open Builtin.Re
theorem target{p:Addr}{x:Str}{t:Tok}{Q:ReTarget->Shared->Prop}(hp:PatAt s.heap p)(hx:x.length<=4096)
  (hQ:Q {pattern:=.ref p,string:=.str x t,code:=Rx.code,text:=x.cps,kind:=0,groups:=0,pos:=0,lim:=x.cps.size} s):
  wpAny (model prog w) A (reTarget "re.Pattern.search" "search" ⟨[.ref p,.str x t],[]⟩) Q E s:=by
 refine lid λgg kk=>?_
 obtain⟨f0,f1,f3,f4,t2,t6,ct,its,ho,⟨oc,hc,_,n,hd⟩,e⟩:=hp;refine kk ?_;refine wpAny_bind (m:=reNamed "re.Pattern.search" "search" ["string","pos","endpos"] 1 [.str x t] []) (wpAny_of_eq (a:=[some (.str x t),none,none]) rfl ?_);refine wpAny_bind (wpAny_pure (wpAny_bind (wpAny_pure ?_)));refine wpAny_bind (wpAny_fieldsOf ho rfl ?_);refine wpAny_bind (m:=reTextOf (.str x t)) (wpAny_of_eq (a:=(x.cps,0)) rfl ?_);dsimp only;refine wpAny_ite_split (λh=>absurd h Bool.false_ne_true) (λ_=>?_);refine wpAny_ite_split (λh=>absurd h Bool.false_ne_true) (λ_=>?_);refine wpAny_bind (m:=reNoCollectionInside (.str x t) 0) (wpAny_of_eq (a:=()) rfl ?_);refine wpAny_bind (m:=reRawItems (.ref ct)) ?_;refine wpAny_bind (wpAny_seqItems hc hd (wpAny_pure (wpAny_pure ?_)));have e1:min (Int.toNat 0) x.cps.size=0:=Nat.zero_min _;have e2:min ((2:Int)^63-1).toNat x.cps.size=x.cps.size:=by
  have:x.cps.size<=4096:=hx;have e3:((2:Int)^63-1).toNat=9223372036854775807:=by decide
  refine rwl e3 ?_;lia
 (refine rwl e1 ?_;refine rwl e2 ?_)
 refine rwl e ?_;exact hQ
theorem Qc{p x:Value}{lim:Nat}{m:Sre.M}{Q:Value->Shared->Prop}
  (hQ:∀h' a,Sub s.heap h'->(∃o,h'.get? a=some o/\o.cls=.type "re.Match")->Q (.ref a) {s with heap:=h'}):
  wpAny (model prog w) A (reNewMatch p x 0 0 lim m) Q E s:=by
 unfold reNewMatch;refine wpAny_ite_split (λh=>absurd h Bool.false_ne_true) (λ_=>?_);refine wpAny_bind (wpAny_newTuple ?_ (by simp;decide));refine wpAny_newObj_type ?_ (by size_fits);exact hQ _ _ (Sub.trans' (Sub.push' _ _) (Sub.push' _ _)) ⟨_,Heap.get?_push_size _ rfl,rfl⟩
theorem GZ:PlainAttrs "re.Pattern":=
 ⟨⟨"object.__getattribute__",by(simp only [typeLookup_type,builtinLookup_eq_fast]);kernel_rfl,by decide+kernel⟩,by(simp only [typeLookup_type,builtinLookup_eq_fast]);kernel_rfl⟩
noncomputable def EF(x:Str):Bool:=x.cps.toList.all (·!=10)
theorem PW{x:Str}(h:EF x=true)(p:Nat):x.cps.getD p 0≠10:=by
 refine rwl (Array.getD_eq_getD_getElem?) ?_
 cases q:x.cps[p]? with
 |none=>decide
 |some c=>
  intro e;have e:c=10:=e;subst e;unfold EF at h;rw [List.all_eq_true] at h;have:=h 10 (by
   obtain⟨h1,h2⟩:=Array.getElem?_eq_some_iff.mp q;refine rwr h2 ?_;simp)
  exact absurd this (by decide)
theorem N9{p:Addr}{x:Str}{t:Tok}{Q:Value->Shared->Prop}(hp:PatAt s.heap p)(hx:x.length<=4096)(hn:EF x=true)
  (hQ:∀v h',Sub s.heap h'->(if Rx.rxB x.cps.toList then∃a,v=.ref a/\∃o,h'.get? a=some o/\o.cls=.type "re.Match" else v=.none)->Q v {s with heap:=h'}):
  wpAny (model prog w) A (call (.builtin "re.Pattern.search") [.ref p,.str x t]) Q E s:=by
 have hT:s.TypeIs (.ref p) "re.Pattern":=by obtain⟨f0,f1,f3,f4,t2,t6,ct,its,ho,_⟩:=hp;exact⟨_,ho,rfl⟩
 refine wpAny_call_entry Gd hT Jy ?_ (KU _ _);refine wpAny_bind (target hp hx ?_);refine wpAny_bind (Rx.toEnd (Rx.search_ends (PW hn) hx) (by decide) λr hr=>?_)
 cases r with
 |none=>
  have hr:Rx.rxB x.cps.toList=false:=hr.symm;exact wpAny_pure ⟨_,rfl,hQ _ s.heap (λ_ _ e=>e) (by refine rwl hr ?_;rfl)⟩
 |some m=>
  have hr:Rx.rxB x.cps.toList=true:=hr.symm;refine wpAny_bind (Qc λh' a sb ho=>?_);exact wpAny_pure ⟨_,rfl,hQ _ h' sb (by refine rwl hr ?_;exact⟨a,rfl,ho⟩)⟩
theorem ID{a:Addr}{Q:Bool->Shared->Prop}(h:∃o,s.heap.get? a=some o/\o.cls=.type "re.Match")(hQ:Q true s):wpAny (model prog w) A (truthy (.ref a)) Q E s:=by
 have hT:s.TypeIs (.ref a) "re.Match":=h;refine wpAny_bind (wpAny_callSpecial?_none hT mb ?_);exact wpAny_bind (wpAny_specialOf hT ml (wpAny_pure hQ))
end
theorem PatAt.up{h h':Heap}{p:Addr}(x:PatAt h p)(k:Sub h h'):PatAt h' p:=by
 refine lid λgg kk=>?_
 obtain⟨f0,f1,f3,f4,t2,t6,ct,its,ho,⟨oc,hc,r⟩,e⟩:=x;refine kk ?_;exact⟨f0,f1,f3,f4,t2,t6,ct,its,k _ _ ho,⟨oc,k _ _ hc,r⟩,e⟩
section
variable{prog:Program}{w:World}{C:Cx}{B:Heap}{A:Around}{H0 Mu:List Addr}{env:Env}{σ σ₁ σ₂:Sig}{n:Nat}{t t₁ t₂ r c:T}{ad:Str->Addr}{h h':Heap}{pos np apos p1 p2 p3:Pos}{x u:Str}{e:Expr}
theorem NN{p:Addr}(hd:(x==("__debug__":Str))=false)(hk:env.kindOf x=some .globalImplicit)(g:GlobAt B x (.ref p))(hp:PatAt B p)(hpl:plainE e=true)(hline:(apos.endLine==pos.line)=true)
  (pe:PE prog w C B A env e σ (.str u) σ₁) (hu:u.length<=4096) (hn:EF u=true):
  PB prog w C B A env (.Call (.Attribute (.Name x np) "search" apos) [e] [] pos) σ (Rx.rxB u.cps.toList) σ₁:=λH0 Mu ad s Q E F hQ=>by
 refine wpAny_isTrue_value ?_;refine wpAny_Call_method_lateS (Aw rfl) (by rw [BW (λe' m=>by refine rwl (mS m) ?_;exact hpl)];rfl) hline (wpAny_Name (Bc F.kind F.glob F.blt (g.is F.base hk) ?_) hd);have hp0:=hp.up F.base;have ho:∃o,s.heap.get? p=some o/\o.cls=.type "re.Pattern"/\o.dict=none:=by obtain⟨f0,f1,f3,f4,t2,t6,ct,its,ho,_⟩:=hp0;exact⟨_,ho,rfl,rfl⟩
 obtain⟨o,ho,hc,hdn⟩:=ho;refine⟨"re.Pattern",_,GZ,Gd,JE,⟨o,ho,hc⟩,(λa q=>by cases q;exact⟨_,ho,hdn⟩),?_⟩;refine rwl (Aa hpl) ?_;refine Calls.callWith_builtin rfl (Calls.evalArgs_plain (Calls.spliced_cons (pe H0 Mu ad s _ _ F λv h₁ k₁ kp₁ F₁ hv=>Calls.spliced_nil ?_)));obtain⟨tu,rfl⟩:=hv;refine N9 (s:={s with heap:=h₁,toks:=k₁}) (hp.up F₁.base) hu hn λv h₂ sb hv=>?_
 cases hb:Rx.rxB u.cps.toList with
 |true=>
  rw [hb] at hv hQ;obtain⟨a,rfl,ho⟩:=hv;exact ID (s:={s with heap:=h₂,toks:=k₁}) ho (hQ _ _ (kp₁.trans (Kp.of_sub sb)) (F₁.up sb))
 |false=>
  rw [hb] at hv hQ;have hv:v=.none:=hv;subst hv;exact truthy_none (hQ _ _ (kp₁.trans (Kp.of_sub sb)) (F₁.up sb))
end
section
variable{prog:Program}{w:World}{A A':Around}{Hd:List Addr}{s:Shared}{n:Nat}{a b:Value}{c:T}{E:Value->Shared->Prop}
noncomputable def two{α:Type}(xs:List T)(f:T->T->Option α):Option α:=match xs with
 |[]=>none
 |a::r=>match r with
  |[]=>none
  |b::r=>match r with
   |[]=>f a b
   |_::_=>none
theorem WK{α:Type}{xs:List T}{f:T->T->Option α}{c:α}{P:Prop}(e:two xs f=some c)(k:∀a b,xs=[a,b]->f a b=some c->P):P:=by
 rcases xs with _|⟨a,_|⟨b,_|⟨d,r⟩⟩⟩
 ·exact Aj e
 ·exact Aj e
 ·exact k a b rfl e
 ·exact Aj e
noncomputable def M5(t:T):Option (Str×T):=onO t.tup? (λxs=>two xs λa b=>a.onS λk=>onO b.int? (λi=>some (k,.int i)) (onO b.str? (λx=>some (k,.str x)) none)) none
noncomputable def CD:List T->Option (List (Str×T))
 |[]=>some []
 |t::ts=>(M5 t).bind λp=>(CD ts).map λps=>p::ps
noncomputable def WF:T->Value->Prop
 |.int i,v=>∃u,v=.int i u
 |.str x,v=>∃u,v=.str x u
 |_,_=>False
noncomputable def Tells(kvs:List (Str×Value))(G:List (Str×T)):Prop:=∀k,match G.lookup k with|some t=>∃v,valueAt kvs k=some v/\WF t v|none=>valueAt kvs k=none
theorem Tells.put{kvs:List (Str×Value)}{G:List (Str×T)}{k:Str}{t:T}{v:Value}(x:Tells kvs G)(hv:WF t v):Tells (stored kvs k v) ((k,t)::G):=λk'=>by
 (rw [DT];refine rwl List.lookup_cons ?_)
 by_cases q:k'=k
 ·subst q;rw [if_pos rfl,beq_self_eq_true];exact⟨v,rfl,hv⟩
 ·(refine rwl (if_neg q) ?_;refine rwl (beq_eq_false_iff_ne.mpr q) ?_)
  exact x k'
theorem Iy:entryFor table "dict.update.loop"=some Builtin.«dict.update.loop»:=entryFor_of_tree (by kernel_rfl)
theorem Ic:plainId "dict.update.loop"=true:=by decide+kernel
theorem NP{X:List Addr}{h:Heap}{t t':T}{v:Value}{k:Str}(e:M5 t=some (k,t'))(x:Holds prog w X h t v):∃a u v',v=.ref a/\h.IsTuple a #[.str k u,v']/\WF t' v':=by
 refine B5 e (λxs q e=>WK e λa b ex e=>?_) Aj;rw [tup?_eq q,ex] at x;obtain⟨l,vs,rfl,_,it,v1,r,rfl,h1,v2,r2,rfl,h2,hr⟩:=x;have hr:r2=[]:=hr;subst hr;refine B5 e (λk qk e=>?_) Aj;rw [str?_eq qk] at h1;obtain⟨u,rfl⟩:=h1;refine B5 e (λi qi e=>?_) λe=>B5 e (λy qy e=>?_) Aj
 ·rw [int?_eq qi] at h2
  cases e
  exact⟨l,u,v2,rfl,it,h2⟩
 ·rw [str?_eq qy] at h2
  cases e
  exact⟨l,u,v2,rfl,it,h2⟩
theorem OH{it d:Addr}{R:Result->Shared->Prop}(hi:it∈Hd)(hd:d∈Hd)(hne:it≠d):
  ∀(ts:List T) (ps:List (Str×T)) (i:Int) (s:Shared) (kvs:List (Str×Value)) (G:List (Str×T)),CD ts=some ps->s.heap.DictOf (PySem.strKind prog w) d kvs->Tells kvs G->kvs.length+ts.length<=4096->
   Iter prog w A.in1 Hd it ts s.heap->
   (∀h' k kvs',Kp [it,d] s.heap h'->h'.DictOf (PySem.strKind prog w) d kvs'->Tells kvs' (ps.reverse++G)->kvs'.length<=4096->R (.ok (.ret .none)) {s with heap:=h',toks:=k})->
   codeAny (model prog w) A (.builtin "dict.update.loop" ⟨[.ref d,.ref it,rawInt i,.none],[]⟩) R s:=by
 intro ts
 induction ts with
 |nil=>
  intro ps i s kvs G hp hD hT hl I hR
  cases hp
  refine codeAny_builtin Iy ?_;rw [Around.under_plainId Ic];unfold Builtin.«dict.update.loop»;refine wpAny_bind (I.done λh' k kp=>?_);refine wpAny_bind (m:=Builtin.Dict.addKeywords d []) (wpAny_of_eq (a:=()) rfl (wpAny_pure ?_));have di:∀o,s.heap.get? d=some o->h'.get? d=some o:=λo e=>kp _ _ (λm=>hne (mS m).symm) e
  have hD':h'.DictOf (PySem.strKind prog w) d kvs:=by obtain⟨o,es,ep,ho,r⟩:=hD;exact⟨o,es,ep,di _ ho,r⟩
  exact hR h' k kvs (kp.mono λb m=>mS m▸.head _) hD' hT hl
 |cons t ts ih=>
  intro ps i s kvs G hp hD hT hl I hR;refine HB hp λp e1 hp=>DJ hp λps' e2 hp=>?_
  subst hp;refine lid λgg kk=>?_
  obtain⟨k0,t0⟩:=p;refine kk ?_;refine codeAny_builtin Iy ?_;rw [Around.under_plainId Ic];unfold Builtin.«dict.update.loop»;refine wpAny_bind (I.next hi λv h' k kp I' hv=>?_);refine lid λgg kk=>?_
  obtain⟨a,u,v',rfl,⟨o,ho,hc,n,hdt⟩,hs⟩:=NP e1 hv;refine kk ?_;have di:∀o,s.heap.get? d=some o->h'.get? d=some o:=λo e=>kp _ _ (λm=>hne (mS m).symm) e
  have hD':h'.DictOf (PySem.strKind prog w) d kvs:=by obtain⟨o,es,ep,ho,r⟩:=hD;exact⟨o,es,ep,di _ ho,r⟩
  refine wpAny_bind (wpAny_holding (wpAny_bind ?_));refine wpAny_tryCatch (m:=Builtin.Dict.pairItems (.ref a)) ?_;refine wpAny_bind (wpAny_typeOf (s:={s with heap:=h',toks:=k}) (T:="tuple") ⟨o,ho,hc⟩ ?_);refine wpAny_ite_split (λ_=>?_) (λh=>absurd (by decide) h);refine wpAny_bind (wpAny_seqItems ho hdt (wpAny_pure ?_));refine wpAny_holding (wpAny_dictSet_pairs (v:=v') (GE k0 u) hD' (λh2 hD2 hs2=>?_) (by refine rwl sizeLine_eq ?_;lia));refine wpAny_pure ⟨Code.quiet_builtin _ (by decide+kernel),?_⟩;have I2:Iter prog w A.in1 Hd it ts h2:=I'.up (X:=[d]) (nw:=[]) (By hs2) (λb m=>by refine rwl (mS m) ?_;exact hd) (λm=>hne (mS m)) (λb m=>nomatch m);refine ih ps' (i+1) {s with heap:=h2,toks:=k+1} (stored kvs k0 v') ((k0,t0)::G) e2 hD2 (hT.put hs) ?_ I2 ?_
  ·have:=stored_length_le kvs k0 v';simp only [List.length_cons] at hl;lia
  ·intro h3 k3 kvs3 kp3 hD3 hT3 hl3;refine hR h3 k3 kvs3 (((kp.mono λb m=>mS m▸.head _).trans ((By hs2).mono λb m=>mS m▸.tail _ (.head _))).trans kp3) hD3 (by simpa using hT3) hl3
end
theorem Oa:typeLookup (.type "list") "keys"=pure none:=by(simp only [typeLookup_type,builtinLookup_eq_fast]);kernel_rfl
section
variable{prog:Program}{w:World}{A A':Around}{Hd:List Addr}{s:Shared}{n:Nat}{b:Value}{c:T}{E:Value->Shared->Prop}
theorem SM{a:Addr}{xs:Array Value}{k:Nat}{sl:Array (Option Value)}{Q:Option Value->Shared->Prop}(hx:s.heap.get? a=some {cls:=.type "list",dict:=none,data:=.seq xs k,slots:=sl})(hA:A.handled=none)
  (hQ:∀h' tk,Sub s.heap h'->Q none {s with heap:=h',toks:=tk}):wpAny (model prog w) A (getAttr? (.ref a) "keys") Q E s:=by
 have hsub:∀{h':Heap} {e:Addr},Heap.NewExcOf s.heap h' e "AttributeError"->Sub s.heap h':=λx b o e=>x.keeps b o e
 obtain⟨hp,g,d,tk,os⟩:=s;have hT:∀tk',(⟨hp,g,d,tk',os⟩:Shared).TypeIs (.ref a) "list":=λ_=>⟨_,hx,rfl⟩
 have f1:=sub_AttributeError;have f3:=PySem.F.slot_list_getattribute.lookup;have f4:=PySem.F.slot_list_getattribute.bind (.ref a);have f5:=am_list_getattr_none
 repeat (any_goals (first|assumption|exact hT _|((with_reducible show wpAny _ _ (call (Value.builtin "list.__getattribute__") _ _) _ _ _);refine call_meets PySem.F.slot_list_getattribute (hT _) am_entry_list_getattribute (PySem.F.args_list_getattribute_2 _ _) (meets_getattribute_miss_list a xs k sl "keys" _ Oa (by decide) (by size_fits)) ⟨hx,hA,λh' tk' e hx'=>?_⟩)|wp_step))
 obtain⟨t',u',he⟩:=hx'.there;unfold getattributeRaised
 repeat (any_goals (first|assumption|wp_step))
 exact hQ _ _ (hsub hx'.of)
end
noncomputable def EL(ps:List (Str×T)):Option T:=
 if ps.all (λp=>p.2.int?.isSome) then some (.dI λk=>(ps.reverse.lookup k).bind T.int?)
 else if ps.all (λp=>p.2.str?.isSome) then some (.dS λk=>(ps.reverse.lookup k).bind T.str?)
 else none
theorem BY{α:Type}:∀{l:List (Str×α)} {k:Str} {v:α},l.lookup k=some v->(k,v)∈l
 |[],_,_,h=>by cases h
 |(k',v')::r,k,v,h=>by
  rw [List.lookup_cons] at h
  cases q:k==k' with
  |true=>rw [q] at h;cases h;refine rwl (eq_of_beq q) ?_;exact .head _
  |false=>rw [q] at h;exact .tail _ (BY h)
section
variable{prog:Program}{w:World}{A A':Around}{Hd:List Addr}{s:Shared}{n:Nat}{a b:Value}{c:T}{E:Value->Shared->Prop}
theorem M6{ts:List T}{ps:List (Str×T)}(hA:AOk A (n+2))(hsm:∃o,s.heap.get? sysModules=some o)(hp:CD ts=some ps)(hc:EL ps=some c)(hlen:ts.length<=4096)(hl:Live Hd s.heap)(hv:Holds prog w Hd s.heap (.list ts) a):Op prog w A Hd s (call (.type "dict") [a]) c:=by
 intro Q E hQ;have hA2:=hA.in1.in1;have fr:=Ao s.heap;generalize hd:s.heap.objs.size=d at fr;have sb:Sub s.heap (s.heap.push {cls:=.type "dict",data:=.dict #[]}):=Sub.push' _ _;have hnew:(s.heap.push {cls:=.type "dict",data:=.dict #[]}).DictOf (PySem.strKind prog w) d []:=hd▸Heap.DictOf.new s.heap;have hdl:∃o,(s.heap.push {cls:=.type "dict",data:=.dict #[]}).get? d=some o:=by obtain⟨o,es,ep,ho,_⟩:=hnew;exact⟨o,ho⟩
 refine callType_codes (Q₁:=λobj s₁=>obj=.ref d/\s₁={s with heap:=s.heap.push {cls:=.type "dict",data:=.dict #[]}}) PySem.F.kt_called_dict (PySem.F.kt_typeCall_dict_1 _) PySem.F.entry_dict_init (kt_code_dict_new _ ⟨by(exact congrArg _ (hd)),rfl⟩) ?_
 rintro obj s₁ ⟨rfl,rfl⟩
 have hv1:Holds prog w (d::Hd) (s.heap.push {cls:=.type "dict",data:=.dict #[]}) (.list ts) a:=hv.mv (Kp.of_sub sb) λb m=>by
  rcases mC m with rfl|m
  ·exact .inr fr
  ·exact .inl m
 generalize s.heap.push {cls:=.type "dict",data:=.dict #[]}=h1 at*;have hl1:Live (d::Hd) h1:=λb m=>by
  rcases mC m with rfl|m
  ·exact hdl
  ·obtain⟨o,ho⟩:=hl b m;exact⟨o,sb _ _ ho⟩
 refine⟨hnew.typeIs (s:={s with heap:=h1}),PySem.F.args_dict_init_2 _ _,?_⟩;unfold Builtin.«dict.__init__»;refine wpAny_bind ?_;unfold Builtin.Dict.selfAndRest;refine wpAny_bind (wpAny_notOrdered_dict (hnew.typeIs (s:={s with heap:=h1})) ?_);refine wpAny_pure ?_;show wpAny _ _ (Builtin.Dict.updateFrom "dict.__init__" d a [] .none) _ _ _;have hv2:=hv1;obtain⟨la,vs,rfl,hla,il,hvs⟩:=hv2;refine wpAny_bind (wpAny_typeOf (s:={s with heap:=h1}) il.is.typeIs ?_);obtain⟨n0,hx⟩:=il.plain;refine wpAny_bind (SM (s:={s with heap:=h1}) hx hA2.handled λh2 k2 sb2=>?_);refine wpAny_bind (wpAny_rule ?_);refine wpAny_bind (It (A':=A.in1.in1) (s:={s with heap:=h2,toks:=k2}) hA2.handled (hv1.up (Kp.of_sub sb2)) λit h3 k3 sb3 fr3 I=>?_);refine wpAny_pure ⟨Code.quiet_builtin _ (by decide+kernel),?_⟩;have hne:it≠d:=λq=>by
  obtain⟨o,ho⟩:=hl1 d (.head _);have:=sb2 _ _ ho;rw [←q,show h2.get? it=none from fr3] at this;cases this
 have hD3:h3.DictOf (PySem.strKind prog w) d []:=by obtain⟨o,es,ep,ho,r⟩:=hnew;exact⟨o,es,ep,sb3 _ _ (sb2 _ _ ho),r⟩
 refine OH (A:=A.in1) (Hd:=it::d::Hd) (.head _) (.tail _ (.head _)) hne ts ps 0 {s with heap:=h3,toks:=k3} [] [] hp hD3 (λk=>rfl) (by simpa using hlen) I λh4 k4 kvs4 kp4 hD4 hT4 hl4=>?_
 refine⟨rfl,hQ _ h4 k4 (λb o e=>?_) ?_⟩
 ·have e3:=sb3 _ _ (sb2 _ _ (sb _ _ e));refine kp4 b o (λm=>?_) e3;simp only [List.mem_cons,List.not_mem_nil,or_false] at m
  rcases m with rfl|rfl
  ·have:=sb2 _ _ (sb _ _ e);rw [show h2.get? b=none from fr3] at this;cases this
  ·rw [fr] at e;cases e
 ·have hdn:d∉Hd:=λm=>by obtain⟨o,ho⟩:=hl d m;rw [fr] at ho;cases ho
  rw [List.append_nil] at hT4;unfold EL at hc
  split at hc
  ·rename_i q
   cases hc
   refine⟨d,rfl,hdn,kvs4,hD4,hl4,λk=>?_,beq_eq_false_iff_ne.mpr λq=>by obtain⟨o,ho⟩:=hsm;rw [←q,fr] at ho;cases ho⟩;have:=hT4 k;dsimp only
   cases z:ps.reverse.lookup k with
   |none=>rw [z] at this;exact this
   |some t=>
    rw [z] at this;obtain⟨v,e1,e2⟩:=this;have m:(k,t)∈ps:=List.mem_reverse.mp (BY z);have q2:=List.all_eq_true.mp q _ m
    cases t with
    |int i=>obtain⟨u,rfl⟩:=e2;exact⟨u,e1⟩
    |_=>exact absurd q2 Bool.false_ne_true
  ·split at hc
   ·rename_i q
    cases hc
    refine⟨d,rfl,hdn,kvs4,hD4,hl4,λk=>?_⟩;have:=hT4 k;dsimp only
    cases z:ps.reverse.lookup k with
    |none=>rw [z] at this;exact this
    |some t=>
     rw [z] at this;obtain⟨v,e1,e2⟩:=this;have m:(k,t)∈ps:=List.mem_reverse.mp (BY z);have q2:=List.all_eq_true.mp q _ m
     cases t with
     |str i=>obtain⟨u,rfl⟩:=e2;exact⟨u,e1⟩
     |_=>exact absurd q2 Bool.false_ne_true
   ·cases hc
end
section
variable{prog:Program}{w:World}{A A':Around}{Hd:List Addr}{s:Shared}{n:Nat}{a b:Value}{c:T}{E:Value->Shared->Prop}
theorem Oc{f:Str->Option Int}{v:Value}{Q:Value->Shared->Prop}(hA:A'.handled=none)(hl:Live Hd s.heap)(hv:Holds prog w Hd s.heap (.dI f) v)
  (hQ:∀it h' k (ks:List Str),Sub s.heap h'->s.heap.get? it=none->ks.Nodup->(∀k,k∈ks<->(f k).isSome=true)->ks.length<=4096->Iter prog w A' (it::Hd) it (ks.map T.str) h'->Q (.ref it) {s with heap:=h',toks:=k}):wpAny (model prog w) A (pyIter v) Q E s:=by
 have fr:=Ao s.heap;refine lid λgg kk=>?_
 obtain⟨a,rfl,ha,g,hD,hlen,hg,hsys⟩:=hv;obtain⟨o,es,ep,ho,hx,hdat,hk,hp,hn⟩:=hD;refine kk ?_;have hAt:s.heap.DictAt (PySem.strKind prog w) a g ep:=⟨o,es,ho,hx,hdat,hk,hp,hn⟩;have ne:a≠s.heap.objs.size:=Nat.ne_of_lt (Heap.lt_size ho);refine wpAny_pyIter_dict hsys hAt (hQ _ _ s.toks (g.map (·.1)) (Sub.push' _ _) fr hn (λk=>?_) (by simpa using hlen) ⟨_,_,_,_,0,Walks.dictKeys (knd:=PySem.strKind prog w) hA _ a ne g ep,λb hb=>?_,λb hb=>?_,⟨⟨_,Heap.get?_push_size _ rfl,rfl,rfl⟩,?_⟩,by simp,λi h st=>?_,λj v t hj ht=>?_⟩)
 ·have:=hg k
  constructor
  ·intro m;refine lid λgg kk=>?_
   obtain⟨⟨k',x⟩,mg,rfl⟩:=mM m;refine kk ?_
   cases q:f k' with
   |some _=>rfl
   |none=>
    rw [q] at this;unfold valueAt at this;have e:=List.find?_eq_none.mp (Option.map_eq_none_iff.mp this) _ mg;simp at e
  ·intro hs;refine lid λgg kk=>?_
   obtain⟨i,hi⟩:=Option.isSome_iff_exists.mp hs;rw [hi] at this;obtain⟨t,ht⟩:=this;unfold valueAt at ht;obtain⟨kv,e1,e2⟩:=Option.map_eq_some_iff.mp ht;refine kk ?_;have q:=List.find?_some e1;exact List.mem_map.mpr ⟨kv,List.mem_of_find?_eq_some e1,by simpa using q⟩
 ·rcases mC hb with q|q
  ·exact .inl q
  ·refine rwl (mS q) ?_;exact .inr λm=>(mC m).elim ne ha
 ·rcases mC hb with q|q
  ·subst q;exact⟨_,Heap.get?_push_size _ rfl⟩
  ·refine rwl (mS q) ?_;exact⟨o,Heap.get?_push_of_some _ ho⟩
 ·exact⟨o,es,Heap.get?_push_of_some _ ho,hx,hdat,hk,hp,hn⟩
 ·obtain⟨⟨o,ho,hc,hd⟩,_⟩:=st;exact⟨o,_,ho,hc,by decide,λv q=>by rw [hd] at q;cases q⟩
 ·obtain⟨k,x,e1,e2⟩:=hj;rw [Nat.zero_add] at e1;rw [List.getElem?_map,List.getElem?_map,e1] at ht
  cases ht
  exact Value.isStrOf_shape e2
end
section
variable{prog:Program}{w:World}{C:Cx}{B:Heap}{A:Around}{H0 Mu:List Addr}{env:Env}{σ σ₁ σ₂:Sig}{n:Nat}{t t₁ t₂ r c:T}{ad:Str->Addr}{h h':Heap}{pos np apos p1 p2 p3:Pos}{x u:Str}{e:Expr}
variable{ev:Expr->Sig->T->Sig->Prop}{tb:Expr->Sig->Bool->Sig->Prop}{asg:Expr->T->Sig->Sig->Prop}
theorem IX{elt:Expr}{g:Comprehension}{scope:Scope}{lpos:Pos}{f:Fs}{fd:Str->Option Int}(hd:(x==("__debug__":Str))=false)(hk:env.kindOf x=some .globalImplicit)(gl:GlobAt B x (.type "dict"))
  (hsm:∃o,B.get? sysModules=some o)
  (hA:AOk A (n+2)) (lk:Lk C env f) (ok:Cc f scope=true) (hall:∀c∈[g],c.is_async=0/\CE c.iter=true)
  (hev:∀(C':Cx) (env':Env),Lk C' env' (Dg f scope)->C'.cls=C.cls->(∀e σ t σ',ev e σ t σ'->PE prog w C' B A env' e σ t σ')/\(∀e σ b σ',tb e σ b σ'->PB prog w C' B A env' e σ b σ')/\∀e t σ σ',asg e t σ σ'->PA prog w C' B A env' e σ t σ')
  (pe:PE prog w C B A env g.iter σ (.dI fd) σ₁)
  (hl:∀ks:List Str,ks.Nodup->(∀k,k∈ks<->(fd k).isSome=true)->∃out σ' ps,Dv (λt σ o σ'=>HU ev tb asg elt g [] t σ o σ') (ks.map T.str) (frz (DM scope.names) σ₁) out σ'/\out.length<=4000/\CD out=some ps/\EL ps=some c):
  PE prog w C B A env (.Call (.Name x np) [.ListComp elt [g] scope lpos] [] pos) σ c σ₁:=λH0 Mu ad s Q E F hQ=>by
 refine Call_Name rfl (wpAny_Name (Bc F.kind F.glob F.blt (gl.is F.base hk) ?_) hd);refine rwl (Aa rfl) ?_;refine PyProof.Rows.callWith_type rfl (Calls.evalArgs_plain (Calls.spliced_cons ?_));refine lid λgg kk=>?_
 obtain⟨cl,hcl,hcl1,hcl2⟩:=Fg (Eu lk ok);refine kk ?_
 (simp only [eval_ListComp])
 have hg:=hall g (.head _);have ha:firstAsync [g]=false:=by
  refine lid λgg kk=>?_
  obtain⟨a,b,c,d⟩:=g;refine kk ?_;have:d=0:=hg.1;subst this;rfl
 have hf:firstIter [g] env=eval g.iter env:=by obtain⟨a,b,c,d⟩:=g;rfl
 (refine rwl ha ?_;refine rwl hf ?_;refine rwl (if_neg Bool.false_ne_true) ?_)
 refine wpAny_comprehension_free (use:=none) rfl (B6 hg.2 env) hcl (Et ok) (Ff ok) (pe H0 Mu ad s _ _ F λxv h₁ k₁ kp₁ F₁ hx=>?_);refine Oc (A':=A) hA.handled F₁.hlive hx λit h₂ k₂ ks sb fr hnd hks hkl I=>?_
 refine lid λgg kk=>?_
 obtain⟨out,σ',ps,e1,e2,e3,e4⟩:=hl ks hnd hks;refine kk ?_;refine H6 (s₁:={s with heap:=h₁,toks:=k₁}) (s₂:={s with heap:=h₂,toks:=k₂}) hA lk ok hall hcl1 hcl2 hev e1 e2 F₁ sb fr I ?_;intro acc L h' k ws m fa fL ne nL il hd sb';refine⟨m,nL,λh'' hs=>?_⟩;have sb'':Sub h₁ h'':=λb o e=>hs.extBut b o (λq=>by rw [q,show h₁.get? L=none from fL] at e;cases e) (sb' b o e)
 have na:acc∉Mu++H0:=λm=>by
  refine lid λgg kk=>?_
  obtain⟨o,ho⟩:=F₁.live acc m;refine kk ?_;rw [show h₁.get? acc=none from fa] at ho;cases ho
 have k1:=By hs;have F₃:=F₁.up sb'';have hv:Holds prog w (Mu++H0) h'' (.list out) (.ref acc):=⟨acc,ws,rfl,na,il.extBut hs.extBut ne,(hd.up (k1.mono λb m=>by refine rwl (mS m) ?_;exact .head _)).less λb m=>.tail _ m⟩;refine Calls.spliced_nil ?_;exact MM (s:={s with heap:=h'',toks:=k}) F₃ (kp₁.trans (Kp.of_sub sb'')) (M6 hA (by obtain⟨o,ho⟩:=hsm;exact⟨o,F₃.base _ _ ho⟩) e3 e4 (Nat.le_trans e2 (by decide)) F₃.hlive hv) hQ
end
noncomputable def br(b:Bool)(x y:Prop):Prop:=match b with
 |true=>x
 |false=>y
theorem Cn{b:Bool}{x y:Prop}(hx:b=true->x)(hy:b=false->y):br b x y:=by
 cases b with
 |true=>exact hx rfl
 |false=>exact hy rfl
theorem KP{b:Bool}{x y:Prop}(h:b=true)(hx:x):br b x y:=by subst h;exact hx
theorem Bb{b:Bool}{x y:Prop}(h:b=false)(hx:y):br b x y:=by subst h;exact hx
noncomputable def W{α:Type}(o:Option α)(k:α->Prop):Prop:=match o with
 |some c=>k c
 |none=>br false True False
theorem Ab{α:Type}{o:Option α}{c:α}{k:α->Prop}(h:o=some c)(hk:k c):W o k:=by subst h;exact hk
theorem Y9{α:Type}{o:Option α}{k:α->Prop}(h:W o k):∃c,o=some c/\k c:=by
 cases o with
 |none=>exact(show False from h).elim
 |some c=>exact⟨c,rfl,h⟩
theorem Bg{α:Type}{p:Prop}[Decidable p]{x:Option α}{k:α->Prop}(h:p)(hk:W x k):W (if p then x else none) k:=by refine rwl (if_pos h) ?_;exact hk
noncomputable def Bad:Prop:=W (none:Option Unit) λ_=>True
theorem Bad.no{P:Prop}(h:Bad):P:=(show False from h).elim
noncomputable abbrev NS:=List (Nat×Slot)
noncomputable def NS.get:NS->Nat->Option Slot
 |[],_=>none
 |(m,s)::r,n=>bif Nat.beq n m then some s else NS.get r n
noncomputable def NS.put:NS->Nat->Slot->NS
 |[],n,s=>[(n,s)]
 |(m,t)::r,n,s=>bif Nat.beq n m then(m,s)::r else(m,t)::NS.put r n s
noncomputable def NS.restr(a b:NS):NS:=a.filterMap λp=>(b.get p.1).map λs=>(p.1,s)
noncomputable def NU(fr:List Nat)(ν:NS):NS:=fr.filterMap λn=>match ν.get n with
 |some (.fz t)=>some (n,.fz t)
 |_=>none
noncomputable def SS(ν:NS):NS:=ν.map λp=>(p.1,dmS p.2)
noncomputable def DP:NS->Nat->Slot->(NS->Prop)->Prop
 |[],n,s,k=>k [(n,s)]
 |(m,t)::r,n,s,k=>bif Nat.beq n m then k ((m,s)::r) else DP r n s λr'=>k ((m,t)::r')
noncomputable def D0:NS->NS->(NS->Prop)->Prop
 |[],_,k=>k []
 |(m,_)::a,b,k=>match b.get m with
  |some s=>D0 a b λr=>k ((m,s)::r)
  |none=>D0 a b k
noncomputable def Gh:List Nat->NS->(NS->Prop)->Prop
 |[],_,k=>k []
 |n::fr,ν,k=>match ν.get n with
  |some (.fz t)=>Gh fr ν λr=>k ((n,.fz t)::r)
  |_=>Gh fr ν k
noncomputable def MC:NS->(NS->Prop)->Prop
 |[],k=>k []
 |(m,s)::a,k=>MC a λr=>k ((m,dmS s)::r)
theorem IS:∀(ν:NS) (n:Nat) (s:Slot) (k:NS->Prop),DP ν n s k=k (ν.put n s)
 |[]=>λn s k=>rfl
 |(m,t)::r=>λn s k=>by
  show(bif Nat.beq n m then k ((m,s)::r) else DP r n s λr'=>k ((m,t)::r'))=k (bif Nat.beq n m then(m,s)::r else(m,t)::NS.put r n s)
  cases Nat.beq n m with
  |true=>rfl
  |false=>exact IS r n s _
theorem FK:∀(a b:NS) (k:NS->Prop),D0 a b k=k (a.restr b)
 |[]=>λ_ k=>rfl
 |(m,t)::a=>λb k=>by
  refine Eq.trans (show D0 ((m,t)::a) b k=Option.casesOn (motive:=λ_=>Prop) (b.get m) (D0 a b k) λs=>D0 a b λr=>k ((m,s)::r) by kernel_rfl) ?_
  cases h:b.get m with
  |none=>exact(FK a b k).trans (congrArg k (List.filterMap_cons_none (f:=λp:Nat×Slot=>(b.get p.1).map λs=>(p.1,s)) (a:=(m,t)) (l:=a) (show(b.get m).map _=none by rw [h];rfl)).symm)
  |some s=>exact(FK a b _).trans (congrArg k (List.filterMap_cons_some (f:=λp:Nat×Slot=>(b.get p.1).map λs=>(p.1,s)) (a:=(m,t)) (l:=a) (show(b.get m).map _=some (m,s) by rw [h];rfl)).symm)
theorem Ec:∀(fr:List Nat) (ν:NS) (k:NS->Prop),Gh fr ν k=k (NU fr ν)
 |[]=>λ_ k=>rfl
 |n::fr=>λν k=>by
  unfold Gh NU
  (simp only [List.filterMap_cons])
  cases h:ν.get n with
  |none=>exact Ec fr ν k
  |some s=>cases s with
   |fz t=>exact Ec fr ν _
   |ow o=>exact Ec fr ν k
   |ch c=>exact Ec fr ν k
theorem Kq:∀(ν:NS) (k:NS->Prop),MC ν k=k (SS ν)
 |[]=>λk=>rfl
 |(m,s)::a=>λk=>Kq a λr=>k ((m,dmS s)::r)
inductive Tg where
 |v (n:Nat)
 |t (ns:List Nat)
noncomputable def WA:List Nat->List T->NS->(NS->Prop)->Prop
 |[],[],ν,Q=>Q ν
 |n::ns,t::ts,ν,Q=>DP ν n (.fz t) λν'=>WA ns ts ν' Q
 |_,_,_,_=>Bad
noncomputable def BB(g:Tg)(t:T)(ν:NS)(Q:NS->Prop):Prop:=match g,t with
 |.v n,t=>DP ν n (.fz t) Q
 |.t ns,.tup ts=>WA ns ts ν Q
 |_,_=>Bad
mutual
inductive X where
 |v (n:Nat)
 |g (n:Nat) (b:UInt64)
 |k (c:Const)
 |bin (op:Operator) (a b:X)
 |cmp (op:CmpOp) (a b:X)
 |sub (a b:X)
 |slc (lo hi st:O)
 |un (op:UnaryOp) (a:X)
 |ite (c:Bx) (a b:X)
 |lst (xs:L)
 |tup (xs:L)
 |call (f:Nat) (xs:L)
 |met (m:Met) (o:X) (xs:L)
 |comp (it:X) (g:Gs) (fr:List Nat)
 |dic (it:X) (g:Gs) (fr:List Nat)
 |ap (n:Nat) (a:X)
 |pa (n:Nat) (a:X)
 |push (n:Nat) (a b:X)
 |count (n:Nat)
 |pop (n:Nat)
 |seti (n:Nat) (a b:X)
 |subo (n:Nat) (a:X)
inductive O where
 |no
 |x (a:X)
inductive L where
 |nil
 |cons (a:X) (r:L)
inductive Bx where
 |cmp (op:CmpOp) (a b:X)
 |and (xs:Bs)
 |or (xs:Bs)
 |not (b:Bx)
 |srch (a:X)
 |val (a:X)
inductive Bs where
 |nil
 |cons (a:Bx) (r:Bs)
inductive Gs where
 |last (g:Tg) (ifs:Bs) (elt:X)
 |more (g:Tg) (ifs:Bs) (it:X) (r:Gs)
end
noncomputable def Rp:Const->Option T
 |.none=>some .none
 |.bool b=>some (.bool b)
 |.int i=>some (.int i)
 |.float x=>some (.flt x)
 |.str x=>some (.str x)
 |_=>none
noncomputable def DC(op:Operator)(a b:T):Option T:=match op with
 |.Mod=>onO a.str? (λx=>b.onI λi=>if x=(⟨#[46,37,100]⟩:Str)/\0<=i/\i<10^10 then some (.str (Sy i)) else none) (W5 .Mod a b)
 |op=>W5 op a b
noncomputable def hi1(p:Prop):Prop:=p
noncomputable def hi2(p:Prop):Prop:=hi1 p
noncomputable def hi3(p:Prop):Prop:=hi2 p
noncomputable def hi4(p:Prop):Prop:=hi3 p
noncomputable def onP{α:Type}(o:Option α)(f:α->Prop)(z:Prop):Prop:=hi4 (match o with
 |some j=>f j
 |none=>z)
theorem EJ{α:Type}{o:Option α}{f:α->Prop}{z P:Prop}(h:onP o f z)(k1:∀i,o=some i->f i->P)(k2:z->P):P:=by
 cases o with
 |none=>exact k2 h
 |some i=>exact k1 i rfl h
noncomputable def TM(op:Operator)(a b:T)(k:T->Prop):Prop:=match op with
 |.Div=>onP a.flt? (λi=>onP b.flt? (λj=>br (Float64.isZero j) Bad (k (.flt (Float64.div i j)))) (W (DC .Div a b) k)) (W (DC .Div a b) k)
 |.Mod=>onP a.flt? (λi=>onP b.flt? (λj=>br (Float64.isZero j) Bad (k (.flt (Float64.divmod i j).2))) (W (DC .Mod a b) k)) (W (DC .Mod a b) k)
 |.Add=>onP a.flt? (λi=>onP b.int? (λj=>br (Float64.isInf (Float64.ofInt j)) Bad (k (.flt (Float64.add i (Float64.ofInt j))))) (W (DC .Add a b) k)) (W (DC .Add a b) k)
 |.Mult=>onP a.int? (λi=>onP b.flt? (λj=>br (Float64.isInf (Float64.ofInt i)) Bad (k (.flt (Float64.mul (Float64.ofInt i) j)))) (W (DC .Mult a b) k)) (W (DC .Mult a b) k)
 |op=>W (DC op a b) k
noncomputable def J0(op:CmpOp)(a b:T)(k:Bool->Prop):Prop:=match op with
 |.Eq=>onP a.flt? (λx=>onP b.int? (λj=>br (Float64.isNaN x) Bad (k (Float64.cmpInt x j==some .eq))) (W (BS .Eq a b) k)) (W (BS .Eq a b) k)
 |.NotEq=>onP a.flt? (λx=>onP b.int? (λj=>br (Float64.isNaN x) Bad (k (!(Float64.cmpInt x j==some .eq)))) (W (BS .NotEq a b) k)) (W (BS .NotEq a b) k)
 |.Lt=>onP a.flt? (λx=>onP b.int? (λj=>br (Float64.isNaN x) Bad (k (Float64.cmpInt x j==some .lt))) (W (BS .Lt a b) k)) (W (BS .Lt a b) k)
 |op=>W (BS op a b) k
theorem Rz{b:Bool}{x:Prop}{P:Prop}(h:br b Bad x)(c:b=false->x->P):P:=by
 cases b with
 |true=>exact Bad.no h
 |false=>exact c rfl h
theorem W_c{α:Type}{o:Option α}{k:α->Prop}{P:Prop}(h:W o k)(c:∀x,o=some x->k x->P):P:=by
 cases o with
 |none=>exact(show False from h).elim
 |some x=>exact c x rfl h
theorem XD{α:Type}{a b:T}{f:UInt64->UInt64->Bool}{g:UInt64->UInt64->α}{o:T->T->Option α}{k:α->Prop}{P:Prop}(e:∀i j,f i j=false->o (.flt i) (.flt j)=some (g i j))
  (h:onP a.flt? (λi=>onP b.flt? (λj=>br (f i j) Bad (k (g i j))) (W (o a b) k)) (W (o a b) k)) (c:∀t,o a b=some t->k t->P):P:=
 EJ h (λi q h=>EJ h (λj q2 h=>Rz h λz h=>c _ (by(refine rwl (flt?_eq q) ?_;refine rwl (flt?_eq q2) ?_);exact e i j z) h) λh=>W_c h c) λh=>W_c h c
theorem T4{α:Type}{a b:T}{f:UInt64->Int->Bool}{g:UInt64->Int->α}{o:T->T->Option α}{k:α->Prop}{P:Prop}(e:∀i j,f i j=false->o (.flt i) (.int j)=some (g i j))
  (h:onP a.flt? (λi=>onP b.int? (λj=>br (f i j) Bad (k (g i j))) (W (o a b) k)) (W (o a b) k)) (c:∀t,o a b=some t->k t->P):P:=
 EJ h (λi q h=>EJ h (λj q2 h=>Rz h λz h=>c _ (by(refine rwl (flt?_eq q) ?_;refine rwl (int?_eq q2) ?_);exact e i j z) h) λh=>W_c h c) λh=>W_c h c
theorem Y1{α:Type}{a b:T}{f:Int->UInt64->Bool}{g:Int->UInt64->α}{o:T->T->Option α}{k:α->Prop}{P:Prop}(e:∀i j,f i j=false->o (.int i) (.flt j)=some (g i j))
  (h:onP a.int? (λi=>onP b.flt? (λj=>br (f i j) Bad (k (g i j))) (W (o a b) k)) (W (o a b) k)) (c:∀t,o a b=some t->k t->P):P:=
 EJ h (λi q h=>EJ h (λj q2 h=>Rz h λz h=>c _ (by(refine rwl (int?_eq q) ?_;refine rwl (flt?_eq q2) ?_);exact e i j z) h) λh=>W_c h c) λh=>W_c h c
theorem itf{α:Type}{b:Bool}{x:α}(h:b=false):(if b=true then none else some x)=some x:=if_neg (by refine rwl h ?_;exact Bool.false_ne_true)
theorem W4{op:Operator}{a b:T}{k:T->Prop}{P:Prop}(h:TM op a b k)(c:∀t,DC op a b=some t->k t->P):P:=by
 cases op with
 |Div=>exact XD (o:=DC .Div) (f:=λi j=>Float64.isZero j) (g:=λi j=>T.flt (Float64.div i j)) (λi j z=>itf (x:=T.flt (Float64.div i j)) z) h c
 |Mod=>exact XD (o:=DC .Mod) (f:=λi j=>Float64.isZero j) (g:=λi j=>T.flt (Float64.divmod i j).2) (λi j z=>itf (x:=T.flt (Float64.divmod i j).2) z) h c
 |Add=>exact T4 (o:=DC .Add) (f:=λi j=>Float64.isInf (Float64.ofInt j)) (g:=λi j=>T.flt (Float64.add i (Float64.ofInt j))) (λi j z=>itf (x:=T.flt (Float64.add i (Float64.ofInt j))) z) h c
 |Mult=>exact Y1 (o:=DC .Mult) (f:=λi j=>Float64.isInf (Float64.ofInt i)) (g:=λi j=>T.flt (Float64.mul (Float64.ofInt i) j)) (λi j z=>itf (x:=T.flt (Float64.mul (Float64.ofInt i) j)) z) h c
 |_=>first|exact W_c (o:=DC _ a b) h c|exact(show False from h).elim
theorem Rs{op:CmpOp}{a b:T}{k:Bool->Prop}{P:Prop}(h:J0 op a b k)(c:∀t,BS op a b=some t->k t->P):P:=by
 cases op with
 |Eq=>exact T4 (o:=BS .Eq) (f:=λi j=>Float64.isNaN i) (g:=λi j=>Float64.cmpInt i j==some .eq) (λi j z=>itf (x:=_) z) h c
 |NotEq=>exact T4 (o:=BS .NotEq) (f:=λi j=>Float64.isNaN i) (g:=λi j=> !(Float64.cmpInt i j==some .eq)) (λi j z=>congrArg (Option.map (!·)) (itf (x:=Float64.cmpInt i j==some .eq) z)) h c
 |Lt=>exact T4 (o:=BS .Lt) (f:=λi j=>Float64.isNaN i) (g:=λi j=>Float64.cmpInt i j==some .lt) (λi j z=>itf (x:=_) z) h c
 |_=>first|exact W_c (o:=BS _ a b) h c|exact(show False from h).elim
noncomputable def Gr(t:T)(Q:Int->Prop):Prop:=match t with
 |.int i=>Q i
 |_=>Bad
noncomputable def Ey(t:T)(Q:Str->Prop):Prop:=match t with
 |.str i=>Q i
 |_=>Bad
noncomputable def XX(t:T)(Q:(Str->Option Int)->Prop):Prop:=match t with
 |.dI f=>Q f
 |_=>Bad
noncomputable def AO(ν:NS)(n:Nat)(Q:Own->Prop):Prop:=match ν.get n with
 |some (.ow o)=>Q o
 |_=>Bad
noncomputable def L0(o:Own)(Q:List T->Prop):Prop:=match o with
 |.list xs=>Q xs
 |_=>Bad
noncomputable def P6(o:Own)(Q:List T->Prop):Prop:=match o with
 |.acc xs=>Q xs
 |_=>Bad
noncomputable def NQ(o:Own)(Q:(Str->Option Int)->Nat->Prop):Prop:=match o with
 |.dI f n=>Q f n
 |_=>Bad
noncomputable def Wg(ν:NS)(n:Nat)(Q:T->Prop):Prop:=match ν.get n with
 |some (.fz t)=>Q t.wk
 |some (.ch c)=>Q (.str c)
 |_=>Bad
noncomputable def Eh(one:T->NS->(List T->NS->Prop)->Prop):List T->NS->(List T->NS->Prop)->Prop
 |[],ν,Q=>Q [] ν
 |t::ts,ν,Q=>one t ν λo ν₁=>Eh one ts ν₁ λo₂ ν₂=>Q (o++o₂) ν₂
noncomputable abbrev Tab:=Nat->List T->(T->Prop)->Prop
section
variable(G:Tab)
mutual
noncomputable def AC:X->NS->(T->NS->Prop)->Prop
 |.v n,ν,Q=>Wg ν n λt=>Q t ν
 |.g n b,ν,Q=>Q (.flt b) ν
 |.k c,ν,Q=>W (Rp c) λt=>Q t ν
 |.bin op a b,ν,Q=>AC a ν λx ν₁=>AC b ν₁ λy ν₂=>TM op x.wf y.wf λc=>Q c ν₂
 |.cmp op a b,ν,Q=>AC a ν λx ν₁=>AC b ν₁ λy ν₂=>J0 op x.wf y.wf λc=>Q (.bool c) ν₂
 |.sub a b,ν,Q=>AC a ν λx ν₁=>AC b ν₁ λy ν₂=>W (Bh x y) λc=>Q c ν₂
 |.slc lo hi st,ν,Q=>Sl lo ν λl ν₁=>Sl hi ν₁ λh ν₂=>Sl st ν₂ λs ν₃=>Q (.slc l h s) ν₃
 |.un op a,ν,Q=>AC a ν λx ν₁=>W (unT op x) λc=>Q c ν₁
 |.ite c a b,ν,Q=>JT c ν λz ν₁=>br z (AC a ν₁ Q) (AC b ν₁ Q)
 |.lst xs,ν,Q=>Li xs ν λts ν₁=>ts.length<=1000/\Q (.list ts) ν₁
 |.tup xs,ν,Q=>Li xs ν λts ν₁=>ts.length<=1000/\Q (.tup ts) ν₁
 |.call f xs,ν,Q=>Li xs ν λts ν₁=>G f ts λt=>Q t ν₁
 |.met m o xs,ν,Q=>AC o ν λx ν₁=>Li xs ν₁ λts ν₂=>Ey x λx=>W (m.run x ts) λc=>Q c ν₂
 |.comp it g fr,ν,Q=>AC it ν λx ν₁=>W (DK x) λts=>Gh fr ν₁ λνi=>Eh (λt ν Q=>Gv g t ν Q) ts νi λout _=>out.length<=4000/\Q (.list out) ν₁
 |.dic it g fr,ν,Q=>AC it ν λx ν₁=>XX x λfd=>∃c,(∀ks:List Str,ks.Nodup->(∀k,k∈ks<->(fd k).isSome=true)->Gh fr ν₁ λνi=>Eh (λt ν Q=>Gv g t ν Q) (ks.map T.str) νi λout _=>out.length<=4000/\∃ps,CD out=some ps/\EL ps=some c)/\Q c ν₁
 |.ap n a,ν,Q=>AO ν n λo=>L0 o λ_=>AC a ν λt ν₁=>AO ν₁ n λo=>L0 o λxs=>xs.length<=1000/\DP ν₁ n (.ow (.list (xs++[t]))) (Q .none)
 |.pa n a,ν,Q=>AO ν n λo=>L0 o λ_=>AC a ν λt ν₁=>AO ν₁ n λo=>L0 o λxs=>xs.length<=1000/\Gr t λi=>Ca i=true/\W (seqIndex? i xs.length) λj=>W (xs[j]?) λc=>DP ν₁ n (.ow (.list (xs.eraseIdx j))) (Q c)
 |.push n a b,ν,Q=>AO ν n λo=>P6 o λ_=>AC a ν λx ν₁=>AC b ν₁ λy ν₂=>AO ν₂ n λo=>P6 o λxs=>xs.length<=1000/\DP ν₂ n (.ow (.acc (xs++[.tup [x,y]]))) (Q .none)
 |.count n,ν,Q=>AO ν n λo=>P6 o λxs=>xs.length<=1000/\Q (.int xs.length) ν
 |.pop n,ν,Q=>AO ν n λo=>P6 o λxs=>xs.length<=1000/\DP ν n (.ow (.acc (JY xs).2)) (Q (JY xs).1)
 |.seti n a b,ν,Q=>AO ν n λo=>NQ o λ_ _=>AC a ν λx ν₁=>AC b ν₁ λy ν₂=>AO ν₂ n λo=>NQ o λf m=>m<=4096/\Ey x λk=>Gr y λi=>DP ν₂ n (.ow (.dI (KW f k i) (m+1))) (Q .none)
 |.subo n a,ν,Q=>AO ν n λo=>NQ o λ_ _=>AC a ν λx ν₁=>AO ν₁ n λo=>NQ o λf m=>Ey x λk=>W (f k) λi=>Q (.int i) ν₁
noncomputable def Sl:O->NS->(Option Int->NS->Prop)->Prop
 |.no,ν,Q=>Q none ν
 |.x a,ν,Q=>AC a ν λt ν₁=>W (Lz t) λp=>Q p ν₁
noncomputable def Li:L->NS->(List T->NS->Prop)->Prop
 |.nil,ν,Q=>Q [] ν
 |.cons a r,ν,Q=>AC a ν λt ν₁=>Li r ν₁ λts ν₂=>Q (t::ts) ν₂
noncomputable def JT:Bx->NS->(Bool->NS->Prop)->Prop
 |.cmp op a b,ν,Q=>AC a ν λx ν₁=>AC b ν₁ λy ν₂=>J0 op x.wf y.wf λc=>Q c ν₂
 |.and xs,ν,Q=>Lj xs ν Q
 |.or xs,ν,Q=>Pf xs ν Q
 |.not b,ν,Q=>JT b ν λc ν₁=>Q (!c) ν₁
 |.srch a,ν,Q=>AC a ν λt ν₁=>Ey t λu=>u.length<=4096/\EF u=true/\Q (Rx.rxB u.cps.toList) ν₁
 |.val a,ν,Q=>AC a ν λt ν₁=>W (WL t) λb=>Q b ν₁
noncomputable def Lj:Bs->NS->(Bool->NS->Prop)->Prop
 |.nil,ν,Q=>Q true ν
 |.cons a r,ν,Q=>JT a ν λc ν₁=>br c (Lj r ν₁ Q) (Q false ν₁)
noncomputable def Pf:Bs->NS->(Bool->NS->Prop)->Prop
 |.nil,ν,Q=>Q false ν
 |.cons a r,ν,Q=>JT a ν λc ν₁=>br c (Q true ν₁) (Pf r ν₁ Q)
noncomputable def IN:Bs->NS->(Bool->NS->Prop)->Prop
 |.nil,ν,Q=>Q true ν
 |.cons a r,ν,Q=>JT a ν λc ν₁=>br c (IN r ν₁ Q) (Q false ν₁)
noncomputable def Gv:Gs->T->NS->(List T->NS->Prop)->Prop
 |.last g ifs elt,t,ν,Q=>BB g t ν λν₁=>IN ifs ν₁ λc ν₂=>br c (AC elt ν₂ λt' ν₃=>Q [t'] ν₃) (Q [] ν₂)
 |.more g ifs it r,t,ν,Q=>BB g t ν λν₁=>IN ifs ν₁ λc ν₂=>br c (AC it ν₂ λx ν₃=>W (DK x) λts=>Eh (λt ν Q=>Gv r t ν Q) ts ν₃ Q) (Q [] ν₂)
end
end
inductive Cr where
 |n (n:Nat)
 |s (x:Str)
 |i (i:Int)
 |l (xs:List Str)
 |d
 |acc
mutual
inductive KX where
 |e (x:X)
 |rep (a:X) (n:Nat) (z:Str)
 |rep1 (a:X) (y z:Str)
 |dv (a b:X)
 |lst (ks:KL)
 |tup (ks:KL)
inductive KL where
 |nil
 |cons (a:KX) (r:KL)
end
mutual
inductive St where
 |asg (g:Tg) (e:X)
 |asgk (n:Nat) (e:KX)
 |asgc (n:Nat) (it:X) (g:Gs) (fr:List Nat)
 |crt (ns:List Nat) (cs:List Cr)
 |crt1 (n:Nat) (c:Cr)
 |swp (ns:List Nat) (es:L)
 |ex (e:X)
 |if_ (c:Bx) (x y:Ss)
 |for_ (g:Tg) (e:X) (body:Ss)
 |fors (n:Nat) (e:X) (body:Ss)
 |ret (e:X)
 |rdiv (a b:X)
 |rown (n:Nat)
 |rdict (n:Nat)
 |rif (c:Bx) (n:Nat)
 |bad
inductive Ss where
 |nil
 |cons (a:St) (r:Ss)
end
inductive Ou where
 |nxt (ν:NS)
 |ret (t:T)
noncomputable def FJ:List Nat->List Slot->NS->(NS->Prop)->Prop
 |n::ns,s::ss,ν,k=>DP ν n s λν'=>FJ ns ss ν' k
 |_,_,ν,k=>k ν
noncomputable def GL:List Nat->List Slot->NS->NS
 |n::ns,s::ss,ν=>GL ns ss (ν.put n s)
 |_,_,ν=>ν
theorem HY:∀(ns:List Nat) (ss:List Slot) (ν:NS) (k:NS->Prop),FJ ns ss ν k=k (GL ns ss ν)
 |[],_=>λ_ _=>rfl
 |_::_,[]=>λ_ _=>rfl
 |n::ns,s::ss=>λν k=>by
  show DP ν n s (λν'=>FJ ns ss ν' k)=k (GL ns ss (ν.put n s));refine rwl (IS ν n s _) ?_;exact HY ns ss _ k
noncomputable def Y4(s:Slot):Option Slot:=match s with
 |.fz t=>some (.fz t.wk)
 |_=>none
noncomputable def Jz(ν:NS):Cr->Option Slot
 |.n n=>(ν.get n).bind Y4
 |.s x=>some (.fz (.str x))
 |.i i=>some (.fz (.int i))
 |.l xs=>some (.ow (.list (xs.map .str)))
 |.d=>some (.ow (.dI (λ_=>none) 0))
 |.acc=>some (.ow (.acc []))
noncomputable def Rn(ν:NS):List Cr->Option (List Slot)
 |[]=>some []
 |c::cs=>(Jz ν c).bind λs=>(Rn ν cs).map λss=>s::ss
noncomputable def Wt(a b:T)(k:UInt64->Prop):Prop:=
 onP a.int? (λi=>onP b.int? (λj=>br (j==0||Float64.isInf (Float64.ofFrac (decide (i<0) !=decide (j<0)) i.natAbs j.natAbs)) Bad (k (Float64.ofFrac (decide (i<0) !=decide (j<0)) i.natAbs j.natAbs))) Bad)
  (onP a.flt? (λi=>onP b.flt? (λj=>br (Float64.isZero j) Bad (k (Float64.div i j))) Bad) Bad)
noncomputable def QH(ν:NS)(n:Nat)(Q:Str->Prop):Prop:=match ν.get n with
 |some (.ch y)=>Q y
 |_=>Bad
noncomputable def isNone(t:T)(Q:Prop):Prop:=match t with
 |.none=>Q
 |_=>Bad
noncomputable def BZ(asg:T->NS->(NS->Prop)->Prop)(body:NS->(Ou->Prop)->Prop):List T->NS->(Ou->Prop)->Prop
 |[],ν,Q=>Q (.nxt ν)
 |t::ts,ν,Q=>asg t ν λν₁=>body ν₁ λo=>match o with
  |.nxt ν₂=>D0 ν ν₂ λν'=>BZ asg body ts ν' Q
  |.ret v=>Q (.ret v)
noncomputable def Hw(y:Nat)(body:NS->(Ou->Prop)->Prop):List Nat->NS->(Ou->Prop)->Prop
 |[],ν,Q=>Q (.nxt ν)
 |c::cs,ν,Q=>DP ν y (.ch ⟨#[c]⟩) λν'=>body ν' λo=>match o with
  |.nxt ν₂=>D0 ν ν₂ λν'=>MC ν' λν'=>Hw y body cs ν' Q
  |.ret v=>Q (.ret v)
section
variable(G:Tab)
mutual
noncomputable def Vi:KX->NS->(T->NS->Prop)->Prop
 |.e x,ν,Q=>AC G x ν Q
 |.rep a n z,ν,Q=>AC G a ν λt ν₁=>Ey t λu=>QH ν₁ n λy=>(y==z)=false/\u.length<=4096/\z.length<=14/\Q (.str (Txt.replace u y z)) ν₁
 |.rep1 a y z,ν,Q=>AC G a ν λt ν₁=>Ey t λu=>(y==z)=false/\u.length<=4096/\z.length<=14/\(Ba u y z).length<=4096/\Q (.str (Ba u y z)) ν₁
 |.dv a b,ν,Q=>AC G a ν λx ν₁=>AC G b ν₁ λy ν₂=>Wt x.wf y.wf λq=>Q (.fn q) ν₂
 |.lst ks,ν,Q=>Mt ks ν λts ν₁=>ts.length<=1000/\Q (.list ts) ν₁
 |.tup ks,ν,Q=>Mt ks ν λts ν₁=>ts.length<=1000/\Q (.tup ts) ν₁
noncomputable def Mt:KL->NS->(List T->NS->Prop)->Prop
 |.nil,ν,Q=>Q [] ν
 |.cons a r,ν,Q=>Vi a ν λt ν₁=>Mt r ν₁ λts ν₂=>Q (t::ts) ν₂
end
mutual
noncomputable def Ay:St->NS->(Ou->Prop)->Prop
 |.asg g e,ν,Q=>AC G e ν λt ν₁=>BB g t ν₁ λν₂=>Q (.nxt ν₂)
 |.asgk n e,ν,Q=>Vi G e ν λt ν₁=>DP ν₁ n (.fz t) λν'=>Q (.nxt ν')
 |.asgc n it g fr,ν,Q=>AC G it ν λx ν₁=>W (DK x) λts=>Gh fr ν₁ λνi=>Eh (λt ν Q=>Gv G g t ν Q) ts νi λout _=>out.length<=4000/\DP ν₁ n (.fz (.list out)) λν'=>Q (.nxt ν')
 |.crt ns cs,ν,Q=>W (Rn ν cs) λsls=>FJ ns.reverse sls.reverse ν λν'=>Q (.nxt ν')
 |.crt1 n c,ν,Q=>W (Jz ν c) λs=>DP ν n s λν'=>Q (.nxt ν')
 |.swp ns es,ν,Q=>Li G es ν λus ν₁=>us.length<=1000/\us.length=ns.length/\FJ ns.reverse (us.map Slot.fz).reverse ν₁ λν'=>Q (.nxt ν')
 |.ex e,ν,Q=>AC G e ν λt ν₁=>isNone t (Q (.nxt ν₁))
 |.if_ c x y,ν,Q=>JT G c ν λb ν₁=>br b (Aq x ν₁ Q) (Aq y ν₁ Q)
 |.for_ g e body,ν,Q=>AC G e ν λt ν₁=>W (DK t) λts=>BZ (BB g) (λν Q=>Aq body ν Q) ts ν₁ Q
 |.fors n e body,ν,Q=>AC G e ν λt ν₁=>Ey t λu=>u.cps.all (·<128)=true/\Hw n (λν Q=>Aq body ν Q) u.cps.toList ν₁ Q
 |.ret e,ν,Q=>AC G e ν λt _=>Q (.ret t)
 |.rdiv a b,ν,Q=>AC G a ν λx ν₁=>AC G b ν₁ λy _=>Wt x.wf y.wf λq=>Q (.ret (.fn q))
 |.rown n,ν,Q=>AO ν n λo=>L0 o λxs=>Q (.ret (.list xs))
 |.rdict n,ν,Q=>AO ν n λo=>NQ o λf m=>m<=4096/\Q (.ret (.dI f))
 |.rif c n,ν,Q=>JT G c ν λb ν₁=>AO ν₁ n λo=>L0 o λxs=>Q (.ret (if b then .list xs else .none))
 |.bad,ν,Q=>Bad
noncomputable def Aq:Ss->NS->(Ou->Prop)->Prop
 |.nil,ν,Q=>Q (.nxt ν)
 |.cons a r,ν,Q=>Ay a ν λo=>match o with
  |.nxt ν₁=>Aq r ν₁ Q
  |.ret t=>Q (.ret t)
end
end
noncomputable def dig:Nat->Nat->List Nat
 |0,_=>[]
 |f+1,n=>bif Nat.beq n 0 then [] else(n%256)::dig f (n/256)
noncomputable def nm(n:Nat):Str:=⟨(dig n n).toArray⟩
noncomputable def val:List Nat->Nat
 |[]=>0
 |c::r=>c+256*val r
theorem val_dig:∀(f n:Nat),n<256^f->val (dig f n)=n
 |0=>λn h=>by simp at h;subst h;rfl
 |f+1=>λn h=>by
  show val (bif Nat.beq n 0 then [] else(n%256)::dig f (n/256))=n
  cases q:Nat.beq n 0 with
  |true=>have:=Nat.eq_of_beq_eq_true q;subst this;rfl
  |false=>
   have h1:n/256<256^f:=by rw [Nat.div_lt_iff_lt_mul (by decide)];rw [Nat.pow_succ] at h;exact h
   show n%256+256*val (dig f (n/256))=n;refine rwl (val_dig f _ h1) ?_;(exact Nat.mod_add_div n 256)
theorem Qb{a b:Nat}(h:nm a=nm b):a=b:=by
 have h1:dig a a=dig b b:=by
  have:=congrArg (λs=>s.cps.toList) h
  simpa [nm] using this
 have lt:∀n:Nat,n<256^n:=λn=>Nat.lt_pow_self (by decide)
 rw [←val_dig a a (lt a),←val_dig b b (lt b),h1]
noncomputable def den(ν:NS):Sig:=ν.map λp=>(nm p.1,p.2)
theorem Ch(n:Nat):∀ν:NS,(den ν).lookup (nm n)=ν.get n
 |[]=>rfl
 |(m,s)::r=>by
  show List.lookup (nm n) ((nm m,s)::den r)=_;refine rwl AE ?_;show _=bif Nat.beq n m then some s else NS.get r n
  cases q:Nat.beq n m with
  |true=>have:=Nat.eq_of_beq_eq_true q;subst this;simp
  |false=>
   have:nm n≠nm m:=λe=>by rw [Qb e,Nat.beq_refl] at q;cases q
   refine rwl (if_neg this) ?_;exact Ch n r
theorem IR(n:Nat)(s:Slot)(x:Str):∀ν:NS,(den (ν.put n s)).lookup x=((nm n,s)::den ν).lookup x
 |[]=>rfl
 |(m,t)::r=>by
  show(den (bif Nat.beq n m then(m,s)::r else(m,t)::NS.put r n s)).lookup x=_
  cases q:Nat.beq n m with
  |true=>
   have:=Nat.eq_of_beq_eq_true q;subst this;show List.lookup x ((nm n,s)::den r)=List.lookup x ((nm n,s)::(nm n,t)::den r);simp only [AE]
   split<;>rfl
  |false=>
   have ne:n≠m:=λe=>by rw [e,Nat.beq_refl] at q;cases q
   show List.lookup x ((nm m,t)::den (NS.put r n s))=List.lookup x ((nm n,s)::(nm m,t)::den r)
   (refine rwl AE ?_;refine rwl (IR n s x r) ?_)
   simp only [AE]
   by_cases h1:x=nm m
   ·have h2:x≠nm n:=λe=>ne (Qb (e.symm.trans h1))
    (refine rwl (if_pos h1) ?_;refine rwl (if_neg h2) ?_;refine rwl (if_pos h1) ?_;rfl)
   ·(refine rwl (if_neg h1) ?_;refine rwl (if_neg h1) ?_;rfl)
theorem TC{ν:NS}{x:Str}{s:Slot}(h:(den ν).lookup x=some s):∃n,x=nm n/\(n,s)∈ν:=by
 have:=BY h;obtain⟨⟨n,s'⟩,hm,e⟩:=mM this
 cases e
 exact⟨n,rfl,hm⟩
theorem HZ{a b:NS}{x:Str}{s:Slot}(h:(den (a.restr b)).lookup x=some s):(den b).lookup x=some s:=by
 obtain⟨n,rfl,hm⟩:=TC h;rw [Ch];obtain⟨⟨m,t⟩,_,e⟩:=List.mem_filterMap.mp hm
 cases q:b.get m with
 |none=>rw [q] at e;cases e
 |some s'=>rw [q] at e;cases e;exact q
theorem T0(fr:List Nat)(ν:NS):den (NU fr ν)=frz (fr.map nm) (den ν):=by
 induction fr with
 |nil=>rfl
 |cons n r ih=>
  unfold NU frz at*
  (simp only [List.map_cons,List.filterMap_cons,List.filterMap_cons,Ch])
  cases q:ν.get n with
  |none=>exact ih
  |some s=>cases s with
   |fz t=>show(nm n,Slot.fz t)::den _=_::_;(exact congrArg _ (ih))
   |ow o=>exact ih
   |ch c=>exact ih
theorem TD(ν:NS):den (SS ν)=dem (den ν):=by
 unfold den SS dem
 (refine rwl List.map_map ?_;refine rwl List.map_map ?_)
 rfl
noncomputable def Le(σ' σ:Sig):Prop:=∀x s,σ'.lookup x=some s->σ.lookup x=some s
theorem Le.refl(σ:Sig):Le σ σ:=λ_ _ h=>h
theorem Le.put{ν:NS}{n:Nat}{s:Slot}:Le (den (ν.put n s)) ((nm n,s)::den ν):=λx s' h=>by rw [←IR];exact h
section
variable{prog:Program}{w:World}{C:Cx}{B:Heap}{A:Around}{H0 Mu:List Addr}{env:Env}{σ σ₁ σ₂:Sig}{ad:Str->Addr}{h:Heap}{e:Expr}{t:T}{b:Bool}
theorem Fm.fewer(F:Fm prog w C B H0 Mu env σ ad h)(l:Le σ₁ σ):Fm prog w C B H0 Mu env σ₁ ad h where
 kind:=F.kind
 glob:=F.glob
 blt:=F.blt
 base:=F.base
 off:=F.off
 live:=F.live
 apart:=F.apart
 ns:=F.ns
 lmu:=F.lmu
 cells:=F.cells
 cmu:=F.cmu
 capart:=F.capart
 vars:=λx t e=>F.vars x t (l _ _ e)
 owns:=λx o e=>F.owns x o (l _ _ e)
 oapart:=λx y o o' e e'=>F.oapart x y o o' (l _ _ e) (l _ _ e')
 chs:=λx c e=>F.chs x c (l _ _ e)
theorem PE.post(p:PE prog w C B A env e σ t σ₁)(l:Le σ₂ σ₁):PE prog w C B A env e σ t σ₂:=λH0 Mu ad s Q E F hQ=>p H0 Mu ad s Q E F λv h' k kp F' hv=>hQ v h' k kp (F'.fewer l) hv
theorem PA.post(p:PA prog w C B A env e σ t σ₁)(l:Le σ₂ σ₁):PA prog w C B A env e σ t σ₂:=λH0 Mu ad s v Q E F hv hQ=>p H0 Mu ad s v Q E F hv λh' k kp F'=>hQ h' k kp (F'.fewer l)
theorem PS.post{ss:List Stmt}(p:PS prog w C B A env ss σ (.nxt σ₁))(l:Le σ₂ σ₁):PS prog w C B A env ss σ (.nxt σ₂):=λH0 Mu ad s Q E ht F hQ=>p H0 Mu ad s Q E ht F λfl h' k nw ad' fn kp ok=>hQ fl h' k nw ad' fn kp ⟨ok.1,ok.2.fewer l⟩
theorem PX.post{st:Stmt}(p:PX prog w C B A env st σ (.nxt σ₁))(l:Le σ₂ σ₁):PX prog w C B A env st σ (.nxt σ₂):=λH0 Mu ad s Q E ht F hQ=>p H0 Mu ad s Q E ht F λfl h' k nw ad' fn kp ok=>hQ fl h' k nw ad' fn kp ⟨ok.1,ok.2.fewer l⟩
end
noncomputable def T9(f:Fs):Env:=callEnv {(default:FuncData) with scope:={(default:Scope) with kind:=.function,names:=f.names}} 0 0
theorem KI{C:Cx}{env:Env}{f:Fs}(lk:Lk C env f):env.kindOf=(T9 f).kindOf:=by
 funext x
 unfold Env.kindOf;refine rwl lk.names ?_;rfl
theorem Nb{C:Cx}{env:Env}{f:Fs}(lk:Lk C env f):env.blockKind=(T9 f).blockKind:=by
 unfold Env.blockKind;refine rwl lk.kind ?_;rfl
noncomputable def Ml(f:Fs)(value:Expr)(target:Option Expr)(line:Nat):Option Bool:=pureOf (swapsWith value target line (T9 f))
theorem Dl{C:Cx}{env:Env}{f:Fs}(lk:Lk C env f){v:Expr}{tg:Option Expr}{b:Bool}{line:Nat}(h:Ml f v tg line=some b):swapsWith v tg line env=pure b:=by
 refine rwr (of_pureOf h) ?_;unfold swapsWith
 (refine rwl (Nb lk) ?_;refine rwl (KI lk) ?_;refine rwl lk.kind ?_)
 rfl
noncomputable def Lb(f:Fs)(targets:List Expr)(value:Expr):Option (Option (List Str)):=pureOf (swappedStores targets value (T9 f))
theorem C6{C:Cx}{env:Env}{f:Fs}(lk:Lk C env f){tgs:List Expr}{v:Expr}{r:Option (List Str)}(h:Lb f tgs v=some r):swappedStores tgs v env=pure r:=by
 refine rwr (of_pureOf h) ?_;unfold swappedStores
 (refine rwl (Nb lk) ?_;refine rwl (KI lk) ?_;rfl)
noncomputable def glo(f:Fs)(x:Str):Bool:=f.names.lookup x==some .globalImplicit
noncomputable def JL(f:Fs)(x:Str):Bool:=f.names.lookup x==some .local||(f.names.lookup x==some .cell&&f.st.contains x&&f.cn.contains x)
noncomputable def dbg(x:Str):Bool:= !(x==("__debug__":Str))
noncomputable def R4(cs:List Comprehension):Bool:=cs.all λc=>decide (c.is_async=0)&&CE c.iter
noncomputable def gtab:List (Nat×UInt64):=[(1260307946923872308815,4599676419421066581),(1334243261626653691471,4595172819793696085),(1260307946923872966484,4604180019048437077)]
noncomputable def p0:Pos:=⟨0,0,0,0⟩
noncomputable def dE:Expr:=.Name "" p0
noncomputable def Ah(e:Expr):Pos:=e.pos
noncomputable def vl(l:List Expr):List Expr×Nat×List Comprehension×List (Option Expr)×Scope:=(l,0,[],[],default)
noncomputable def vw:Expr->List Expr×Nat×List Comprehension×List (Option Expr)×Scope
 |.BoolOp _ vs _=>vl vs|.BinOp a _ b _=>vl [a,b]|.UnaryOp _ a _=>vl [a]|.IfExp a b c _=>vl [a,b,c]|.Compare a _ bs _=>vl (a::bs)|.Call f as _ _=>vl (f::as)|.Attribute a _ _=>vl [a]
 |.Subscript a b _=>vl [a,b]|.List es _=>vl es|.Tuple es k _=>(es,k,[],[],default)|.ListComp e gs s _=>([e],0,gs,[],s)|.Constant _ k _=>([],k,[],[],default)|.Slice a b c _=>([],0,[],[a,b,c],default)
 |.Lambda _ b s _=>([b],0,[],[],s)
 |_=>vl []
noncomputable def AA(e:Expr):List Expr:=(vw e).1
noncomputable def knE(e:Expr):Nat:=(vw e).2.1
noncomputable def AP(e:Expr):List Comprehension:=(vw e).2.2.1
noncomputable def Jn(e:Expr)(i:Nat):Option Expr:=(vw e).2.2.2.1.getD i none
noncomputable def EQ(e:Expr):Scope:=(vw e).2.2.2.2
noncomputable def kid(e:Expr)(i:Nat):Expr:=(AA e).getD i dE
noncomputable def dC:Comprehension:=⟨dE,dE,[],0⟩
noncomputable def exNs:List Nat->List Expr->List Expr
 |[],_=>[]
 |n::ns,es=>.Name (nm n) (Ah (es.headD dE))::exNs ns es.tail
noncomputable def exT(g:Tg)(e:Expr):Expr:=match g with
 |.v n=>.Name (nm n) (Ah e)
 |.t ns=>.Tuple (exNs ns (AA e)) (knE e) (Ah e)
noncomputable def J5(o:Expr)(m:Str)(es:List Expr)(e:Expr):Expr:=.Call (.Attribute o m (Ah (kid e 0))) es [] (Ah e)
noncomputable def nmA(n:Nat)(e:Expr):Expr:=.Name (nm n) (Ah (kid (kid e 0) 0))
mutual
noncomputable def exE:X->Expr->Expr
 |.v n,e=>.Name (nm n) (Ah e)
 |.g n _,e=>.Name (nm n) (Ah e)
 |.k c,e=>.Constant c (knE e) (Ah e)
 |.bin op a b,e=>.BinOp (exE a (kid e 0)) op (exE b (kid e 1)) (Ah e)
 |.cmp op a b,e=>.Compare (exE a (kid e 0)) [op] [exE b (kid e 1)] (Ah e)
 |.sub a b,e=>.Subscript (exE a (kid e 0)) (exE b (kid e 1)) (Ah e)
 |.slc lo hi st,e=>.Slice (exO lo (Jn e 0)) (exO hi (Jn e 1)) (exO st (Jn e 2)) (Ah e)
 |.un op a,e=>.UnaryOp op (exE a (kid e 0)) (Ah e)
 |.ite c a b,e=>.IfExp (exB c (kid e 0)) (exE a (kid e 1)) (exE b (kid e 2)) (Ah e)
 |.lst xs,e=>.List (exL xs (AA e)) (Ah e)
 |.tup xs,e=>.Tuple (exL xs (AA e)) (knE e) (Ah e)
 |.call fn xs,e=>.Call (.Name (nm fn) (Ah (kid e 0))) (exL xs (AA e).tail) [] (Ah e)
 |.met m o xs,e=>J5 (exE o (kid (kid e 0) 0)) m.name (exL xs (AA e).tail) e
 |.comp it g _,e=>.ListComp (QV g (kid e 0)) (gHd g (exE it ((AP e).headD dC).iter) (AP e)::gTl g (AP e)) (EQ e) (Ah e)
 |.dic it g _,e=>.Call (.Name "dict" (Ah (kid e 0))) [.ListComp (QV g (kid (kid e 1) 0)) [gHd g (exE it ((AP (kid e 1)).headD dC).iter) (AP (kid e 1))] (EQ (kid e 1)) (Ah (kid e 1))] [] (Ah e)
 |.ap n a,e=>J5 (nmA n e) "append" [exE a (kid e 1)] e
 |.pa n a,e=>J5 (nmA n e) "pop" [exE a (kid e 1)] e
 |.push n a b,e=>J5 (nmA n e) "push" [exE a (kid e 1),exE b (kid e 2)] e
 |.count n,e=>J5 (nmA n e) "part_count" [] e
 |.pop n,e=>J5 (nmA n e) "pop" [] e
 |.seti n a b,e=>.Call (.Name "setitem" (Ah (kid e 0))) [.Name (nm n) (Ah (kid e 1)),exE a (kid e 2),exE b (kid e 3)] [] (Ah e)
 |.subo n a,e=>.Subscript (.Name (nm n) (Ah (kid e 0))) (exE a (kid e 1)) (Ah e)
noncomputable def exO:O->Option Expr->Option Expr
 |.no,_=>none
 |.x a,e=>some (exE a (e.getD dE))
noncomputable def exL:L->List Expr->List Expr
 |.nil,_=>[]
 |.cons a r,es=>exE a (es.headD dE)::exL r es.tail
noncomputable def exB:Bx->Expr->Expr
 |.cmp op a b,e=>.Compare (exE a (kid e 0)) [op] [exE b (kid e 1)] (Ah e)
 |.and xs,e=>.BoolOp .And (HO xs (AA e)) (Ah e)
 |.or xs,e=>.BoolOp .Or (HO xs (AA e)) (Ah e)
 |.not b,e=>.UnaryOp .Not (exB b (kid e 0)) (Ah e)
 |.srch a,e=>J5 (.Name "IPV4_RE" (Ah (kid (kid e 0) 0))) "search" [exE a (kid e 1)] e
 |.val a,e=>exE a e
noncomputable def HO:Bs->List Expr->List Expr
 |.nil,_=>[]
 |.cons a r,es=>exB a (es.headD dE)::HO r es.tail
noncomputable def gHd:Gs->Expr->List Comprehension->Comprehension
 |.last g ifs _,it,cs=>⟨exT g (cs.headD dC).target,it,HO ifs (cs.headD dC).ifs,0⟩
 |.more g ifs _ _,it,cs=>⟨exT g (cs.headD dC).target,it,HO ifs (cs.headD dC).ifs,0⟩
noncomputable def gTl:Gs->List Comprehension->List Comprehension
 |.last _ _ _,_=>[]
 |.more _ _ it' r,cs=>gHd r (exE it' (cs.tail.headD dC).iter) cs.tail::gTl r cs.tail
noncomputable def QV:Gs->Expr->Expr
 |.last _ _ elt,e=>exE elt e
 |.more _ _ _ r,e=>QV r e
end
noncomputable def XR(f:Fs)(ns:List Nat):Bool:=ns.all λn=>JL f (nm n)
noncomputable def ckT(f:Fs)(g:Tg):Bool:=match g with
 |.v n=>JL f (nm n)
 |.t ns=>XR f ns
noncomputable def ckA(e:Expr):Bool:=(Ah (kid e 0)).endLine==(Ah e).line
noncomputable def VW(g:Gs):Bool:=match g with
 |.last .. =>true
 |.more .. =>false
mutual
noncomputable def ckE(f:Fs):X->Expr->Bool
 |.v n,_=>dbg (nm n)
 |.g n b,_=>dbg (nm n)&&(glo f (nm n)&&gtab.contains (n,b))
 |.k _,_=>true
 |.bin _ a b,e=>ckE f a (kid e 0)&&ckE f b (kid e 1)
 |.cmp op a b,e=> !behindInMarks op (exE b (kid e 1))&&(ckE f a (kid e 0)&&ckE f b (kid e 1))
 |.sub a b,e=>ckE f a (kid e 0)&&ckE f b (kid e 1)
 |.slc lo hi st,e=>ckO f lo (Jn e 0)&&(ckO f hi (Jn e 1)&&ckO f st (Jn e 2))
 |.un _ a,e=>ckE f a (kid e 0)
 |.ite c a b,e=>ckB f c (kid e 0)&&(ckE f a (kid e 1)&&ckE f b (kid e 2))
 |.lst xs,e=>(exL xs (AA e)).all plainE&&ckL f xs (AA e)
 |.tup xs,e=>(exL xs (AA e)).all plainE&&ckL f xs (AA e)
 |.call fn xs,e=>dbg (nm fn)&&(glo f (nm fn)&&((exL xs (AA e).tail).all plainE&&ckL f xs (AA e).tail))
 |.met _ o xs,e=>C2 (exE o (kid (kid e 0) 0))&&(ckA e&&(decide ((exL xs (AA e).tail).length<30)&&((exL xs (AA e).tail).all plainE&&(ckE f o (kid (kid e 0) 0)&&ckL f xs (AA e).tail))))
 |.comp it g fr,e=>Cc f (EQ e)&&(R4 (gHd g (exE it ((AP e).headD dC).iter) (AP e)::gTl g (AP e))&&(decide (DM (EQ e).names=fr.map nm)&&(ckE f it ((AP e).headD dC).iter&&ckG (Dg f (EQ e)) g (AP e) (kid e 0))))
 |.dic it g fr,e=>VW g&&(glo f "dict"&&(Cc f (EQ (kid e 1))&&(R4 [gHd g (exE it ((AP (kid e 1)).headD dC).iter) (AP (kid e 1))]&&(decide (DM (EQ (kid e 1)).names=fr.map nm)&&(ckE f it ((AP (kid e 1)).headD dC).iter&&ckG (Dg f (EQ (kid e 1))) g (AP (kid e 1)) (kid (kid e 1) 0))))))
 |.ap n a,e=>dbg (nm n)&&(ckA e&&(plainE (exE a (kid e 1))&&ckE f a (kid e 1)))
 |.pa n a,e=>dbg (nm n)&&(ckA e&&(plainE (exE a (kid e 1))&&ckE f a (kid e 1)))
 |.push n a b,e=>dbg (nm n)&&(ckA e&&(plainE (exE a (kid e 1))&&(plainE (exE b (kid e 2))&&(ckE f a (kid e 1)&&ckE f b (kid e 2)))))
 |.count n,e=>dbg (nm n)&&ckA e
 |.pop n,e=>dbg (nm n)&&ckA e
 |.seti n a b,e=>glo f "setitem"&&(dbg (nm n)&&(plainE (exE a (kid e 2))&&(plainE (exE b (kid e 3))&&(ckE f a (kid e 2)&&ckE f b (kid e 3)))))
 |.subo n a,e=>dbg (nm n)&&ckE f a (kid e 1)
noncomputable def ckO(f:Fs):O->Option Expr->Bool
 |.no,_=>true
 |.x a,e=>ckE f a (e.getD dE)
noncomputable def ckL(f:Fs):L->List Expr->Bool
 |.nil,_=>true
 |.cons a r,es=>ckE f a (es.headD dE)&&ckL f r es.tail
noncomputable def ckB(f:Fs):Bx->Expr->Bool
 |.cmp op a b,e=> !behindInMarks op (exE b (kid e 1))&&(ckE f a (kid e 0)&&ckE f b (kid e 1))
 |.and xs,e=>KN f xs (AA e)
 |.or xs,e=>KN f xs (AA e)
 |.not b,e=>ckB f b (kid e 0)
 |.srch a,e=>glo f "IPV4_RE"&&(ckA e&&(plainE (exE a (kid e 1))&&ckE f a (kid e 1)))
 |.val a,e=> !C2 (exE a e)&&ckE f a e
noncomputable def KN(f:Fs):Bs->List Expr->Bool
 |.nil,_=>true
 |.cons a r,es=>ckB f a (es.headD dE)&&KN f r es.tail
noncomputable def ckG(f:Fs):Gs->List Comprehension->Expr->Bool
 |.last g ifs elt,cs,e=>ckT f g&&(KN f ifs (cs.headD dC).ifs&&ckE f elt e)
 |.more g ifs it r,cs,e=>ckT f g&&(KN f ifs (cs.headD dC).ifs&&(ckE f it (cs.tail.headD dC).iter&&ckG f r cs.tail e))
end
noncomputable def BV(s:Stmt):Pos:=s.pos
noncomputable def vwS:Stmt->Expr×Expr×List Stmt×List Stmt
 |.Assign ts v _=>(ts.headD dE,v,[],[])|.If t b c _=>(dE,t,b,c)|.For t i b _ _=>(t,i,b,[])|.Return v _=>(dE,v.getD dE,[],[])|.Expr v _=>(dE,v,[],[])
 |_=>(dE,dE,[],[])
noncomputable def tgS(s:Stmt):Expr:=(vwS s).1
noncomputable def Ad(s:Stmt):Expr:=(vwS s).2.1
noncomputable def DS(s:Stmt):List Stmt:=(vwS s).2.2.1
noncomputable def Wp(s:Stmt):List Stmt:=(vwS s).2.2.2
mutual
noncomputable def exK:KX->Expr->Expr
 |.e x,e=>exE x e
 |.rep a n z,e=>J5 (exE a (kid (kid e 0) 0)) "replace" [.Name (nm n) (Ah (kid e 1)),.Constant (.str z) (knE (kid e 2)) (Ah (kid e 2))] e
 |.rep1 a y z,e=>J5 (exE a (kid (kid e 0) 0)) "replace" [.Constant (.str y) (knE (kid e 1)) (Ah (kid e 1)),.Constant (.str z) (knE (kid e 2)) (Ah (kid e 2)),.Constant (.int 1) (knE (kid e 3)) (Ah (kid e 3))] e
 |.dv a b,e=>.BinOp (exE a (kid e 0)) .Div (exE b (kid e 1)) (Ah e)
 |.lst ks,e=>.List (LS ks (AA e)) (Ah e)
 |.tup ks,e=>.Tuple (LS ks (AA e)) (knE e) (Ah e)
noncomputable def LS:KL->List Expr->List Expr
 |.nil,_=>[]
 |.cons a r,es=>exK a (es.headD dE)::LS r es.tail
end
mutual
noncomputable def ckK(f:Fs)(tk:Bool):KX->Expr->Bool
 |.e x,e=>ckE f x e
 |.rep a n z,e=>C2 (exE a (kid (kid e 0) 0))&&(ckA e&&(dbg (nm n)&&ckE f a (kid (kid e 0) 0)))
 |.rep1 a y z,e=>tk&&(C2 (exE a (kid (kid e 0) 0))&&(ckA e&&ckE f a (kid (kid e 0) 0)))
 |.dv a b,e=>tk&&(ckE f a (kid e 0)&&ckE f b (kid e 1))
 |.lst ks,e=>(LS ks (AA e)).all plainE&&TH f tk ks (AA e)
 |.tup ks,e=>(LS ks (AA e)).all plainE&&TH f tk ks (AA e)
noncomputable def TH(f:Fs)(tk:Bool):KL->List Expr->Bool
 |.nil,_=>true
 |.cons a r,es=>ckK f tk a (es.headD dE)&&TH f tk r es.tail
end
noncomputable def csL:List Str->List Expr->List (Str×Nat×Pos)
 |[],_=>[]
 |y::ys,es=>(y,knE (es.headD dE),Ah (es.headD dE))::csL ys es.tail
theorem TG(ys:List Str):∀es,(csL ys es).map (·.1)=ys:=by
 induction ys with
 |nil=>exactλ_=>rfl
 |cons y ys ih=>exactλes=>congrArg (y:: ·) (ih es.tail)
noncomputable def T7(c:Cr)(e:Expr):Expr:=match c with
 |.n n=>.Name (nm n) (Ah e)
 |.s y=>.Constant (.str y) (knE e) (Ah e)
 |.i y=>.Constant (.int y) (knE e) (Ah e)
 |.l ys=>.List ((csL ys (AA e)).map mkC) (Ah e)
 |.d=>.Dict [] [] (Ah e)
 |.acc=>.Call (.Name "_Accumulator" (Ah (kid e 0))) [] [] (Ah e)
noncomputable def W0(f:Fs)(c:Cr)(e:Expr):Bool:=match c with
 |.n n=>dbg (nm n)
 |.l ys=>decide (ys.length<=1000)
 |.acc=>glo f "_Accumulator"
 |_=>true
noncomputable def Gp:List Cr->List Expr->List Expr
 |[],_=>[]
 |c::cs,es=>T7 c (es.headD dE)::Gp cs es.tail
noncomputable def Rt(f:Fs):List Cr->List Expr->Bool
 |[],_=>true
 |c::cs,es=>W0 f c (es.headD dE)&&Rt f cs es.tail
noncomputable def T6(e:Expr):Expr:=.Tuple (AA e) (knE e) (Ah e)
noncomputable def XH(it:X)(g:Gs)(e:Expr):Expr:=.ListComp (QV g (kid e 0)) (gHd g (exE it ((AP e).headD dC).iter) (AP e)::gTl g (AP e)) (EQ e) (Ah e)
noncomputable def swN(f:Fs)(ns:List Nat)(t v:Expr):Bool:=decide (Lb f [t] v=some (some (ns.map nm)))&&((ns.map nm).all λx=>f.names.lookup x==some .local)
noncomputable def sw0(f:Fs)(t v:Expr)(l:Nat):Bool:=decide (Ml f v (some t) l=some false)&&decide (Lb f [t] v=some none)
noncomputable def Cr.own:Cr->Bool
 |.l _=>true
 |.d=>true
 |.acc=>true
 |_=>false
mutual
noncomputable def exS:St->Stmt->Stmt
 |.asg g e,s=>.Assign [exT g (tgS s)] (exE e (Ad s)) (BV s)
 |.asgk n e,s=>.Assign [.Name (nm n) (Ah (tgS s))] (exK e (Ad s)) (BV s)
 |.asgc n it g _,s=>.Assign [.Name (nm n) (Ah (tgS s))] (XH it g (Ad s)) (BV s)
 |.crt _ cs,s=>.Assign [T6 (tgS s)] (.Tuple (Gp cs (AA (Ad s))) (knE (Ad s)) (Ah (Ad s))) (BV s)
 |.crt1 n c,s=>.Assign [.Name (nm n) (Ah (tgS s))] (T7 c (Ad s)) (BV s)
 |.swp _ es,s=>.Assign [T6 (tgS s)] (.Tuple (exL es (AA (Ad s))) (knE (Ad s)) (Ah (Ad s))) (BV s)
 |.ex e,s=>.Expr (exE e (Ad s)) (BV s)
 |.if_ c x y,s=>.If (exB c (Ad s)) (BM x (DS s)) (BM y (Wp s)) (BV s)
 |.for_ g e b,s=>.For (exT g (tgS s)) (exE e (Ad s)) (BM b (DS s)) [] (BV s)
 |.fors n e b,s=>.For (.Name (nm n) (Ah (tgS s))) (exE e (Ad s)) (BM b (DS s)) [] (BV s)
 |.ret e,s=>.Return (some (exE e (Ad s))) (BV s)
 |.rdiv a b,s=>.Return (some (.BinOp (exE a (kid (Ad s) 0)) .Div (exE b (kid (Ad s) 1)) (Ah (Ad s)))) (BV s)
 |.rown n,s=>.Return (some (.Name (nm n) (Ah (Ad s)))) (BV s)
 |.rdict n,s=>.Return (some (.Name (nm n) (Ah (Ad s)))) (BV s)
 |.rif c n,s=>.Return (some (.IfExp (exB c (kid (Ad s) 0)) (.Name (nm n) (Ah (kid (Ad s) 1))) (.Constant .none (knE (kid (Ad s) 2)) (Ah (kid (Ad s) 2))) (Ah (Ad s)))) (BV s)
 |.bad,s=>s
noncomputable def BM:Ss->List Stmt->List Stmt
 |.nil,_=>[]
 |.cons a r,ss=>exS a (ss.headD (.Pass p0))::BM r ss.tail
end
mutual
noncomputable def ckS(f:Fs)(tk:Bool):St->Stmt->Bool
 |.asg g e,s=>ckT f g&&(ckE f e (Ad s)&&sw0 f (exT g (tgS s)) (exE e (Ad s)) (BV s).line)
 |.asgk n e,s=>JL f (nm n)&&(ckK f tk e (Ad s)&&sw0 f (.Name (nm n) (Ah (tgS s))) (exK e (Ad s)) (BV s).line)
 |.asgc n it g fr,s=>JL f (nm n)&&(ckE f (.comp it g fr) (Ad s)&&decide (Ml f (XH it g (Ad s)) (some (.Name (nm n) (Ah (tgS s)))) (BV s).line=some true))
 |.crt ns cs,s=>(Gp cs (AA (Ad s))).all plainE&&(decide ((Gp cs (AA (Ad s))).length<=1000)&&(decide (ns.length=(Gp cs (AA (Ad s))).length)&&(Rt f cs (AA (Ad s))&&swN f ns (T6 (tgS s)) (.Tuple (Gp cs (AA (Ad s))) (knE (Ad s)) (Ah (Ad s))))))
 |.crt1 n c,s=>decide (f.names.lookup (nm n)=some .local)&&(c.own&&(W0 f c (Ad s)&&sw0 f (.Name (nm n) (Ah (tgS s))) (T7 c (Ad s)) (BV s).line))
 |.swp ns es,s=>(exL es (AA (Ad s))).all plainE&&(ckL f es (AA (Ad s))&&swN f ns (T6 (tgS s)) (.Tuple (exL es (AA (Ad s))) (knE (Ad s)) (Ah (Ad s))))
 |.ex e,s=>ckE f e (Ad s)&&decide (Ml f (exE e (Ad s)) none (BV s).line=some false)
 |.if_ c x y,s=>ckB f c (Ad s)&&(HR f tk x (DS s)&&HR f tk y (Wp s))
 |.for_ g e b,s=>ckT f g&&(CE (exE e (Ad s))&&(ckE f e (Ad s)&&HR f tk b (DS s)))
 |.fors n e b,s=>tk&&(decide (f.names.lookup (nm n)=some .local)&&(CE (exE e (Ad s))&&(ckE f e (Ad s)&&HR f tk b (DS s))))
 |.ret e,s=>ckE f e (Ad s)
 |.rdiv a b,s=>tk&&(ckE f a (kid (Ad s) 0)&&ckE f b (kid (Ad s) 1))
 |.rown n,_=>dbg (nm n)
 |.rdict n,_=>dbg (nm n)
 |.rif c n,s=>ckB f c (kid (Ad s) 0)&&dbg (nm n)
 |.bad,_=>true
noncomputable def HR(f:Fs)(tk:Bool):Ss->List Stmt->Bool
 |.nil,_=>true
 |.cons a r,ss=>ckS f tk a (ss.headD (.Pass p0))&&HR f tk r ss.tail
end
theorem FA(g:Gs)(it:Expr)(cs:List Comprehension):(gHd g it cs).iter=it:=by cases g<;>rfl
structure BaseOk(prog:Program)(B:Heap)(cls:Addr):Prop where
 lim:B.NoLimit
 nb:NoneBooked B
 sysm:∃o,B.get? sysModules=some o
 acc:∃K,AccB prog K B cls
 pat:∃p,GlobAt B "IPV4_RE" (.ref p)/\PatAt B p
 dict:GlobAt B "dict" (.type "dict")
 glb:∀x∈gtab,∃t,GlobAt B (nm x.1) (.float x.2 t)
 seti:∃fa p1 p2 p3 p4 p5 scope,GlobAt B "setitem" (.ref fa)/\FdAt B fa ["a","b","c"] [.Assign [.Subscript (.Name "a" p1) (.Name "b" p2) p3] (.Name "c" p4) p5] scope/\FU ["a","b","c"] scope=true/\
  scope.names.lookup ("a":Str)=some NameKind.local/\scope.names.lookup ("b":Str)=some NameKind.local/\scope.names.lookup ("c":Str)=some NameKind.local
theorem Uo{h h':Heap}(x:NoneBooked h)(k:Sub h h'):NoneBooked h':=by obtain⟨m,n,e⟩:=x;exact⟨m,n.keeps k,e⟩
section
variable{prog:Program}{w:World}{C:Cx}{B:Heap}{A:Around}{H0 Mu:List Addr}{env:Env}{σ σ₁ σ₂:Sig}{ad:Str->Addr}{h:Heap}{e l r:Expr}{t t₁ t₂ c:T}{ts:List T}{pos np:Pos}{x:Str}{es:List Expr}{n:Nat}
theorem Kd{op:CmpOp}(pl:PE prog w C B A env l σ t₁ σ₁)(pr:PE prog w C B A env r σ₁ t₂ σ₂)(hm:behindInMarks op r=false)
  (po:∀Hd s a b,Sub B s.heap->Live Hd s.heap->Holds prog w Hd s.heap t₁ a->Holds prog w Hd s.heap t₂ b->Op prog w A Hd s (compareOp op a b) t):PE prog w C B A env (.Compare l [op] [r] pos) σ t σ₂:=λH0 Mu ad s Q E F hQ=>by
 refine wpAny_Compare1 (pl H0 Mu ad s _ _ F λa h₁ k₁ kp₁ F₁ ha=>pr H0 Mu ad _ _ _ F₁ λb h₂ k₂ kp₂ F₂ hb=>?_) hm;exact Ii F₂ (po _ _ a b F₂.base F₂.hlive (BJ ha kp₂) hb) λv h₃ k₃ sb F₃ hv=>hQ v h₃ k₃ ((kp₁.trans kp₂).trans (Kp.of_sub sb)) F₃ hv
theorem Kg{op:CmpOp}{b:Bool}(pl:PE prog w C B A env l σ t₁ σ₁)(pr:PE prog w C B A env r σ₁ t₂ σ₂)(hm:behindInMarks op r=false)
  (po:∀Hd s a b,Sub B s.heap->Live Hd s.heap->Holds prog w Hd s.heap t₁ a->Holds prog w Hd s.heap t₂ b->Op prog w A Hd s (compareOp op a b) t)
  (pt:∀Hd s v,Holds prog w Hd s.heap t v->OpB prog w A s (truthy v) b):PB prog w C B A env (.Compare l [op] [r] pos) σ b σ₂:=λH0 Mu ad s Q E F hQ=>by
 refine wpAny_isTrue_Compare1 (pl H0 Mu ad s _ _ F λa h₁ k₁ kp₁ F₁ ha=>pr H0 Mu ad _ _ _ F₁ λb h₂ k₂ kp₂ F₂ hb=>?_) hm;exact Ii F₂ (po _ _ a b F₂.base F₂.hlive (BJ ha kp₂) hb) λv h₃ k₃ sb F₃ hv=>pt _ _ v hv _ _ λh₄ k₄ sb₄=>hQ h₄ k₄ ((kp₁.trans kp₂).trans (Kp.of_sub (Sub.trans' sb sb₄))) (F₃.up sb₄)
theorem SJ{op:Operator}{x y:T}{s:Shared}{Hd:List Addr}{a b:Value}(hA:AOk A n)(e:DC op x y=some c)(hl:Live Hd s.heap)(ha:Holds prog w Hd s.heap x a)(hb:Holds prog w Hd s.heap y b):Op prog w A Hd s (binaryOp op a b) c:=by
 cases op with
 |Mod=>
  refine B5 e (λx q e=>B5 e (λi q2 e=>its e λz e=>A5 e ?_) Aj) λe=>PK hA e hl ha hb
  rw [str?_eq q] at ha;rw [int?_eq q2] at hb;obtain⟨z1,z2,z3⟩:=z;subst z1;have:(⟨#[46,37,100]⟩:Str)=Str.ofString ".%d":=by decide+kernel
  rw [this] at ha;exact V6 z2 z3 ha hb
 |_=>exact PK hA e hl ha hb
end
theorem Ja{fr:List Nat}{ν:NS}{k:NS->Prop}(h:Gh fr ν k):k (NU fr ν):=Ec fr ν k▸h
theorem CB{ν:NS}{n:Nat}{s:Slot}{k:NS->Prop}(h:DP ν n s k):k (ν.put n s):=IS ν n s k▸h
theorem JJ{ns:List Nat}{ss:List Slot}{ν:NS}{k:NS->Prop}(h:FJ ns ss ν k):k (GL ns ss ν):=HY ns ss ν k▸h
section
variable{P:Prop}{ν:NS}{n:Nat}
theorem Ht{Q:Own->Prop}(h:AO ν n Q)(c:∀o,ν.get n=some (.ow o)->Q o->P):P:=by
 unfold AO at h
 cases q:ν.get n with
 |none=>rw [q] at h;exact Bad.no h
 |some s=>
  rw [q] at h
  cases s with
  |ow o=>exact c o q h
  |_=>exact Bad.no h
theorem Oh{Q:List T->Prop}(h:AO ν n λo=>L0 o Q)(c:∀xs,(den ν).lookup (nm n)=some (.ow (.list xs))->Q xs->P):P:=
 Ht h λo q h=>by
  cases o with
  |list xs=>exact c xs ((Ch n ν).trans q) h
  |_=>exact Bad.no h
theorem Ty{Q:List T->Prop}(h:AO ν n λo=>P6 o Q)(c:∀xs,(den ν).lookup (nm n)=some (.ow (.acc xs))->Q xs->P):P:=
 Ht h λo q h=>by
  cases o with
  |acc xs=>exact c xs ((Ch n ν).trans q) h
  |_=>exact Bad.no h
theorem QI{Q:(Str->Option Int)->Nat->Prop}(h:AO ν n λo=>NQ o Q)(c:∀f m,(den ν).lookup (nm n)=some (.ow (.dI f m))->Q f m->P):P:=
 Ht h λo q h=>by
  cases o with
  |dI f m=>exact c f m ((Ch n ν).trans q) h
  |_=>exact Bad.no h
theorem Wf{Q:T->Prop}(h:Wg ν n Q)(c1:∀t,(den ν).lookup (nm n)=some (.fz t)->Q t.wk->P)(c2:∀y,(den ν).lookup (nm n)=some (.ch y)->Q (.str y)->P):P:=by
 unfold Wg at h;rw [←Ch] at h
 cases q:(den ν).lookup (nm n) with
 |none=>rw [q] at h;exact Bad.no h
 |some s=>
  rw [q] at h
  cases s with
  |fz t=>exact c1 t q h
  |ch y=>exact c2 y q h
  |ow o=>exact Bad.no h
theorem Tw{Q:Str->Prop}(h:QH ν n Q)(c:∀y,(den ν).lookup (nm n)=some (.ch y)->Q y->P):P:=by
 unfold QH at h;rw [←Ch] at h
 cases q:(den ν).lookup (nm n) with
 |none=>rw [q] at h;exact Bad.no h
 |some s=>
  rw [q] at h
  cases s with
  |ch y=>exact c y q h
  |_=>exact Bad.no h
theorem DD{R:T->Prop}{t:T}{Q:Str->Prop}(r:R t)(h:Ey t Q)(c:∀x,R (.str x)->Q x->P):P:=by
 cases t with
 |str x=>exact c x r h
 |_=>exact Bad.no h
theorem Nk{R:T->Prop}{t:T}{Q:Int->Prop}(r:R t)(h:Gr t Q)(c:∀x,R (.int x)->Q x->P):P:=by
 cases t with
 |int x=>exact c x r h
 |_=>exact Bad.no h
theorem WB{R:T->Prop}{t:T}{Q:(Str->Option Int)->Prop}(r:R t)(h:XX t Q)(c:∀x,R (.dI x)->Q x->P):P:=by
 cases t with
 |dI x=>exact c x r h
 |_=>exact Bad.no h
theorem H9{b:Bool}{R:Bool->Prop}{x y:Prop}(r:R b)(h:br b x y)(c1:R true->x->P)(c2:R false->y->P):P:=by
 cases b with
 |true=>exact c1 r h
 |false=>exact c2 r h
end
theorem Bz{x:Str}(h:dbg x=true):(x==("__debug__":Str))=false:=Gw h
theorem Fd{C:Cx}{env:Env}{f:Fs}(lk:Lk C env f){x:Str}(h:glo f x=true):env.kindOf x=some .globalImplicit:=by
 unfold Env.kindOf;refine rwl lk.names ?_;exact beq_iff_eq.mp h
theorem LI{C:Cx}{env:Env}{f:Fs}(lk:Lk C env f){x:Str}(h:(f.names.lookup x==some .local)=true):env.kindOf x=some .local:=by
 unfold Env.kindOf;refine rwl lk.names ?_;exact beq_iff_eq.mp h
theorem Fl{C:Cx}{env:Env}{f:Fs}(lk:Lk C env f){x:Str}(h:JL f x=true):CA C env x=true:=by
 unfold JL at h;unfold CA Env.kindOf
 (refine rwl lk.names ?_;refine rwl lk.st ?_)
 simp only [Bool.or_eq_true,Bool.and_eq_true] at h⊢
 rcases h with h|⟨⟨h1,h2⟩,h3⟩
 ·exact .inl h
 ·exact .inr ⟨⟨h1,h2⟩,lk.cn x (by simpa using h3)⟩
structure Sit(cls:Addr)(n:Nat)(f:Fs) where
 A:Around
 C:Cx
 env:Env
 hA:AOk A n
 lk:Lk C env f
 hc:C.cls=cls
section
variable(prog:Program)(w:World)(B:Heap)(cls:Addr)(n:Nat)
noncomputable def RE(f:Fs)(e:Expr)(σ:Sig)(t:T)(σ':Sig):Prop:=∀S:Sit cls n f,PE prog w S.C B S.A S.env e σ t σ'
noncomputable def RB(f:Fs)(e:Expr)(σ:Sig)(t:Bool)(σ':Sig):Prop:=∀S:Sit cls n f,PB prog w S.C B S.A S.env e σ t σ'
noncomputable def RA(f:Fs)(e:Expr)(t:T)(σ:Sig)(σ':Sig):Prop:=∀S:Sit cls n f,PA prog w S.C B S.A S.env e σ t σ'
noncomputable def RO(f:Fs)(e:Option Expr)(σ:Sig)(t:Option Int)(σ':Sig):Prop:=∀S:Sit cls n f,PO prog w S.C B S.A S.env e σ t σ'
noncomputable def RL(f:Fs)(e:List Expr)(σ:Sig)(t:List T)(σ':Sig):Prop:=∀(S:Sit cls n f) pos,PEs prog w S.C B S.A S.env pos e σ t σ'
noncomputable def GOk(G:Tab):Prop:=∀fn ts k,G fn ts k->∃t,k t/\∀A C env pos np es σ σ₁,AOk A n->C.cls=cls->(nm fn==("__debug__":Str))=false->env.kindOf (nm fn)=some .globalImplicit->(∀e∈es,plainE e=true)->
 PEs prog w C B A env pos es σ ts σ₁->PE prog w C B A env (.Call (.Name (nm fn) np) es [] pos) σ t σ₁
end
section
variable{prog:Program}{w:World}{B:Heap}{cls:Addr}{n:Nat}{G:Tab}
theorem Pk{k:Nat}{s:Slot}{ν:NS}{σ:Sig}(h:Le (den ν) σ):Le (den (ν.put k s)) ((nm k,s)::σ):=λx s' e=>by
 rw [IR,AE] at e;refine rwl AE ?_
 by_cases q:x=nm k
 ·rw [if_pos q] at e⊢;exact e
 ·rw [if_neg q] at e⊢;exact h _ _ e
theorem Pc{f:Fs}{P:Prop}:∀(ns:List Nat) (es:List Expr) (ts:List T) (ν:NS) (Q:NS->Prop),XR f ns=true->WA ns ts ν Q->
  (∀ν',Q ν'->(∀(S:Sit cls n f) σ,Le (den ν) σ->∃σ',PAs prog w S.C B S.A S.env (exNs ns es) σ ts σ'/\Le (den ν') σ')->P)->P
 |[],es,[]=>λν Q _ h c=>c ν h λS σ hl=>⟨σ,S4,hl⟩
 |k::ns,es,[]=>λν Q _ h c=>Bad.no h
 |[],es,t::ts=>λν Q _ h c=>Bad.no h
 |k::ns,es,t::ts=>λν Q h hq c=>Pc ns es.tail ts _ Q (y2 h) (CB hq) λν' hQ hp=>c ν' hQ λS σ le=>
  let⟨σ',p1,l1⟩:=hp S _ (Pk le)
  ⟨σ',P1 rfl (Ft (Fl S.lk (y1 h))) p1,l1⟩
theorem IM{f:Fs}{g:Tg}{e:Expr}{t:T}{ν:NS}{Q:NS->Prop}{P:Prop}(ok:ckT f g=true)(h:BB g t ν Q)(c:∀ν',Q ν'->RA prog w B cls n f (exT g e) t (den ν) (den ν')->P):P:=by
 cases g with
 |v k=>exact c _ (CB h) λS=>(Ft (Fl S.lk ok)).post Le.put
 |t ns=>
  cases t with
  |tup ts=>exact Pc ns (AA e) ts ν Q ok h λν' hQ hp=>c ν' hQ λS=>by obtain⟨σ',p,l⟩:=hp S _ (Le.refl _);exact(P4 S.hA p).post l
  |_=>exact Bad.no h
theorem GP{one:T->NS->(List T->NS->Prop)->Prop}{R:T->Sig->List T->Sig->Prop}{P:Prop}(h1:∀t ν Q (P:Prop),one t ν Q->(∀o ν',Q o ν'->R t (den ν) o (den ν')->P)->P):
  ∀(ts:List T) (ν:NS) (Q:List T->NS->Prop),Eh one ts ν Q->(∀out ν',Q out ν'->Dv R ts (den ν) out (den ν')->P)->P
 |[]=>λν Q h c=>c [] ν h ⟨rfl,rfl⟩
 |t::ts=>λν Q h c=>h1 _ _ _ _ h λo ν₁ h2 r1=>GP h1 ts ν₁ _ h2 λo2 ν₂ h3 r2=>c _ _ h3 ⟨o,_,o2,r1,r2,rfl⟩
theorem UV{f f':Fs}(S:Sit cls n f){C':Cx}{env':Env}(lk':Lk C' env' f')(hc':C'.cls=S.C.cls):
  (∀e σ t σ',RE prog w B cls n f' e σ t σ'->PE prog w C' B S.A env' e σ t σ')/\(∀e σ t σ',RB prog w B cls n f' e σ t σ'->PB prog w C' B S.A env' e σ t σ')/\∀e t σ σ',RA prog w B cls n f' e t σ σ'->PA prog w C' B S.A env' e σ t σ':=
 ⟨λe σ t σ' q=>q ⟨S.A,C',env',S.hA,lk',hc'.trans S.hc⟩,λe σ t σ' q=>q ⟨S.A,C',env',S.hA,lk',hc'.trans S.hc⟩,λe t σ σ' q=>q ⟨S.A,C',env',S.hA,lk',hc'.trans S.hc⟩⟩
end
section
variable{prog:Program}{w:World}{B:Heap}{cls:Addr}{n:Nat}{G:Tab}
theorem HD{cs:List Comprehension}(h:R4 cs=true):∀c∈cs,c.is_async=0/\CE c.iter=true:=λc m=>let h:=List.all_eq_true.mp h c m;⟨of_decide_eq_true (y1 h),y2 h⟩
theorem GY{es:List Expr}(h:es.all plainE=true):∀e∈es,plainE e=true:=λe m=>List.all_eq_true.mp h e m
theorem LQ{R:Sig->Prop}{fr:List Nat}{ν:NS}{l:List Str}(o:decide (l=fr.map nm)=true)(h:R (den (NU fr ν))):R (frz l (den ν)):=by
 (simp only [of_decide_eq_true o,←T0])
 exact h
theorem Th{e:Expr}{env:Env}(h:(!C2 e)=true):isTrue e env (eval e env)=(do let v ←eval e env;standAt e.pos;holding [v] (truthy v)):=by
 cases e<;>first|rfl|exact Bool.noConfusion (show false=true from h)
theorem Ro{c:Const}{t:T}{k:Nat}{p:Pos}{σ:Sig}{C:Cx}{A:Around}{env:Env}(h:Rp c=some t):PE prog w C B A env (.Constant c k p) σ t σ:=by
 cases c with
 |none=>exact Option.some.inj h▸LZ (H:=[])
 |bool b=>exact Option.some.inj h▸Ma
 |int b=>exact Option.some.inj h▸Oy
 |float b=>exact Option.some.inj h▸Oz
 |str b=>exact Option.some.inj h▸Ox
 |_=>exact Aj h
mutual
theorem zE(hB:BaseOk prog B cls)(hG:GOk prog w B cls n G)(h2:2<=n):∀(x:X) (f:Fs) (e:Expr) (ν:NS) (Q:T->NS->Prop) (P:Prop),ckE f x e=true->AC G x ν Q->(∀t ν',Q t ν'->RE prog w B cls n f (exE x e) (den ν) t (den ν')->P)->P
 |.v k=>λf e ν Q P ok h c=>Wf h (λt q h=>c _ ν h λS=>M2 (Bz ok) q) λt q h=>c _ ν h λS=>Lw (Bz ok) q
 |.g k b=>λf e ν Q P ok h c=>by obtain⟨t,gl⟩:=hB.glb (k,b) (List.contains_iff_mem.mp (y2 (y2 ok)));exact c _ ν h λS=>Pw (Bz (y1 ok)) (Fd S.lk (y1 (y2 ok))) gl λX h=>⟨t,rfl⟩
 |.k k=>λf e ν Q P ok h c=>W_c h λt ht hQ=>c t ν hQ λS=>Ro ht
 |.bin op a b=>λf e ν Q P ok h c=>zE hB hG h2 a f (kid e 0) ν _ P (y1 ok) h λx ν₁ h p1=>zE hB hG h2 b f (kid e 1) ν₁ _ P (y2 ok) h λy ν₂ h p2=>W4 h λt ht hQ=>
  c t ν₂ hQ λS=>Py (p1 S) (p2 S) λHd s a b hl ha hb=>SJ S.hA ht hl ha.wf hb.wf
 |.cmp op a b=>λf e ν Q P ok h c=>zE hB hG h2 a f (kid e 0) ν _ P (y1 (y2 ok)) h λx ν₁ h p1=>zE hB hG h2 b f (kid e 1) ν₁ _ P (y2 (y2 ok)) h λy ν₂ h p2=>Rs h λt ht hQ=>
  c (.bool t) ν₂ hQ λS=>Kd (p1 S) (p2 S) (Gw (y1 ok)) λHd s a b sb hl ha hb=>M7 (Uo hB.nb sb) S.hA ht ha.wf hb.wf
 |.sub a b=>λf e ν Q P ok h c=>zE hB hG h2 a f (kid e 0) ν _ P (y1 ok) h λx ν₁ h p1=>zE hB hG h2 b f (kid e 1) ν₁ _ P (y2 ok) h λy ν₂ h p2=>W_c h λt ht hQ=>
  c t ν₂ hQ λS=>IV (p1 S) (p2 S) λHd s a b hl ha hb=>V5 ht hl ha hb
 |.slc lo hi st=>λf e ν Q P ok h c=>zO hB hG h2 lo f (Jn e 0) ν _ P (y1 ok) h λx ν₁ h p1=>zO hB hG h2 hi f (Jn e 1) ν₁ _ P (y1 (y2 ok)) h λy ν₂ h p2=>zO hB hG h2 st f (Jn e 2) ν₂ _ P (y2 (y2 ok)) h λz ν₃ h p3=>
  c _ ν₃ h λS=>Pt (p1 S) (p2 S) (p3 S)
 |.un op a=>λf e ν Q P ok h c=>zE hB hG h2 a f (kid e 0) ν _ P ok h λx ν₁ h p1=>W_c h λt ht hQ=>c t ν₁ hQ λS=>Ps (p1 S) λHd s a hl ha=>Xd ht ha
 |.ite b x y=>λf e ν Q P ok h c=>zB hB hG h2 b f (kid e 0) ν _ P (y1 ok) h λz ν₁ h p1=>H9 (R:=λz=>RB prog w B cls n f (exB b (kid e 0)) (den ν) z (den ν₁)) p1 h
  (λp1 h=>zE hB hG h2 x f (kid e 1) ν₁ _ P (y1 (y2 ok)) h λt ν₂ h p2=>c t ν₂ h λS=>Kc (p1 S) (λ_=>p2 S) λq=>nomatch q)
  λp1 h=>zE hB hG h2 y f (kid e 2) ν₁ _ P (y2 (y2 ok)) h λt ν₂ h p2=>c t ν₂ h λS=>Kc (p1 S) (λq=>nomatch q) λ_=>p2 S
 |.lst xs=>λf e ν Q P ok h c=>zL hB hG h2 xs f (AA e) ν _ P (y1 ok) (y2 ok) h λts ν₁ h p1=>c _ ν₁ h.2 λS=>Sx (p1 S _) h.1
 |.tup xs=>λf e ν Q P ok h c=>zL hB hG h2 xs f (AA e) ν _ P (y1 ok) (y2 ok) h λts ν₁ h p1=>c _ ν₁ h.2 λS=>Ka (p1 S _) h.1
 |.call fn xs=>λf e ν Q P ok h c=>zL hB hG h2 xs f (AA e).tail ν _ P (y1 (y2 (y2 ok))) (y2 (y2 (y2 ok))) h λts ν₁ h p1=>let⟨t,hQ,p⟩:=hG _ _ _ h
  c t ν₁ hQ λS=>p S.A S.C S.env _ _ _ _ _ S.hA S.hc (Bz (y1 ok)) (Fd S.lk (y1 (y2 ok))) (GY (y1 (y2 (y2 ok)))) (p1 S _)
 |.met m o xs=>λf e ν Q P ok h c=>zE hB hG h2 o f (kid (kid e 0) 0) ν _ P (y1 (y2 (y2 (y2 (y2 ok))))) h λx ν₁ h p1=>zL hB hG h2 xs f (AA e).tail ν₁ _ P (y1 (y2 (y2 (y2 ok)))) (y2 (y2 (y2 (y2 (y2 ok))))) h λts ν₂ h p2=>
  DD (R:=λx=>RE prog w B cls n f (exE o (kid (kid e 0) 0)) (den ν) x (den ν₁)) p1 h λx p1 h=>W_c h λt ht hQ=>
   c t ν₂ hQ λS=>IW m.slot m.ty (y1 ok) (y1 (y2 ok)) (of_decide_eq_true (y1 (y2 (y2 ok)))) (GY (y1 (y2 (y2 (y2 ok))))) (p1 S) (p2 S _) λHd s a vs hl ha hv=>m.op ht hl ha hv
 |.comp it g fr=>λf e ν Q P ok h c=>zE hB hG h2 it f ((AP e).headD dC).iter ν _ P (y1 (y2 (y2 (y2 ok)))) h λx ν₁ h p1=>W_c h λts hts h=>
  GP (λt ν Q P hq c=>zG hB hG h2 g (Dg f (EQ e)) (exE it ((AP e).headD dC).iter) (AP e) (kid e 0) t ν Q P (y2 (y2 (y2 (y2 ok)))) hq c) ts _ _ (Ja h) λout ν₂ hQ hl=>
   c _ ν₁ hQ.2 λS=>Kb S.hA S.lk (y1 ok) (HD (y1 (y2 ok))) (λC' env' lk' hc'=>UV S lk' hc') (FA g _ _▸p1 S) hts (LQ (R:=λσ=>Dv _ ts σ out _) (y1 (y2 (y2 ok))) hl) hQ.1
 |.dic it g fr=>λf e ν Q P ok h c=>zE hB hG h2 it f ((AP (kid e 1)).headD dC).iter ν _ P (y1 (y2 (y2 (y2 (y2 (y2 ok)))))) h λx ν₁ h p1=>
  WB (R:=λx=>RE prog w B cls n f (exE it ((AP (kid e 1)).headD dC).iter) (den ν) x (den ν₁)) p1 h λfd p1 h=>let⟨r,hks,hQ⟩:=h
   c r ν₁ hQ λS=>IX (n:=0) (ev:=RE prog w B cls n _) (tb:=RB prog w B cls n _) (asg:=RA prog w B cls n _) (by decide+kernel) (Fd S.lk (y1 (y2 ok))) hB.dict hB.sysm (S.hA.le h2) S.lk (y1 (y2 (y2 ok))) (HD (y1 (y2 (y2 (y2 ok))))) (λC' env' lk' hc'=>UV S lk' hc')
    (FA g _ _▸p1 S) λks hn hm=>
     GP (λt ν Q P hq c=>zG hB hG h2 g (Dg f (EQ (kid e 1))) (exE it ((AP (kid e 1)).headD dC).iter) (AP (kid e 1)) (kid (kid e 1) 0) t ν Q P (y2 (y2 (y2 (y2 (y2 (y2 ok)))))) hq c) _ _ _ (Ja (hks ks hn hm)) λout ν₂ hQ hl=>by
      obtain⟨hlen,ps,hp,hd⟩:=hQ;have hl:=LQ (R:=λσ=>Dv _ _ σ out _) (y1 (y2 (y2 (y2 (y2 ok))))) hl
      cases g with
      |more g ifs it' r=>exact nomatch y1 ok
      |last g ifs elt=>exact⟨out,_,ps,hl,hlen,hp,hd⟩
 |.ap k a=>λf e ν Q P ok h c=>Oh h λys ho h=>zE hB hG h2 a f (kid e 1) ν _ P (y2 (y2 (y2 ok))) h λt ν₁ h p1=>Oh h λxs ho1 h=>
  c _ _ (CB h.2) λS=>(NM (Bz (y1 ok)) ho ho1 ⟨_,rfl⟩ (y1 (y2 (y2 ok))) (y1 (y2 ok)) h.1 (p1 S)).post Le.put
 |.pa k a=>λf e ν Q P ok h c=>Oh h λys ho h=>zE hB hG h2 a f (kid e 1) ν _ P (y2 (y2 (y2 ok))) h λt ν₁ h p1=>Oh h λxs ho1 h=>
  Nk (R:=λx=>RE prog w B cls n f (exE a (kid e 1)) (den ν) x (den ν₁)) p1 h.2 λi p1 h'=>W_c h'.2 λj hj h''=>W_c h'' λr hr hQ=>
   c _ _ (CB hQ) λS=>(Pv (Bz (y1 ok)) ho ho1 ⟨_,rfl⟩ (y1 (y2 (y2 ok))) (y1 (y2 ok)) h.1 (p1 S) h'.1 hj hr).post Le.put
 |.push k a b=>λf e ν Q P ok h c=>Ty h λys ho h=>zE hB hG h2 a f (kid e 1) ν _ P (y1 (y2 (y2 (y2 (y2 ok))))) h λx ν₁ h p1=>zE hB hG h2 b f (kid e 2) ν₁ _ P (y2 (y2 (y2 (y2 (y2 ok))))) h λy ν₂ h p2=>Ty h λxs ho1 h=>
  let⟨K,W⟩:=hB.acc
  c _ _ (CB h.2) λS=>(Pu (Bz (y1 ok)) (S.hc▸W) S.hA (y1 (y2 ok)) (y1 (y2 (y2 ok))) (y1 (y2 (y2 (y2 ok)))) ho ho1 ⟨_,rfl⟩ h.1 (p1 S) (p2 S)).post Le.put
 |.count k=>λf e ν Q P ok h c=>Ty h λxs ho h=>let⟨K,W⟩:=hB.acc
  c _ _ h.2 λS=>Px (Bz (y1 ok)) (S.hc▸W) S.hA (y2 ok) ho h.1
 |.pop k=>λf e ν Q P ok h c=>Ty h λxs ho h=>let⟨K,W⟩:=hB.acc
  c _ _ (CB h.2) λS=>(Vw (Bz (y1 ok)) (S.hc▸W) S.hA (y2 ok) ho h.1).post Le.put
 |.seti k a b=>λf e ν Q P ok h c=>QI h λ_ _ ho h=>zE hB hG h2 a f (kid e 2) ν _ P (y1 (y2 (y2 (y2 (y2 ok))))) h λx ν₁ h p1=>zE hB hG h2 b f (kid e 3) ν₁ _ P (y2 (y2 (y2 (y2 (y2 ok))))) h λy ν₂ h p2=>QI h λg m ho1 h=>
  DD (R:=λx=>RE prog w B cls n f (exE a (kid e 2)) (den ν) x (den ν₁)) p1 h.2 λk' p1 h'=>Nk (R:=λx=>RE prog w B cls n f (exE b (kid e 3)) (den ν₁) x (den ν₂)) p2 h' λi p2 hQ=>by
   obtain⟨fa,q1,q2,q3,q4,q5,scope,g1,g2,g3,g4,g5,g6⟩:=hB.seti;exact c _ _ (CB hQ) λS=>(Lu (n:=1) (Bz (y1 (y2 ok))) (by decide+kernel) (Fd S.lk (y1 ok)) g1 (S.hA.le h2) hB.lim g2 g3 g4 g5 g6 ho ho1 h.1 (y1 (y2 (y2 ok))) (y1 (y2 (y2 (y2 ok)))) (p1 S) (p2 S)).post Le.put
 |.subo k a=>λf e ν Q P ok h c=>QI h λ_ _ ho h=>zE hB hG h2 a f (kid e 1) ν _ P (y2 ok) h λx ν₁ h p1=>QI h λg m ho1 h=>
  DD (R:=λx=>RE prog w B cls n f (exE a (kid e 1)) (den ν) x (den ν₁)) p1 h λk' p1 h=>W_c h λi hi hQ=>
   c _ _ hQ λS=>NL (Bz (y1 ok)) ho ⟨_,_,rfl⟩ ho1 (p1 S) hi
theorem zO(hB:BaseOk prog B cls)(hG:GOk prog w B cls n G)(h2:2<=n):∀(x:O) (f:Fs) (e:Option Expr) (ν:NS) (Q:Option Int->NS->Prop) (P:Prop),ckO f x e=true->Sl G x ν Q->(∀t ν',Q t ν'->RO prog w B cls n f (exO x e) (den ν) t (den ν')->P)->P
 |.no=>λf e ν Q P ok h c=>c none ν h λS=>⟨rfl,rfl⟩
 |.x a=>λf e ν Q P ok h c=>zE hB hG h2 a f (e.getD dE) ν _ P ok h λx ν₁ h p1=>W_c h λt ht hQ=>c t ν₁ hQ λS=>⟨x,p1 S,ht⟩
theorem zL(hB:BaseOk prog B cls)(hG:GOk prog w B cls n G)(h2:2<=n):∀(x:L) (f:Fs) (es:List Expr) (ν:NS) (Q:List T->NS->Prop) (P:Prop),(exL x es).all plainE=true->ckL f x es=true->Li G x ν Q->(∀t ν',Q t ν'->RL prog w B cls n f (exL x es) (den ν) t (den ν')->P)->P
 |.nil=>λf es ν Q P pl ok h c=>c [] ν h λS pos=>Sv
 |.cons a r=>λf es ν Q P pl ok h c=>zE hB hG h2 a f (es.headD dE) ν _ P (y1 ok) h λx ν₁ h p1=>zL hB hG h2 r f es.tail ν₁ _ P (y2 pl) (y2 ok) h λts ν₂ h p2=>
  c _ ν₂ h λS pos=>Pq (Aa (y1 pl)) (p1 S) (p2 S pos)
theorem zB(hB:BaseOk prog B cls)(hG:GOk prog w B cls n G)(h2:2<=n):∀(x:Bx) (f:Fs) (e:Expr) (ν:NS) (Q:Bool->NS->Prop) (P:Prop),ckB f x e=true->JT G x ν Q->(∀t ν',Q t ν'->RB prog w B cls n f (exB x e) (den ν) t (den ν')->P)->P
 |.cmp op a b=>λf e ν Q P ok h c=>zE hB hG h2 a f (kid e 0) ν _ P (y1 (y2 ok)) h λx ν₁ h p1=>zE hB hG h2 b f (kid e 1) ν₁ _ P (y2 (y2 ok)) h λy ν₂ h p2=>Rs h λt ht hQ=>
  c t ν₂ hQ λS=>Kg (p1 S) (p2 S) (Gw (y1 ok)) (λHd s a b sb hl ha hb=>M7 (Uo hB.nb sb) S.hA ht ha.wf hb.wf) λHd s v hv=>PD (x:=.bool t) rfl hv
 |.and xs=>λf e ν Q P ok h c=>WI hB hG h2 xs f (AA e) (Ah e) ν Q P ok h c
 |.or xs=>λf e ν Q P ok h c=>zOr hB hG h2 xs f (AA e) (Ah e) ν Q P ok h c
 |.not b=>λf e ν Q P ok h c=>zB hB hG h2 b f (kid e 0) ν _ P ok h λx ν₁ h p1=>c _ ν₁ h λS=>V0 (p1 S)
 |.srch a=>λf e ν Q P ok h c=>zE hB hG h2 a f (kid e 1) ν _ P (y2 (y2 (y2 ok))) h λx ν₁ h p1=>DD (R:=λx=>RE prog w B cls n f (exE a (kid e 1)) (den ν) x (den ν₁)) p1 h λu p1 h=>let⟨p,g,hp⟩:=hB.pat
  c _ ν₁ h.2.2 λS=>NN (by decide+kernel) (Fd S.lk (y1 ok)) g hp (y1 (y2 (y2 ok))) (y1 (y2 ok)) (p1 S) h.1 h.2.1
 |.val a=>λf e ν Q P ok h c=>zE hB hG h2 a f e ν _ P (y2 ok) h λx ν₁ h p1=>W_c h λt ht hQ=>c t ν₁ hQ λS=>Pz (p1 S) (Th (y1 ok)) λHd s v hv=>PD ht hv
theorem WI(hB:BaseOk prog B cls)(hG:GOk prog w B cls n G)(h2:2<=n):∀(x:Bs) (f:Fs) (es:List Expr) (pos:Pos) (ν:NS) (Q:Bool->NS->Prop) (P:Prop),KN f x es=true->Lj G x ν Q->(∀t ν',Q t ν'->RB prog w B cls n f (.BoolOp .And (HO x es) pos) (den ν) t (den ν')->P)->P
 |.nil=>λf es pos ν Q P ok h c=>c true ν h λS=>Ly
 |.cons a r=>λf es pos ν Q P ok h c=>zB hB hG h2 a f (es.headD dE) ν _ P (y1 ok) h λz ν₁ h p1=>H9 (R:=λz=>RB prog w B cls n f (exB a (es.headD dE)) (den ν) z (den ν₁)) p1 h
  (λp1 h=>WI hB hG h2 r f es.tail pos ν₁ _ P (y2 ok) h λb ν₂ h p2=>c b ν₂ h λS=>P0 (p1 S) (λ_=>p2 S) λq=>nomatch q)
  λp1 h=>c false ν₁ h λS=>P0 (p1 S) (λq=>nomatch q) λ_=>⟨rfl,rfl⟩
theorem zOr(hB:BaseOk prog B cls)(hG:GOk prog w B cls n G)(h2:2<=n):∀(x:Bs) (f:Fs) (es:List Expr) (pos:Pos) (ν:NS) (Q:Bool->NS->Prop) (P:Prop),KN f x es=true->Pf G x ν Q->(∀t ν',Q t ν'->RB prog w B cls n f (.BoolOp .Or (HO x es) pos) (den ν) t (den ν')->P)->P
 |.nil=>λf es pos ν Q P ok h c=>c false ν h λS=>NO
 |.cons a r=>λf es pos ν Q P ok h c=>zB hB hG h2 a f (es.headD dE) ν _ P (y1 ok) h λz ν₁ h p1=>H9 (R:=λz=>RB prog w B cls n f (exB a (es.headD dE)) (den ν) z (den ν₁)) p1 h
  (λp1 h=>c true ν₁ h λS=>Uj (p1 S) (λq=>nomatch q) λ_=>⟨rfl,rfl⟩)
  λp1 h=>zOr hB hG h2 r f es.tail pos ν₁ _ P (y2 ok) h λb ν₂ h p2=>c b ν₂ h λS=>Uj (p1 S) (λ_=>p2 S) λq=>nomatch q
theorem UF(hB:BaseOk prog B cls)(hG:GOk prog w B cls n G)(h2:2<=n):∀(x:Bs) (f:Fs) (es:List Expr) (ν:NS) (Q:Bool->NS->Prop) (P:Prop),KN f x es=true->IN G x ν Q->(∀t ν',Q t ν'->IfsR (RB prog w B cls n f) (HO x es) (den ν) t (den ν')->P)->P
 |.nil=>λf es ν Q P ok h c=>c true ν h .nil
 |.cons a r=>λf es ν Q P ok h c=>zB hB hG h2 a f (es.headD dE) ν _ P (y1 ok) h λz ν₁ h p1=>H9 (R:=λz=>RB prog w B cls n f (exB a (es.headD dE)) (den ν) z (den ν₁)) p1 h
  (λp1 h=>UF hB hG h2 r f es.tail ν₁ _ P (y2 ok) h λb ν₂ h p2=>c b ν₂ h (.yes p1 p2)) λp1 h=>c false ν₁ h (.no p1)
theorem zG(hB:BaseOk prog B cls)(hG:GOk prog w B cls n G)(h2:2<=n):∀(x:Gs) (f:Fs) (it:Expr) (cs:List Comprehension) (elt:Expr) (t:T) (ν:NS) (Q:List T->NS->Prop) (P:Prop),ckG f x cs elt=true->Gv G x t ν Q->
  (∀o ν',Q o ν'->HU (RE prog w B cls n f) (RB prog w B cls n f) (RA prog w B cls n f) (QV x elt) (gHd x it cs) (gTl x cs) t (den ν) o (den ν')->P)->P
 |.last g ifs a=>λf it cs elt t ν Q P ok h c=>IM (y1 ok) h λν₁ h p1=>UF hB hG h2 ifs f (cs.headD dC).ifs ν₁ _ P (y1 (y2 ok)) h λb ν₂ h p2=>H9 (R:=λb=>IfsR (RB prog w B cls n f) (HO ifs (cs.headD dC).ifs) (den ν₁) b (den ν₂)) p2 h
  (λp2 h=>zE hB hG h2 a f elt ν₂ _ P (y2 (y2 ok)) h λx ν₃ h p3=>c _ ν₃ h ⟨_,_,_,p1,p2,(λq=>nomatch q),λ_=>⟨x,p3,rfl⟩⟩)
  λp2 h=>c _ ν₂ h ⟨_,_,_,p1,p2,(λ_=>⟨rfl,rfl⟩),λq=>nomatch q⟩
 |.more g ifs it' r=>λf it cs elt t ν Q P ok h c=>IM (y1 ok) h λν₁ h p1=>UF hB hG h2 ifs f (cs.headD dC).ifs ν₁ _ P (y1 (y2 ok)) h λb ν₂ h p2=>H9 (R:=λb=>IfsR (RB prog w B cls n f) (HO ifs (cs.headD dC).ifs) (den ν₁) b (den ν₂)) p2 h
  (λp2 h=>zE hB hG h2 it' f (cs.tail.headD dC).iter ν₂ _ P (y1 (y2 (y2 ok))) h λx ν₃ h p3=>W_c h λts hts h=>
   GP (λt ν Q P hq c=>zG hB hG h2 r f (exE it' (cs.tail.headD dC).iter) cs.tail elt t ν Q P (y2 (y2 (y2 ok))) hq c) ts _ _ h λout ν₄ hQ hl=>c _ ν₄ hQ ⟨_,_,_,p1,p2,(λq=>nomatch q),λ_=>⟨x,_,ts,FA r _ _▸p3,hts,hl⟩⟩)
  λp2 h=>c _ ν₂ h ⟨_,_,_,p1,p2,(λ_=>⟨rfl,rfl⟩),λq=>nomatch q⟩
end
end
noncomputable def Kk:Ou->Out
 |.nxt ν=>.nxt (den ν)
 |.ret t=>.ret t
section
variable(prog:Program)(w:World)(B:Heap)(cls:Addr)(n:Nat)
noncomputable def RK(f:Fs)(tk1:Bool)(e:Expr)(σ:Sig)(t:T)(σ':Sig):Prop:=∀S:Sit cls n f,(tk1=true->1<=S.C.tk)->PEk prog w S.C B S.A S.env e σ t σ'
noncomputable def RKL(f:Fs)(tk1:Bool)(e:List Expr)(σ:Sig)(t:List T)(σ':Sig):Prop:=∀(S:Sit cls n f) pos,(tk1=true->1<=S.C.tk)->OC prog w S.C B S.A S.env pos e σ t σ'
noncomputable def RX(f:Fs)(tk1:Bool)(s:Stmt)(σ:Sig)(r:Out):Prop:=∀S:Sit cls n f,(tk1=true->1<=S.C.tk)->PX prog w S.C B S.A S.env s σ r
noncomputable def RS(f:Fs)(tk1:Bool)(s:List Stmt)(σ:Sig)(r:Out):Prop:=∀S:Sit cls n f,(tk1=true->1<=S.C.tk)->PS prog w S.C B S.A S.env s σ r
end
section
variable{prog:Program}{w:World}{C:Cx}{B:Heap}{A:Around}{env:Env}{σ σ₁ σ₂:Sig}{e l r:Expr}{t₁ t₂:T}{pos p2:Pos}{n:Nat}
theorem PS.pre{ss:List Stmt}{o:Out}(p:PS prog w C B A env ss σ o)(l:Le σ σ₁):PS prog w C B A env ss σ₁ o:=λH0 Mu ad s Q E ht F hQ=>p H0 Mu ad s Q E ht (F.fewer l) hQ
noncomputable def RC(x y:T)(q:UInt64):Prop:=∀(prog:Program) (w:World) (A:Around) (s:Shared) (Hd:List Addr) (a b:Value) (Q:Value->Shared->Prop) (E:Value->Shared->Prop),Holds prog w Hd s.heap x a->Holds prog w Hd s.heap y b->(Made.float q).post Q s->wpAny (model prog w) A (binaryOp .Div a b) Q E s
theorem Rg{x y:T}{k:UInt64->Prop}{P:Prop}(h:Wt x y k)(c:∀q,RC x y q->k q->P):P:=
 EJ h (λi q h=>EJ h (λj q2 h=>Rz h λz h=>c _ (by
  (refine rwl (int?_eq q) ?_;refine rwl (int?_eq q2) ?_)
  intro prog w A s Hd a b Q E ha hb hQ;obtain⟨t,rfl⟩:=ha;obtain⟨u,rfl⟩:=hb;have z':=Ki (λq=>by rw [z] at q;cases q);exact AutoIntOps.truediv_2 z'.1 z'.2 hQ) h) Bad.no) λh=>
 EJ h (λi q h=>EJ h (λj q2 h=>Rz h λz h=>c _ (by
  (refine rwl (flt?_eq q) ?_;refine rwl (flt?_eq q2) ?_)
  intro prog w A s Hd a b Q E ha hb hQ;obtain⟨t,rfl⟩:=ha;obtain⟨u,rfl⟩:=hb;exact AutoFloatOps.truediv_1 (λq=>by rw [z] at q;cases q) hQ) h) Bad.no) Bad.no
theorem WO{a k:Nat}(h1:1<=a)(h:a<=k):k≠0:=Nat.ne_of_gt (Nat.le_trans h1 h)
theorem M1{q:UInt64}(pl:PE prog w C B A env l σ t₁ σ₁)(pr:PE prog w C B A env r σ₁ t₂ σ₂)(e:RC t₁.wf t₂.wf q)(h1:1<=C.tk):PEk prog w C B A env (.BinOp l .Div r pos) σ (.fn q) σ₂:=λH0 Mu ad s Q E ht F hQ=>
 wpAny_BinOp (wpAny_with_toks (n:=C.tk) ht (pl H0 Mu ad s _ _ F λa h₁ k₁ kp₁ F₁ ha=>λht₁=>wpAny_with_toks (n:=C.tk) ht₁ (pr H0 Mu ad _ _ _ F₁ λb h₂ k₂ kp₂ F₂ hb=>λht₂=>
  e _ _ _ {s with heap:=h₂,toks:=k₂} _ _ _ _ _ (BJ ha kp₂).wf hb.wf (hQ _ h₂ _ (kp₁.trans kp₂) F₂ ⟨k₂,WO h1 ht₂,rfl⟩))))
theorem IQ{q:UInt64}(pl:PE prog w C B A env l σ t₁ σ₁)(pr:PE prog w C B A env r σ₁ t₂ σ₂)(e:RC t₁.wf t₂.wf q)(h1:1<=C.tk):PX prog w C B A env (.Return (some (.BinOp l .Div r pos)) p2) σ (.ret (.fn q)):=λH0 Mu ad s Q E ht F hQ=>
 wpAny_Return_some (M1 pl pr e h1 H0 Mu ad s _ _ ht F λv h' k kp F' hv=>hQ _ h' _ [] ad (λ_ m=>nomatch m) kp ⟨_,rfl,hv⟩)
end
section
variable{prog:Program}{w:World}{B:Heap}{cls:Addr}{n:Nat}{G:Tab}
theorem JU{a b:NS}{k:NS->Prop}(h:D0 a b k):k (a.restr b):=FK a b k▸h
theorem SR{a:NS}{k:NS->Prop}(h:MC a k):k (SS a):=Kq a k▸h
theorem Uf{asg:T->NS->(NS->Prop)->Prop}{body:NS->(Ou->Prop)->Prop}{Ra:T->Sig->Sig->Prop}{Rb:Sig->Out->Prop}{P:Prop}(ha:∀t ν Q (P:Prop),asg t ν Q->(∀ν',Q ν'->Ra t (den ν) (den ν')->P)->P)(hb:∀ν Q (P:Prop),body ν Q->(∀o,Q o->Rb (den ν) (Kk o)->P)->P)
  (hw:∀σ σ₁ σ₂,Rb σ (.nxt σ₁)->Le σ₂ σ₁->Rb σ (.nxt σ₂)):∀(ts:List T) (ν:NS) (Q:Ou->Prop),BZ asg body ts ν Q->(∀o,Q o->ForR Ra Rb ts (den ν) (Kk o)->P)->P
 |[]=>λν Q h c=>c _ h .nil
 |t::ts=>λν Q h c=>ha _ _ _ _ h λν₁ h r1=>hb _ _ _ h λo h r2=>by
  cases o with
  |ret v=>exact c _ h (.ret r1 r2)
  |nxt ν₂=>exact Uf ha hb hw ts _ _ (JU h) λo h r3=>c o h (.next r1 (hw _ _ _ r2 λx s=>HZ) r3)
theorem Pb{y:Nat}{body:NS->(Ou->Prop)->Prop}{Rb:Sig->Out->Prop}{P:Prop}(hb:∀ν Q (P:Prop),body ν Q->(∀o,Q o->Rb (den ν) (Kk o)->P)->P)
  (hw:∀σ σ₁ σ₂,Rb σ (.nxt σ₁)->Le σ₂ σ₁->Rb σ (.nxt σ₂)) (hv:∀σ σ₁ o,Rb σ o->Le σ σ₁->Rb σ₁ o):∀(ts:List Nat) (ν:NS) (Q:Ou->Prop),Hw y body ts ν Q->(∀o,Q o->ForS (nm y) Rb ts (den ν) (Kk o)->P)->P
 |[]=>λν Q h c=>c _ h .nil
 |t::ts=>λν Q h c=>hb _ _ _ (CB h) λo h r2=>by
  cases o with
  |ret v=>exact c _ h (.ret (hv _ _ _ r2 Le.put))
  |nxt ν₂=>
   refine Pb hb hw hv ts _ _ (SR (JU h)) λo h r3=>?_
   rw [TD] at r3;exact c o h (.next (hv _ _ _ (hw _ _ _ r2 λx s=>HZ) Le.put) r3)
theorem GH:∀(ns:List Nat) (ss:List Slot) (ν:NS) (σ:Sig),Le (den ν) σ->Le (den (GL ns ss ν)) (GK (ns.map nm) ss σ)
 |[],_=>λν σ h=>h
 |_::_,[]=>λν σ h=>h
 |n::ns,s::ss=>λν σ h=>GH ns ss _ _ (Pk h)
theorem zCr{f:Fs}{c:Cr}{e:Expr}{ν:NS}{sl:Slot}(hB:BaseOk prog B cls)(ok:W0 f c e=true)(h:Jz ν c=some sl)(S:Sit cls n f):PC prog w S.C B S.A S.env (T7 c e) (den ν) sl:=by
 cases c with
 |n k=>
  refine HB h λs q h=>?_
  cases s with
  |fz t=>exact Option.some.inj h▸Sz (Bz ok) ((Ch k ν).trans q)
  |_=>exact Aj h
 |s y=>exact Option.some.inj h▸Vx
 |i y=>exact Option.some.inj h▸Vy
 |l ys=>exact Option.some.inj h▸S0 (TG ys _) (of_decide_eq_true ok)
 |d=>exact Option.some.inj h▸S1 hB.sysm
 |acc=>
  obtain⟨K,W⟩:=hB.acc;exact Option.some.inj h▸Vz (S.hc▸W) S.hA (Fd S.lk ok)
theorem WH{f:Fs}(hB:BaseOk prog B cls){ν:NS}(S:Sit cls n f):∀(cs:List Cr) (es:List Expr) (sls:List Slot),Rt f cs es=true->Rn ν cs=some sls->
  sls.length=(Gp cs es).length/\∀(i:Nat) (e:Expr) (sl:Slot),(Gp cs es)[i]? =some e->sls[i]? =some sl->PC prog w S.C B S.A S.env e (den ν) sl
 |[]=>λes sls ok h=>Option.some.inj h▸⟨rfl,λi e sl he=>nomatch he⟩
 |c::cs=>λes sls ok h=>HB h λs q1 h=>DJ h λss q2 h=>by
  obtain⟨h1,h2⟩:=WH hB S cs es.tail ss (y2 ok) q2;subst h;refine⟨congrArg (·+1) h1,λi e' sl he hs=>?_⟩
  cases i with
  |zero=>exact Option.some.inj he▸Option.some.inj hs▸zCr hB (y1 ok) q1 S
  |succ i=>exact h2 i e' sl he hs
mutual
theorem zK(hB:BaseOk prog B cls)(hG:GOk prog w B cls n G)(h2:2<=n):∀(x:KX) (f:Fs) (tk1:Bool) (e:Expr) (ν:NS) (Q:T->NS->Prop) (P:Prop),ckK f tk1 x e=true->Vi G x ν Q->(∀t ν',Q t ν'->RK prog w B cls n f tk1 (exK x e) (den ν) t (den ν')->P)->P
 |.e x=>λf tk1 e ν Q P ok h c=>zE hB hG h2 x f e ν Q P ok h λt ν' hQ p=>c t ν' hQ λS _=>(p S).k
 |.rep a k z=>λf tk1 e ν Q P ok h c=>zE hB hG h2 a f (kid (kid e 0) 0) ν _ P (y2 (y2 (y2 ok))) h λx ν₁ h p1=>DD (R:=λx=>RE prog w B cls n f (exE a (kid (kid e 0) 0)) (den ν) x (den ν₁)) p1 h λu p1 h=>Tw h λy q h=>
  c _ ν₁ h.2.2.2 λS _=>JZ (y1 ok) (y1 (y2 ok)) (Bz (y1 (y2 (y2 ok)))) (p1 S) q h.1 h.2.1 h.2.2.1
 |.rep1 a y z=>λf tk1 e ν Q P ok h c=>zE hB hG h2 a f (kid (kid e 0) 0) ν _ P (y2 (y2 (y2 ok))) h λx ν₁ h p1=>DD (R:=λx=>RE prog w B cls n f (exE a (kid (kid e 0) 0)) (den ν) x (den ν₁)) p1 h λu p1 h=>
  c _ ν₁ h.2.2.2.2 λS ht=>IU (ht (y1 ok)) (y1 (y2 ok)) (y1 (y2 (y2 ok))) (p1 S) h.1 h.2.1 h.2.2.1 h.2.2.2.1
 |.dv a b=>λf tk1 e ν Q P ok h c=>zE hB hG h2 a f (kid e 0) ν _ P (y1 (y2 ok)) h λx ν₁ h p1=>zE hB hG h2 b f (kid e 1) ν₁ _ P (y2 (y2 ok)) h λy ν₂ h p2=>Rg h λq hq hQ=>
  c _ ν₂ hQ λS ht=>M1 (p1 S) (p2 S) hq (ht (y1 ok))
 |.lst ks=>λf tk1 e ν Q P ok h c=>zKL hB hG h2 ks f tk1 (AA e) ν _ P (y1 ok) (y2 ok) h λts ν₁ h p1=>c _ ν₁ h.2 λS ht=>Pr (p1 S _ ht) h.1
 |.tup ks=>λf tk1 e ν Q P ok h c=>zKL hB hG h2 ks f tk1 (AA e) ν _ P (y1 ok) (y2 ok) h λts ν₁ h p1=>c _ ν₁ h.2 λS ht=>NK (p1 S _ ht) h.1
theorem zKL(hB:BaseOk prog B cls)(hG:GOk prog w B cls n G)(h2:2<=n):∀(x:KL) (f:Fs) (tk1:Bool) (es:List Expr) (ν:NS) (Q:List T->NS->Prop) (P:Prop),(LS x es).all plainE=true->TH f tk1 x es=true->Mt G x ν Q->(∀t ν',Q t ν'->RKL prog w B cls n f tk1 (LS x es) (den ν) t (den ν')->P)->P
 |.nil=>λf tk1 es ν Q P pl ok h c=>c [] ν h λS pos ht=>Pp
 |.cons a r=>λf tk1 es ν Q P pl ok h c=>zK hB hG h2 a f tk1 (es.headD dE) ν _ P (y1 ok) h λx ν₁ h p1=>zKL hB hG h2 r f tk1 es.tail ν₁ _ P (y2 pl) (y2 ok) h λts ν₂ h p2=>
  c _ ν₂ h λS pos ht=>NJ (y1 pl) (p1 S ht) (p2 S pos ht)
end
end
section
variable{prog:Program}{w:World}{B:Heap}{cls:Addr}{n:Nat}{G:Tab}
theorem Q0{C:Cx}{env:Env}{f:Fs}(lk:Lk C env f):interactive env=false:=by unfold interactive;refine rwl lk.kind ?_;rfl
theorem Kr{C:Cx}{env:Env}{f:Fs}(lk:Lk C env f){ns:List Str}(h:(ns.all λx=>f.names.lookup x==some .local)=true):∀x∈ns,env.kindOf x=some .local:=λx m=>LI lk (List.all_eq_true.mp h x m)
theorem OA(g:Tg)(e:Expr){env:Env}:assignEach [exT g e] env=[(false,assign (exT g e) env)]:=by cases g<;>rfl
theorem Vo{S:Sit cls n f}{e:Expr}{ν:NS}{k:Nat}{sl:Slot}{np sp:Pos}(pc:PC prog w S.C B S.A S.env e (den ν) sl)(ho:∃o,sl=.ow o)(hl:f.names.lookup (nm k)=some .local)(sw:sw0 f (.Name (nm k) np) e sp.line=true):PX prog w S.C B S.A S.env (.Assign [.Name (nm k) np] e sp) (den ν) (.nxt (den (ν.put k sl))):=by
 obtain⟨o,rfl⟩:=ho;exact(Lr pc (LI S.lk (beq_iff_eq.mpr hl)) (Dl S.lk (of_decide_eq_true (y1 sw))) (C6 S.lk (of_decide_eq_true (y2 sw)))).post Le.put
theorem V2{c:Cr}{ν:NS}{sl:Slot}(h:c.own=true)(e:Jz ν c=some sl):∃o,sl=.ow o:=by
 cases c with
 |l xs=>exact⟨_,(Option.some.inj e).symm⟩
 |d=>exact⟨_,(Option.some.inj e).symm⟩
 |acc=>exact⟨_,(Option.some.inj e).symm⟩
 |_=>exact nomatch h
mutual
theorem zSt(hB:BaseOk prog B cls)(hG:GOk prog w B cls n G)(h2:2<=n):∀(x:St) (f:Fs) (tk1:Bool) (s:Stmt) (ν:NS) (Q:Ou->Prop) (P:Prop),ckS f tk1 x s=true->Ay G x ν Q->(∀o,Q o->RX prog w B cls n f tk1 (exS x s) (den ν) (Kk o)->P)->P
 |.asg g e=>λf tk1 s ν Q P ok h c=>zE hB hG h2 e f (Ad s) ν _ P (y1 (y2 ok)) h λt ν₁ h p1=>IM (e:=tgS s) (y1 ok) h λν₂ hQ p2=>
  c _ hQ λS ht=>NH (p1 S) (p2 S) (Dl S.lk (of_decide_eq_true (y1 (y2 (y2 ok))))) (C6 S.lk (of_decide_eq_true (y2 (y2 (y2 ok))))) (OA g _)
 |.asgk k e=>λf tk1 s ν Q P ok h c=>zK hB hG h2 e f tk1 (Ad s) ν _ P (y1 (y2 ok)) h λt ν₁ hQ p1=>
  c _ (CB hQ) λS ht=>(JW (p1 S ht) (Ft (Fl S.lk (y1 ok))) (Dl S.lk (of_decide_eq_true (y1 (y2 (y2 ok))))) (C6 S.lk (of_decide_eq_true (y2 (y2 (y2 ok))))) rfl).post Le.put
 |.asgc k it g fr=>λf tk1 s ν Q P ok h c=>
  have ok1:=y1 (y2 ok)
  zE hB hG h2 it f ((AP (Ad s)).headD dC).iter ν _ P (y1 (y2 (y2 (y2 ok1)))) h λx ν₁ h p1=>W_c h λts hts h=>
  GP (λt ν Q P hq c=>zG hB hG h2 g (Dg f (EQ (Ad s))) (exE it ((AP (Ad s)).headD dC).iter) (AP (Ad s)) (kid (Ad s) 0) t ν Q P (y2 (y2 (y2 (y2 ok1)))) hq c) ts _ _ (Ja h) λout ν₂ hQ hl=>
   c _ (CB hQ.2) λS ht=>(GW S.hA S.lk (y1 ok1) (HD (y1 (y2 ok1))) (λC' env' lk' hc'=>UV S lk' hc') (FA g _ _▸p1 S) hts (LQ (R:=λσ=>Dv _ ts σ out _) (y1 (y2 (y2 ok1))) hl) hQ.1
    (Dl S.lk (of_decide_eq_true (y2 (y2 ok)))) (Fl S.lk (y1 ok))).post Le.put
 |.crt ns cs=>λf tk1 s ν Q P ok h c=>W_c h λsls hs hQ=>c _ (JJ hQ) λS ht=>by
  obtain⟨hl,hp⟩:=WH (w:=w) hB S cs (AA (Ad s)) sls (y1 (y2 (y2 (y2 ok)))) hs;have sw:=y2 (y2 (y2 (y2 ok)));refine(NG S.hA (GY (y1 ok)) hl (of_decide_eq_true (y1 (y2 ok))) ((List.length_map _).trans (of_decide_eq_true (y1 (y2 (y2 ok))))) hp (Kr S.lk (y2 sw)) rfl (C6 S.lk (of_decide_eq_true (y1 sw)))).post ?_;refine rwr (List.map_reverse (f:=nm)) ?_;exact GH _ _ _ _ (Le.refl _)
 |.crt1 k r=>λf tk1 s ν Q P ok h c=>W_c h λsl hs hQ=>c _ (CB hQ) λS ht=>Vo (zCr hB (y1 (y2 (y2 ok))) hs S) (V2 (y1 (y2 ok)) hs) (of_decide_eq_true (y1 ok)) (y2 (y2 (y2 ok)))
 |.swp ns es=>λf tk1 s ν Q P ok h c=>zL hB hG h2 es f (AA (Ad s)) ν _ P (y1 ok) (y1 (y2 ok)) h λus ν₁ h p=>c _ (JJ h.2.2) λS ht=>by
  have sw:=y2 (y2 ok);refine(Lp S.hA (p S _) h.1 (h.2.1.trans (List.length_map _).symm) (Kr S.lk (y2 sw)) rfl (C6 S.lk (of_decide_eq_true (y1 sw)))).post ?_;refine rwr (List.map_reverse (f:=nm)) ?_;exact GH _ _ _ _ (Le.refl _)
 |.ex e=>λf tk1 s ν Q P ok h c=>zE hB hG h2 e f (Ad s) ν _ P (y1 ok) h λt ν₁ h p1=>by
  cases t with
  |none=>exact c _ h λS ht=>Sq (p1 S) (Q0 S.lk) (Dl S.lk (of_decide_eq_true (y2 ok)))
  |_=>exact Bad.no h
 |.if_ b x y=>λf tk1 s ν Q P ok h c=>zB hB hG h2 b f (Ad s) ν _ P (y1 ok) h λz ν₁ h p1=>H9 (R:=λz=>RB prog w B cls n f (exB b (Ad s)) (den ν) z (den ν₁)) p1 h
  (λp1 h=>zSs hB hG h2 x f tk1 (DS s) ν₁ _ P (y1 (y2 ok)) h λo h p2=>c o h λS ht=>Ug (p1 S) (λ_=>p2 S ht) λq=>nomatch q)
  λp1 h=>zSs hB hG h2 y f tk1 (Wp s) ν₁ _ P (y2 (y2 ok)) h λo h p2=>c o h λS ht=>Ug (p1 S) (λq=>nomatch q) λ_=>p2 S ht
 |.for_ g e body=>λf tk1 s ν Q P ok h c=>zE hB hG h2 e f (Ad s) ν _ P (y1 (y2 (y2 ok))) h λt ν₁ h p1=>W_c h λts hts h=>
  Uf (Ra:=λt σ σ'=>RA prog w B cls n f (exT g (tgS s)) t σ σ') (Rb:=λσ o=>RS prog w B cls n f tk1 (BM body (DS s)) σ o) (λt ν Q P hq c=>IM (y1 ok) hq c) (λν Q P hq c=>zSs hB hG h2 body f tk1 (DS s) ν Q P (y2 (y2 (y2 ok))) hq c)
   (λσ σ₁ σ₂ q l S ht=>(q S ht).post l) ts _ _ h λo hQ hf=>c o hQ λS ht=>Vp S.hA (p1 S) hts (λt σ σ' q=>q S) (λσ r q=>q S ht) hf (λx=>B6 (y1 (y2 ok)) S.env x)
 |.fors k e body=>λf tk1 s ν Q P ok h c=>zE hB hG h2 e f (Ad s) ν _ P (y1 (y2 (y2 (y2 ok)))) h λt ν₁ h p1=>DD (R:=λx=>RE prog w B cls n f (exE e (Ad s)) (den ν) x (den ν₁)) p1 h λu p1 h=>
  Pb (Rb:=λσ o=>RS prog w B cls n f tk1 (BM body (DS s)) σ o) (λν Q P hq c=>zSs hB hG h2 body f tk1 (DS s) ν Q P (y2 (y2 (y2 (y2 ok)))) hq c)
   (λσ σ₁ σ₂ q l S ht=>(q S ht).post l) (λσ σ₁ o q l S ht=>(q S ht).pre l) _ _ _ h.2 λo hQ hf=>c o hQ λS ht=>
    Lq S.hA (ht (y1 ok)) (LI S.lk (beq_iff_eq.mpr (of_decide_eq_true (y1 (y2 ok))))) h.1 (p1 S) (λk' σ r hk q=>q ⟨S.A,{S.C with tk:=k'},S.env,S.hA,⟨S.lk.names,S.lk.cn,S.lk.st,S.lk.kind⟩,S.hc⟩ λz=>Nat.le_trans (ht z) hk) hf (λx=>B6 (y1 (y2 (y2 ok))) S.env x)
 |.ret e=>λf tk1 s ν Q P ok h c=>zE hB hG h2 e f (Ad s) ν _ P ok h λt ν₁ h p1=>c _ h λS ht=>NF (p1 S)
 |.rdiv a b=>λf tk1 s ν Q P ok h c=>zE hB hG h2 a f (kid (Ad s) 0) ν _ P (y1 (y2 ok)) h λx ν₁ h p1=>zE hB hG h2 b f (kid (Ad s) 1) ν₁ _ P (y2 (y2 ok)) h λy ν₂ h p2=>Rg h λq hq hQ=>
  c _ hQ λS ht=>IQ (p1 S) (p2 S) hq (ht (y1 ok))
 |.rown k=>λf tk1 s ν Q P ok h c=>Oh h λxs ho hQ=>c _ hQ λS ht=>HG (Bz ok) ho
 |.rdict k=>λf tk1 s ν Q P ok h c=>QI h λg m ho h=>c _ h.2 λS ht=>GV (Bz ok) ho h.1
 |.rif b k=>λf tk1 s ν Q P ok h c=>zB hB hG h2 b f (kid (Ad s) 0) ν _ P (y1 ok) h λz ν₁ h p1=>Oh h λxs ho hQ=>c _ hQ λS ht=>FM (Bz (y2 ok)) (p1 S) ho
 |.bad=>λf tk1 s ν Q P ok h c=>Bad.no h
theorem zSs(hB:BaseOk prog B cls)(hG:GOk prog w B cls n G)(h2:2<=n):∀(x:Ss) (f:Fs) (tk1:Bool) (s:List Stmt) (ν:NS) (Q:Ou->Prop) (P:Prop),HR f tk1 x s=true->Aq G x ν Q->(∀o,Q o->RS prog w B cls n f tk1 (BM x s) (den ν) (Kk o)->P)->P
 |.nil=>λf tk1 s ν Q P ok h c=>c _ h λS ht=>Vr
 |.cons a r=>λf tk1 s ν Q P ok h c=>zSt hB hG h2 a f tk1 (s.headD (.Pass p0)) ν _ P (y1 ok) h λo h p1=>by
  cases o with
  |nxt ν₁=>exact zSs hB hG h2 r f tk1 s.tail ν₁ _ P (y2 ok) h λo h p2=>c o h λS ht=>Sr (p1 S ht) (p2 S ht)
  |ret t=>exact c _ h λS ht=>Vq (p1 S ht)
end
noncomputable def PQ(f:Fs)(tk:Bool)(b:Ss)(ss:List Stmt):Prop:=∃ss',HR f tk b ss'=true/\ss=BM b ss'
noncomputable def okE(f:Fs)(x:X)(e:Expr):Prop:=∃e',ckE f x e'=true/\e=exE x e'
theorem sSs(hB:BaseOk prog B cls)(hG:GOk prog w B cls n G)(h2:2<=n)(x:Ss)(f:Fs)(tk1:Bool)(s:List Stmt)(ν:NS)(Q:Ou->Prop)(ok:PQ f tk1 x s)(h:Aq G x ν Q):∃o,Q o/\RS prog w B cls n f tk1 s (den ν) (Kk o):=by
 obtain⟨s',ok,rfl⟩:=ok;exact zSs hB hG h2 x f tk1 s' ν Q _ ok h λo hQ p=>⟨o,hQ,p⟩
theorem sE(hB:BaseOk prog B cls)(hG:GOk prog w B cls n G)(h2:2<=n)(x:X)(f:Fs)(e:Expr)(ν:NS)(Q:T->NS->Prop)(ok:okE f x e)(h:AC G x ν Q):∃t ν',Q t ν'/\RE prog w B cls n f e (den ν) t (den ν'):=by
 obtain⟨e',ok,rfl⟩:=ok;exact zE hB hG h2 x f e' ν Q _ ok h λt ν' hQ p=>⟨t,ν',hQ,p⟩
end
noncomputable def params(ps:List Nat)(ts:List T):NS:=(ps.zip ts).map λx=>(x.1,Slot.fz x.2)
theorem Hb:∀(ps:List Nat) (ts:List T),den (params ps ts)=CQ (ps.map nm) ts
 |[],_=>rfl
 |_::_,[]=>rfl
 |p::ps,t::ts=>by
  show(nm p,Slot.fz t)::den (params ps ts)=(nm p,Slot.fz t)::CQ (ps.map nm) ts;rw [Hb]
noncomputable def PR(k:T->Prop)(o:Ou):Prop:=match o with
 |.ret t=>k t
 |.nxt _=>Bad
noncomputable def A1(G:Tab)(ps:List Nat)(body:Ss)(ts:List T)(k:T->Prop):Prop:=ts.length=ps.length/\Aq G body (params ps ts) (PR k)
noncomputable def Dh(G:Tab)(fn:Nat)(spec:List T->(T->Prop)->Prop):Tab:=λf ts k=>bif Nat.beq f fn then spec ts k else G f ts k
section
variable{prog:Program}{w:World}{B:Heap}{cls:Addr}{n:Nat}{G:Tab}
theorem GOk.mono(h:GOk prog w B cls n G):GOk prog w B cls (n+1) G:=λfn ts k q=>by
 obtain⟨t,hk,p⟩:=h fn ts k q;exact⟨t,hk,λA C env pos np es σ σ₁ hA=>p A C env pos np es σ σ₁ (hA.le (Nat.le_succ n))⟩
end
structure BiOk(B:Heap):Prop where
 sum:GlobAt B "sum" (.builtin "sum")
 len:GlobAt B "len" (.builtin "len")
 range:GlobAt B "range" (.type "range")
 min:GlobAt B "min" (.builtin "min")
 max:GlobAt B "max" (.builtin "max")
 abs:GlobAt B "abs" (.builtin "abs")
 int:GlobAt B "int" (.type "int")
 sorted:GlobAt B "sorted" (.builtin "sorted")
 hasattr:GlobAt B "hasattr" (.builtin "hasattr")
 dict:GlobAt B "dict" (.type "dict")
noncomputable def n1(ts:List T)(k:T->Prop):Prop:=match ts with
 |[a]=>k a
 |_=>Bad
noncomputable def n2(ts:List T)(k:T->T->Prop):Prop:=match ts with
 |a::ts=>n1 ts (k a)
 |_=>Bad
noncomputable def KT(t:T)(Q:UInt64->Prop):Prop:=match t with
 |.flt x=>Q x
 |_=>Bad
noncomputable def Mf(t:T)(Q:List T->Prop):Prop:=match t with
 |.list x=>Q x
 |_=>Bad
noncomputable def mmW(ts:List T)(i2:Int->Int->Prop)(f3:UInt64->UInt64->UInt64->Prop):Prop:=match ts with
 |a::b::r=>match r with
  |[]=>Gr a λi=>Gr b λj=>i2 i j
  |c::r=>match r with
   |[]=>KT a λx=>KT b λy=>KT c λz=>f3 x y z
   |_=>Bad
 |_=>Bad
noncomputable def lsW(t:T)(l:List T->Prop)(s:Str->Prop):Prop:=match t with
 |.list x=>l x
 |.str x=>s x
 |_=>Bad
noncomputable def biW(f:Nat)(ts:List T)(k:T->Prop):Prop:=match f with
 |0=>n1 ts λa=>Mf a λts=>W (Iu ts) λns=>k (.int ns.sum)
 |1=>n1 ts λa=>lsW a (λts=>ts.length<=4096/\k (.int ts.length)) λx=>x.length<=4096/\k (.int x.length)
 |2=>n1 ts λa=>Gr a λi=>k (.rng i)
 |3=>mmW ts (λi j=>k (.int (if j<i then j else i))) λx y z=>k (.flt (minF x y z))
 |4=>mmW ts (λi j=>k (.int (if j>i then j else i))) λx y z=>k (.flt (maxF x y z))
 |5=>n1 ts λa=>Gr a λi=>k (.int (if i<0 then-i else i))
 |6=>n1 ts λa=>KT a λx=>W (intF x) λi=>k (.int i)
 |7=>n1 ts λa=>lsW a (λts=>W (Iu ts) λns=>ts.length<64/\k (.list ((sortI ns).map T.int))) λx=>x.length<64/\k (.list ((BT x.cps.toList).map λc=>T.str (sg c)))
 |8=>n2 ts λa b=>Ey a λx=>Ey b λy=>y=(⟨#[95,95,103,101,116,105,116,101,109,95,95]⟩:Str)/\k (.bool true)
 |9=>n1 ts λa=>Mf a λts=>W (CD ts) λps=>W (EL ps) λc=>ts.length<=4096/\k c
 |_=>Bad
theorem Kv{ts:List T}{k:T->Prop}{R:List T->Prop}(h:n1 ts k)(c:∀a,k a->R [a]):R ts:=by
 cases ts with
 |nil=>exact Bad.no h
 |cons a r=>cases r with
  |nil=>exact c a h
  |cons=>exact Bad.no h
theorem Yr{ts:List T}{k:T->T->Prop}{R:List T->Prop}(h:n2 ts k)(c:∀a b,k a b->R [a,b]):R ts:=by
 cases ts with
 |nil=>exact Bad.no h
 |cons a r=>exact Kv (R:=λr=>R (a::r)) h λb h=>c a b h
theorem asS{R:T->Prop}{t:T}{Q:Str->Prop}(h:Ey t Q)(c:∀x,Q x->R (.str x)):R t:=by
 cases t with
 |str x=>exact c x h
 |_=>exact Bad.no h
theorem asI{R:T->Prop}{t:T}{Q:Int->Prop}(h:Gr t Q)(c:∀x,Q x->R (.int x)):R t:=by
 cases t with
 |int x=>exact c x h
 |_=>exact Bad.no h
theorem asF{R:T->Prop}{t:T}{Q:UInt64->Prop}(h:KT t Q)(c:∀x,Q x->R (.flt x)):R t:=by
 cases t with
 |flt x=>exact c x h
 |_=>exact Bad.no h
theorem asL{R:T->Prop}{t:T}{Q:List T->Prop}(h:Mf t Q)(c:∀x,Q x->R (.list x)):R t:=by
 cases t with
 |list x=>exact c x h
 |_=>exact Bad.no h
theorem Us{R:T->Prop}{t:T}{l:List T->Prop}{s:Str->Prop}(h:lsW t l s)(c1:∀x,l x->R (.list x))(c2:∀x,s x->R (.str x)):R t:=by
 cases t with
 |list x=>exact c1 x h
 |str x=>exact c2 x h
 |_=>exact Bad.no h
theorem Uq{ts:List T}{i2:Int->Int->Prop}{f3:UInt64->UInt64->UInt64->Prop}{R:List T->Prop}(h:mmW ts i2 f3)(c1:∀i j,i2 i j->R [.int i,.int j])(c2:∀x y z,f3 x y z->R [.flt x,.flt y,.flt z]):R ts:=by
 cases ts with
 |nil=>exact Bad.no h
 |cons a r=>cases r with
  |nil=>exact Bad.no h
  |cons b r=>cases r with
   |nil=>exact asI (R:=λa=>R [a,b]) h λi h=>asI (R:=λb=>R [_,b]) h λj h=>c1 i j h
   |cons c r=>cases r with
    |nil=>exact asF (R:=λa=>R [a,b,c]) h λx h=>asF (R:=λb=>R [_,b,c]) h λy h=>asF (R:=λc=>R [_,_,c]) h λz h=>c2 x y z h
    |cons=>exact Bad.no h
noncomputable def biN(fn:Nat):Nat:=
 bif Nat.beq fn 7173491 then 0 else bif Nat.beq fn 7234924 then 1 else bif Nat.beq fn 435526984050 then 2 else bif Nat.beq fn 7235949 then 3 else bif Nat.beq fn 7889261 then 4 else
 bif Nat.beq fn 7561825 then 5 else bif Nat.beq fn 7630441 then 6 else bif Nat.beq fn 110386908131187 then 7 else bif Nat.beq fn 32216190544994664 then 8 else bif Nat.beq fn 1952672100 then 9 else 10
noncomputable def G0:Tab:=λfn ts k=>biW (biN fn) (ts.map T.wf) k
section
variable{prog:Program}{w:World}{C:Cx}{B:Heap}{A:Around}{H0 Mu:List Addr}{env:Env}{σ σ₁ σ₂:Sig}{n:Nat}{t r c:T}{ts:List T}{ad:Str->Addr}{h h':Heap}{pos apos np:Pos}{x:Str}{es:List Expr}{v:Value}{cls:Addr}
theorem HoldsL.wf{X:List Addr}:∀{ts:List T} {vs:List Value},HoldsL prog w X h ts vs->HoldsL prog w X h (ts.map T.wf) vs
 |[]=>λx=>x
 |t::ts=>λx=>by obtain⟨v,r,rfl,hv,hr⟩:=x;exact⟨v,r,rfl,hv.wf,HoldsL.wf hr⟩
theorem Ke{id:String}(hd:(x==("__debug__":Str))=false)(hk:env.kindOf x=some .globalImplicit)(g:GlobAt B x (.type id))(hp:∀e∈es,plainE e=true)(pa:PEs prog w C B A env pos es σ ts σ₁)
  (po:∀Hd s vs,Sub B s.heap->Live Hd s.heap->HoldsL prog w Hd s.heap ts vs->Op prog w A Hd s (call (.type id) vs) c):PE prog w C B A env (.Call (.Name x np) es [] pos) σ c σ₁:=λH0 Mu ad s Q E F hQ=>by
 refine Call_Name rfl (wpAny_Name (Bc F.kind F.glob F.blt (g.is F.base hk) ?_) hd);refine PyProof.Rows.callWith_type (FO hp) (FF hp pa F λvs h₁ k₁ kp₁ F₁ hv=>?_);exact MM (s:={s with heap:=h₁,toks:=k₁}) F₁ kp₁ (po _ _ _ F₁.base F₁.hlive hv) hQ
theorem Kf{id:String}(hd:(x==("__debug__":Str))=false)(hk:env.kindOf x=some .globalImplicit)(g:GlobAt B x (.builtin id))(hp:∀e∈es,plainE e=true)(pa:PEs prog w C B A env pos es σ ts σ₁)
  (po:∀Hd s vs,Sub B s.heap->Live Hd s.heap->HoldsL prog w Hd s.heap ts vs->Op prog w A Hd s (call (.builtin id) vs) c):PE prog w C B A env (.Call (.Name x np) es [] pos) σ c σ₁:=λH0 Mu ad s Q E F hQ=>by
 refine Call_Name rfl (wpAny_Name (Bc F.kind F.glob F.blt (g.is F.base hk) ?_) hd);refine Calls.callWith_builtin (FO hp) (FF hp pa F λvs h₁ k₁ kp₁ F₁ hv=>?_);exact MM (s:={s with heap:=h₁,toks:=k₁}) F₁ kp₁ (po _ _ _ F₁.base F₁.hlive hv) hQ
theorem hl1{X:List Addr}{a:T}{vs:List Value}(x:HoldsL prog w X h [a] vs):∃v,vs=[v]/\Holds prog w X h a v:=by
 obtain⟨v,r,rfl,hv,hr⟩:=x;have:r=[]:=hr;subst this;exact⟨v,rfl,hv⟩
theorem hl2{X:List Addr}{a b:T}{vs:List Value}(x:HoldsL prog w X h [a,b] vs):∃v u,vs=[v,u]/\Holds prog w X h a v/\Holds prog w X h b u:=by
 obtain⟨v,r,rfl,hv,hr⟩:=x;obtain⟨u,rfl,hu⟩:=hl1 hr;exact⟨v,u,rfl,hv,hu⟩
theorem hl3{X:List Addr}{a b c:T}{vs:List Value}(x:HoldsL prog w X h [a,b,c] vs):∃v u z,vs=[v,u,z]/\Holds prog w X h a v/\Holds prog w X h b u/\Holds prog w X h c z:=by
 refine lid λgg kk=>?_
 obtain⟨v,r,rfl,hv,hr⟩:=x;obtain⟨u,z,rfl,hu,hz⟩:=hl2 hr;refine kk ?_;exact⟨v,u,z,rfl,hv,hu,hz⟩
noncomputable def biV:Nat->Value
 |0=>.builtin "sum"
 |1=>.builtin "len"
 |2=>.type "range"
 |3=>.builtin "min"
 |4=>.builtin "max"
 |5=>.builtin "abs"
 |6=>.type "int"
 |7=>.builtin "sorted"
 |8=>.builtin "hasattr"
 |_=>.type "dict"
noncomputable def BiR(prog:Program)(w:World)(n:Nat)(v:Value)(k:T->Prop)(us:List T):Prop:=
 ∃c,k c/\∀{A:Around} {Hd:List Addr} {s:Shared} {vs:List Value},AOk A (n+2)->(∃o,s.heap.get? sysModules=some o)->Live Hd s.heap->HoldsL prog w Hd s.heap us vs->Op prog w A Hd s (call v vs) c
theorem bs1{v:Value}{k:T->Prop}{a c:T}(hk:k c)(p:∀{A:Around} {Hd:List Addr} {s:Shared} {u:Value},AOk A (n+2)->(∃o,s.heap.get? sysModules=some o)->Live Hd s.heap->Holds prog w Hd s.heap a u->Op prog w A Hd s (call v [u]) c):BiR prog w n v k [a]:=
 ⟨c,hk,λhA hs hl hv=>by obtain⟨v,rfl,hv'⟩:=hl1 hv;exact p hA hs hl hv'⟩
theorem bi8{k:T->Prop}{x y:Str}(e:y=(⟨#[95,95,103,101,116,105,116,101,109,95,95]⟩:Str))(hk:k (.bool true)):BiR prog w n (.builtin "hasattr") k [.str x,.str y]:=by
 refine⟨_,hk,λhA hs hl hv=>?_⟩;obtain⟨v,u,rfl,hv',hu⟩:=hl2 hv;have:(⟨#[95,95,103,101,116,105,116,101,109,95,95]⟩:Str)=("__getitem__":Str):=by decide+kernel
 rw [e,this] at hu;exact L6 hv' hu
theorem XV(j:Nat){us:List T}{k:T->Prop}(q:biW j us k):BiR prog w n (biV j) k us:=by
 match j,q with
 |0,q=>exact Kv q λa q=>asL (R:=λa=>BiR prog w n _ k [a]) q λts q=>W_c q λns e hk=>bs1 hk λhA hs hl hv=>V4 hA e hv
 |1,q=>exact Kv q λa q=>Us (R:=λa=>BiR prog w n _ k [a]) q (λx q=>bs1 q.2 λhA hs hl hv=>Kj q.1 hv) λx q=>bs1 q.2 λhA hs hl hv=>L3 q.1 hv
 |2,q=>exact Kv q λa q=>asI (R:=λa=>BiR prog w n _ k [a]) q λi q=>bs1 q λhA hs hl hv=>PG hl hv
 |3,q=>exact Uq q (λi j q=>⟨_,q,λhA hs hl hv=>by obtain⟨v,u,rfl,hv',hu⟩:=hl2 hv;exact SE hA hv' hu⟩) λx y z q=>⟨_,q,λhA hs hl hv=>by obtain⟨v,u,z,rfl,hv',hu,hz⟩:=hl3 hv;exact SD hA hv' hu hz⟩
 |4,q=>exact Uq q (λi j q=>⟨_,q,λhA hs hl hv=>by obtain⟨v,u,rfl,hv',hu⟩:=hl2 hv;exact SH hA hv' hu⟩) λx y z q=>⟨_,q,λhA hs hl hv=>by obtain⟨v,u,z,rfl,hv',hu,hz⟩:=hl3 hv;exact SG hA hv' hu hz⟩
 |5,q=>exact Kv q λa q=>asI (R:=λa=>BiR prog w n _ k [a]) q λi q=>bs1 q λhA hs hl hv=>VC hv
 |6,q=>exact Kv q λa q=>asF (R:=λa=>BiR prog w n _ k [a]) q λx q=>W_c q λi e hk=>bs1 hk λhA hs hl hv=>L4 e hv
 |7,q=>exact Kv q λa q=>Us (R:=λa=>BiR prog w n _ k [a]) q (λx q=>W_c q λns e hk=>bs1 hk.2 λhA hs hl hv=>Hc hl e hk.1 hv) λx q=>bs1 q.2 λhA hs hl hv=>HI hA hl q.1 hv
 |8,q=>exact Yr q λa b q=>asS (R:=λa=>BiR prog w n _ k [a,b]) q λx q=>asS (R:=λb=>BiR prog w n _ k [_,b]) q λy q=>bi8 q.1 q.2
 |9,q=>exact Kv q λa q=>asL (R:=λa=>BiR prog w n _ k [a]) q λts q=>W_c q λps e1 h=>W_c h λc e2 h=>bs1 h.2 λhA hs hl hv=>M6 hA hs e1 e2 h.1 hl hv
 |_+10,q=>exact Bad.no q
theorem bn{fn m x y:Nat}{R:Nat->Prop}(h1:fn=m->R x)(h2:R y):R (bif Nat.beq fn m then x else y):=by
 cases q:Nat.beq fn m with
 |true=>exact h1 (Nat.eq_of_beq_eq_true q)
 |false=>exact h2
theorem biN_val(hb:BiOk B)(fn:Nat):biN fn=10\/GlobAt B (nm fn) (biV (biN fn)):=by
 unfold biN;refine bn (R:=λj=>j=10\/GlobAt B (nm fn) (biV j)) (λe=>.inr (by refine rwl e ?_;exact hb.sum)) ?_;refine bn (R:=λj=>j=10\/GlobAt B (nm fn) (biV j)) (λe=>.inr (by refine rwl e ?_;exact hb.len)) ?_;refine bn (R:=λj=>j=10\/GlobAt B (nm fn) (biV j)) (λe=>.inr (by refine rwl e ?_;exact hb.range)) ?_;refine bn (R:=λj=>j=10\/GlobAt B (nm fn) (biV j)) (λe=>.inr (by refine rwl e ?_;exact hb.min)) ?_;refine bn (R:=λj=>j=10\/GlobAt B (nm fn) (biV j)) (λe=>.inr (by refine rwl e ?_;exact hb.max)) ?_;refine bn (R:=λj=>j=10\/GlobAt B (nm fn) (biV j)) (λe=>.inr (by refine rwl e ?_;exact hb.abs)) ?_;refine bn (R:=λj=>j=10\/GlobAt B (nm fn) (biV j)) (λe=>.inr (by refine rwl e ?_;exact hb.int)) ?_;refine bn (R:=λj=>j=10\/GlobAt B (nm fn) (biV j)) (λe=>.inr (by refine rwl e ?_;exact hb.sorted)) ?_;refine bn (R:=λj=>j=10\/GlobAt B (nm fn) (biV j)) (λe=>.inr (by refine rwl e ?_;exact hb.hasattr)) ?_;exact bn (R:=λj=>j=10\/GlobAt B (nm fn) (biV j)) (λe=>.inr (by refine rwl e ?_;exact hb.dict)) (.inl rfl)
theorem biV_is(j:Nat):(∃i,biV j=.builtin i)\/∃i,biV j=.type i:=match j with
 |0=>.inl ⟨_,rfl⟩
 |1=>.inl ⟨_,rfl⟩
 |2=>.inr ⟨_,rfl⟩
 |3=>.inl ⟨_,rfl⟩
 |4=>.inl ⟨_,rfl⟩
 |5=>.inl ⟨_,rfl⟩
 |6=>.inr ⟨_,rfl⟩
 |7=>.inl ⟨_,rfl⟩
 |8=>.inl ⟨_,rfl⟩
 |_+9=>.inr ⟨_,rfl⟩
theorem UE(hB:BaseOk prog B cls)(hb:BiOk B):GOk prog w B cls (n+2) G0:=λfn ts k q=>by
 unfold G0 at q
 rcases biN_val hb fn with e|g
 ·rw [e] at q;exact Bad.no q
 ·refine lid λgg kk=>?_
  obtain⟨c,hk,p⟩:=XV (prog:=prog) (w:=w) (n:=n) _ q;refine kk ?_;refine⟨c,hk,λA C env pos np es σ σ₁ hA hcl hd hg hp pa=>?_⟩;have sm:∀{h:Heap},Sub B h->∃o,h.get? sysModules=some o:=λk=>by obtain⟨o,ho⟩:=hB.sysm;exact⟨o,k _ _ ho⟩
  rcases biV_is (biN fn) with ⟨i,ei⟩|⟨i,ei⟩
  ·rw [ei] at g p;exact Kf hd hg g hp pa λHd s vs sb hl hv=>p hA (sm sb) hl hv.wf
  ·rw [ei] at g p;exact Ke hd hg g hp pa λHd s vs sb hl hv=>p hA (sm sb) hl hv.wf
end
noncomputable abbrev n_A:Nat:=65
noncomputable abbrev n_B:Nat:=66
noncomputable abbrev Kt:Nat:=1334243261626653691471
noncomputable abbrev Gl:Nat:=1260307946923872308815
noncomputable abbrev Gk:Nat:=1260307946923872966484
noncomputable abbrev A8:Nat:=133508041417942508402469983
noncomputable abbrev AX:Nat:=545183536449197151710303
noncomputable abbrev AW:Nat:=545220285824355518213215
noncomputable abbrev AL:Nat:=139576300503017344037121119
noncomputable abbrev AG:Nat:=545220209834907899358303
noncomputable abbrev Ap:Nat:=573412356879967832523721663817280607
noncomputable abbrev AR:Nat:=1852487999202839850079
noncomputable abbrev Jd:Nat:=30303
noncomputable abbrev n_a:Nat:=97
noncomputable abbrev FS:Nat:=29793
noncomputable abbrev n_b:Nat:=98
noncomputable abbrev Fz:Nat:=6578530
noncomputable abbrev VL:Nat:=25442
noncomputable abbrev BH:Nat:=1819043171
noncomputable abbrev Ef:Nat:=111494907914339
noncomputable abbrev AI:Nat:=127961628831587
noncomputable abbrev Bl:Nat:=8317701429086023523
noncomputable abbrev Gj:Nat:=7632227
noncomputable abbrev Bw:Nat:=1937012067
noncomputable abbrev Ag:Nat:=121398885183332
noncomputable abbrev Am:Nat:=32306674269289062736151277412
noncomputable abbrev C3:Nat:=495841537894
noncomputable abbrev n_g:Nat:=103
noncomputable abbrev VK:Nat:=25447
noncomputable abbrev Ck:Nat:=126926843769447
noncomputable abbrev n_h:Nat:=104
noncomputable abbrev Io:Nat:=32216190544994664
noncomputable abbrev A7:Nat:=464700171389206034345064
noncomputable abbrev B3:Nat:=495874961256
noncomputable abbrev CX:Nat:=6649192
noncomputable abbrev n_i:Nat:=105
noncomputable abbrev MF:Nat:=7630441
noncomputable abbrev BG:Nat:=86055178957673
noncomputable abbrev n_k:Nat:=107
noncomputable abbrev n_l:Nat:=108
noncomputable abbrev Bk:Nat:=1952867692
noncomputable abbrev BU:Nat:=7234924
noncomputable abbrev CW:Nat:=465558725996
noncomputable abbrev CV:Nat:=499967813996
noncomputable abbrev A2:Nat:=126943805008236
noncomputable abbrev HK:Nat:=12653
noncomputable abbrev HJ:Nat:=12909
noncomputable abbrev ME:Nat:=7889261
noncomputable abbrev Dd:Nat:=1668833645
noncomputable abbrev Gi:Nat:=7235949
noncomputable abbrev Hk:Nat:=1668180333
noncomputable abbrev At:Nat:=495622906222
noncomputable abbrev Ks:Nat:=25966
noncomputable abbrev A4:Nat:=6647407
noncomputable abbrev Ae:Nat:=491327616111
noncomputable abbrev AM:Nat:=500068606320
noncomputable abbrev Ac:Nat:=126943905800560
noncomputable abbrev AV:Nat:=1953653104
noncomputable abbrev Cf:Nat:=495874892144
noncomputable abbrev AK:Nat:=1701603696
noncomputable abbrev Bf:Nat:=435459026032
noncomputable abbrev n_r:Nat:=114
noncomputable abbrev AU:Nat:=435526984050
noncomputable abbrev Dp:Nat:=109287178133874
noncomputable abbrev VJ:Nat:=25458
noncomputable abbrev Br:Nat:=448343926130
noncomputable abbrev A6:Nat:=545071914742418170341234
noncomputable abbrev n_s:Nat:=115
noncomputable abbrev CU:Nat:=435710683251
noncomputable abbrev Ak:Nat:=1702521203
noncomputable abbrev CF:Nat:=110386908131187
noncomputable abbrev BF:Nat:=1885697139
noncomputable abbrev LD:Nat:=1668117875
noncomputable abbrev Hj:Nat:=1954047348
noncomputable abbrev Be:Nat:=6646132
noncomputable abbrev Bj:Nat:=1684828020
noncomputable abbrev DH:Nat:=7368564
noncomputable abbrev Ax:Nat:=33329927171699316
noncomputable abbrev Ed:Nat:=1852994932
noncomputable abbrev n_u:Nat:=117
noncomputable abbrev n_v:Nat:=118
noncomputable abbrev A3:Nat:=29113321804882295
noncomputable abbrev n_x:Nat:=120
noncomputable abbrev n_y:Nat:=121
noncomputable def Ew:Ss:=
 (.cons (.if_ (.srch (.v Hj))
 (.cons (.ret (.k (.bool false)))
 .nil)
 .nil)
 (.cons (.if_ (.cmp .Eq (.v Hj) (.k (.str ⟨#[]⟩)))
 (.cons (.ret (.k (.bool false)))
 .nil)
 .nil)
 (.cons (.if_ (.or (.cons (.cmp .Eq (.sub (.v Hj) (.k (.int 0))) (.k (.str ⟨#[46]⟩))) (.cons (.cmp .Eq (.sub (.v Hj) (.un .USub (.k (.int 1)))) (.k (.str ⟨#[46]⟩))) .nil)))
 (.cons (.ret (.k (.bool false)))
 .nil)
 .nil)
 (.cons (.ret (.k (.bool true)))
 .nil))))
noncomputable def Fu:List Nat:=[Hj]
noncomputable def Bn:Ss:=
 (.cons (.asg (.v n_A) (.met .lower (.v n_A) .nil))
 (.cons (.asg (.v n_B) (.met .lower (.v n_B) .nil))
 (.cons (.if_ (.cmp .Eq (.v n_A) (.v n_B))
 (.cons (.ret (.k (.bool true)))
 .nil)
 .nil)
 (.cons (.if_ (.not (.val (.call BG (.cons (.v n_A) .nil))))
 (.cons (.ret (.k (.bool false)))
 .nil)
 .nil)
 (.cons (.asg (.v n_i) (.met .rfind (.v n_A) (.cons (.v n_B) .nil)))
 (.cons (.if_ (.or (.cons (.cmp .Eq (.v n_i) (.un .USub (.k (.int 1)))) (.cons (.cmp .Eq (.v n_i) (.k (.int 0))) .nil)))
 (.cons (.ret (.k (.bool false)))
 .nil)
 .nil)
 (.cons (.if_ (.not (.val (.met .startswith (.v n_B) (.cons (.k (.str ⟨#[46]⟩)) .nil))))
 (.cons (.ret (.k (.bool false)))
 .nil)
 .nil)
 (.cons (.if_ (.not (.val (.call BG (.cons (.sub (.v n_B) (.slc (.x (.k (.int 1))) .no .no)) .nil))))
 (.cons (.ret (.k (.bool false)))
 .nil)
 .nil)
 (.cons (.ret (.k (.bool true)))
 .nil)))))))))
noncomputable def BD:List Nat:=[n_A,n_B]
noncomputable def FE:Ss:=
 (.cons (.asg (.v n_i) (.met .find (.v n_h) (.cons (.k (.str ⟨#[46]⟩)) .nil)))
 (.cons (.if_ (.cmp .GtE (.v n_i) (.k (.int 0)))
 (.cons (.asg (.v n_b) (.sub (.v n_h) (.slc (.x (.bin .Add (.v n_i) (.k (.int 1)))) .no .no)))
 (.cons (.asg (.v n_i) (.met .find (.v n_b) (.cons (.k (.str ⟨#[46]⟩)) .nil)))
 (.cons (.if_ (.and (.cons (.val (.call BG (.cons (.v n_h) .nil))) (.cons (.or (.cons (.cmp .GtE (.v n_i) (.k (.int 0))) (.cons (.cmp .Eq (.v n_b) (.k (.str ⟨#[108,111,99,97,108]⟩))) .nil))) .nil)))
 (.cons (.ret (.bin .Add (.k (.str ⟨#[46]⟩)) (.v n_b)))
 .nil)
 .nil)
 .nil)))
 .nil)
 (.cons (.ret (.v n_h))
 .nil)))
noncomputable def G4:List Nat:=[n_h]
noncomputable def BP:Ss:=
 (.cons (.asg (.v Dd) (.call ME (.cons (.v n_r) (.cons (.v n_g) (.cons (.v n_b) .nil)))))
 (.cons (.asg (.v Hk) (.call Gi (.cons (.v n_r) (.cons (.v n_g) (.cons (.v n_b) .nil)))))
 (.cons (.asg (.v LD) (.bin .Add (.v Dd) (.v Hk)))
 (.cons (.asg (.v Dp) (.bin .Sub (.v Dd) (.v Hk)))
 (.cons (.asgk n_l (.dv (.v LD) (.k (.float 4611686018427387904))))
 (.cons (.if_ (.cmp .Eq (.v Hk) (.v Dd))
 (.cons (.ret (.tup (.cons (.k (.float 0)) (.cons (.v n_l) (.cons (.k (.float 0)) .nil)))))
 .nil)
 .nil)
 (.cons (.if_ (.cmp .LtE (.v n_l) (.k (.float 4602678819172646912)))
 (.cons (.asg (.v n_s) (.bin .Div (.v Dp) (.v LD)))
 .nil)
 (.cons (.asg (.v n_s) (.bin .Div (.v Dp) (.bin .Sub (.bin .Sub (.k (.float 4611686018427387904)) (.v Dd)) (.v Hk))))
 .nil))
 (.cons (.asg (.v VJ) (.bin .Div (.bin .Sub (.v Dd) (.v n_r)) (.v Dp)))
 (.cons (.asg (.v VK) (.bin .Div (.bin .Sub (.v Dd) (.v n_g)) (.v Dp)))
 (.cons (.asg (.v VL) (.bin .Div (.bin .Sub (.v Dd) (.v n_b)) (.v Dp)))
 (.cons (.if_ (.cmp .Eq (.v n_r) (.v Dd))
 (.cons (.asg (.v n_h) (.bin .Sub (.v VL) (.v VK)))
 .nil)
 (.cons (.if_ (.cmp .Eq (.v n_g) (.v Dd))
 (.cons (.asg (.v n_h) (.bin .Sub (.bin .Add (.k (.float 4611686018427387904)) (.v VJ)) (.v VL)))
 .nil)
 (.cons (.asg (.v n_h) (.bin .Sub (.bin .Add (.k (.float 4616189618054758400)) (.v VK)) (.v VJ)))
 .nil))
 .nil))
 (.cons (.asg (.v n_h) (.bin .Mod (.bin .Div (.v n_h) (.k (.float 4618441417868443648))) (.k (.float 4607182418800017408))))
 (.cons (.ret (.tup (.cons (.v n_h) (.cons (.v n_l) (.cons (.v n_s) .nil)))))
 .nil)))))))))))))
noncomputable def Cw:List Nat:=[n_r,n_g,n_b]
noncomputable def Bt:Ss:=
 (.cons (.if_ (.cmp .Eq (.v n_s) (.k (.float 0)))
 (.cons (.ret (.tup (.cons (.v n_l) (.cons (.v n_l) (.cons (.v n_l) .nil)))))
 .nil)
 .nil)
 (.cons (.if_ (.cmp .LtE (.v n_l) (.k (.float 4602678819172646912)))
 (.cons (.asg (.v HJ) (.bin .Mult (.v n_l) (.bin .Add (.k (.float 4607182418800017408)) (.v n_s))))
 .nil)
 (.cons (.asg (.v HJ) (.bin .Sub (.bin .Add (.v n_l) (.v n_s)) (.bin .Mult (.v n_l) (.v n_s))))
 .nil))
 (.cons (.asg (.v HK) (.bin .Sub (.bin .Mult (.k (.float 4611686018427387904)) (.v n_l)) (.v HJ)))
 (.cons (.ret (.tup (.cons (.call Jd (.cons (.v HK) (.cons (.v HJ) (.cons (.bin .Add (.v n_h) (.g Gl 4599676419421066581)) .nil)))) (.cons (.call Jd (.cons (.v HK) (.cons (.v HJ) (.cons (.v n_h) .nil)))) (.cons (.call Jd (.cons (.v HK) (.cons (.v HJ) (.cons (.bin .Sub (.v n_h) (.g Gl 4599676419421066581)) .nil)))) .nil)))))
 .nil))))
noncomputable def BC:List Nat:=[n_h,n_l,n_s]
noncomputable def b_v:Ss:=
 (.cons (.asg (.v CX) (.bin .Mod (.v CX) (.k (.float 4607182418800017408))))
 (.cons (.if_ (.cmp .Lt (.v CX) (.g Kt 4595172819793696085))
 (.cons (.ret (.bin .Add (.v HK) (.bin .Mult (.bin .Mult (.bin .Sub (.v HJ) (.v HK)) (.v CX)) (.k (.float 4618441417868443648)))))
 .nil)
 .nil)
 (.cons (.if_ (.cmp .Lt (.v CX) (.k (.float 4602678819172646912)))
 (.cons (.ret (.v HJ))
 .nil)
 .nil)
 (.cons (.if_ (.cmp .Lt (.v CX) (.g Gk 4604180019048437077))
 (.cons (.ret (.bin .Add (.v HK) (.bin .Mult (.bin .Mult (.bin .Sub (.v HJ) (.v HK)) (.bin .Sub (.g Gk 4604180019048437077) (.v CX))) (.k (.float 4618441417868443648)))))
 .nil)
 .nil)
 (.cons (.ret (.v HK))
 .nil)))))
noncomputable def p_v:List Nat:=[HK,HJ,CX]
noncomputable def R2:Ss:=
 (.cons (.ret (.cmp .NotEq (.v n_a) (.v n_b)))
 .nil)
noncomputable def S5:List Nat:=[n_a,n_b]
noncomputable def Ds:Ss:=
 (.cons (.rdiv (.v n_a) (.v n_b))
 .nil)
noncomputable def E3:List Nat:=[n_a,n_b]
noncomputable def Ex:Ss:=
 (.cons (.if_ (.not (.val (.call Io (.cons (.v n_a) (.cons (.k (.str ⟨#[95,95,103,101,116,105,116,101,109,95,95]⟩)) .nil))))) (.cons .bad (.cons .bad .nil)) .nil)
 (.cons (.ret (.bin .Add (.v n_a) (.v n_b)))
 .nil))
noncomputable def Fv:List Nat:=[n_a,n_b]
noncomputable def CK:Ss:=
 (.cons (.ret (.cmp .In (.v n_b) (.v n_a)))
 .nil)
noncomputable def D2:List Nat:=[n_a,n_b]
noncomputable def BQ:Ss:=
 (.cons (.crt [Ac,Ck] [.d,.l [⟨#[107]⟩,⟨#[108]⟩,⟨#[109]⟩,⟨#[110]⟩,⟨#[111]⟩]])
 (.cons (.for_ (.v Ak) (.tup (.cons (.k (.int 5)) (.cons (.k (.int 4)) (.cons (.k (.int 3)) (.cons (.k (.int 2)) .nil)))))
 (.cons (.asg (.v A4) (.pa Ck (.bin .Mod (.v BH) (.v Ak))))
 (.cons (.asg (.v Ae) (.pa Ck (.bin .Mod (.bin .FloorDiv (.v BH) (.v Ak)) (.bin .Sub (.v Ak) (.k (.int 1))))))
 (.cons (.for_ (.v n_x) (.v A4)
 (.cons (.for_ (.v n_y) (.v Ae)
 (.cons (.ex (.seti Ac (.bin .Add (.v n_x) (.v n_y)) (.bin .Mod (.bin .FloorDiv (.v BH) (.bin .Mult (.v Ak) (.bin .Sub (.v Ak) (.k (.int 1))))) (.k (.int 3)))))
 (.cons (.ex (.seti Ac (.bin .Add (.v n_y) (.v n_x)) (.bin .Mod (.bin .FloorDiv (.v BH) (.bin .Mult (.v Ak) (.bin .Sub (.v Ak) (.k (.int 1))))) (.k (.int 3)))))
 .nil)))
 .nil))
 (.cons (.ex (.ap Ck (.bin .Add (.v A4) (.v Ae))))
 (.cons (.asg (.v BH) (.bin .FloorDiv (.v BH) (.bin .Mult (.bin .Mult (.v Ak) (.bin .Sub (.v Ak) (.k (.int 1)))) (.k (.int 3)))))
 .nil))))))
 (.cons (.if_ (.cmp .Lt (.bin .Mod (.v Ef) (.k (.int 13))) (.k (.int 10)))
 (.cons (.asg (.v Be) (.sub (.lst (.cons (.k (.str ⟨#[107,108]⟩)) (.cons (.k (.str ⟨#[107,109]⟩)) (.cons (.k (.str ⟨#[107,110]⟩)) (.cons (.k (.str ⟨#[107,111]⟩)) (.cons (.k (.str ⟨#[108,109]⟩)) (.cons (.k (.str ⟨#[108,110]⟩)) (.cons (.k (.str ⟨#[108,111]⟩)) (.cons (.k (.str ⟨#[109,110]⟩)) (.cons (.k (.str ⟨#[109,111]⟩)) (.cons (.k (.str ⟨#[110,111]⟩)) .nil))))))))))) (.bin .Mod (.v Ef) (.k (.int 13)))))
 (.cons (.asg (.v AM) (.bin .Mod (.bin .Add (.bin .Add (.subo Ac (.v Be)) (.k (.int 1))) (.bin .Mod (.bin .FloorDiv (.v Ef) (.k (.int 13))) (.k (.int 2)))) (.k (.int 3))))
 (.cons (.ex (.seti Ac (.v Be) (.v AM)))
 (.cons (.ex (.seti Ac (.sub (.v Be) (.slc .no .no (.x (.un .USub (.k (.int 1)))))) (.v AM)))
 .nil))))
 .nil)
 (.cons (.rdict Ac)
 .nil))))
noncomputable def Cy:List Nat:=[BH,Ef]
noncomputable def CJ:Ss:=
 (.cons (.asg (.v Bj) (.call A6 (.cons (.call Ax (.cons (.sub (.v CV) (.k (.int 0))) (.cons (.k (.int 128)) .nil))) (.cons (.call Ax (.cons (.sub (.v CV) (.k (.int 1))) (.cons (.k (.int 128)) .nil))) (.cons (.call Ax (.cons (.sub (.v CV) (.k (.int 2))) (.cons (.k (.int 128)) .nil))) .nil)))))
 (.cons (.asg (.v Bf) (.bin .Sub (.bin .FloorDiv (.call MF (.cons (.bin .Add (.bin .Mult (.bin .Mult (.k (.int 96)) (.bin .Pow (.k (.int 2)) (.k (.int 30)))) (.sub (.v Bj) (.k (.int 0)))) (.k (.int 1))) .nil)) (.k (.int 2))) (.bin .Mult (.v FS) (.bin .Pow (.k (.int 2)) (.k (.int 30))))))
 (.cons (.if_ (.or (.cons (.cmp .Lt (.sub (.v Bj) (.k (.int 0))) (.k (.int 0))) (.cons (.cmp .GtE (.sub (.v Bj) (.k (.int 0))) (.k (.int 1))) (.cons (.cmp .NotEq (.sub (.v Bj) (.k (.int 1))) (.v CW)) (.cons (.cmp .NotEq (.sub (.v Bj) (.k (.int 2))) (.v CU)) (.cons (.cmp .NotEq (.bin .Mod (.v Bf) (.bin .Pow (.k (.int 2)) (.k (.int 34)))) (.k (.int 0))) .nil))))))
 (.cons (.ret (.k (.int 9)))
 .nil)
 .nil)
 (.cons (.ret (.bin .Mod (.bin .FloorDiv (.v Bf) (.bin .Pow (.k (.int 2)) (.k (.int 34)))) (.k (.int 3))))
 .nil))))
noncomputable def D1:List Nat:=[CV,FS,CW,CU]
noncomputable def AQ:Ss:=
 (.cons (.asgc Cf (.call AU (.cons (.k (.int 3)) .nil)) (.last (.v n_k) .nil (.call Ax (.cons (.bin .Add (.bin .Add (.sub (.sub (.v A2) (.k (.int 0))) (.v n_k)) (.sub (.sub (.v A2) (.k (.int 1))) (.v n_k))) (.sub (.sub (.v A2) (.k (.int 2))) (.v n_k))) (.cons (.k (.int 384)) .nil)))) [A2])
 (.cons (.ret (.sub (.call A6 (.cons (.sub (.v Cf) (.k (.int 0))) (.cons (.sub (.v Cf) (.k (.int 1))) (.cons (.sub (.v Cf) (.k (.int 2))) .nil)))) (.k (.int 2))))
 .nil))
noncomputable def Bq:List Nat:=[A2]
noncomputable def Cp:Ss:=
 (.cons (.crt [Cf,Bk] [.l [],.n At])
 (.cons (.for_ (.v BF) (.call AU (.cons (.call BU (.cons (.v At) .nil)) .nil))
 (.cons (.if_ (.cmp .NotEq (.v Bk) (.k (.str ⟨#[]⟩)))
 (.cons (.crt [AK,AV] [.acc,.s ⟨#[]⟩])
 (.cons (.ex (.push AK (.k (.str ⟨#[32]⟩)) (.sub (.v Bk) (.k (.int 0)))))
 (.cons (.asg (.v Bk) (.sub (.v Bk) (.slc (.x (.k (.int 1))) .no .no)))
 (.cons (.for_ (.v Ed) (.call AU (.cons (.call BU (.cons (.v At) .nil)) .nil))
 (.cons (.if_ (.cmp .Gt (.count AK) (.k (.int 0)))
 (.cons (.asg (.v Bf) (.sub (.pop AK) (.k (.int 1))))
 (.cons (.asg (.v AV) (.bin .Add (.v AV) (.v Bf)))
 (.cons (.fors Ae (.v At)
 (.cons (.if_ (.and (.cons (.val (.call Bl (.cons (.v Bk) (.cons (.v Ae) .nil)))) (.cons (.val (.call Ks (.cons (.sub (.v Bj) (.bin .Add (.v Bf) (.v Ae))) (.cons (.v AM) .nil)))) .nil)))
 (.cons (.ex (.push AK (.k (.str ⟨#[32]⟩)) (.v Ae)))
 (.cons (.asgk Bk (.rep (.v Bk) Ae ⟨#[]⟩))
 .nil))
 .nil)
 .nil))
 .nil)))
 .nil)
 .nil))
 (.cons (.ex (.ap Cf (.met .join (.k (.str ⟨#[]⟩)) (.cons (.call CF (.cons (.v AV) .nil)) .nil))))
 .nil)))))
 .nil)
 .nil))
 (.cons (.rown Cf)
 .nil)))
noncomputable def CR:List Nat:=[At,AM,Bj]
noncomputable def Cq:Ss:=
 (.cons (.crt [B3,AK,A3] [.l [],.acc,.i 1])
 (.cons (.ex (.push AK (.v DH) (.k (.str ⟨#[107,108,109,110,111]⟩))))
 (.cons (.for_ (.v BF) (.call AU (.cons (.k (.int 9)) .nil))
 (.cons (.if_ (.and (.cons (.cmp .Gt (.v A3) (.k (.int 0))) (.cons (.cmp .Eq (.count AK) (.v A3)) .nil)))
 (.cons (.asg (.t [Ag,At]) (.pop AK))
 (.cons (.asg (.v A3) (.bin .Sub (.v A3) (.k (.int 1))))
 (.cons (.if_ (.cmp .Eq (.call BU (.cons (.v At) .nil)) (.k (.int 1)))
 (.cons (.ex (.ap B3 (.tup (.cons (.v At) (.cons (.call AI (.cons (.v At) (.cons (.call AI (.cons (.k (.str ⟨#[46]⟩)) (.cons (.v Ag) .nil))) .nil))) .nil)))))
 .nil)
 (.cons (.asgc Bw (.call AU (.cons (.k (.int 3)) .nil)) (.last (.v AM) .nil (.tup (.cons (.v AM) (.cons (.call AG (.cons (.v At) (.cons (.v AM) (.cons (.v Bj) .nil)))) .nil)))) [At,Bj])
 (.cons (.asgc Bw (.v Bw) (.last (.v Gj) (.cons (.cmp .Gt (.call BU (.cons (.sub (.v Gj) (.k (.int 1))) .nil)) (.k (.int 1))) .nil) (.v Gj)) [])
 (.cons (.if_ (.cmp .NotEq (.call BU (.cons (.v Bw) .nil)) (.k (.int 1)))
 (.cons (.ret (.k .none))
 .nil)
 .nil)
 (.cons (.for_ (.v AV) (.sub (.sub (.v Bw) (.k (.int 0))) (.k (.int 1)))
 (.cons (.ex (.push AK (.call AI (.cons (.bin .Add (.sub (.k (.str ⟨#[114,103,98]⟩)) (.sub (.sub (.v Bw) (.k (.int 0))) (.k (.int 0)))) (.sub (.v At) (.k (.int 0)))) (.cons (.call AI (.cons (.k (.str ⟨#[46]⟩)) (.cons (.v Ag) .nil))) .nil))) (.v AV)))
 (.cons (.asg (.v A3) (.bin .Add (.v A3) (.k (.int 1))))
 .nil)))
 .nil)))))
 .nil)))
 .nil)
 .nil))
 (.cons (.rif (.cmp .Eq (.pop AK) (.tup (.cons (.k (.str ⟨#[]⟩)) (.cons (.k (.str ⟨#[]⟩)) .nil)))) B3)
 .nil))))
noncomputable def CS:List Nat:=[Bj,DH]
noncomputable def BR:Ss:=
 (.cons (.asg (.v Ag) (.call Br (.cons (.v A4) .nil)))
 (.cons (.for_ (.v BF) (.call AU (.cons (.k (.int 5)) .nil))
 (.cons (.if_ (.cmp .Is (.call Am (.cons (.met .upper (.v Ae) .nil) (.cons (.v Ag) .nil))) (.k (.bool true)))
 (.cons (.ret (.sub (.v Ag) (.slc (.x (.k (.int 1))) (.x (.k (.int 2))) .no)))
 .nil)
 .nil)
 (.cons (.asg (.v Ag) (.call Br (.cons (.sub (.v Ag) (.slc (.x (.k (.int 1))) .no .no)) .nil)))
 .nil)))
 (.cons (.ret (.k (.str ⟨#[]⟩)))
 .nil)))
noncomputable def Cz:List Nat:=[A4,Ae]
noncomputable def Cs:Ss:=
 (.cons (.asgc C3 (.k (.str ⟨#[107,108,109,110,111]⟩)) (.more (.v n_x) .nil (.k (.str ⟨#[107,108,109,110,111]⟩)) (.more (.v n_v) (.cons (.cmp .Lt (.v n_x) (.v n_v)) .nil) (.k (.str ⟨#[107,108,109,110,111]⟩)) (.more (.v n_y) (.cons (.cmp .NotIn (.v n_y) (.bin .Add (.v n_x) (.v n_v))) .nil) (.k (.str ⟨#[107,108,109,110,111]⟩)) (.last (.v n_u) (.cons (.cmp .NotIn (.v n_u) (.bin .Add (.bin .Add (.v n_x) (.v n_v)) (.v n_y))) .nil) (.tup (.cons (.v n_x) (.cons (.v n_y) (.cons (.v n_u) (.cons (.v n_v) .nil))))))))) [])
 (.cons (.crt1 Fz (.l []))
 (.cons (.for_ (.t [n_x,n_y,n_u,n_v]) (.v C3)
 (.cons (.swp [A4,Ae] (.cons (.sub (.v Ac) (.bin .Add (.v n_x) (.v n_y))) (.cons (.sub (.v Ac) (.bin .Add (.v n_y) (.v n_v))) .nil)))
 (.cons (.if_ (.and (.cons (.cmp .NotEq (.v A4) (.v Ae)) (.cons (.cmp .Eq (.lst (.cons (.sub (.v Ac) (.bin .Add (.v n_y) (.v n_u))) (.cons (.sub (.v Ac) (.bin .Add (.v n_u) (.v n_v))) .nil))) (.lst (.cons (.v A4) (.cons (.v A4) .nil)))) (.cons (.cmp .Eq (.lst (.cons (.sub (.v Ac) (.bin .Add (.v n_v) (.v n_x))) (.cons (.sub (.v Ac) (.bin .Add (.v n_x) (.v n_u))) .nil))) (.lst (.cons (.v Ae) (.cons (.v Ae) .nil)))) .nil))))
 (.cons (.ex (.ap Fz (.bin .Add (.bin .Add (.bin .Add (.v n_x) (.v n_y)) (.v n_u)) (.v n_v))))
 .nil)
 .nil)
 .nil)))
 (.cons (.rown Fz)
 .nil))))
noncomputable def CT:List Nat:=[Ac]
theorem Eo{α β:Type}{f g:α->Option β}:∀{l:List α},(∀x∈l,f x=g x)->l.filterMap f=l.filterMap g
 |[]=>λ_=>rfl
 |a::l=>λh=>by
  exact rwl List.filterMap_cons (rwl List.filterMap_cons (rwl (h a (.head _)) (rwl (Eo λx m=>h x (.tail _ m)) rfl)))
theorem JB:∀{ps:List Str} {vs:List Value},vs.length=ps.length->ps.Nodup->(ps.filterMap λn=>((ps.zip vs).lookup n).map λv=>(n,v))=ps.zip vs
 |[],[]=>λ_ _=>rfl
 |p::ps,v::vs=>λh hn=>by
  rw [List.nodup_cons] at hn
  (refine rwl List.zip_cons_cons ?_;refine rwl List.filterMap_cons ?_;refine rwl List.lookup_cons ?_)
  simp only [beq_self_eq_true];have:(ps.filterMap λn=>(((p,v)::ps.zip vs).lookup n).map λv=>(n,v))=ps.filterMap λn=>((ps.zip vs).lookup n).map λv=>(n,v):=by
   refine Eo λn hm=>?_
   have ne:(n==p)=false:=by
    (simp only [beq_eq_false_iff_ne]);rintro rfl;exact hn.1 hm
   (simp only [List.lookup_cons,ne])
  (refine rwl this ?_;refine rwl (JB (by simpa using h) hn.2) ?_)
  rfl
 |[],_::_=>λh _=>by simp at h
 |_::_,[]=>λh _=>by simp at h
theorem zip_some:∀{ps:List Str} {vs:List Value},vs.length=ps.length->∀n∈ps,((ps.zip vs).lookup n).isNone=false
 |[],[]=>λ_ n m=>nomatch m
 |p::ps,v::vs=>λh n m=>by
  (simp only [List.zip_cons_cons,List.lookup_cons])
  cases q:n==p with
  |true=>rfl
  |false=>
   rcases mC m with rfl|m
   ·simp at q
   ·exact zip_some (by simpa using h) n m
 |[],_::_=>λh _ _=>by simp at h
 |_::_,[]=>λh _ _=>by simp at h
theorem Qz{α:Type}{c:Prop}{inst:Decidable c}{t e r:α}(h:¬c)(k:e=r): @ite α c inst t e=r:=rwl (if_neg h) k
theorem HA{fd:FuncData}{vals:List Value}(h1:fd.params.posonlyargs=[])(h2:fd.params.vararg=none)(h3:fd.params.kwonlyargs=[])(h4:fd.params.kwarg=none)(h5:fd.defaults=.none)(hl:vals.length=fd.params.args.length)(hn:(fd.params.args.map (·.arg)).Nodup):
  bindArgs fd ⟨vals,[]⟩=pure ((fd.params.args.map (·.arg)).zip vals):=by
 have hlen:vals.length=(fd.params.args.map (·.arg)).length:=by rw [List.length_map];exact hl
 have hf:((fd.params.args.map (·.arg)).filter λn=>(((fd.params.args.map (·.arg)).zip vals).lookup n).isNone)=[]:=by
  (simp only [List.filter_eq_nil_iff])
  intro n m;refine rwl (zip_some hlen n m) ?_;decide
 have hz:=JB hlen hn;have hs:seqItems? (.none)=pure none:=rfl;obtain⟨fname,qual,⟨po,ar,va,ko,kd,kw,df⟩,body,scope,glob,clo,dfl,kdf,doc,pm,cd,bl⟩:=fd;dsimp only at h1 h2 h3 h4 h5 hl hn hlen hf hz;subst h1 h2 h3 h4 h5;have e0:∀k,List.drop k ([]:List Value)=[]:=λk=>List.drop_nil
 have e1:(List.map (λx=>x.arg) ar).take (List.map (λx=>x.arg) ar).length=List.map (λx=>x.arg) ar:=List.take_length;have c1:¬(decide (vals.length>(List.map (λx=>x.arg) ar).length)&&true)=true:=λq=>by rw [hlen] at q;simp at q
 refine Qz c1 ?_;have c2:¬(!(List.filter (λn=>(List.lookup n ((List.map (λx=>x.arg) ar).zip vals)).isNone) ((List.map (λx=>x.arg) ar).take ((List.map (λx=>x.arg) ar).length-(List.drop (0-(List.map (λx=>x.arg) ar).length) ([]:List Value)).length))).isEmpty)=true:=by
  rw [e0,List.length_nil,Nat.sub_zero,e1,hf];decide
 refine Qz c2 ?_;show(Sem.bind (forIn (((List.map (λx=>x.arg) ar).drop _).zip (List.drop _ ([]:List Value))) _ _) _:Sem (List (Str×Value)))=_;rw [e0,List.zip_nil_right];show(Pure.pure (List.filterMap _ (_++[])):Sem (List (Str×Value)))=_;refine rwl (List.append_nil _) ?_;exact congrArg Pure.pure hz
inductive FnFact(B:Heap)(fn:Nat)(ps:List Nat)(tk:Bool)(b:Ss):Prop
 |mk (a:Addr) (stmts:List Stmt) (scope:Scope) (h1:GlobAt B (nm fn) (.ref a)) (h2:FdAt B a (ps.map nm) stmts scope) (h3:FU (ps.map nm) scope=true) (h4:PQ (En scope) tk b stmts) (h5:tk=true->1<=HF (ps.map nm) scope)
noncomputable def Kh(a:Arguments)(ps:List Str):Bool:=a.posonlyargs.isEmpty&&(a.vararg.isNone&&(a.kwonlyargs.isEmpty&&(a.kwarg.isNone&&decide (a.args.map (·.arg)=ps))))
noncomputable def L8(d:DefRec)(fn:Nat)(ps:List Nat)(tk:Bool):Bool:=
 decide (d.name=nm fn)&&(Kh d.params (ps.map nm)&&(FU (ps.map nm) d.scope&&(!tk||decide (1<=HF (ps.map nm) d.scope))))
section
variable{p:Program}{loose:List Str}{mean:ExcName->Option Value}{mg mb:Str->Option Value}{B:Heap}
theorem Fe{ps:List Str}{s:Scope}(h:FU ps s=true):ps.Nodup:=of_decide_eq_true (y1 (y1 (y1 (y1 (y1 h)))))
theorem Ih{d:DefRec}{pm code doc:Value}{ps:List Str}(h:Kh d.params ps=true)(hn:ps.Nodup)(vals:List Value)(hl:vals.length=ps.length):bindArgs (docDef d.name d.params d.body d.scope pm code doc) ⟨vals,[]⟩=pure (ps.zip vals):=by
 cases of_decide_eq_true (y2 (y2 (y2 (y2 h))))
 exact HA (fd:=docDef d.name d.params d.body d.scope pm code doc) (List.isEmpty_iff.mp (y1 h)) (Option.isNone_iff_eq_none.mp (y1 (y2 h))) (List.isEmpty_iff.mp (y1 (y2 (y2 h)))) (Option.isNone_iff_eq_none.mp (y1 (y2 (y2 (y2 h))))) rfl (by(simp only [hl,List.length_map]);rfl) hn
theorem MZ{d:DefRec}{a:Addr}{o:Obj}{pm code doc:Value}{ps:List Str}(ho:B.get? a=some o)(hd:o.data=.func (docDef d.name d.params d.body d.scope pm code doc))(hc:B.CodeRec code d.name)(h:Kh d.params ps=true)(hn:ps.Nodup):FdAt B a ps d.body d.scope:=
 ⟨o,_,ho,hd,rfl,rfl,rfl,rfl,rfl,hc,Ih h hn⟩
theorem On(T:Top p loose mean mg mb B){d:DefRec}(hm:d∈recsOf p){fn:Nat}{ps:List Nat}{tk:Bool}{b:Ss}(h:L8 d fn ps tk=true)(e7:PQ (En d.scope) tk b d.body):FnFact B fn ps tk b:=by
 refine lid λgg kk=>?_
 obtain⟨a,o,pm,code,doc,q1,q2,q3,q4⟩:=T.fn d hm;refine kk ?_;have e6:=y1 (y2 (y2 h));refine⟨a,d.body,d.scope,⟨mg,T.g,.inl (of_decide_eq_true (y1 h)▸q1)⟩,MZ q2 q3 q4 (y1 (y2 h)) (Fe e6),e6,e7,λht=>?_⟩;have e8:=y2 (y2 (y2 h));rw [ht] at e8;exact of_decide_eq_true e8
theorem E4{p q:Bool}(h:(p||q)=false):p=false/\q=false:=by
 cases p with
 |true=>cases h
 |false=>exact⟨rfl,h⟩
theorem Fx{x:Str}{l:List Str}(h:l.contains x=false):x∉l:=λm=>by rw [List.contains_iff_mem.mpr m] at h;cases h
theorem O9(T:Top p loose mean mg mb B){x:Str}{v:Value}(h:(startupNames.contains x||loose.contains x||((recsOf p).map (·.name)).contains x||((litsOf p).map (·.1)).contains x||((clssOf p loose).map (·.name)).contains x)=false)(hv:bootBuiltins x=some v):GlobAt B x v:=by
 obtain⟨h,h5⟩:=E4 h;obtain⟨h,h4⟩:=E4 h;obtain⟨h,h3⟩:=E4 h;obtain⟨h1,h2⟩:=E4 h;have h1:=Fx h1;refine⟨mg,T.g,.inr ⟨T.free x h1 (Fx h2) (Fx h3) (Fx h4) (Fx h5),mb,T.b,?_⟩⟩
 (exact(T.builtins x (by rintro rfl;exact h1 (by decide+kernel))).trans (hv))
noncomputable def pz:Pos:=⟨0,0,0,0⟩
noncomputable def JR(ss:List Stmt)(i:Nat):Pos:=match i with
 |0=>Ah (kid (tgS (ss.headD (.Pass pz))) 0)
 |1=>Ah (kid (tgS (ss.headD (.Pass pz))) 1)
 |2=>Ah (tgS (ss.headD (.Pass pz)))
 |3=>Ah (Ad (ss.headD (.Pass pz)))
 |_=>BV (ss.headD (.Pass pz))
noncomputable def JQ(p:Nat->Pos):List Stmt:=[.Assign [.Subscript (.Name "a" (p 0)) (.Name "b" (p 1)) (p 2)] (.Name "c" (p 3)) (p 4)]
noncomputable def Uc(d:DefRec):Bool:=decide (d.name="setitem")&&(Kh d.params ["a","b","c"]&&(FU ["a","b","c"] d.scope&&(decide (d.scope.names.lookup ("a":Str)=some NameKind.local)&&(decide (d.scope.names.lookup ("b":Str)=some NameKind.local)&&decide (d.scope.names.lookup ("c":Str)=some NameKind.local)))))
theorem JP(T:Top p loose mean mg mb B){d:DefRec}(hm:d∈recsOf p)(h:Uc d=true)(hb:d.body=JQ (JR d.body)):∃fa p1 p2 p3 p4 p5 scope,GlobAt B "setitem" (.ref fa)/\FdAt B fa ["a","b","c"] [.Assign [.Subscript (.Name "a" p1) (.Name "b" p2) p3] (.Name "c" p4) p5] scope/\FU ["a","b","c"] scope=true/\
  scope.names.lookup ("a":Str)=some NameKind.local/\scope.names.lookup ("b":Str)=some NameKind.local/\scope.names.lookup ("c":Str)=some NameKind.local:=by
 refine lid λgg kk=>?_
 obtain⟨a,o,pm,code,doc,q1,q2,q3,q4⟩:=T.fn d hm;refine kk ?_;have e6:=y1 (y2 (y2 h));have:=MZ q2 q3 q4 (y1 (y2 h)) (Fe e6);rw [hb] at this;exact⟨a,_,_,_,_,_,d.scope,⟨mg,T.g,.inl (of_decide_eq_true (y1 h)▸q1)⟩,this,e6,of_decide_eq_true (y1 (y2 (y2 (y2 h)))),of_decide_eq_true (y1 (y2 (y2 (y2 (y2 h))))),of_decide_eq_true (y2 (y2 (y2 (y2 (y2 h)))))⟩
theorem QD{K:Frag}(X:K.In B)(T:Top p loose mean mg mb B){x:Str}{v:Value}(e:nsIn K mainGlobals x=some (some v)):GlobAt B x v:=⟨mg,T.g,.inl (mg_of X T.g e)⟩
end
noncomputable def Es(K:Frag)(a:Addr):Option Data:=(K.lookup a).map (·.data)
theorem Bd{K:Frag}{B:Heap}(X:K.In B){a:Addr}{d:Data}(h:Es K a=some d):∃o,B.get? a=some o/\o.data=d:=DJ h λo q e=>⟨o,X _ _ q,e⟩
noncomputable def vwD(d:Data):FuncData×Array Value×Nat:=match d with
 |.func fd=>(fd,#[],0)
 |.fields vs=>(default,vs,0)
 |.seq vs n=>(default,vs,n)
 |_=>(default,#[],0)
noncomputable def vD(K:Frag)(a:Addr):FuncData×Array Value×Nat:=vwD ((Es K a).getD .plain)
noncomputable def fdK(K:Frag)(a:Addr):FuncData:=(vD K a).1
noncomputable def itK(K:Frag)(a:Addr):Array Value:=(vD K a).2.1
noncomputable def vwV(v:Value):Addr×Tok×Str:=match v with
 |.ref a=>(a,0,"")
 |.int _ t=>(0,t,"")
 |.str x t=>(0,t,x)
 |_=>(0,0,"")
noncomputable def Cv(v:Value):Addr:=(vwV v).1
noncomputable def RP(v:Value):Tok:=(vwV v).2.1
noncomputable def Cu(K:Frag)(p:Addr)(i:Nat):Value:=(itK K p).getD i .none
noncomputable def S2(K:Frag)(p:Addr):Obj:={cls:=.type "re.Pattern",data:=.fields #[Cu K p 0,Cu K p 1,.int 0 (RP (Cu K p 2)),Cu K p 3,Cu K p 4,.ref (Cv (Cu K p 5)),.int 0 (RP (Cu K p 6))]}
noncomputable def TJ(K:Frag)(a:Addr):Option (Value×Data):=(K.lookup a).map λo=>(o.cls,o.data)
theorem S3{K:Frag}{B:Heap}{p:Addr}(X:K.In B)(h1:K.lookup p=some (S2 K p))(h2:TJ K (Cv (Cu K p 5))=some (.type "tuple",.seq (itK K (Cv (Cu K p 5))) (vD K (Cv (Cu K p 5))).2.2))(h3:((itK K (Cv (Cu K p 5))).map Builtin.Re.reRawOf).map (·.toNat)=Rx.code):PatAt B p:=
 DJ h2 λo hl e=>⟨_,_,_,_,_,_,_,_,X _ _ h1,⟨o,X _ _ hl,congrArg (·.1) e,_,congrArg (·.2) e⟩,h3⟩
noncomputable def AY(fd:FuncData):List Stmt:=match fd.body with
 |.stmts b=>b
 |_=>[]
structure FnK(K:Frag)(a:Addr)(fd:FuncData):Prop where
 d:Es K a=some (.func fd)
 b:fd.body=.stmts (AY fd)
 g:fd.globals=mainGlobals
 bl:fd.builtins=builtinsNs
 c:fd.code=.ref (Cv fd.code)
 cd:Es K (Cv fd.code)=some (.fields (itK K (Cv fd.code)))
 q:(itK K (Cv fd.code))[1]? =some (.str fd.qualname (RP (Cu K (Cv fd.code) 1)))
noncomputable def U9(fd:FuncData):Addr:=((fd.closure.head?).map (·.2)).getD 0
structure FnS(file:Str)(K:Frag)(C a:Addr)(fd:FuncData):Prop extends FnK K a fd where
 cl:fd.closure=[(("__class__":Str),U9 fd)]
 cc:Es K (U9 fd)=some (.cell (some (.ref C)))
 s:((fd.params.posonlyargs++fd.params.args).head?.map (·.arg))=some ("self":Str)
 f:(itK K (Cv fd.code))[2]? =some (.str file (RP (Cu K (Cv fd.code) 2)))
section
variable{K:Frag}{B:Heap}{a C:Addr}{fd:FuncData}{file:Str}
theorem FnK.rec_(F:FnK K a fd)(X:K.In B):B.CodeRec fd.code fd.qualname:=by
 obtain⟨o,h1,h2⟩:=Bd X F.cd;exact⟨_,o,_,_,F.c,h1,h2,F.q⟩
theorem FnS.file_(F:FnS file K C a fd)(X:K.In B):∃cda oc vs f tf,fd.code=.ref cda/\B.get? cda=some oc/\oc.data=.fields vs/\vs[2]? =some (.str f tf)/\(file==f)=true:=by
 obtain⟨o,h1,h2⟩:=Bd X F.cd;exact⟨_,o,_,_,_,F.c,h1,h2,F.f,beq_self_eq_true _⟩
theorem FnS.self_(F:FnS file K C a fd):∃ar,(fd.params.posonlyargs++fd.params.args).head? =some ar/\ar.arg=("self":Str):=DJ F.s λar h e=>⟨ar,h,e⟩
noncomputable def FP(fd:FuncData)(ps:List Str):Bool:=Kh fd.params ps&&decide ps.Nodup
theorem R1{ps:List Str}(h:FP fd ps=true)(hd:fd.defaults=.none):∀vals:List Value,vals.length=ps.length->bindArgs fd ⟨vals,[]⟩=pure (ps.zip vals):=λvals hl=>by
 have p:=y1 h;have e:=of_decide_eq_true (y2 (y2 (y2 (y2 p))));have:=HA (vals:=vals) (List.isEmpty_iff.mp (y1 p)) (Option.isNone_iff_eq_none.mp (y1 (y2 p))) (List.isEmpty_iff.mp (y1 (y2 (y2 p)))) (Option.isNone_iff_eq_none.mp (y1 (y2 (y2 (y2 p))))) hd (by(simp only [hl,←e,List.length_map])) (by refine rwl e ?_;exact of_decide_eq_true (y2 h));rw [e] at this;exact this
theorem XE(X:K.In B){ps:List Str}(F:FnK K a fd)(h2:fd.closure=[])(h6:FP fd ps=true)(h7:fd.defaults=.none):FdAt B a ps (AY fd) fd.scope:=by
 obtain⟨o,ho,hd⟩:=Bd X F.d;exact⟨o,fd,ho,hd,F.b,rfl,h2,F.g,F.bl,F.rec_ X,R1 h6 h7⟩
theorem QP{prog:Program}(X:K.In B){ps:List Str}(F:FnS prog.main.file K C a fd)(h6:FP fd ps=true)(h7:fd.defaults=.none):FdAtS prog C B a ps (AY fd) fd.scope:=by
 obtain⟨o,ho,hd⟩:=Bd X F.d;exact⟨o,fd,_,ho,hd,F.b,rfl,F.cl,F.g,F.bl,F.rec_ X,R1 h6 h7,Bd X F.cc,F.self_,F.file_ X⟩
noncomputable def Tj(p:Arguments):Arguments:=⟨[],[⟨"self",(p.args.head?.bind (·.annotation)),(p.args.head?.map (·.pos)).getD pz⟩,⟨"initial_size",(p.args.tail.head?.bind (·.annotation)),(p.args.tail.head?.map (·.pos)).getD pz⟩],none,[],p.kw_defaults,none,p.defaults⟩
theorem XU{v dv:Value}(e:fd.params=Tj fd.params):∃k,bindArgs fd ⟨[v],[]⟩=seqItems? fd.defaults>>=k/\k (some #[dv])=pure [(("self":Str),v),(("initial_size":Str),dv)]:=by
 obtain⟨fname,qual,p,body,scope,glob,clo,dfl,kdf,doc,pm,an,cd,ct,bl⟩:=fd;have h:bindArgs ⟨fname,qual,p,body,scope,glob,clo,dfl,kdf,doc,pm,an,cd,ct,bl⟩ ⟨[v],[]⟩=bindArgs ⟨fname,qual,Tj p,body,scope,glob,clo,dfl,kdf,doc,pm,an,cd,ct,bl⟩ ⟨[v],[]⟩:=congrArg (λq=>bindArgs ⟨fname,qual,q,body,scope,glob,clo,dfl,kdf,doc,pm,an,cd,ct,bl⟩ ⟨[v],[]⟩) e;exact⟨_,h.trans rfl,rfl⟩
theorem Wn{prog:Program}(X:K.In B){Tp:Addr}{dv:Value}{n:Nat}(F:FnS prog.main.file K C a fd)(hd:fd.defaults=.ref Tp)(hT:Es K Tp=some (.seq #[dv] n))(e:fd.params=Tj fd.params):FdAtI prog C B a (AY fd) fd.scope:=by
 obtain⟨o,ho,hdt⟩:=Bd X F.d;obtain⟨ot,hT1,hT2⟩:=Bd X hT;exact⟨o,fd,_,dv,ho,hdt,F.b,rfl,F.cl,F.g,F.bl,F.rec_ X,λs' v sb=>by
  obtain⟨k,k1,k2⟩:=XU (v:=v) (dv:=dv) e;exact BindsTo.of_defaults hd (sb _ _ hT1) hT2 k1 k2,Bd X F.cc,F.self_,F.file_ X⟩
end
noncomputable def hdS(ss:List Stmt):Stmt:=ss.headD (.Pass pz)
noncomputable def s2(ss:List Stmt):Stmt:=hdS ss.tail
noncomputable def kp(e:Expr)(l:List Nat):Expr:=l.foldl kid e
noncomputable def RU(s:Stmt)(i:Nat):Pos:=match i with
 |0=>Ah (kp (Ad s) [0,0,0])
 |1=>Ah (kp (Ad s) [0,0])
 |2=>Ah (kp (Ad s) [0])
 |3=>Ah (Ad s)
 |_=>BV s
noncomputable def Vu(ss:List Stmt)(i:Nat):Pos:=match i with
 |5=>Ah (kp (Ad (hdS ss)) [0,0,0])
 |6=>Ah (kp (Ad (hdS ss)) [0,0])
 |7=>Ah (kp (Ad (hdS ss)) [0])
 |8=>Ah (kp (Ad (hdS ss)) [1])
 |9=>Ah (Ad (hdS ss))
 |10=>BV (hdS ss)
 |11=>Ah (kp (Ad (hdS (DS (hdS ss)))) [0])
 |12=>Ah (kp (Ad (hdS (DS (hdS ss)))) [1])
 |13=>Ah (Ad (hdS (DS (hdS ss))))
 |14=>BV (hdS (DS (hdS ss)))
 |i=>RU (s2 ss) i
noncomputable def Ym(ss:List Stmt)(i:Nat):Nat:=match i with
 |0=>knE (kp (Ad (hdS ss)) [1])
 |1=>knE (kp (Ad (hdS (DS (hdS ss)))) [0])
 |2=>knE (kp (Ad (hdS (DS (hdS ss)))) [1])
 |_=>knE (Ad (hdS (DS (hdS ss))))
noncomputable def Xy(ss:List Stmt)(i:Nat):Pos:=match i with
 |5=>Ah (kid (tgS (hdS ss)) 0)
 |6=>Ah (tgS (hdS ss))
 |7=>Ah (Ad (hdS ss))
 |8=>BV (hdS ss)
 |i=>RU (s2 ss) i
noncomputable def WX(ss:List Stmt)(i:Nat):Pos:=match i with
 |1=>Ah (kp (Ad (hdS ss)) [0,0])
 |2=>Ah (kp (Ad (hdS ss)) [0])
 |3=>Ah (kp (Ad (hdS ss)) [1,0])
 |4=>Ah (kp (Ad (hdS ss)) [1,1])
 |5=>Ah (kp (Ad (hdS ss)) [1])
 |6=>Ah (Ad (hdS ss))
 |_=>BV (hdS ss)
noncomputable def K0(p:Nat->Pos)(i j:Nat):Bool:=(p i).endLine==(p j).line
noncomputable def RV(scope:Scope):Bool:=decide (scope.kind=.function)&&(!scope.isCoroutine&&(!scope.isGenerator&&(scope.names.all (λx=>x.2 !=.cell)&&(decide (scope.names.lookup ("self":Str)=some NameKind.local)&&(decide (scope.names.lookup ("super":Str)=some NameKind.globalImplicit)&&decide (scope.names.lookup ("__class__":Str)=some NameKind.free))))))
theorem IG{scope:Scope}(h:RV scope=true):SupOk scope:=
 ⟨of_decide_eq_true (y1 h),Gw (y1 (y2 h)),Gw (y1 (y2 (y2 h))),λx m=>bne_iff_ne.mp (List.all_eq_true.mp (y1 (y2 (y2 (y2 h)))) x m),of_decide_eq_true (y1 (y2 (y2 (y2 (y2 h))))),of_decide_eq_true (y1 (y2 (y2 (y2 (y2 (y2 h)))))),of_decide_eq_true (y2 (y2 (y2 (y2 (y2 (y2 h))))))⟩
noncomputable def NI(scope:Scope):Bool:=decide (scope.kind=.function)&&(!scope.isCoroutine&&(!scope.isGenerator&&(decide (scope.names.lookup ("self":Str)=some NameKind.local)&&(decide (scope.names.lookup ("fws":Str)=some NameKind.local)&&decide (scope.names.lookup ("string":Str)=some NameKind.local)))))
structure AccHyp(prog:Program)(K:Frag)(C:Addr)(cd:ClassData)(fc fp fi fu Tp:Addr)(dc dp di du:FuncData)(dv:Value):Prop where
 cls:clsIn K C=some cd
 mro:cd.mro=[.ref C,.type "list",.type "object"]
 cls':Es K C=some (.cls cd)
 hD:cd.hasDict=true
 hab:cd.abstract=false
 hde:cd.hasDel=false
 hq:cd.qualname=("_Accumulator":Str)
 ga:findIn K (.ref C) "__getattribute__"=some (some (.builtin "list.__getattribute__"))
 gt:findIn K (.ref C) "__getattr__"=some none
 app:findIn K (.ref C) "append"=some (some (.builtin "list.append"))
 sub:mroIn K C (.type "list")=some true
 self_:mroIn K C (.ref C)=some true
 nomod:mroIn K C (.type "module")=some false
 meta_:typeIn K (.ref C)=some (.type "type")
 opq:nsIn K cStatics "thirdparty.any"=some none
 len:alongIn K "__len__" [.type "list",.type "object"]=some (some (.builtin "list.__len__"))
 pop:alongIn K "pop" [.type "list",.type "object"]=some (some (.builtin "list.pop"))
 init:alongIn K "__init__" [.type "list",.type "object"]=some (some (.builtin "list.__init__"))
 sa:findIn K (.ref C) "__setattr__"=some (some (.builtin "object.__setattr__"))
 noat:findIn K (.ref C) "_initial_size"=some none
 callC:specialIn K (.ref C) "__call__"=some (some (.builtin "type.__call__"))
 made:∀S,peek K S (Bind.madeBy (.ref C))=some (some "list.__new__")
 madeL:∀S,peek K S (Bind.madeBy (.type "list"))=some (some "list.__new__")
 base:∀S,peek K S (Bind.staticBase (.ref C))=some (.ref C)
 typ:∀S,peek K S (isInstance (.ref C) (.type "type"))=some true
 f1:findIn K (.ref C) "part_count"=some (some (.ref fc))
 f2:findIn K (.ref C) "pop"=some (some (.ref fp))
 f3:findIn K (.ref C) "__init__"=some (some (.ref fi))
 f4:findIn K (.ref C) "push"=some (some (.ref fu))
 t1:typeIn K (.ref fc)=some (.type "function")
 t2:typeIn K (.ref fp)=some (.type "function")
 t3:typeIn K (.ref fi)=some (.type "function")
 t4:typeIn K (.ref fu)=some (.type "function")
 d1:FnS prog.main.file K C fc dc
 d2:FnS prog.main.file K C fp dp
 d3:FnS prog.main.file K C fi di
 d4:FnK K fu du
 b1:FP dc ["self"]=true
 b2:FP dp ["self"]=true
 b3:di.params=Tj di.params
 b4:FP du ["self","fws","string"]=true
 n1:dc.defaults=.none
 n2:dp.defaults=.none
 n3:di.defaults=.ref Tp
 n4:du.defaults=.none
 cl:du.closure=[]
 iT:Es K Tp=some (.seq #[dv] (vD K Tp).2.2)
 s1:RV dc.scope=true
 s2:RV dp.scope=true
 s3:RV di.scope=true
 s4:NI du.scope=true
 s5:di.scope.names.lookup ("initial_size":Str)=some NameKind.local
 e1:AY dc=ED (RU (hdS (AY dc)))
 e2:AY dp=IT (Vu (AY dp)) (Ym (AY dp))
 e3:AY di=F9 (Xy (AY di))
 e4:AY du=Fq (WX (AY du)) (knE (kp (Ad (hdS (AY du))) [1]))
 l1:K0 (RU (hdS (AY dc))) 2 3=true
 l2:K0 (Vu (AY dp)) 2 3=true
 l3:K0 (Vu (AY dp)) 6 7=true
 l4:K0 (Xy (AY di)) 2 3=true
 l5:K0 (WX (AY du)) 2 6=true
theorem Vc{cd:ClassData}(hq:cd.qualname=("_Accumulator":Str))(sig:Manifest.Signature)(a:Addr)(hs:Manifest.signature? "list.pop"=some sig):Bind.checkArgs "list.pop" {sig with full:=s!"{cd.qualname.toString}.{Bind.lastOf "list.pop"}"} ⟨[.ref a],[]⟩=pure ():=by
 have hsome:(Manifest.signature? "list.pop").isSome=true:=by decide+kernel
 have e:sig=(Manifest.signature? "list.pop").get hsome:=(Option.some.inj ((Option.some_get hsome).trans hs)).symm;subst e;refine rwl hq ?_;kernel_rfl
theorem TS{prog:Program}{K:Frag}{B:Heap}{C:Addr}{cd:ClassData}{fc fp fi fu Tp:Addr}{dc dp di du:FuncData}{dv:Value}(X:K.In B)(lim:B.NoLimit)(name:GlobAt B "_Accumulator" (.ref C))(sup:GlobAt B "super" (.type "super"))(top:(prog.main.scope.names.lookup ("super":Str)).isSome=false)
  (H:AccHyp prog K C cd fc fp fi fu Tp dc dp di du dv):AccB prog K B C:=by
 have hd:(cd.mro.dropWhile (·!=.ref C)).drop 1=[.type "list",.type "object"]:=by
  rw [H.mro,List.dropWhile_cons,if_neg (by rw [bne_self_eq_false];exact Bool.false_ne_true)];rfl
 have s4:=H.s4;exact
 {X:=X
  lim:=lim
  name:=name
  sup:=sup
  top:=top
  makes:=λM h Y=>by
   obtain⟨⟨oc,od,da,sl⟩,h1,h2⟩:=Bd Y H.cls'
   cases h2
   exact⟨⟨oc,od,cd,sl,h1,H.hab,H.hde,by refine rwl H.mro ?_;rfl⟩,Looks.of_peek Y (H.made _),Looks.of_peek Y (H.madeL _),Looks.of_peek Y (H.base _),looks_mroIn Y H.self_,looks_mroIn Y H.sub,looks_specialIn Y H.callC,Looks.of_peek Y (H.typ _)⟩
  k:=⟨cd,{ga:=H.ga,gt:=H.gt,app:=H.app,sub:=H.sub,cls:=H.cls,self_:=H.self_,nomod:=H.nomod,meta_:=H.meta_,popck:=Vc H.hq,opq:=H.opq,len:=hd▸H.len,pop:=hd▸H.pop,mro:=H.mro,hasD:=H.hD,sa:=H.sa,noat:=H.noat,init:=hd▸H.init}⟩
  cls:=by
   obtain⟨⟨oc,od,da,sl⟩,h1,h2⟩:=Bd X H.cls'
   cases h2
   exact⟨oc,od,cd,sl,h1⟩
  callC:=H.callC
  cnt:=⟨_,fc,dc.scope,H.f1,H.t1,H.e1▸QP X H.d1 H.b1 H.n1,H.l1,IG H.s1⟩
  pop:=⟨_,_,fp,dp.scope,H.f2,H.t2,H.e2▸QP X H.d2 H.b2 H.n2,H.l2,H.l3,IG H.s2⟩
  ini:=⟨_,fi,di.scope,H.f3,H.t3,H.e3▸Wn X H.d3 H.n3 H.iT H.b3,H.l4,IG H.s3,H.s5⟩
  psh:=⟨_,_,fu,du.scope,H.f4,H.t4,H.e4▸XE X H.d4 H.cl H.b4 H.n4,H.l5,of_decide_eq_true (y1 s4),Gw (y1 (y2 s4)),Gw (y1 (y2 (y2 s4))),of_decide_eq_true (y1 (y2 (y2 (y2 s4)))),of_decide_eq_true (y1 (y2 (y2 (y2 (y2 s4))))),of_decide_eq_true (y2 (y2 (y2 (y2 (y2 s4)))))⟩}
noncomputable def hdn(x:Str):Bool:= !Rx.rxB x.cps.toList&& !(x==⟨#[]⟩)&& !(Txt.item x 0==⟨#[46]⟩)&& !(Txt.item x (-1)==⟨#[46]⟩)
theorem VQ{x:Str}(h:(x==(⟨#[]⟩:Str))=false):0<x.length:=by
 apply Nat.pos_of_ne_zero;intro q;have:x=⟨#[]⟩:=by
  obtain⟨c⟩:=x;have:c= #[]:=Array.eq_empty_of_size_eq_zero q
  (exact congrArg _ (this))
 rw [this] at h;revert h;decide
theorem U8{x:Str}(h:0<x.length):(Txt.charAt x 0).isSome=true:=by
 unfold Txt.charAt seqIndex?;have h':0<x.cps.size:=h;have e:(decide ((0:Int)<=0)&&decide ((0:Int)<(x.length:Int)))=true:=by simp;omega
 simp only [Int.lt_irrefl,if_false];refine rwl (if_pos e) ?_;simp [h']
theorem XT{x:Str}(h:0<x.length):(Txt.charAt x (-1)).isSome=true:=by
 unfold Txt.charAt seqIndex?;have h':0<x.cps.size:=h;have hl:x.length=x.cps.size:=rfl;simp only [show((-1:Int)<0)=True from by simp,if_true];have e:(decide ((0:Int)<= -1+(x.length:Int))&&decide (-1+(x.length:Int)<(x.length:Int)))=true:=by simp;lia
 refine rwl (if_pos e) ?_;have:(-1+(x.length:Int)).toNat=x.cps.size-1:=by omega
 refine rwl this ?_;simp
 (exact Nat.sub_one_lt_of_lt h)
theorem Nz{G:Tab}{x:Str}{k:T->Prop}(hl:x.length<=4096)(hn:EF x=true)(hk:k (.bool (hdn x))):A1 G Fu Ew [.str x] k:=by
 refine⟨rfl,?_⟩;refine And.intro hl (And.intro hn ?_);refine Cn (λh=>?_) (λh1=>?_)
 ·show k _;have:hdn x=false:=by unfold hdn;refine rwl h ?_;rfl
  rw [this] at hk;exact hk
 refine Cn (λh=>?_) (λh2=>?_)
 ·show k _;have:hdn x=false:=by unfold hdn;refine rwl h ?_;simp
  rw [this] at hk;exact hk
 have h0:=VQ h2;refine Bg (by refine rwl (U8 h0) ?_;rfl) ?_;refine Cn (λh=>?_) (λh3=>?_)
 ·show k _;have:hdn x=false:=by unfold hdn;refine rwl h ?_;simp
  rw [this] at hk;exact hk
 refine Bg (by refine rwl (XT h0) ?_;rfl) ?_;refine Cn (λh=>?_) (λh4=>?_)
 ·show k _;have:hdn x=false:=by unfold hdn;refine rwl h ?_;simp
  rw [this] at hk;exact hk
 ·show k _;have:hdn x=true:=by unfold hdn;(refine rwl h1 ?_;refine rwl h2 ?_;refine rwl h3 ?_;refine rwl h4 ?_);rfl
  rw [this] at hk;exact hk
noncomputable def tl(x:Str):Str:=pickS x (some 1) none none
noncomputable def dmB(a b:Str):Bool:=
 if a==b then true else if !hdn a then false else if Txt.rfind a b== -1 then false else if Txt.rfind a b==0 then false else if !Txt.startswith b ⟨#[46]⟩ then false else hdn (tl b)
noncomputable def WG(G:Tab):Prop:=∀(x:Str) (k:T->Prop),x.length<=4096->EF x=true->k (.bool (hdn x))->G BG [.str x] k
theorem DG{G:Tab}(hG:WG G){A B:Str}{k:T->Prop}(h1:(Txt.lower A).length<=4096)(h2:EF (Txt.lower A)=true)(h3:(Txt.lower B).length<=4096)(h4:(tl (Txt.lower B)).length<=4096)(h5:EF (tl (Txt.lower B))=true)
  (hk:k (.bool (dmB (Txt.lower A) (Txt.lower B)))):A1 G BD Bn [.str A,.str B] k:=by
 refine⟨rfl,?_⟩;refine Bg h1 ?_;refine Bg h3 ?_;unfold dmB at hk;generalize Txt.lower A=a at*;generalize Txt.lower B=b at*;refine Cn (λh=>?_) (λq1=>?_)
 ·show k _;rw [h] at hk;exact hk
 rw [q1] at hk;refine hG a _ h1 h2 ?_;refine Cn (λh=>?_) (λq2=>?_)
 ·show k _;rw [h] at hk;exact hk
 rw [q2] at hk;refine Cn (λh=>?_) (λq3=>?_)
 ·show k _;rw [h] at hk;exact hk
 rw [q3] at hk;refine Cn (λh=>?_) (λq4=>?_)
 ·show k _;rw [h] at hk;exact hk
 rw [q4] at hk;refine Cn (λh=>?_) (λq5=>?_)
 ·show k _;rw [h] at hk;exact hk
 rw [q5] at hk;refine Bg (And.intro (by decide) h4) ?_;refine hG _ _ h4 h5 ?_;have hk':k (.bool (hdn (tl b))):=hk;refine Cn (λh=>?_) (λq6=>?_)
 ·show k _;rw [show hdn (tl b)=false from by unfold tl;simpa using h] at hk';exact hk'
 ·show k _;rw [show hdn (tl b)=true from by unfold tl;simpa using q6] at hk';exact hk'
noncomputable def FY:UInt64:=4607182418800017408
noncomputable def KF:UInt64:=4611686018427387904
noncomputable def Ep:UInt64:=4602678819172646912
noncomputable def U3:UInt64:=4616189618054758400
noncomputable def QU:UInt64:=4618441417868443648
noncomputable def FX:UInt64:=4599676419421066581
noncomputable def Jw:UInt64:=4595172819793696085
noncomputable def Dq:UInt64:=4604180019048437077
noncomputable def feq(x y:UInt64):Bool:=Float64.cmp x y==some .eq
noncomputable def fle(x y:UInt64):Bool:=Float64.cmp x y==some .lt||Float64.cmp x y==some .eq
noncomputable def FV(x y:UInt64):Bool:=Float64.cmp x y==some .lt
noncomputable def VX(r g b mx ra:UInt64):UInt64:=
 (Float64.divmod (Float64.div (if feq r mx then Float64.sub (Float64.div (Float64.sub mx b) ra) (Float64.div (Float64.sub mx g) ra) else
  if feq g mx then Float64.sub (Float64.add KF (Float64.div (Float64.sub mx r) ra)) (Float64.div (Float64.sub mx b) ra) else
  Float64.sub (Float64.add U3 (Float64.div (Float64.sub mx g) ra)) (Float64.div (Float64.sub mx r) ra)) QU) FY).2
noncomputable def F6(mx mn:UInt64):UInt64:=Float64.div (Float64.add mx mn) KF
noncomputable def OZ(mx mn:UInt64):UInt64:=if fle (F6 mx mn) Ep then Float64.div (Float64.sub mx mn) (Float64.add mx mn) else Float64.div (Float64.sub mx mn) (Float64.sub (Float64.sub KF mx) mn)
noncomputable def CP(mx mn:UInt64):Bool:=feq mn mx||(!Float64.isZero (Float64.sub mx mn)&&(if fle (F6 mx mn) Ep then !Float64.isZero (Float64.add mx mn) else !Float64.isZero (Float64.sub (Float64.sub KF mx) mn)))
noncomputable def Fo(r g b:UInt64):T:=if feq (minF r g b) (maxF r g b) then .tup [.flt 0,.fn (F6 (maxF r g b) (minF r g b)),.flt 0] else
 .tup [.flt (VX r g b (maxF r g b) (Float64.sub (maxF r g b) (minF r g b))),.fn (F6 (maxF r g b) (minF r g b)),.flt (OZ (maxF r g b) (minF r g b))]
noncomputable def BiG(G:Tab):Prop:=∀f ts k,G0 f ts k->G f ts k
theorem OS{G:Tab}(hG:BiG G){r g b:UInt64}{k:T->Prop}(ok:CP (maxF r g b) (minF r g b)=true)(hk:k (Fo r g b)):A1 G Cw BP [.fn r,.fn g,.fn b] k:=by
 refine⟨rfl,?_⟩;unfold Fo at hk;refine hG ME _ _ ?_;show Aq _ _ _ _;refine hG Gi _ _ ?_;show Aq _ _ _ _;generalize maxF r g b=mx at*;generalize minF r g b=mn at*;refine Bb (by decide+kernel) ?_;unfold CP at ok;refine Cn (λh=>?_) (λq1=>?_)
 ·rw [show feq mn mx=true from h] at hk;exact And.intro (Nat.le_of_ble_eq_true rfl) hk
 rw [show feq mn mx=false from q1] at hk ok;simp only [Bool.false_or,Bool.and_eq_true,Bool.not_eq_true'] at ok;obtain⟨z1,ok⟩:=ok;unfold OZ VX at hk;refine Cn (λq2=>?_) (λq2=>?_)
 ·rw [show fle (F6 mx mn) Ep=true from q2] at hk ok;refine Bb (by simpa using ok) ?_;refine Bb z1 ?_;refine Bb z1 ?_;refine Bb z1 ?_;refine Cn (λq3=>?_) (λq3=>?_)
  ·rw [show feq r mx=true from q3] at hk;refine Bb (by decide+kernel) ?_;refine Bb (by decide+kernel) ?_;exact And.intro (Nat.le_of_ble_eq_true rfl) hk
  rw [show feq r mx=false from q3] at hk;refine Cn (λq4=>?_) (λq4=>?_)
  ·rw [show feq g mx=true from q4] at hk;refine Bb (by decide+kernel) ?_;refine Bb (by decide+kernel) ?_;exact And.intro (Nat.le_of_ble_eq_true rfl) hk
  ·rw [show feq g mx=false from q4] at hk;refine Bb (by decide+kernel) ?_;refine Bb (by decide+kernel) ?_;exact And.intro (Nat.le_of_ble_eq_true rfl) hk
 ·rw [show fle (F6 mx mn) Ep=false from q2] at hk ok;have ok':Float64.isZero (Float64.sub (Float64.sub KF mx) mn)=false:=by simpa using ok
  refine Bb ok' ?_;refine Bb z1 ?_;refine Bb z1 ?_;refine Bb z1 ?_;refine Cn (λq3=>?_) (λq3=>?_)
  ·rw [show feq r mx=true from q3] at hk;refine Bb (by decide+kernel) ?_;refine Bb (by decide+kernel) ?_;exact And.intro (Nat.le_of_ble_eq_true rfl) hk
  rw [show feq r mx=false from q3] at hk;refine Cn (λq4=>?_) (λq4=>?_)
  ·rw [show feq g mx=true from q4] at hk;refine Bb (by decide+kernel) ?_;refine Bb (by decide+kernel) ?_;exact And.intro (Nat.le_of_ble_eq_true rfl) hk
  ·rw [show feq g mx=false from q4] at hk;refine Bb (by decide+kernel) ?_;refine Bb (by decide+kernel) ?_;exact And.intro (Nat.le_of_ble_eq_true rfl) hk
noncomputable def vP(m1 m2 hue:UInt64):UInt64:=
 let u:=(Float64.divmod hue FY).2
 if FV u Jw then Float64.add m1 (Float64.mul (Float64.mul (Float64.sub m2 m1) u) QU)
 else if FV u Ep then m2
 else if FV u Dq then Float64.add m1 (Float64.mul (Float64.mul (Float64.sub m2 m1) (Float64.sub Dq u)) QU)
 else m1
theorem Yi{G:Tab}{m1 m2 hue:UInt64}{x:T}{k:T->Prop}(hx:x=.flt hue\/x=.fn hue)(hk:k (.flt (vP m1 m2 hue))):A1 G p_v b_v [.flt m1,.flt m2,x] k:=by
 unfold vP at hk
 rcases hx with rfl|rfl
 all_goals
  refine⟨rfl,?_⟩;refine Bb (by decide+kernel) ?_;refine Cn (λh=>?_) (λq1=>?_)
  ·dsimp only at hk;rw [show FV (Float64.divmod hue FY).2 Jw=true from h] at hk;exact hk
  dsimp only at hk;rw [show FV (Float64.divmod hue FY).2 Jw=false from q1] at hk;refine Cn (λh=>?_) (λq2=>?_)
  ·rw [show FV (Float64.divmod hue FY).2 Ep=true from h] at hk;exact hk
  rw [show FV (Float64.divmod hue FY).2 Ep=false from q2] at hk;refine Cn (λh=>?_) (λq3=>?_)
  ·rw [show FV (Float64.divmod hue FY).2 Dq=true from h] at hk;exact hk
  ·rw [show FV (Float64.divmod hue FY).2 Dq=false from q3] at hk;exact hk
noncomputable def m2P(l s:UInt64):UInt64:=if fle l Ep then Float64.mul l (Float64.add FY s) else Float64.sub (Float64.add l s) (Float64.mul l s)
noncomputable def m1P(l m2:UInt64):UInt64:=Float64.sub (Float64.mul KF l) m2
noncomputable def Of(h l s:UInt64):T:=if feq s 0 then .tup [.fn l,.fn l,.fn l] else
 .tup [.flt (vP (m1P l (m2P l s)) (m2P l s) (Float64.add h FX)),.flt (vP (m1P l (m2P l s)) (m2P l s) h),.flt (vP (m1P l (m2P l s)) (m2P l s) (Float64.sub h FX))]
noncomputable def VG(G:Tab):Prop:=∀(m1 m2 hue:UInt64) (x:T) (k:T->Prop),x=.flt hue\/x=.fn hue->k (.flt (vP m1 m2 hue))->G Jd [.flt m1,.flt m2,x] k
theorem Vb{G:Tab}(hG:VG G){h l s:UInt64}{k:T->Prop}(hk:k (Of h l s)):A1 G BC Bt [.fn h,.fn l,.fn s] k:=by
 refine⟨rfl,?_⟩;unfold Of at hk;refine Cn (λq=>?_) (λq=>?_)
 ·rw [show feq s 0=true from q] at hk;exact And.intro (Nat.le_of_ble_eq_true rfl) hk
 rw [show feq s 0=false from q] at hk;unfold m2P at hk;refine Cn (λq=>?_) (λq=>?_)
 ·rw [show fle l Ep=true from q] at hk;refine hG _ _ _ _ _ (.inl rfl) ?_;refine hG _ _ _ _ _ (.inr rfl) ?_;refine hG _ _ _ _ _ (.inl rfl) ?_;exact And.intro (Nat.le_of_ble_eq_true rfl) hk
 ·rw [show fle l Ep=false from q] at hk;refine hG _ _ _ _ _ (.inl rfl) ?_;refine hG _ _ _ _ _ (.inr rfl) ?_;refine hG _ _ _ _ _ (.inl rfl) ?_;exact And.intro (Nat.le_of_ble_eq_true rfl) hk
theorem Se{G:Tab}{h l:UInt64}{k:T->Prop}(hk:k (.tup [.fn l,.fn l,.fn l])):A1 G BC Bt [.fn h,.fn l,.int 0] k:=by
 refine⟨rfl,?_⟩;refine KP (by decide+kernel) ?_;exact And.intro (Nat.le_of_ble_eq_true rfl) hk
theorem WS{G:Tab}{a b:Int}{k:T->Prop}(hk:k (.bool (!(a==b)))):A1 G S5 R2 [.int a,.int b] k:=⟨rfl,hk⟩
noncomputable def B8(a b:Int):Bool:= !(b==0||Float64.isInf (Float64.ofFrac (decide (a<0) !=decide (b<0)) a.natAbs b.natAbs))
noncomputable def divP(a b:Int):UInt64:=Float64.ofFrac (decide (a<0) !=decide (b<0)) a.natAbs b.natAbs
theorem GN{G:Tab}{a b:Int}{k:T->Prop}(ok:B8 a b=true)(hk:k (.fn (divP a b))):A1 G E3 Ds [.int a,.int b] k:=by
 refine⟨rfl,?_⟩;refine Bb (by unfold B8 at ok;simpa using ok) ?_;exact hk
theorem JN{G:Tab}{a b:Str}{k:T->Prop}(hk:k (.bool (Txt.contains a b))):A1 G D2 CK [.str a,.str b] k:=⟨rfl,hk⟩
theorem N1{G:Tab}(hG:BiG G){a b:Str}{k:T->Prop}(hl:a.length+b.length<=4096)(hk:k (.str (a++b))):A1 G Fv Ex [.str a,.str b] k:=by
 refine⟨rfl,?_⟩;refine hG Io _ _ ?_;refine And.intro rfl ?_;show Aq _ _ _ _;refine Bg hl ?_;exact hk
noncomputable def S(l:List Nat):Str:=⟨l.toArray⟩
noncomputable def gT(g:List Nat):T:=.str (S g)
noncomputable def pr(a b:Nat):Str:=S [a,b]
noncomputable def chT(c:Nat):T:=.str ⟨#[c]⟩
theorem Nf(l:List Nat):DB (S l)=l.map chT:=by unfold DB S chT;simp
noncomputable def vv(c sz:Int):Int:=(c.fdiv (sz*(sz-1))).fmod 3
noncomputable def No(f:Str->Option Int)(x y:Nat)(v:Int):Str->Option Int:=KW (KW f (pr x y) v) (pr y x) v
noncomputable def IC(f:Str->Option Int)(x:Nat)(v:Int):List Nat->Str->Option Int
 |[]=>f
 |y::ys=>IC (No f x y v) x v ys
noncomputable def JD(f:Str->Option Int)(v:Int)(ys:List Nat):List Nat->Str->Option Int
 |[]=>f
 |x::xs=>JD (IC f x v ys) v ys xs
noncomputable def OE:Ss:=(.cons (.ex (.seti Ac (.bin .Add (.v n_x) (.v n_y)) (.bin .Mod (.bin .FloorDiv (.v BH) (.bin .Mult (.v Ak) (.bin .Sub (.v Ak) (.k (.int 1))))) (.k (.int 3)))))
 (.cons (.ex (.seti Ac (.bin .Add (.v n_y) (.v n_x)) (.bin .Mod (.bin .FloorDiv (.v BH) (.bin .Mult (.v Ak) (.bin .Sub (.v Ak) (.k (.int 1))))) (.k (.int 3)))))
 .nil))
noncomputable def OG:Ss:=(.cons (.for_ (.v n_y) (.v Ae) OE) .nil)
noncomputable def νp(c:Int)(ch:T)(xs:List T)(f:Str->Option Int)(m:Nat)(r:NS):NS:=(BH,.fz (.int c))::(Ef,.fz ch)::(Ck,.ow (.list xs))::(Ac,.ow (.dI f m))::r
theorem OD{G:Tab}{c sz:Int}{ch o1 o2:T}{xs:List T}{x:Nat}(hsz:sz=5\/sz=4\/sz=3\/sz=2){Q:Ou->Prop}:∀(ys:List Nat) (f:Str->Option Int) (m:Nat),m+2*ys.length<=4096->
  Q (.nxt (νp c ch xs (IC f x (vv c sz) ys) (m+2*ys.length) [(Ak,.fz (.int sz)),(A4,.fz o1),(Ae,.fz o2),(n_x,.fz (chT x))]))->
  BZ (BB (.v n_y)) (λν Q=>Aq G OE ν Q) (ys.map chT) (νp c ch xs f m [(Ak,.fz (.int sz)),(A4,.fz o1),(Ae,.fz o2),(n_x,.fz (chT x))]) Q
 |[]=>λf m hm hQ=>hQ
 |y::ys=>λf m hm hQ=>by
  have hm1:m<=4096:=by(exact Nat.le_of_add_right_le hm)
  have hm2:m+1<=4096:=by rw [List.length_cons] at hm;(refine Nat.lt_of_not_le λh=>?_;lia)
  have ih:=OD (G:=G) (c:=c) (ch:=ch) (o1:=o1) (o2:=o2) (xs:=xs) (x:=x) hsz (Q:=Q) ys (No f x y (vv c sz)) (m+2) (by rw [List.length_cons] at hm;lia) (by
   have:m+2+2*ys.length=m+2*(y::ys).length:=by(simp only [List.length_cons]);(simp+arith)
   refine rwl this ?_;exact hQ)
  rcases hsz with rfl|rfl|rfl|rfl
  all_goals
   show BZ _ _ (chT y::ys.map chT) _ _;refine And.intro hm1 ?_;refine And.intro hm2 ?_;exact ih
theorem RF{G:Tab}{c sz:Int}{ch o1 o2:T}{xs:List T}{x:Nat}(hsz:sz=5\/sz=4\/sz=3\/sz=2){Q:Ou->Prop}(ys:List Nat)(f:Str->Option Int)(m:Nat)(hm:m+2*ys.length<=4096)
  (hQ:Q (.nxt (νp c ch xs (IC f x (vv c sz) ys) (m+2*ys.length) [(Ak,.fz (.int sz)),(A4,.fz o1),(Ae,.fz o2),(n_x,.fz (chT x))]))):
  BZ (BB (.v n_y)) (λν Q=>Aq G OE ν Q) (DB (S ys)) (νp c ch xs f m [(Ak,.fz (.int sz)),(A4,.fz o1),(Ae,.fz o2),(n_x,.fz (chT x))]) Q:=by
 rw [Nf];exact OD hsz ys f m hm hQ
theorem OF{G:Tab}{c sz:Int}{ch o1:T}{xs:List T}{bs:List Nat}(hsz:sz=5\/sz=4\/sz=3\/sz=2){Q:Ou->Prop}:∀(as:List Nat) (f:Str->Option Int) (m:Nat),m+2*bs.length*as.length<=4096->
  Q (.nxt (νp c ch xs (JD f (vv c sz) bs as) (m+2*bs.length*as.length) [(Ak,.fz (.int sz)),(A4,.fz o1),(Ae,.fz (gT bs))]))->
  BZ (BB (.v n_x)) (λν Q=>Aq G OG ν Q) (as.map chT) (νp c ch xs f m [(Ak,.fz (.int sz)),(A4,.fz o1),(Ae,.fz (gT bs))]) Q
 |[]=>λf m hm hQ=>hQ
 |a::as=>λf m hm hQ=>by
  have e:2*bs.length*(a::as).length=2*bs.length+2*bs.length*as.length:=by(simp only [List.length_cons,Nat.mul_succ,Nat.add_comm])
  rw [e] at hm;have ih:=OF (G:=G) (c:=c) (ch:=ch) (o1:=o1) (xs:=xs) (bs:=bs) hsz (Q:=Q) as (IC f a (vv c sz) bs) (m+2*bs.length) (by lia) (by
   have:m+2*bs.length+2*bs.length*as.length=m+2*bs.length*(a::as).length:=by lia
   refine rwl this ?_;exact hQ)
  refine RF hsz bs f m (by lia) ?_;exact ih
theorem RG{G:Tab}{c sz:Int}{ch o1:T}{xs:List T}{bs:List Nat}(hsz:sz=5\/sz=4\/sz=3\/sz=2){Q:Ou->Prop}(as:List Nat)(f:Str->Option Int)(m:Nat)(hm:m+2*bs.length*as.length<=4096)
  (hQ:Q (.nxt (νp c ch xs (JD f (vv c sz) bs as) (m+2*bs.length*as.length) [(Ak,.fz (.int sz)),(A4,.fz o1),(Ae,.fz (gT bs))]))):
  BZ (BB (.v n_x)) (λν Q=>Aq G OG ν Q) (DB (S as)) (νp c ch xs f m [(Ak,.fz (.int sz)),(A4,.fz o1),(Ae,.fz (gT bs))]) Q:=by
 rw [Nf];exact OF hsz as f m hm hQ
noncomputable def Mq:Ss:=(.cons (.asg (.v A4) (.pa Ck (.bin .Mod (.v BH) (.v Ak))))
 (.cons (.asg (.v Ae) (.pa Ck (.bin .Mod (.bin .FloorDiv (.v BH) (.v Ak)) (.bin .Sub (.v Ak) (.k (.int 1))))))
 (.cons (.for_ (.v n_x) (.v A4) OG)
 (.cons (.ex (.ap Ck (.bin .Add (.v A4) (.v Ae))))
 (.cons (.asg (.v BH) (.bin .FloorDiv (.v BH) (.bin .Mult (.bin .Mult (.v Ak) (.bin .Sub (.v Ak) (.k (.int 1)))) (.k (.int 3)))))
 .nil)))))
theorem CO{i:Int}{n:Nat}(h0:0<=i)(h1:i<n):seqIndex? i n=some i.toNat:=by
 unfold seqIndex?;refine rwl (if_neg (by lia:¬i<0)) ?_;have:(decide (0<=i)&&decide (i<(n:Int)))=true:=by simp [h0,h1]
 (exact(if_pos this))
theorem Ju{i:Int}{n:Nat}(h0:0<=i)(h1:i<n)(hn:n<=1000):Ca i=true:=by
 unfold Ca;simp only [Bool.and_eq_true,decide_eq_true_eq]
 constructor<;>(refine Int.not_lt.mp λh=>?_;lia)
theorem Cb(gs:List (List Nat))(i:Nat):(gs.map gT).eraseIdx i=(gs.eraseIdx i).map gT:=by
 induction gs generalizing i with
 |nil=>rfl
 |cons g gs ih=>cases i with
  |zero=>rfl
  |succ i=>show gT g::(gs.map gT).eraseIdx i=gT g::(gs.eraseIdx i).map gT;rw [ih]
theorem N6{G:Tab}{c sz:Int}{ch:T}{gs:List (List Nat)}{f:Str->Option Int}{m:Nat}{rest:List T}{Q:Ou->Prop}(hsz:sz=5\/sz=4\/sz=3\/sz=2)(hlen:(gs.length:Int)=sz)(hg:∀g∈gs,g.length<=5)(hm:m<=1000)
  (k:∀(i j:Nat) (g1 g2:List Nat),gs[i]? =some g1->(gs.eraseIdx i)[j]? =some g2->
   BZ (BB (.v Ak)) (λν Q=>Aq G Mq ν Q) rest (νp (c.fdiv (sz*(sz-1)*3)) ch ((((gs.eraseIdx i).eraseIdx j)++[g1++g2]).map gT) (JD f (vv c sz) g2 g1) (m+2*g2.length*g1.length) []) Q):
  BZ (BB (.v Ak)) (λν Q=>Aq G Mq ν Q) (.int sz::rest) (νp c ch (gs.map gT) f m []) Q:=by
 have hs2:2<=sz:=by rcases hsz with rfl|rfl|rfl|rfl<;>decide
 have hs5:sz<=5:=by rcases hsz with rfl|rfl|rfl|rfl<;>decide
 have i0:0<=c.fmod sz:=by refine rwl (Int.fmod_eq_emod_of_nonneg _ (by lia)) ?_;exact Int.emod_nonneg _ (by lia)
 have i1:c.fmod sz<sz:=by refine rwl (Int.fmod_eq_emod_of_nonneg _ (by lia)) ?_;exact Int.emod_lt_of_pos _ (by(refine Int.not_le.mp λh=>?_;lia))
 have j0:0<=(c.fdiv sz).fmod (sz-1):=by refine rwl (Int.fmod_eq_emod_of_nonneg _ (by lia)) ?_;exact Int.emod_nonneg _ (by lia)
 have j1:(c.fdiv sz).fmod (sz-1)<sz-1:=by refine rwl (Int.fmod_eq_emod_of_nonneg _ (by lia)) ?_;exact Int.emod_lt_of_pos _ (by exact Int.sub_pos_of_lt hs2)
 generalize hi:c.fmod sz=i at i0 i1;generalize hj:(c.fdiv sz).fmod (sz-1)=j at j0 j1;have e1:i.toNat<gs.length:=by(refine Nat.lt_of_not_le λh=>?_;omega)
 obtain⟨g1,hg1⟩:∃g1,gs[i.toNat]? =some g1:=⟨_,List.getElem?_eq_getElem e1⟩;have l2:(gs.eraseIdx i.toNat).length=gs.length-1:=List.length_eraseIdx_of_lt e1;have e2:j.toNat<(gs.eraseIdx i.toNat).length:=by(refine Nat.lt_of_not_le λh=>?_;omega)
 obtain⟨g2,hg2⟩:∃g2,(gs.eraseIdx i.toNat)[j.toNat]? =some g2:=⟨_,List.getElem?_eq_getElem e2⟩;have m1:g1∈gs:=List.mem_of_getElem? hg1;have m2:g2∈gs:=List.mem_of_mem_eraseIdx (List.mem_of_getElem? hg2);have kk:=k i.toNat j.toNat g1 g2 hg1 hg2;have x1:(gs.map gT).length<=1000:=by rw [List.length_map];lia
 have x2:((gs.map gT).eraseIdx i.toNat).length<=1000:=by(simp only [Cb,List.length_map]);lia
 have x3:(((gs.map gT).eraseIdx i.toNat).eraseIdx j.toNat).length<=1000:=by
  (simp only [Cb,Cb,List.length_map])
  have:=List.length_eraseIdx_le (gs.eraseIdx i.toNat) j.toNat;lia
 have fi:Ca (c.fmod sz)=true:=by refine rwl hi ?_;exact Ju i0 (n:=gs.length) (by exact(Int.toNat_lt i0).mp e1) (by lia)
 have fj:Ca ((c.fdiv sz).fmod (sz-1))=true:=by refine rwl hj ?_;exact Ju j0 (n:=gs.length) (by omega) (by lia)
 have si:seqIndex? (c.fmod sz) (gs.map gT).length=some i.toNat:=by(simp only [hi,List.length_map]);exact CO i0 (by exact(Int.toNat_lt i0).mp e1)
 have sj:seqIndex? ((c.fdiv sz).fmod (sz-1)) ((gs.map gT).eraseIdx i.toNat).length=some j.toNat:=by(simp only [hj,Cb,List.length_map]);exact CO j0 (by exact(Int.toNat_lt j0).mp e2)
 have gi:(gs.map gT)[i.toNat]? =some (gT g1):=by(refine rwl (List.getElem?_map) ?_;refine rwl hg1 ?_);rfl
 have gj:((gs.map gT).eraseIdx i.toNat)[j.toNat]? =some (gT g2):=by(simp only [Cb,List.getElem?_map,hg2]);rfl
 have la:(S g1).length+(S g2).length<=4096:=by
  have:=hg g1 m1;have:=hg g2 m2;show g1.toArray.size+g2.toArray.size<=4096;simp;lia
 have lm:m+2*g2.length*g1.length<=4096:=by
  have h1:=hg g1 m1;have h2:=hg g2 m2;have:2*g2.length*g1.length<=2*5*5:=Nat.mul_le_mul (Nat.mul_le_mul_left 2 h2) h1;lia
 have app:S g1++S g2=S (g1++g2):=by
  show(⟨g1.toArray++g2.toArray⟩:Str)=_;unfold S;simp
 have fin:((gs.map gT).eraseIdx i.toNat).eraseIdx j.toNat++[T.str (S g1++S g2)]=(((gs.eraseIdx i.toNat).eraseIdx j.toNat)++[g1++g2]).map gT:=by
  (simp only [Cb,Cb,List.map_append,app]);rfl
 rw [←fin] at kk;clear hi hj
 rcases hsz with rfl|rfl|rfl|rfl
 all_goals
  refine And.intro x1 (And.intro fi ?_);refine Ab si ?_;refine Ab gi ?_;refine And.intro x2 (And.intro fj ?_);refine Ab sj ?_;refine Ab gj ?_;refine RG (by decide) g1 f m lm ?_;refine Bg la ?_;refine And.intro x3 ?_;exact kk
noncomputable def Lt:List Nat:=[107,108,109,110,111]
structure Good(f:Str->Option Int):Prop where
 sym:∀a b,f (pr a b)=f (pr b a)
 val:∀k v,f k=some v->0<=v/\v<=2
 dom:∀k,(f k).isSome=true<->∃a∈Lt,∃b∈Lt,a≠b/\k=pr a b
structure Inv(gs:List (List Nat))(f:Str->Option Int):Prop where
 perm:gs.flatten.Perm Lt
 sym:∀a b,f (pr a b)=f (pr b a)
 val:∀k v,f k=some v->0<=v/\v<=2
 dom:∀k,(f k).isSome=true<->∃g∈gs,∃a∈g,∃b∈g,a≠b/\k=pr a b
theorem Pl{a b c d:Nat}(h:pr a b=pr c d):a=c/\b=d:=by
 have:=congrArg (λs=>s.cps.toList) h
 simpa [pr,S] using this
theorem Dj(f:Str->Option Int)(x y:Nat)(v:Int)(k:Str):No f x y v k=if k=pr x y\/k=pr y x then some v else f k:=by
 unfold No KW
 by_cases h1:k=pr y x
 ·simp [h1]
 ·by_cases h2:k=pr x y
  ·simp [h2]
  ·simp [h1,h2]
theorem HV(x:Nat)(v:Int):∀(ys:List Nat) (f:Str->Option Int) (k:Str),IC f x v ys k=if∃y∈ys,k=pr x y\/k=pr y x then some v else f k
 |[]=>λf k=>by simp [IC]
 |y::ys=>λf k=>by
  show IC (No f x y v) x v ys k=_;rw [HV x v ys,Dj]
  by_cases h1:∃z∈ys,k=pr x z\/k=pr z x
  ·rw [if_pos h1,if_pos];refine lid λgg kk=>?_
   obtain⟨z,m,h⟩:=h1;refine kk ?_;exact⟨z,.tail _ m,h⟩
  ·refine rwl (if_neg h1) ?_
   by_cases h2:k=pr x y\/k=pr y x
   ·rw [if_pos h2,if_pos];exact⟨y,.head _,h2⟩
   ·rw [if_neg h2,if_neg]
    rintro ⟨z,m,h⟩
    rcases mC m with rfl|m
    ·exact h2 h
    ·exact h1 ⟨z,m,h⟩
theorem Di(v:Int)(ys:List Nat):∀(xs:List Nat) (f:Str->Option Int) (k:Str),JD f v ys xs k=if∃x∈xs,∃y∈ys,k=pr x y\/k=pr y x then some v else f k
 |[]=>λf k=>by simp [JD]
 |x::xs=>λf k=>by
  show JD (IC f x v ys) v ys xs k=_;rw [Di v ys xs,HV]
  by_cases h1:∃z∈xs,∃y∈ys,k=pr z y\/k=pr y z
  ·rw [if_pos h1,if_pos];refine lid λgg kk=>?_
   obtain⟨z,m,h⟩:=h1;refine kk ?_;exact⟨z,.tail _ m,h⟩
  ·refine rwl (if_neg h1) ?_
   by_cases h2:∃y∈ys,k=pr x y\/k=pr y x
   ·rw [if_pos h2,if_pos];exact⟨x,.head _,h2⟩
   ·rw [if_neg h2,if_neg]
    rintro ⟨z,m,h⟩
    rcases mC m with rfl|m
    ·exact h2 h
    ·exact h1 ⟨z,m,h⟩
theorem EW{α:Type}:∀{l:List α} {i:Nat} {a:α},l[i]? =some a->l.Perm (a::l.eraseIdx i)
 |[],i,a,h=>by simp at h
 |x::l,0,a,h=>by simp at h;subst h;exact List.Perm.refl _
 |x::l,i+1,a,h=>by
  have:=EW (l:=l) (i:=i) (a:=a) (by simpa using h);exact(this.cons x).trans (List.Perm.swap a x _)
theorem Oo{l l':List (List Nat)}(h:l.Perm l'):l.flatten.Perm l'.flatten:=by
 induction h with
 |nil=>exact List.Perm.refl _
 |cons x _ ih=>exact List.Perm.append_left x ih
 |swap x y l=>
  show(y++(x++l.flatten)).Perm (x++(y++l.flatten))
  (simp only [←List.append_assoc,←List.append_assoc])
  exact List.Perm.append_right _ List.perm_append_comm
 |trans _ _ h1 h2=>exact h1.trans h2
theorem Inv.step{gs:List (List Nat)}{f:Str->Option Int}{i j:Nat}{g1 g2:List Nat}{v:Int}(I:Inv gs f)(h1:gs[i]? =some g1)(h2:(gs.eraseIdx i)[j]? =some g2)(v0:0<=v)(v1:v<=2):
  Inv (((gs.eraseIdx i).eraseIdx j)++[g1++g2]) (JD f v g2 g1):=by
 generalize hr:(gs.eraseIdx i).eraseIdx j=rest;have p:gs.Perm (g1::g2::rest):=by
  refine rwr hr ?_;exact(EW h1).trans ((EW h2).cons g1)
 have pf:gs.flatten.Perm (g1++(g2++rest.flatten)):=Oo p;have nd:(g1++(g2++rest.flatten)).Nodup:=(pf.symm.trans I.perm).nodup_iff.mpr (by decide);have dis:∀a∈g1,∀b∈g2,a≠b:=λa ha b hb=>(List.nodup_append.mp nd).2.2 a ha b (List.mem_append_left _ hb)
 have mem:∀g,g∈gs<->g=g1\/g=g2\/g∈rest:=λg=>by rw [p.mem_iff];simp
 refine⟨?_,λa b=>?_,λk u h=>?_,λk=>?_⟩
 ·have:(rest++[g1++g2]).flatten.Perm (g1++(g2++rest.flatten)):=by
   refine rwl List.flatten_append ?_;simp only [List.flatten_cons,List.flatten_nil,List.append_nil];exact List.perm_append_comm.trans (by rw [List.append_assoc])
  exact this.trans (pf.symm.trans I.perm)
 ·(simp only [Di,Di])
  have e:(∃x∈g1,∃y∈g2,pr a b=pr x y\/pr a b=pr y x)<->(∃x∈g1,∃y∈g2,pr b a=pr x y\/pr b a=pr y x):=by
   constructor<;>(rintro ⟨x,hx,y,hy,h⟩;refine⟨x,hx,y,hy,?_⟩;rcases h with h|h<;>(obtain⟨rfl,rfl⟩:=Pl h;simp))
  by_cases h:∃x∈g1,∃y∈g2,pr a b=pr x y\/pr a b=pr y x
  ·(exact(if_pos h).trans (if_pos (e.mp h)).symm)
  ·rw [if_neg h,if_neg (λq=>h (e.mpr q)),I.sym]
 ·rw [Di] at h
  split at h
  ·cases h;exact⟨v0,v1⟩
  ·exact I.val k u h
 ·rw [Di]
  constructor
  ·intro h
   split at h
   ·rename_i q
    obtain⟨x,hx,y,hy,q⟩:=q;refine⟨g1++g2,by simp,?_⟩
    rcases q with q|q
    ·exact⟨x,by simp [hx],y,by simp [hy],dis x hx y hy,q⟩
    ·exact⟨y,by simp [hy],x,by simp [hx],(dis x hx y hy).symm,q⟩
   ·obtain⟨g,hg,a,ha,b,hb,ne,e⟩:=(I.dom k).mp h
    rcases(mem g).mp hg with rfl|rfl|hg
    ·exact⟨_,by simp;right;rfl,a,by simp [ha],b,by simp [hb],ne,e⟩
    ·exact⟨_,by simp;right;rfl,a,by simp [ha],b,by simp [hb],ne,e⟩
    ·exact⟨g,by simp [hg],a,ha,b,hb,ne,e⟩
  ·rintro ⟨g,hg,a,ha,b,hb,ne,e⟩
   split
   ·rfl
   ·rename_i q
    rcases mA hg with hg|hg
    ·exact(I.dom k).mpr ⟨g,(mem g).mpr (.inr (.inr hg)),a,ha,b,hb,ne,e⟩
    ·rw [mS hg] at ha hb
     rcases mA ha with ha|ha<;>rcases mA hb with hb|hb
     ·exact(I.dom k).mpr ⟨g1,(mem g1).mpr (.inl rfl),a,ha,b,hb,ne,e⟩
     ·exact absurd ⟨a,ha,b,hb,.inl e⟩ q
     ·exact absurd ⟨b,hb,a,ha,.inr e⟩ q
     ·exact(I.dom k).mpr ⟨g2,(mem g2).mpr (.inr (.inl rfl)),a,ha,b,hb,ne,e⟩
theorem Inv.good{g:List Nat}{f:Str->Option Int}(I:Inv [g] f):Good f:=by
 have p:g.Perm Lt:=by simpa using I.perm
 refine⟨I.sym,I.val,λk=>?_⟩;rw [I.dom]
 constructor
 ·rintro ⟨g',hg,a,ha,b,hb,ne,e⟩
  rw [mS hg] at ha hb;exact⟨a,p.mem_iff.mp ha,b,p.mem_iff.mp hb,ne,e⟩
 ·rintro ⟨a,ha,b,hb,ne,e⟩
  exact⟨g,.head _,a,p.mem_iff.mpr ha,b,p.mem_iff.mpr hb,ne,e⟩
theorem Good.upd{f:Str->Option Int}{a b:Nat}{v:Int}(I:Good f)(ha:a∈Lt)(hb:b∈Lt)(ne:a≠b)(v0:0<=v)(v1:v<=2):Good (No f a b v):=by
 refine⟨λc d=>?_,λk u h=>?_,λk=>?_⟩
 ·(simp only [Dj,Dj])
  have e:(pr c d=pr a b\/pr c d=pr b a)<->(pr d c=pr a b\/pr d c=pr b a):=by
   constructor<;>(rintro (h|h)<;>(obtain⟨rfl,rfl⟩:=Pl h;simp))
  by_cases h:pr c d=pr a b\/pr c d=pr b a
  ·(exact(if_pos h).trans (if_pos (e.mp h)).symm)
  ·rw [if_neg h,if_neg (λq=>h (e.mpr q)),I.sym]
 ·rw [Dj] at h
  split at h
  ·cases h;exact⟨v0,v1⟩
  ·exact I.val k u h
 ·rw [Dj]
  constructor
  ·intro h
   split at h
   ·rename_i q
    rcases q with q|q
    ·exact⟨a,ha,b,hb,ne,q⟩
    ·exact⟨b,hb,a,ha,ne.symm,q⟩
   ·exact(I.dom k).mp h
  ·intro h
   split
   ·rfl
   ·exact(I.dom k).mpr h
theorem TV(c sz:Int):0<=vv c sz/\vv c sz<=2:=by
 unfold vv;refine rwl (Int.fmod_eq_emod_of_nonneg _ (by decide)) ?_;omega
noncomputable def tiesL:List (Nat×Nat):=[(107,108),(107,109),(107,110),(107,111),(108,109),(108,110),(108,111),(109,110),(109,111),(110,111)]
theorem RY(xs:List T)(i:Int):Bh (.list xs) (.int i)=Oe xs i:=rfl
theorem RW{xs:List T}{n:Nat}(h:n<xs.length)(hl:xs.length<=1000):Bh (.list xs) (.int (n:Int))=xs[n]? :=by
 rw [RY];unfold Oe;rw [if_pos (Ju (Int.natCast_nonneg n) (Int.ofNat_lt.mpr h) hl),CO (Int.natCast_nonneg n) (Int.ofNat_lt.mpr h)];rfl
theorem UR{i:Int}(h0:0<=i)(h1:i<10):∃a b,a∈Lt/\b∈Lt/\a≠b/\Bh (.list (tiesL.map λp=>.str (pr p.1 p.2))) (.int i)=some (.str (pr a b)):=by
 obtain⟨n,rfl⟩:=Int.eq_ofNat_of_zero_le h0;have h1:n<tiesL.length:=Int.ofNat_lt.mp h1;have d:∀n (h:n<tiesL.length),tiesL[n].1∈Lt/\tiesL[n].2∈Lt/\tiesL[n].1≠tiesL[n].2:=by decide
 obtain⟨a1,a2,a3⟩:=d n h1;refine⟨_,_,a1,a2,a3,?_⟩;rw [RW (by rw [List.length_map];exact h1) (by decide),List.getElem?_map,List.getElem?_eq_getElem h1];rfl
theorem NY{gs:List (List Nat)}{i j:Nat}{g1 g2:List Nat}(h1:gs[i]? =some g1)(h2:(gs.eraseIdx i)[j]? =some g2):((gs.eraseIdx i).eraseIdx j++[g1++g2]).length+1=gs.length:=by
 have a:=(List.getElem?_eq_some_iff.mp h1).1;have b:=(List.getElem?_eq_some_iff.mp h2).1;rw [List.length_append,List.length_eraseIdx_of_lt b,List.length_eraseIdx_of_lt a,List.length_singleton];rw [List.length_eraseIdx_of_lt a] at b;clear h1 h2;lia
theorem Inv.small{gs:List (List Nat)}{f:Str->Option Int}(I:Inv gs f):∀g∈gs,g.length<=5:=λg hg=>by
 have h1:gs.flatten.length=5:=I.perm.length_eq;have:g.length<=gs.flatten.length:=by
  have:=List.sublist_flatten_of_mem hg;exact this.length_le
 (exact le_of_le_of_eq this h1)
theorem Yz:Inv [[107],[108],[109],[110],[111]] (λ_=>none):=by
 refine⟨List.Perm.refl _,λ_ _=>rfl,λk v h=>(nomatch h),λk=>⟨λh=>(nomatch h),?_⟩⟩
 rintro ⟨g,hg,a,ha,b,hb,ne,e⟩
 exfalso;simp only [List.mem_cons,List.not_mem_nil,or_false] at hg
 rcases hg with rfl|rfl|rfl|rfl|rfl<;>(rw [mS ha,mS hb] at ne;exact ne rfl)
theorem F8{G:Tab}{c sz:Int}{ch:T}{gs:List (List Nat)}{f:Str->Option Int}{m B:Nat}{rest:List T}{Q:Ou->Prop}(hsz:sz=5\/sz=4\/sz=3\/sz=2)(I:Inv gs f)(hlen:(gs.length:Int)=sz)(hm:m<=B)(hB:B<=1000)
  (k:∀c' gs' f' m',Inv gs' f'->gs'.length+1=gs.length->m'<=B+50->BZ (BB (.v Ak)) (λν Q=>Aq G Mq ν Q) rest (νp c' ch (gs'.map gT) f' m' []) Q):
  BZ (BB (.v Ak)) (λν Q=>Aq G Mq ν Q) (.int sz::rest) (νp c ch (gs.map gT) f m []) Q:=by
 refine N6 hsz hlen I.small (Nat.le_trans hm hB) λi j g1 g2 p q=>?_
 have z:2*g2.length*g1.length<=2*5*5:=Nat.mul_le_mul (Nat.mul_le_mul_left 2 (I.small _ (List.mem_of_mem_eraseIdx (List.mem_of_getElem? q)))) (I.small _ (List.mem_of_getElem? p));exact k _ _ _ _ (I.step p q (TV c sz).1 (TV c sz).2) (NY p q) (by exact Nat.add_le_add hm z)
theorem Vk(a b:Nat):Bh (.str (pr a b)) (.slc none none (some (-1)))=some (.str (pr b a)):=by kernel_rfl
theorem fm3(x:Int):0<=x.fmod 3/\x.fmod 3<=2:=by rw [Int.fmod_eq_emod_of_nonneg _ (by decide)];lia
theorem Ny{G:Tab}{c ch:Int}{k:T->Prop}(hk:∀f,Good f->k (.dI f)):A1 G Cy BQ [.int c,.int ch] k:=by
 refine⟨rfl,?_⟩;refine And.intro (by show 4<=1000;decide) ?_;refine F8 (ch:=.int ch) (gs:=[[107],[108],[109],[110],[111]]) (f:=λ_=>none) (m:=0) (B:=0) (.inl rfl) Yz rfl (by decide) (by decide) λc1 g1 f1 m1 I1 l1 h1=>?_
 refine F8 (B:=50) (.inr (.inl rfl)) I1 (by simp at l1;(exact Int.neg_inj.mp (congrArg Neg.neg (congrArg Nat.cast l1)))) h1 (by decide) λc2 g2 f2 m2 I2 l2 h2=>?_
 refine F8 (B:=100) (.inr (.inr (.inl rfl))) I2 (by simp at l1;lia) h2 (by decide) λc3 g3 f3 m3 I3 l3 h3=>?_
 refine F8 (B:=150) (.inr (.inr (.inr rfl))) I3 (by simp at l1;lia) h3 (by decide) λc4 g4 f4 m4 I4 l4 h4=>?_
 have l5:g4.length=1:=by simp at l1;lia
 obtain⟨g,rfl⟩:=List.length_eq_one_iff.mp l5;have Gf:=I4.good;refine Cn (λq=>?_) (λq=>?_)
 ·have hq:ch.fmod 13<10:=by simpa using q
  have h0:0<=ch.fmod 13:=by rw [Int.fmod_eq_emod_of_nonneg _ (by decide)];lia
  obtain⟨a,b,ha,hb,ne,e⟩:=UR h0 hq;obtain⟨v,hv⟩:∃v,f4 (pr a b)=some v:=Option.isSome_iff_exists.mp ((Gf.dom _).mpr ⟨a,ha,b,hb,ne,rfl⟩);refine And.intro (by show 10<=1000;decide) ?_;refine Ab e ?_;refine Ab hv ?_;refine And.intro (by lia) ?_;refine Ab (Vk a b) ?_;refine And.intro (by show m4+1<=4096;(refine Nat.lt_of_not_le λh=>?_;lia)) ?_;refine And.intro (by show m4+1+1<=4096;(refine Nat.lt_of_not_le λh=>?_;lia)) ?_;exact hk _ (Gf.upd ha hb ne (fm3 _).1 (fm3 _).2)
 ·refine And.intro (by lia) ?_;exact hk _ Gf
theorem Al(l:List Nat):(S l).length=l.length:=by show l.toArray.size=_;simp
theorem AB(l:List Nat):(S l).cps.toList=l:=by simp [S]
theorem Yc(x:Str):S x.cps.toList=x:=by simp [S]
theorem DO(a b:List Nat):S a++S b=S (a++b):=by
 show(⟨a.toArray++b.toArray⟩:Str)=_;unfold S;simp
theorem E0(a b:List Nat):(S a==S b)=(a==b):=by
 rw [Bool.eq_iff_iff,beq_iff_eq,beq_iff_eq]
 constructor
 ·intro h;have:=congrArg (λs=>s.cps.toList) h
  simpa [S] using this
 ·rintro rfl;rfl
theorem EV(x:Str)(n:Nat)(h:n<=x.length):pickS x (some (n:Int)) none none=S (x.cps.toList.drop n):=by
 have e:pickS x (some (n:Int)) none none=StrLaws.sliceText x (some (n:Int)) (some (x.length:Int)):=by
  unfold pickS StrLaws.sliceText;rw [←StrLaws.sliceIdx_none_hi];rfl
 (refine rwl e ?_;refine rwl (StrLaws.sliceText_nat x h (Nat.le_refl _)) ?_)
 unfold S
 congr 2
 rw [List.take_of_length_le];refine rwl List.length_drop ?_;show x.cps.toList.length-n<=x.cps.size-n;simp
theorem IE(c:Nat)(l:List Nat):tl (S (c::l))=S l:=by
 unfold tl;have:=EV (S (c::l)) 1 (by rw [Al];simp);rw [AB] at this;exact this
theorem at_dot{l:List Nat}{i:Nat}:(i+(S [46]).length<=(S l).length/\Builtin.Str.subAt (S l) (S [46]) i=true)<->l[i]? =some 46:=by
 have:=StrLaws.subAt_one (S l) 46 i;rw [AB] at this;exact this
theorem Iw{l:List Nat}(h:46∉l):Txt.find (S l) (S [46])= -1:=by
 have q:=StrLaws.found_one (S l) 46;rw [AB,decide_eq_false h] at q;unfold Txt.find;have q':(Builtin.Str.occurrences (S l) (S [46]) 0 (S l).length 1).isEmpty=true:=by
  have q2:(!(Builtin.Str.occurrences (S l) (S [46]) 0 (S l).length 1).isEmpty)=false:=q
  simpa using q2
 (refine rwl (List.isEmpty_iff.mp q') ?_;rfl)
theorem KA{a b:List Nat}(h:46∉a):Txt.find (S (a++46::b)) (S [46])=(a.length:Int):=by
 have hat:(a++46::b)[a.length]? =some 46:=by simp
 unfold Txt.find
 rcases StrLaws.occ_head (S (a++46::b)) (S [46]) 1 (Nat.le_refl _) with ⟨_,hn⟩|⟨i,r,e,hi,hk⟩
 ·exact absurd (at_dot.mpr hat) (hn a.length)
 ·refine rwl e ?_;have h1:=at_dot.mp hi;have h2:¬i<a.length:=λq=>by
   rw [List.getElem?_append_left q] at h1;exact h (List.mem_of_getElem? h1)
  have h3:¬a.length<i:=λq=>hk _ q (at_dot.mpr hat)
  have:i=a.length:=by lia
  (exact congrArg _ (this))
theorem sub_at{a b:List Nat}{i:Nat}:(i+(S b).length<=(S a).length/\Builtin.Str.subAt (S a) (S b) i=true)<->∃p q,a=p++b++q/\p.length=i:=by
 (simp only [StrLaws.subAt_eq,AB,AB,Al,Al,beq_iff_eq])
 constructor
 ·rintro ⟨h1,h2⟩
  refine⟨a.take i,(a.drop i).drop b.length,?_,by refine rwl List.length_take ?_;lia⟩;have e1:=(List.take_append_drop i a).symm;have e2:=(List.take_append_drop b.length (a.drop i)).symm;rw [h2] at e2
  (simp only [List.append_assoc,←e2])
  exact e1
 ·rintro ⟨p,q,rfl,rfl⟩
  refine⟨by simp,?_⟩;simp
theorem EU{a b:List Nat}(h:∀p q,a≠p++b++q):Txt.rfind (S a) (S b)= -1:=by
 unfold Txt.rfind
 rcases StrLaws.last_spec (S a) (S b) with ⟨e,_⟩|⟨i,_,hi,_⟩
 ·(refine rwl e ?_;rfl)
 ·obtain⟨p,q,e,_⟩:=sub_at.mp hi;exact absurd e (h p q)
theorem GR{a b p q:List Nat}(h:a=p++b++q)(h0:p≠[]):(Txt.rfind (S a) (S b)== -1)=false/\(Txt.rfind (S a) (S b)==0)=false:=by
 unfold Txt.rfind;have hat:=sub_at.mpr ⟨p,q,h,rfl⟩;have hp:0<p.length:=List.length_pos_iff.mpr h0
 rcases StrLaws.last_spec (S a) (S b) with ⟨_,hn⟩|⟨i,e,_,hk⟩
 ·exact absurd hat (hn p.length)
 ·refine rwl e ?_;have:¬i<p.length:=λq=>hk _ q hat
  dsimp only
  constructor
  ·(simp only [beq_eq_false_iff_ne]);(exact bi_ine.mp rfl)
  ·(simp only [beq_eq_false_iff_ne]);omega
theorem GM(l:List Nat):Txt.startswith (S (46::l)) ⟨#[46]⟩=true:=by
 unfold Txt.startswith;have:=(sub_at (a:=46::l) (b:=[46]) (i:=0)).mpr ⟨[],l,rfl,rfl⟩;have h2:Builtin.Str.subAt (S (46::l)) ⟨#[46]⟩ 0=true:=this.2;refine rwl h2 ?_;have h1:0+(S [46]).length<=(S (46::l)).length:=this.1;rw [Bool.and_true];exact decide_eq_true h1
theorem Lg{c:Nat}{l:List Nat}(h:c≠46):Txt.startswith (S (c::l)) ⟨#[46]⟩=false:=by
 unfold Txt.startswith
 cases q:Builtin.Str.subAt (S (c::l)) ⟨#[46]⟩ 0 with
 |false=>simp
 |true=>
  obtain⟨p,r,e,e0⟩:=(sub_at (a:=c::l) (b:=[46]) (i:=0)).mp ⟨by(simp only [Al,Al]);simp,q⟩;rw [List.length_eq_zero_iff.mp e0] at e
  injection e with e1 e2
  exact absurd e1 h
noncomputable def ML(l:List Nat):Bool:=match l.getLast? with
 |some d=>Sre.isDigit d
 |none=>false
theorem Qh{p:Nat->Bool}:∀{l:List Nat} {d:Nat},d∈l.takeWhile p->p d=true
 |[]=>λh=>by cases h
 |c::l=>λh=>by
  rw [List.takeWhile_cons] at h
  split at h
  ·rename_i q
   rcases mC h with rfl|h
   ·exact q
   ·exact Qh h
  ·cases h
theorem Rh{r:List Nat}(h:Rx.digs r=r.length):∀d∈r,Sre.isDigit d=true:=by
 unfold Rx.digs at h;have:r.takeWhile Sre.isDigit=r:=by
  have:=List.takeWhile_prefix Sre.isDigit (l:=r);exact this.eq_of_length h
 intro d hd;rw [←this] at hd;exact Qh hd
theorem Mr:∀{l:List Nat},Rx.rxB l=true->ML l=true
 |[]=>λh=>by cases h
 |c::r=>λh=>by
  unfold Rx.rxB at h;rw [Bool.or_eq_true] at h
  rcases h with h|h
  ·unfold Rx.hit at h;simp only [Bool.and_eq_true,decide_eq_true_eq,beq_iff_eq] at h;obtain⟨rfl,h1,h2⟩:=h;have hne:r≠[]:=λq=>by rw [q] at h1;revert h1;decide
   unfold ML
   (refine rwl (List.getLast?_cons_of_ne_nil hne) ?_;refine rwl (List.getLast?_eq_some_getLast hne) ?_)
   exact Rh h2 _ (List.getLast_mem hne)
  ·have:=Mr h;have hne:r≠[]:=λq=>by rw [q] at h;cases h
   unfold ML at this⊢;refine rwl (List.getLast?_cons_of_ne_nil hne) ?_;exact this
theorem Qy(c:Nat)(l:List Nat):Txt.item (S (c::l)) 0=S [c]:=by
 unfold Txt.item Txt.charAt;rw [CO (n:=(S (c::l)).length) (by decide) (by rw [Al];simp)];simp [S]
theorem Uw{l:List Nat}{d:Nat}(h:l.getLast? =some d):Txt.item (S l) (-1)=S [d]:=by
 have hne:0<l.length:=by
  cases l with
  |nil=>cases h
  |cons _ _=>simp
 have e:seqIndex? (-1) (S l).length=some (l.length-1):=by
  rw [Al];unfold seqIndex?;simp only [show((-1:Int)<0)=True from by simp,if_true];have:(decide ((0:Int)<= -1+(l.length:Int))&&decide (-1+(l.length:Int)<(l.length:Int)))=true:=by simp;lia
  refine rwl (if_pos this) ?_
  congr 1
  omega
 unfold Txt.item Txt.charAt;refine rwl e ?_;rw [List.getLast?_eq_getElem?] at h;show(⟨#[(((S l).cps[l.length-1]?)).getD 0]⟩:Str)=_;have:(S l).cps[l.length-1]? =some d:=by simpa [S] using h
 refine rwl this ?_;rfl
theorem Hq{c d:Nat}{l:List Nat}(h1:c≠46)(h2:(c::l).getLast? =some d)(h3:d≠46)(h4:Sre.isDigit d=false):hdn (S (c::l))=true:=by
 unfold hdn;have r:Rx.rxB (c::l)=false:=by
  cases q:Rx.rxB (c::l) with
  |false=>rfl
  |true=>
   have:=Mr q;unfold ML at this;rw [h2] at this;dsimp only at this;rw [h4] at this;cases this
 (simp only [AB,r,Qy,Uw h2])
 have e0:(S (c::l)==(⟨#[]⟩:Str))=false:=by
  (simp only [show(⟨#[]⟩:Str)=S [] from rfl,E0]);rfl
 have e1:(S [c]==(⟨#[46]⟩:Str))=false:=by
  (simp only [show(⟨#[46]⟩:Str)=S [46] from rfl,E0]);simpa using h1
 have e2:(S [d]==(⟨#[46]⟩:Str))=false:=by
  (simp only [show(⟨#[46]⟩:Str)=S [46] from rfl,E0]);simpa using h3
 (refine rwl e0 ?_;refine rwl e1 ?_;refine rwl e2 ?_);rfl
theorem K6(l:List Nat):hdn (S (46::l))=false:=by
 unfold hdn;rw [Qy];have:(S [46]==(⟨#[46]⟩:Str))=true:=by decide
 refine rwl this ?_;simp
theorem Q7{l:List Nat}(h:l.getLast? =some 46):hdn (S l)=false:=by
 unfold hdn;refine rwl (Uw h) ?_;have:(S [46]==(⟨#[46]⟩:Str))=true:=by decide
 refine rwl this ?_;simp
theorem Tn:hdn (S [])=false:=by
 unfold hdn;have:(S []==(⟨#[]⟩:Str))=true:=by decide
 rw [this];simp
theorem Ve{l m:List Nat}(h:Rx.rxB m=true):Rx.rxB (l++m)=true:=by
 induction l with
 |nil=>exact h
 |cons c l ih=>
  show(Rx.hit (c::(l++m))||Rx.rxB (l++m))=true;refine rwl ih ?_;simp
theorem Tq{l:List Nat}{d e:Nat}(h1:Sre.isDigit d=true)(h2:Sre.isDigit e=true):hdn (S (l++[46,d,e]))=false:=by
 unfold hdn;rw [AB,Ve]
 ·rfl
 ·show(Rx.hit [46,d,e]||_)=true;have:Rx.hit [46,d,e]=true:=by
   unfold Rx.hit Rx.digs;simp [h1,h2]
  refine rwl this ?_;rfl
noncomputable def Ei:Str:=⟨#[108,111,99,97,108]⟩
noncomputable def DX(x:Str):Str:=pickS x (some (Txt.find x ⟨#[46]⟩+1)) none none
noncomputable def Bv(x:Str):Str:=if decide (Txt.find x ⟨#[46]⟩>=0) then(if hdn x&&(decide (Txt.find (DX x) ⟨#[46]⟩>=0)||DX x==Ei) then(⟨#[46]⟩:Str)++DX x else x) else x
theorem JM{G:Tab}(hG:WG G){x:Str}{k:T->Prop}(h1:x.length<=4096)(h2:EF x=true)(h3:(DX x).length<=4095)(hk:k (.str (Bv x))):A1 G G4 FE [.str x] k:=by
 refine⟨rfl,?_⟩;unfold Bv DX at hk;unfold DX at h3;refine Cn (λq1=>?_) (λq1=>?_)
 ·rw [show decide (Txt.find x ⟨#[46]⟩>=0)=true from q1,if_pos rfl] at hk;refine Bg (And.intro (by decide) (Nat.le_succ_of_le h3)) ?_;generalize pickS x (some (Txt.find x ⟨#[46]⟩+1)) none none=b at*;have h4:(1:Nat)+b.length<=4096:=by lia
  refine hG x _ h1 h2 ?_;generalize hdn x=hx at*;refine Cn (λq2=>?_) (λq2=>?_)
  ·rw [q2,Bool.true_and] at hk;refine Cn (λq3=>?_) (λq3=>?_)
   ·rw [show decide (Txt.find b ⟨#[46]⟩>=0)=true from q3] at hk;refine Bg h4 ?_;exact hk
   ·rw [show decide (Txt.find b ⟨#[46]⟩>=0)=false from q3,Bool.false_or] at hk;generalize Txt.find b ⟨#[46]⟩=fi at*;refine Cn (λq4=>?_) (λq4=>?_)
    ·rw [show(b==Ei)=true from q4] at hk;refine Bg h4 ?_;exact hk
    ·rw [show(b==Ei)=false from q4] at hk;exact hk
  ·rw [q2,Bool.false_and] at hk;exact hk
 ·rw [show decide (Txt.find x ⟨#[46]⟩>=0)=false from q1,if_neg (by decide)] at hk;exact hk
theorem Ln{a b:List Nat}(h:46∉a):DX (S (a++46::b))=S b:=by
 unfold DX;refine rwl (show Txt.find (S (a++46::b)) ⟨#[46]⟩=(a.length:Int) from KA h) ?_;have:=EV (S (a++46::b)) (a.length+1) (by rw [Al];simp)
 (simp only [show((a.length:Int)+1)=((a.length+1:Nat):Int) by simp,this,AB])
 congr 1
 (refine rwl (show a++46::b=(a++[46])++b by simp) ?_;refine rwl (List.drop_append_of_le_length (by simp)) ?_)
 simp
theorem Jv{a b:List Nat}(h:46∉a):decide (Txt.find (S (a++46::b)) ⟨#[46]⟩>=0)=true:=by
 refine rwl (show Txt.find (S (a++46::b)) ⟨#[46]⟩=(a.length:Int) from KA h) ?_;simp
theorem MW{a:List Nat}(h:46∉a):decide (Txt.find (S a) ⟨#[46]⟩>=0)=false:=by
 refine rwl (show Txt.find (S a) ⟨#[46]⟩= -1 from Iw h) ?_;rfl
theorem Ip{l:List Nat}(h:46∈l):∃a b,l=a++46::b/\46∉a:=by
 induction l with
 |nil=>cases h
 |cons c l ih=>
  by_cases q:c=46
  ·subst q;exact⟨[],l,rfl,by simp⟩
  ·obtain⟨a,b,e,n⟩:=ih ((mC h).resolve_left (Ne.symm q));exact⟨c::a,b,by refine rwl e ?_;rfl,by simp [n,Ne.symm q]⟩
theorem GS{a b:List Nat}(h:46∉a)(hd:hdn (S (a++46::b))=true)(hb:46∈b\/S b=Ei):Bv (S (a++46::b))=S (46::b):=by
 unfold Bv;rw [Jv h,Ln h,hd];have:(decide (Txt.find (S b) ⟨#[46]⟩>=0)||S b==Ei)=true:=by
  rcases hb with hb|hb
  ·obtain⟨p,q,rfl,n⟩:=Ip hb;rw [Jv n];rfl
  ·rw [hb];simp
 rw [this];show(S [46])++S b=_;rw [DO];rfl
theorem Ia{l:List Nat}(hd:hdn (S l)=false):Bv (S l)=S l:=by
 unfold Bv;refine rwl hd ?_;simp
theorem ND{l:List Nat}(h:46∉l):Bv (S l)=S l:=by
 unfold Bv;rw [MW h];rfl
theorem Lo{a b:List Nat}(h:46∉a)(hb:46∉b)(hl:(S b==Ei)=false):Bv (S (a++46::b))=S (a++46::b):=by
 unfold Bv;rw [Jv h,Ln h,MW hb,hl];simp
theorem Sp{l:List Nat}:(DX (S l)).length<=l.length:=by
 by_cases h:46∈l
 ·obtain⟨a,b,rfl,n⟩:=Ip h
  (simp only [Ln n,Al])
  simp;(simp+arith)
 ·unfold DX;refine rwl (show Txt.find (S l) ⟨#[46]⟩= -1 from Iw h) ?_;have:=EV (S l) 0 (Nat.zero_le _)
  (simp only [show((-1:Int)+1)=((0:Nat):Int) from rfl,this,AB,List.drop_zero,Al])
  exact Nat.le_refl _
theorem VH(l:List Nat):EF (S l)=l.all (·!=10):=by unfold EF;rfl
theorem Ut{l:List Nat}(h:∀c∈l,c<128):Txt.lower (S l)=S (l.map lo1):=by
 rw [lower_ascii (x:=S l) (by rw [AB];exact h)];unfold S;simp
theorem WJ{l:List Nat}(h:∀c∈l,c<128):Txt.upper (S l)=S (l.map up1):=by
 rw [upper_ascii (x:=S l) (by rw [AB];exact h)];unfold S;simp
noncomputable def okC(c:Nat):Bool:=c==46||(decide (97<=c)&&decide (c<=122))||(decide (48<=c)&&decide (c<=57))
theorem Ea{c:Nat}(h:okC c=true):c<128:=by
 unfold okC at h;simp only [Bool.or_eq_true,Bool.and_eq_true,decide_eq_true_eq,beq_iff_eq] at h
 (refine Nat.lt_of_not_le λh=>?_;lia)
theorem IZ:∀c,c<128->okC c=true->lo1 c=c/\lo1 (up1 c)=c/\up1 c<128/\c≠10:=by decide+kernel
theorem Ar{l:List Nat}(h:l.all okC=true):Txt.lower (S l)=S l:=by
 have h':∀c∈l,okC c=true:=λc m=>List.all_eq_true.mp h c m
 refine rwl (Ut λc m=>Ea (h' c m)) ?_
 congr 1
 have:l.map lo1=l.map id:=List.map_congr_left λc m=>(IZ c (Ea (h' c m)) (h' c m)).1
 (simp only [this,List.map_id])
theorem B7{l:List Nat}(h:l.all okC=true):Txt.lower (Txt.upper (S l))=S l:=by
 have h':∀c∈l,okC c=true:=λc m=>List.all_eq_true.mp h c m
 rw [WJ λc m=>Ea (h' c m),Ut]
 ·congr 1
  refine rwl List.map_map ?_;have:l.map (lo1∘up1)=l.map id:=List.map_congr_left λc m=>(IZ c (Ea (h' c m)) (h' c m)).2.1
  (simp only [this,List.map_id])
 ·intro c m;obtain⟨d,hd,rfl⟩:=mM m;exact(IZ d (Ea (h' d hd)) (h' d hd)).2.2.1
theorem E1{l:List Nat}(h:l.all okC=true):(Txt.upper (S l)).length=l.length:=by
 have h':∀c∈l,okC c=true:=λc m=>List.all_eq_true.mp h c m
 (simp only [WJ λc m=>Ea (h' c m),Al,List.length_map])
theorem Kn{l:List Nat}(h:l.all okC=true):EF (S l)=true:=by
 (simp only [VH,List.all_eq_true])
 intro c m;have:=List.all_eq_true.mp h c m
 simpa using (IZ c (Ea this) this).2.2.2
noncomputable abbrev Lab:=Nat×Nat
noncomputable def blk:List Lab->List Nat
 |[]=>[]
 |(p,q)::r=>46::p::q::blk r
noncomputable def dom(ls:List Lab)(top:List Nat):List Nat:=blk ls++46::top
noncomputable def Au(y:Nat)(ls:List Lab)(top:List Nat):List Nat:=y::dom ls top
noncomputable def UQ:List Nat:=[108,111,99,97,108]
noncomputable def UP:List Nat:=[120,46,99,111,109]
noncomputable def AD(l:Lab):Bool:=decide (97<=l.1)&&decide (l.1<=122)&&l.1 !=99&&decide (97<=l.2)&&decide (l.2<=122)&&l.2 !=99
noncomputable def EE(y:Nat):Bool:=decide (97<=y)&&decide (y<=122)&&y !=99
theorem J2:∀(a b:List Lab),blk (a++b)=blk a++blk b
 |[]=>λb=>rfl
 |(p,q)::a=>λb=>by show 46::p::q::blk (a++b)=_;refine rwl (J2 a b) ?_;rfl
theorem C4:∀(a:List Lab),(blk a).length=3*a.length
 |[]=>rfl
 |(p,q)::a=>by show(blk a).length+3=_;(refine rwl (C4 a) ?_;refine rwl List.length_cons ?_);rfl
theorem Ng:∀{a b:List Lab},blk a=blk b->a=b
 |[],[]=>λ_=>rfl
 |[],(p,q)::b=>λh=>by cases h
 |(p,q)::a,[]=>λh=>by cases h
 |(p,q)::a,(p',q')::b=>λh=>by
  injection h with _ h
  injection h with h1 h
  injection h with h2 h
  subst h1 h2
  (exact congrArg _ (Ng h))
theorem R0{ls:List Lab}(h:ls.all AD=true):99∉blk ls/\(blk ls).all okC=true:=by
 induction ls with
 |nil=>exact⟨by simp [blk],rfl⟩
 |cons l ls ih=>
  refine lid λgg kk=>?_
  obtain⟨p,q⟩:=l;rw [List.all_cons,Bool.and_eq_true] at h;obtain⟨h1,h2⟩:=ih h.2;have h:=h.1;unfold AD at h;simp only [Bool.and_eq_true,decide_eq_true_eq,bne_iff_ne] at h;obtain⟨⟨⟨⟨⟨a1,a2⟩,a3⟩,a4⟩,a5⟩,a6⟩:=h;refine kk ?_
  constructor
  ·intro m
   rcases mC m with e|m
   ·cases e
   ·rcases mC m with e|m
    ·exact a3 e.symm
    ·rcases mC m with e|m
     ·exact a6 e.symm
     ·exact h1 m
  ·show(okC 46&&(okC p&&(okC q&&(blk ls).all okC)))=true;refine rwl h2 ?_;have e1:okC p=true:=by unfold okC;simp [a1,a2]
   have e2:okC q=true:=by unfold okC;simp [a4,a5]
   (refine rwl e1 ?_;refine rwl e2 ?_);rfl
theorem UJ{A B A' B':List Nat}(h:A++99::B=A'++99::B')(hA:99∉A)(hB:99∉B):A=A'/\B=B':=by
 induction A generalizing A' with
 |nil=>
  cases A' with
  |nil=>injection h with _ h;exact⟨rfl,h⟩
  |cons c A'=>
   injection h with h1 h2
   exact absurd (h2▸(by simp:99∈A'++99::B')) hB
 |cons c A ih=>
  cases A' with
  |nil=>
   injection h with h1 h2
   exact absurd (h1▸List.mem_cons_self) hA
  |cons c' A'=>
   injection h with h1 h2
   subst h1;obtain⟨e1,e2⟩:=ih h2 λm=>hA (.tail _ m)
   exact⟨by(exact congrArg _ (e1)),e2⟩
structure TopOk(top:List Nat):Prop where
 split:∃t1 t2,top=t1++99::t2/\99∉t1/\99∉t2
 sign:top.all okC=true
 last:∃d,top.getLast? =some d/\d≠46/\Sre.isDigit d=false
 next:46∈top\/S top=Ei
 head:∃c r,top=c::r/\c≠46
 stays:Bv (S top)=S top
 small:top.length<=10
theorem RM:TopOk UQ:=⟨⟨[108,111],[97,108],rfl,by decide,by decide⟩,by decide,⟨108,rfl,by decide,by decide⟩,.inr rfl,⟨108,_,rfl,by decide⟩,ND (by decide),by decide⟩
theorem RJ:TopOk UP:=⟨⟨[120,46],[111,109],rfl,by decide,by decide⟩,by decide,⟨109,rfl,by decide,by decide⟩,.inl (by decide),⟨120,_,rfl,by decide⟩,Lo (a:=[120]) (b:=[99,111,109]) (by decide) (by decide) (by decide+kernel),by decide⟩
theorem F7{ls:List Lab}{top:List Nat}(T:TopOk top):∃d,(dom ls top).getLast? =some d/\d≠46/\Sre.isDigit d=false:=by
 obtain⟨d,h,r⟩:=T.last;refine⟨d,?_,r⟩;unfold dom;have hne:top≠[]:=λq=>by rw [q] at h;cases h
 (refine rwl (List.getLast?_append) ?_;refine rwl (List.getLast?_cons_of_ne_nil hne) ?_;refine rwl h ?_)
 rfl
theorem LV{ls:List Lab}{top:List Nat}(T:TopOk top)(h:ls.all AD=true):(dom ls top).all okC=true:=by
 unfold dom
 (simp only [List.all_append,(R0 h).2,List.all_cons,T.sign]);rfl
theorem Id{y:Nat}(h:EE y=true):okC y=true/\y≠46/\y≠99:=by
 unfold EE at h;simp only [Bool.and_eq_true,decide_eq_true_eq,bne_iff_ne] at h;refine⟨by unfold okC;simp [h.1.1,h.1.2],by lia,h.2⟩
theorem Jq{y:Nat}{ls:List Lab}{top:List Nat}(T:TopOk top)(hy:EE y=true)(h:ls.all AD=true):(Au y ls top).all okC=true:=by
 show(okC y&&(dom ls top).all okC)=true
 (refine rwl (LV T h) ?_;refine rwl ((Id hy).1) ?_);rfl
theorem Em{y:Nat}{ls:List Lab}{top:List Nat}(T:TopOk top)(hy:EE y=true):hdn (S (Au y ls top))=true:=by
 obtain⟨d,h,h1,h2⟩:=F7 (ls:=ls) T;have hne:dom ls top≠[]:=λq=>by rw [q] at h;cases h
 exact Hq (Id hy).2.1 (by refine rwl (List.getLast?_cons_of_ne_nil hne) ?_;exact h) h1 h2
theorem Q3{y:Nat}{ls ls':List Lab}{top:List Nat}(T:TopOk top)(hy:EE y=true)(h:ls.all AD=true)(h':ls'.all AD=true){p q:List Nat}(e:Au y ls' top=p++dom ls top++q):ls<:+ls':=by
 obtain⟨t1,t2,rfl,n1,n2⟩:=T.split;have e1:Au y ls' (t1++99::t2)=(y::(blk ls'++46::t1))++99::t2:=by unfold Au dom;simp
 have e2:p++dom ls (t1++99::t2)++q=(p++blk ls++46::t1)++99::(t2++q):=by unfold dom;simp
 rw [e1,e2] at e;have nA:99∉(y::(blk ls'++46::t1)):=by
  intro m
  rcases mC m with m|m
  ·exact(Id hy).2.2 m.symm
  ·rcases mA m with m|m
   ·exact(R0 h').1 m
   ·rcases mC m with m|m
    ·cases m
    ·exact n1 m
 obtain⟨f1,f2⟩:=UJ e nA n2;have f3:y::blk ls'=p++blk ls:=by
  have:(y::blk ls')++46::t1=(p++blk ls)++46::t1:=f1;exact List.append_cancel_right this
 cases p with
 |nil=>
  have:=congrArg List.length f3;rw [List.nil_append,List.length_cons,C4,C4] at this;lia
 |cons c p=>
  injection f3 with g1 g2
  have g2:blk ls'=p++blk ls:=g2;have hl:=congrArg List.length g2;rw [List.length_append,C4,C4] at hl;have hm:ls.length<=ls'.length:=by lia
  have key:blk (ls'.take (ls'.length-ls.length))++blk (ls'.drop (ls'.length-ls.length))=p++blk ls:=by
   (simp only [←J2,List.take_append_drop]);exact g2
  have hpl:(blk (ls'.take (ls'.length-ls.length))).length=p.length:=by
   (simp only [C4,List.length_take]);lia
  obtain⟨_,k2⟩:=List.append_inj key hpl;have:=Ng k2;rw [←this];exact List.drop_suffix _ _
theorem Wr{y:Nat}{l:Lab}{ls ls':List Lab}{top:List Nat}(T:TopOk top)(hy:EE y=true)(h:(l::ls).all AD=true)(s:(l::ls)<:+ls'):dmB (S (Au y ls' top)) (S (dom (l::ls) top))=true:=by
 obtain⟨pre,rfl⟩:=s;unfold dmB;have e0:(S (Au y (pre++l::ls) top)==S (dom (l::ls) top))=false:=by
  rw [E0];have:Au y (pre++l::ls) top≠dom (l::ls) top:=by
   intro q;obtain⟨a,b⟩:=l
   injection q with q1 q2
   exact(Id hy).2.1 q1
  simpa using this
 rw [e0,Em T hy];have occ:Au y (pre++l::ls) top=(y::blk pre)++dom (l::ls) top++[]:=by
  unfold Au dom;rw [J2];simp
 obtain⟨r1,r2⟩:=GR occ (by simp);rw [r1,r2];obtain⟨a,b⟩:=l;have hl:=List.all_cons▸h;rw [Bool.and_eq_true] at hl;have hh:=hl.1;unfold AD at hh;simp only [Bool.and_eq_true,decide_eq_true_eq,bne_iff_ne] at hh;have st:Txt.startswith (S (dom ((a,b)::ls) top)) ⟨#[46]⟩=true:=GM _;rw [st];have tle:tl (S (dom ((a,b)::ls) top))=S (a::b::dom ls top):=IE _ _;rw [tle];obtain⟨d,g,g1,g2⟩:=F7 (ls:=ls) T;have hne:dom ls top≠[]:=λq=>by rw [q] at g;cases g
 have:hdn (S (a::b::dom ls top))=true:=Hq (by omega) (by rw [List.getLast?_cons_of_ne_nil (by simp),List.getLast?_cons_of_ne_nil hne];exact g) g1 g2;exact this
theorem XL{y:Nat}{ls ls':List Lab}{top:List Nat}(T:TopOk top)(hy:EE y=true)(h:ls.all AD=true)(h':ls'.all AD=true)(s:¬ls<:+ls')(hne:ls≠[]):dmB (S (Au y ls' top)) (S (dom ls top))=false:=by
 unfold dmB;have e0:(S (Au y ls' top)==S (dom ls top))=false:=by
  rw [E0];have:Au y ls' top≠dom ls top:=by
   intro q
   cases ls with
   |nil=>exact hne rfl
   |cons l ls=>
    obtain⟨a,b⟩:=l
    injection q with q1 q2
    exact(Id hy).2.1 q1
  simpa using this
 (refine rwl e0 ?_;refine rwl (Em T hy) ?_;refine rwl (EU λp q e=>s (Q3 T hy h h' e)) ?_)
 rfl
theorem GT{y:Nat}{l:Lab}{ls:List Lab}{top:List Nat}(T:TopOk top)(hy:EE y=true):Bv (S (Au y (l::ls) top))=S (dom (l::ls) top):=by
 obtain⟨a,b⟩:=l;have:Au y ((a,b)::ls) top=[y]++46::(a::b::dom ls top):=rfl;rw [this,GS]
 ·rfl
 ·intro m;exact(Id hy).2.1 (mS m).symm
 ·refine rwr this ?_;exact Em T hy
 ·refine .inl ?_;unfold dom;simp
theorem NE{a b:Nat}{ls:List Lab}{top:List Nat}(T:TopOk top)(h:AD (a,b)=true):Bv (S (a::b::dom ls top))=S (dom ls top):=by
 unfold AD at h;simp only [Bool.and_eq_true,decide_eq_true_eq,bne_iff_ne] at h;obtain⟨d,g,g1,g2⟩:=F7 (ls:=ls) T;have hne:dom ls top≠[]:=λq=>by rw [q] at g;cases g
 have hd:hdn (S (a::b::dom ls top))=true:=Hq (by omega) (by(refine rwl (List.getLast?_cons_of_ne_nil (by simp)) ?_;refine rwl (List.getLast?_cons_of_ne_nil hne) ?_);exact g) g1 g2;have key:∃r,dom ls top=46::r/\(46∈r\/S r=Ei):=by
  cases ls with
  |nil=>exact⟨top,rfl,T.next⟩
  |cons l ls=>
   obtain⟨p,q⟩:=l;exact⟨_,rfl,.inl (by simp)⟩
 obtain⟨r,e,hr⟩:=key;rw [e] at hd⊢;have:a::b::46::r=[a,b]++46::r:=rfl;rw [this,GS]
 ·intro m;simp only [List.mem_cons,List.not_mem_nil,or_false] at m;omega
 ·exact hd
 ·exact hr
noncomputable def DmG(G:Tab):Prop:=∀(A B:Str) (k:T->Prop),(Txt.lower A).length<=4096->EF (Txt.lower A)=true->(Txt.lower B).length<=4096->(tl (Txt.lower B)).length<=4096->EF (tl (Txt.lower B))=true->k (.bool (dmB (Txt.lower A) (Txt.lower B)))->G Am [.str A,.str B] k
noncomputable def ReG(G:Tab):Prop:=∀(x:Str) (k:T->Prop),x.length<=4096->EF x=true->(DX x).length<=4095->k (.str (Bv x))->G Br [.str x] k
theorem FG{c:Nat}{l:List Nat}(h:(c::l).all okC=true):l.all okC=true:=by
 rw [List.all_cons,Bool.and_eq_true] at h;exact h.2
theorem Ws{G:Tab}(hG:DmG G){a b:List Nat}{c:Nat}{k:T->Prop}(ha:a.all okC=true)(hb:(c::b).all okC=true)(la:a.length<=4096)(lb:b.length<=4000)(hk:k (.bool (dmB (S a) (S (c::b))))):G Am [.str (Txt.upper (S a)),.str (S (c::b))] k:=by
 refine hG _ _ _ ?_ ?_ ?_ ?_ ?_ ?_
 ·(simp only [B7 ha,Al]);exact la
 ·refine rwl (B7 ha) ?_;exact Kn ha
 ·(simp only [Ar hb,Al]);simp;lia
 ·(simp only [Ar hb,IE,Al]);lia
 ·(simp only [Ar hb,IE]);exact Kn (FG hb)
 ·(refine rwl (B7 ha) ?_;refine rwl (Ar hb) ?_);exact hk
theorem Pi{G:Tab}(hG:ReG G){a:List Nat}{k:T->Prop}(ha:a.all okC=true)(la:a.length<=4000)(hk:k (.str (Bv (S a)))):G Br [.str (S a)] k:=by
 refine hG _ _ ?_ (Kn ha) (Nat.le_trans Sp (by lia)) hk;rw [Al];lia
noncomputable def BN:List Lab->List Lab->Option Nat
 |[],_=>none
 |(p,q)::r,ls'=>if((p,q)::r).isSuffixOf ls' then some p else BN r ls'
noncomputable def Ry:Ss:=(.cons (.if_ (.cmp .Is (.call Am (.cons (.met .upper (.v Ae) .nil) (.cons (.v Ag) .nil))) (.k (.bool true)))
 (.cons (.ret (.sub (.v Ag) (.slc (.x (.k (.int 1))) (.x (.k (.int 2))) .no)))
 .nil)
 .nil)
 (.cons (.asg (.v Ag) (.call Br (.cons (.sub (.v Ag) (.slc (.x (.k (.int 1))) .no .no)) .nil)))
 .nil))
theorem FD(ls:List Lab)(top:List Nat):(dom ls top).length=3*ls.length+1+top.length:=by
 unfold dom
 (simp only [List.length_append,C4,List.length_cons]);(exact Eq.symm (Nat.succ_add_eq_add_succ (3*ls.length) top.length))
theorem Vv(p:Nat)(r:List Nat):pickS (S (46::p::r)) (some 1) (some 2) none=S [p]:=by
 have e:pickS (S (46::p::r)) (some 1) (some 2) none=StrLaws.sliceText (S (46::p::r)) (some ((1:Nat):Int)) (some ((2:Nat):Int)):=rfl;rw [e,StrLaws.sliceText_nat _ (by decide) (by rw [Al];simp),AB];rfl
theorem Po(c:Nat)(r:List Nat):pickS (S (c::r)) (some 1) none none=S r:=IE c r
theorem W1{G:Tab}{one:T}{x d p12 p1 r1:Str}{b:Bool}{ts:List T}{t:T}{Q:Ou->Prop}(lu:(Txt.upper x).length<=4096)(h12:pickS d (some 1) (some 2) none=p12)(h1:pickS d (some 1) none none=p1)(l12:p12.length<=4096)(l1:p1.length<=4096)
  (hD:∀k:T->Prop,k (.bool b)->G Am [.str (Txt.upper x),.str d] k) (hR:∀k:T->Prop,k (.str r1)->G Br [.str p1] k)
  (hb:b=true->Q (.ret (.str p12))) (hn:b=false->BZ (BB (.v BF)) (λν Q=>Aq G Ry ν Q) ts [(A4,.fz one),(Ae,.fz (.str x)),(Ag,.fz (.str r1))] Q):
  BZ (BB (.v BF)) (λν Q=>Aq G Ry ν Q) (t::ts) [(A4,.fz one),(Ae,.fz (.str x)),(Ag,.fz (.str d))] Q:=by
 refine Bg lu ?_;refine hD _ ?_
 cases b with
 |true=>
  refine Bg (And.intro (by decide) (h12▸l12)) ?_;show Q (.ret (.str _));refine rwl h12 ?_;exact hb rfl
 |false=>
  refine Bg (And.intro (by decide) (h1▸l1)) ?_;refine rwl h1 ?_;refine hR _ ?_;exact hn rfl
theorem Rw{G:Tab}(hD:DmG G)(hR:ReG G){one:T}{y:Nat}{ls':List Lab}{top:List Nat}(To:TopOk top)(hy:EE y=true)(h':ls'.all AD=true)(hl':ls'.length<=100){Q:Ou->Prop}:∀(ls:List Lab) (ts:List T) (p:Nat),ls.all AD=true->ls.length<=ts.length->ls.length<=100->BN ls ls'=some p->Q (.ret (.str (S [p])))->
  BZ (BB (.v BF)) (λν Q=>Aq G Ry ν Q) ts [(A4,.fz one),(Ae,.fz (.str (S (Au y ls' top)))),(Ag,.fz (.str (S (dom ls top))))] Q
 |[],ts=>λp _ _ _ hc _=>by cases hc
 |(a,b)::ls,[]=>λp _ hl _ _ _=>by simp at hl
 |(a,b)::ls,t::ts=>λp h hl hs hc hQ=>by
  have hto:=To.small;have hok:=Jq To hy h';have dok:=LV (ls:=(a,b)::ls) To h;have e1:dom ((a,b)::ls) top=46::a::b::dom ls top:=rfl;have dl:=FD ls top;have hlen:(Au y ls' top).length<=4000:=by
   show(dom ls' top).length+1<=4000;rw [FD];lia
  simp only [List.length_cons] at hs hl;unfold BN at hc;rw [List.all_cons,Bool.and_eq_true] at h;refine W1 (b:=((a,b)::ls).isSuffixOf ls') (p12:=S [a]) (p1:=S (a::b::dom ls top)) (r1:=S (dom ls top)) (by refine rwl (E1 hok) ?_;lia) (Vv a (b::dom ls top)) (Po 46 (a::b::dom ls top)) (by rw [Al];simp) (by rw [Al];simp;lia) (λk hk=>?_) (λk hk=>?_) (λq=>?_) (λq=>?_)
  ·refine Ws hD (c:=46) (b:=a::b::dom ls top) hok dok (by lia) (by simp;lia) ?_;refine rwr e1 ?_
   cases q:((a,b)::ls).isSuffixOf ls' with
   |true=>rw [q] at hk;rw [Wr To hy (by(simp only [List.all_cons,h.1,h.2]);rfl) (List.isSuffixOf_iff_suffix.mp q)];exact hk
   |false=>rw [q] at hk;rw [XL To hy (by(simp only [List.all_cons,h.1,h.2]);rfl) h' (λz=>by rw [List.isSuffixOf_iff_suffix.mpr z] at q;cases q) (by simp)];exact hk
  ·refine Pi hR (FG dok) (by simp;lia) ?_;refine rwl (NE To h.1) ?_;exact hk
  ·rw [q,if_pos rfl] at hc
   cases hc
   exact hQ
  ·rw [q,if_neg (by decide)] at hc;exact Rw hD hR (one:=one) To hy h' hl' (Q:=Q) ls ts p h.2 (by exact Nat.le_of_lt_succ hl) (by exact Nat.le_of_succ_le hs) hc hQ
theorem N4{G:Tab}(hG:BiG G)(hD:DmG G)(hR:ReG G){x y:Nat}{l:Lab}{ls ls':List Lab}{top:List Nat}{p:Nat}{k:T->Prop}(To:TopOk top)(hx:EE x=true)(hy:EE y=true)(h:(l::ls).all AD=true)(h':ls'.all AD=true)(hl:(l::ls).length<=5)(hl':ls'.length<=100)
  (hc:BN (l::ls) ls'=some p) (hk:k (.str (S [p]))):A1 G Cz BR [.str (S (Au x (l::ls) top)),.str (S (Au y ls' top))] k:=by
 refine⟨rfl,?_⟩;have hto:=To.small;refine Pi hR (Jq To hx h) (by show(dom (l::ls) top).length+1<=4000;rw [FD];lia) ?_;refine rwl (GT To hx) ?_;refine hG AU _ _ ?_;refine Rw hD hR To hy h' hl' (l::ls) (Db 5) p h (by show _<=5;exact hl) (by lia) hc ?_;exact hk
noncomputable def J9(c:Nat):T:=.tup [.str ⟨#[32]⟩,.str ⟨#[c]⟩]
noncomputable def Av(adj:Nat->Bool):List Nat->List Nat->List Nat->List Nat×List Nat
 |[],p,l=>(p,l)
 |o::os,p,l=>if(l.contains o&&adj o)=true then Av adj os (p++[o]) (l.filter (·!=o)) else Av adj os p l
theorem C1(adj:Nat->Bool)(o:Nat)(os p l:List Nat):Av adj (o::os) p l=if(l.contains o&&adj o)=true then Av adj os (p++[o]) (l.filter (·!=o)) else Av adj os p l:=rfl
noncomputable def TY{α:Type}(adj:Nat->Nat->Bool)(names:List Nat)(k:List Nat->List Nat->List Nat->α)(l pt:List Nat):List Nat->α
 |[]=>k [] l pt
 |c::r=>k (Av (adj c) names r.reverse l).1 (Av (adj c) names r.reverse l).2 (pt++[c])
noncomputable def tLoop(adj:Nat->Nat->Bool)(names:List Nat):Nat->List Nat->List Nat->List Nat->List Nat×List Nat
 |0,_,l,pt=>(pt,l)
 |n+1,p,l,pt=>TY adj names (tLoop adj names n) l pt p.reverse
noncomputable def EH(adj:Nat->Nat->Bool)(names:List Nat):Nat->List Nat->List (List Nat)->List (List Nat)
 |0,_,ps=>ps
 |n+1,[],ps=>EH adj names n [] ps
 |n+1,c::l,ps=>EH adj names n (tLoop adj names names.length [c] l []).2 (ps++[BT (tLoop adj names names.length [c] l []).1])
noncomputable def partsP(adj:Nat->Nat->Bool)(names:List Nat):List (List Nat):=EH adj names names.length names []
noncomputable def As(f:Str->Option Int)(p:Int)(a b:Nat):Bool:=match f (pr a b) with
 |some v=> !(v==p)
 |none=>false
noncomputable def NeG(G:Tab):Prop:=∀(a b:Int) (k:T->Prop),k (.bool (!(a==b)))->G Ks [.int a,.int b] k
noncomputable def CoG(G:Tab):Prop:=∀(a b:Str) (k:T->Prop),k (.bool (Txt.contains a b))->G Bl [.str a,.str b] k
theorem LW(l:List Nat)(c:Nat):Txt.contains (S l) ⟨#[c]⟩=l.contains c:=by
 have:=StrLaws.found_one (S l) c;rw [AB] at this;unfold Txt.contains;refine rwl this ?_;simp
theorem NB(l:List Nat)(c:Nat):Txt.replace (S l) ⟨#[c]⟩ ⟨#[]⟩=S (l.filter (·!=c)):=by
 have:=replace_strikes (S l) c;rw [AB] at this;rw [←Yc (Txt.replace (S l) ⟨#[c]⟩ ⟨#[]⟩),this]
noncomputable def Km:Ss:=(.cons (.if_ (.and (.cons (.val (.call Bl (.cons (.v Bk) (.cons (.v Ae) .nil)))) (.cons (.val (.call Ks (.cons (.sub (.v Bj) (.bin .Add (.v Bf) (.v Ae))) (.cons (.v AM) .nil)))) .nil)))
 (.cons (.ex (.push AK (.k (.str ⟨#[32]⟩)) (.v Ae)))
 (.cons (.asgk Bk (.rep (.v Bk) Ae ⟨#[]⟩))
 .nil))
 .nil)
 .nil)
noncomputable def νo(ns:T)(p:Int)(f:Str->Option Int)(l:List Nat)(ps:List T)(st:T)(pt:List Nat)(pile:List Nat)(r:NS):NS:=
 (At,.fz ns)::(AM,.fz (.int p))::(Bj,.fz (.dI f))::(Bk,.fz (.str (S l)))::(Cf,.ow (.list ps))::(BF,.fz st)::(AV,.fz (.str (S pt)))::(AK,.ow (.acc (pile.map J9)))::r
theorem Ix{l:List Nat}{o:Nat}(h:l.contains o=true):(l.filter (·!=o)).length+1<=l.length:=by
 have hm:o∈l:=by simpa using h
 have:(l.filter (·!=o)).length<l.length:=by
  refine List.length_filter_lt_length_iff_exists.mpr ⟨o,hm,by simp⟩
 assumption
theorem VD{G:Tab}(hN:NeG G)(hC:CoG G){ns st tn:T}{p v:Int}{f:Str->Option Int}{ps:List T}{pt l pile:List Nat}{c o:Nat}{os:List Nat}{Q:Ou->Prop}(hv:l.contains o=true->f (pr c o)=some v)(hl:l.length<=4096)(hp:pile.length<=1000)
  (hy:(l.contains o&& !(v==p))=true->Hw Ae (λν Q=>Aq G Km ν Q) os (νo ns p f (l.filter (·!=o)) ps st pt (pile++[o]) [(Ed,.fz tn),(Bf,.fz (.str ⟨#[c]⟩))]) Q)
  (hn:(l.contains o&& !(v==p))=false->Hw Ae (λν Q=>Aq G Km ν Q) os (νo ns p f l ps st pt pile [(Ed,.fz tn),(Bf,.fz (.str ⟨#[c]⟩))]) Q):
  Hw Ae (λν Q=>Aq G Km ν Q) (o::os) (νo ns p f l ps st pt pile [(Ed,.fz tn),(Bf,.fz (.str ⟨#[c]⟩))]) Q:=by
 refine hC _ _ _ ?_;rw [LW]
 cases q:l.contains o with
 |false=>
  rw [q] at hn;exact hn rfl
 |true=>
  rw [q] at hy hn;refine Ab (c:=true) rfl ?_;have hs:Bh (.dI f) (.str (pr c o))=some (.int v):=by
   show(f (pr c o)).map T.int=_;refine rwl (hv q) ?_;rfl
  refine Ab hs ?_;refine hN _ _ _ ?_
  cases q2:(v==p) with
  |true=>
   rw [q2] at hn;exact hn rfl
  |false=>
   rw [q2] at hy;have hlen:(pile.map J9).length<=1000:=by rw [List.length_map];exact hp
   refine And.intro hlen ?_;refine And.intro rfl (And.intro (by rw [Al];exact hl) (And.intro (by decide) ?_));have hy:=hy rfl;have e:(pile++[o]).map J9=pile.map J9++[J9 o]:=by refine rwl List.map_append ?_;rfl
   unfold νo at hy;rw [e,←NB] at hy;exact hy
theorem E5(adj:Nat->Bool):∀(os p l:List Nat),(Av adj os p l).1.length+(Av adj os p l).2.length<=p.length+l.length
 |[]=>λp l=>Nat.le_refl _
 |o::os=>λp l=>by
  rw [C1]
  split
  ·rename_i q
   rw [Bool.and_eq_true] at q;have h1:=E5 adj os (p++[o]) (l.filter (·!=o));have h2:=Ix q.1;rw [List.length_append,List.length_singleton] at h1
   (refine Nat.le_of_not_lt λh=>?_;lia)
  ·exact E5 adj os p l
theorem Eb(adj:Nat->Bool)(names:List Nat):∀(os p l:List Nat),(∀z∈os,z∈names)->(∀z∈p,z∈names/\z∉l)->(∀z∈l,z∈names)->
  (∀z∈(Av adj os p l).1,z∈names/\z∉(Av adj os p l).2)/\∀z∈(Av adj os p l).2,z∈l
 |[]=>λp l _ hp hl=>⟨hp,λz m=>m⟩
 |o::os=>λp l ho hp hl=>by
  rw [C1]
  split
  ·obtain⟨h1,h2⟩:=Eb adj names os (p++[o]) (l.filter (·!=o)) (λz m=>ho z (.tail _ m)) (λz m=>by
    rcases mA m with m|m
    ·exact⟨(hp z m).1,λq=>(hp z m).2 (mF q).1⟩
    ·refine rwl (mS m) ?_;exact⟨ho o (.head _),λq=>by simpa using (mF q).2⟩) λz m=>hl z (mF m).1
   exact⟨h1,λz m=>(mF (h2 z m)).1⟩
  ·exact Eb adj names os p l (λz m=>ho z (.tail _ m)) hp hl
theorem LA{G:Tab}(hN:NeG G)(hC:CoG G){ns st tn:T}{p:Int}{f:Str->Option Int}{ps:List T}{pt names:List Nat}{c:Nat}{Q:Ou->Prop}(hf:∀a∈names,∀b∈names,a≠b->(f (pr a b)).isSome=true)(hc:c∈names):∀(os pile l:List Nat),(∀z∈os,z∈names)->c∉l->pile.length+l.length<=1000->
  Q (.nxt (νo ns p f (Av (As f p c) os pile l).2 ps st pt (Av (As f p c) os pile l).1 [(Ed,.fz tn),(Bf,.fz (.str ⟨#[c]⟩))]))->
  Hw Ae (λν Q=>Aq G Km ν Q) os (νo ns p f l ps st pt pile [(Ed,.fz tn),(Bf,.fz (.str ⟨#[c]⟩))]) Q
 |[]=>λpile l _ _ _ hQ=>hQ
 |o::os=>λpile l ho hcl hlen hQ=>by
  have key:∃v,(l.contains o=true->f (pr c o)=some v)/\(l.contains o&&As f p c o)=(l.contains o&& !(v==p)):=by
   cases q:l.contains o with
   |false=>exact⟨0,(λh=>nomatch h),rfl⟩
   |true=>
    have hm:o∈l:=by simpa using q
    have ne:c≠o:=λe=>hcl (e▸hm)
    obtain⟨v,hv⟩:=Option.isSome_iff_exists.mp (hf c hc o (ho o (.head _)) ne);refine⟨v,λ_=>hv,?_⟩;unfold As
    (refine rwl hv ?_;rfl)
  obtain⟨v,hv,he⟩:=key;rw [C1] at hQ;rw [he] at hQ;refine VD hN hC hv (by lia) (by exact Nat.le_of_add_right_le hlen) (λq=>?_) (λq=>?_)
  ·rw [if_pos q] at hQ;rw [Bool.and_eq_true] at q;have:=Ix q.1;refine LA hN hC hf hc os _ _ (λz m=>ho z (.tail _ m)) (λm=>hcl (mF m).1) (by(refine rwl List.length_append ?_;refine rwl List.length_singleton ?_);(refine Nat.le_of_not_lt λh=>?_;lia)) hQ
  ·rw [if_neg (by refine rwl q ?_;decide)] at hQ;exact LA hN hC hf hc os _ _ (λz m=>ho z (.tail _ m)) hcl hlen hQ
noncomputable def TZ:Ss:=(.cons (.if_ (.cmp .Gt (.count AK) (.k (.int 0)))
 (.cons (.asg (.v Bf) (.sub (.pop AK) (.k (.int 1))))
 (.cons (.asg (.v AV) (.bin .Add (.v AV) (.v Bf)))
 (.cons (.fors Ae (.v At) Km)
 .nil)))
 .nil)
 .nil)
theorem Qi(r:List Nat)(c:Nat):JY ((r++[c]).map J9)=(J9 c,r.map J9):=by
 refine rwl List.map_append ?_;exact FN _ _
theorem Fp{p:List Nat}{c:Nat}{r:List Nat}(h:p.reverse=c::r):p=r.reverse++[c]:=by
 have:=congrArg List.reverse h
 simpa using this
theorem AS(adj:Nat->Nat->Bool)(names:List Nat)(n:Nat)(r l pt:List Nat)(c:Nat):tLoop adj names (n+1) (r++[c]) l pt=tLoop adj names n (Av (adj c) names r l).1 (Av (adj c) names r l).2 (pt++[c]):=by
 show TY _ _ _ _ _ (r++[c]).reverse=_;rw [List.reverse_append];show tLoop adj names n (Av (adj c) names r.reverse.reverse l).1 (Av (adj c) names r.reverse.reverse l).2 (pt++[c])=_;rw [List.reverse_reverse]
theorem La{G:Tab}(hN:NeG G)(hC:CoG G){st:T}{p:Int}{f:Str->Option Int}{ps:List T}{names:List Nat}{Q:Ou->Prop}(hf:∀a∈names,∀b∈names,a≠b->(f (pr a b)).isSome=true)(ha:names.all (·<128)=true):∀(ts:List T) (pile l pt:List Nat),(∀z∈pile,z∈names/\z∉l)->(∀z∈l,z∈names)->pt.length+pile.length+l.length<=60->
  (∀pile',Q (.nxt (νo (.str (S names)) p f (tLoop (As f p) names ts.length pile l pt).2 ps st (tLoop (As f p) names ts.length pile l pt).1 pile' [])))->
  BZ (BB (.v Ed)) (λν Q=>Aq G TZ ν Q) ts (νo (.str (S names)) p f l ps st pt pile []) Q
 |[]=>λpile l pt _ _ _ hQ=>hQ pile
 |t::ts=>λpile l pt hp hl hlen hQ=>by
  have hcount:(pile.map J9).length<=1000:=by rw [List.length_map];lia
  cases q:pile.reverse with
  |nil=>
   have:pile=[]:=by simpa using q
   subst this;refine And.intro hcount ?_;exact La hN hC hf ha ts [] l pt (λz m=>nomatch m) hl (by simpa using hlen) hQ
  |cons c r=>
   have e:=Fp q;generalize r.reverse=r' at e;subst e;rw [List.length_cons,AS] at hQ;simp only [List.length_append,List.length_singleton] at hlen;obtain⟨hcn,hcl⟩:=hp c (by simp);obtain⟨i1,i2⟩:=Eb (As f p c) names names r' l (λz m=>m) (λz m=>hp z (by simp [m])) hl;have il:=E5 (As f p c) names r' l;have ih:=La hN hC (st:=st) (ps:=ps) (Q:=Q) hf ha ts (Av (As f p c) names r' l).1 (Av (As f p c) names r' l).2 (pt++[c]) i1 (λz m=>hl z (i2 z m)) (by simp only [List.length_append,List.length_singleton];lia) hQ;refine And.intro hcount ?_;refine KP (by rw [List.length_map];simp) ?_;refine And.intro hcount ?_;rw [Qi];refine Bg (show(S pt).length+1<=4096 by rw [Al];(refine Nat.lt_of_not_le λh=>?_;lia)) ?_;have hS:((S names).cps.all (·<128))=true:=by
    (simp only [←Array.all_toList,AB]);exact ha
   refine And.intro hS ?_;rw [AB];have e2:S pt++(⟨#[c]⟩:Str)=S (pt++[c]):=DO pt [c];refine rwl e2 ?_;refine LA hN hC hf hcn names r' l (λz m=>m) hcl (by lia) ?_;exact ih
theorem Nv(l:List Str):Mn (l.map T.str)=some l:=Kx (f:=T.str?) (g:=T.str) (λ_=>rfl) l
theorem Tf:∀(l:List Nat),Txt.join ⟨#[]⟩ (l.map sg)=S l:=by
 intro l;show Builtin.Str.glued ⟨#[]⟩ (l.map sg)=_;rw [StrLaws.glued_eq_join]
 induction l with
 |nil=>rfl
 |cons c l ih=>
  cases l with
  |nil=>rfl
  |cons d l=>
   show sg c++(⟨#[]⟩:Str)++Str.join ⟨#[]⟩ ((d::l).map sg)=_;refine rwl ih ?_;show S [c]++S []++S (d::l)=_
   (simp only [DO,DO]);rfl
theorem OM:∀(l:List Nat),((l.map sg).map (·.length)).sum=l.length
 |[]=>rfl
 |c::l=>by
  show 1+((l.map sg).map (·.length)).sum=_
  (refine rwl (OM l) ?_;refine rwl List.length_cons ?_);(exact Nat.add_comm 1 l.length)
theorem Ob{l:List Nat}(h:l.length<=1000):JoinOk ⟨#[]⟩ (l.map sg)=true:=by
 unfold JoinOk;rw [StrLaws.joinTotal,OM];have e:(⟨#[]⟩:Str).length=0:=rfl
 (simp only [e,Nat.mul_zero,Nat.add_zero])
 unfold Builtin.Str.tooLong;refine rwl sizeLine_eq ?_;simp;lia
theorem Pe{l:List Nat}(h:l.length<=1000):Met.run .join ⟨#[]⟩ [.list (l.map λc=>T.str (sg c))]=some (.str (S l)):=by
 have e:(l.map λc=>T.str (sg c))=(l.map sg).map T.str:=by refine rwl List.map_map ?_;rfl
 refine rwl e ?_;show(Mn ((l.map sg).map T.str)).bind _=_;rw [Nv];show(if JoinOk _ _ then _ else _)=_;rw [if_pos (Ob h),Tf]
theorem WQ(c:Nat)(l:List Nat):Bh (.str (S (c::l))) (.int 0)=some (.str ⟨#[c]⟩):=by
 have h:(Ca 0&&(Txt.charAt (S (c::l)) 0).isSome)=true:=by
  rw [U8 (by rw [Al];simp)];rfl
 show(if _ then _ else _)=_;rw [if_pos h,Qy];rfl
theorem sub1(c:Nat)(l:List Nat)(h:l.length<=4096):Bh (.str (S (c::l))) (.slc (some 1) none none)=some (.str (S l)):=by
 show(if _ then _ else _)=_;rw [if_pos ⟨by decide,by(simp only [Po,Al]);exact h⟩,Po]
theorem Ib(n:Nat):(Db (n:Int)).length=n:=by unfold Db;simp
noncomputable def Xb:Ss:=(.cons (.if_ (.cmp .NotEq (.v Bk) (.k (.str ⟨#[]⟩)))
 (.cons (.crt [AK,AV] [.acc,.s ⟨#[]⟩])
 (.cons (.ex (.push AK (.k (.str ⟨#[32]⟩)) (.sub (.v Bk) (.k (.int 0)))))
 (.cons (.asg (.v Bk) (.sub (.v Bk) (.slc (.x (.k (.int 1))) .no .no)))
 (.cons (.for_ (.v Ed) (.call AU (.cons (.call BU (.cons (.v At) .nil)) .nil)) TZ)
 (.cons (.ex (.ap Cf (.met .join (.k (.str ⟨#[]⟩)) (.cons (.call CF (.cons (.v AV) .nil)) .nil))))
 .nil)))))
 .nil)
 .nil)
theorem GC(adj:Nat->Nat->Bool)(names:List Nat):∀(n:Nat) (p l pt:List Nat),(∀z∈p,z∈names/\z∉l)->(∀z∈l,z∈names)->
  (∀z∈(tLoop adj names n p l pt).2,z∈l)/\(tLoop adj names n p l pt).1.length+(tLoop adj names n p l pt).2.length<=pt.length+p.length+l.length
 |0=>λp l pt _ _=>⟨λz m=>m,by show pt.length+l.length<=pt.length+p.length+l.length;(simp+arith)⟩
 |n+1=>λp l pt hp hl=>by
  cases q:p.reverse with
  |nil=>
   have:p=[]:=by simpa using q
   subst this;exact GC adj names n [] l pt (λz m=>nomatch m) hl
  |cons c r=>
   have e:=Fp q;generalize r.reverse=r' at e;subst e;rw [AS];obtain⟨i1,i2⟩:=Eb (adj c) names names r' l (λz m=>m) (λz m=>hp z (by simp [m])) hl;have il:=E5 (adj c) names r' l;obtain⟨h1,h2⟩:=GC adj names n (Av (adj c) names r' l).1 (Av (adj c) names r' l).2 (pt++[c]) i1 (λz m=>hl z (i2 z m));refine⟨λz m=>i2 z (h1 z m),?_⟩;simp only [List.length_append,List.length_singleton] at h2⊢;lia
theorem C8(adj:Nat->Bool):∀(os p l:List Nat),(Av adj os p l).2.Sublist l
 |[]=>λp l=>List.Sublist.refl _
 |o::os=>λp l=>by
  rw [C1]
  split
  ·exact(C8 adj os _ _).trans List.filter_sublist
  ·exact C8 adj os p l
theorem Dk(adj:Nat->Nat->Bool)(names:List Nat):∀(n:Nat) (p l pt:List Nat),(tLoop adj names n p l pt).2.Sublist l
 |0=>λp l pt=>List.Sublist.refl _
 |n+1=>λp l pt=>by
  rcases List.eq_nil_or_concat p with rfl|⟨r,c,rfl⟩
  ·exact Dk adj names n [] l pt
  ·rw [List.concat_eq_append,AS];exact(Dk adj names n _ _ _).trans (C8 _ _ _ _)
noncomputable def νs(names:List Nat)(p:Int)(f:Str->Option Int)(l:List Nat)(ps:List (List Nat)):NS:=
 [(At,.fz (.str (S names))),(AM,.fz (.int p)),(Bj,.fz (.dI f)),(Bk,.fz (.str (S l))),(Cf,.ow (.list (ps.map gT)))]
theorem IL{G:Tab}(hG:BiG G)(hN:NeG G)(hC:CoG G){p:Int}{f:Str->Option Int}{names:List Nat}{Q:Ou->Prop}(hf:∀a∈names,∀b∈names,a≠b->(f (pr a b)).isSome=true)(ha:names.all (·<128)=true)(hn:names.length<=50):∀(ts:List T) (l:List Nat) (ps:List (List Nat)),l.Nodup->(∀z∈l,z∈names)->l.length<=50->ps.length+l.length<=100->
  (∀l',Q (.nxt (νs names p f l' (EH (As f p) names ts.length l ps))))->
  BZ (BB (.v BF)) (λν Q=>Aq G Xb ν Q) ts (νs names p f l ps) Q
 |[],l=>λps _ _ _ _ hQ=>hQ l
 |t::ts,[]=>λps hd hl h50 hlen hQ=>by
  exact IL hG hN hC hf ha hn ts [] ps hd hl h50 hlen hQ
 |t::ts,c::l=>λps hd hl h50 hlen hQ=>by
  have hQ:∀l',Q (.nxt (νs names p f l' (EH (As f p) names ts.length (tLoop (As f p) names names.length [c] l []).2 (ps++[BT (tLoop (As f p) names names.length [c] l []).1])))):=hQ;rw [List.nodup_cons] at hd;have h50':l.length<=50:=by rw [List.length_cons] at h50;(exact Nat.le_of_succ_le h50)
  have ne:(!(S (c::l)==(⟨#[]⟩:Str)))=true:=by
   (simp only [show(⟨#[]⟩:Str)=S [] from rfl,E0]);rfl
  obtain⟨t1,t2⟩:=GC (As f p) names names.length [c] l [] (λz m=>by refine rwl (mS m) ?_;exact⟨hl c (.head _),hd.1⟩) (λz m=>hl z (.tail _ m));refine Ab (WQ c l) ?_;refine And.intro (by decide) ?_;refine Ab (sub1 c l (by lia)) ?_;refine hG BU _ _ ?_;refine And.intro (by rw [Al];lia) ?_;refine hG AU _ _ ?_;rw [Al];refine Bg ⟨by(exact Int.natCast_nonneg names.length),by lia⟩ ?_;refine La (ps:=ps.map gT) (pile:=[c]) (l:=l) (pt:=[]) hN hC hf ha (Db (names.length:Int)) (λz m=>by refine rwl (mS m) ?_;exact⟨hl c (.head _),hd.1⟩) (λz m=>hl z (.tail _ m)) (by simp;lia) λpile'=>?_
  rw [Ib];have t3:=Dk (As f p) names names.length [c] l [];generalize tLoop (As f p) names names.length [c] l []=r at*;obtain⟨pt,l'⟩:=r;dsimp only at t1 t2 t3 hQ⊢;have hpt:pt.length<64:=by simp only [List.length_nil,List.length_singleton] at t2;(refine Nat.lt_of_not_le λh=>?_;lia)
  refine hG CF _ _ ?_;refine And.intro (by rw [Al];exact hpt) ?_;rw [AB];refine Ab (Pe (l:=BT pt) (by refine rwl ((Dy pt).length_eq) ?_;lia)) ?_;refine And.intro (by rw [List.length_map];lia) ?_;have ih:=IL hG hN hC (p:=p) (Q:=Q) hf ha hn ts l' (ps++[BT pt]) (hd.2.sublist t3) (λz m=>hl z (.tail _ (t1 z m))) (by have:=t3.length_le;(exact Nat.le_trans this h50')) (by have:=t3.length_le;simp only [List.length_append,List.length_cons,List.length_nil] at hlen⊢;lia) hQ;have e2:(ps++[BT pt]).map gT=ps.map gT++[.str (S (BT pt))]:=by refine rwl List.map_append ?_;rfl
  unfold νs at ih;rw [e2] at ih;exact ih
theorem OT{G:Tab}(hG:BiG G)(hN:NeG G)(hC:CoG G){p:Int}{f:Str->Option Int}{names:List Nat}{k:T->Prop}(hf:∀a∈names,∀b∈names,a≠b->(f (pr a b)).isSome=true)(ha:names.all (·<128)=true)(hn:names.length<=50)(hd:names.Nodup)
  (hk:k (.list ((partsP (As f p) names).map gT))):A1 G CR Cp [.str (S names),.int p,.dI f] k:=by
 refine⟨rfl,?_⟩;refine hG BU _ _ ?_;refine And.intro (by rw [Al];lia) ?_;refine hG AU _ _ ?_;rw [Al];refine Bg ⟨by(exact Int.natCast_nonneg names.length),by lia⟩ ?_;refine IL hG hN hC hf ha hn (Db (names.length:Int)) names [] hd (λz m=>m) hn (by simp;lia) λl'=>?_
 rw [Ib];exact hk
theorem He(adj:Nat->Bool):∀(os p l:List Nat),(p++l).Nodup->((Av adj os p l).1++(Av adj os p l).2).Nodup
 |[]=>λp l h=>h
 |o::os=>λp l h=>by
  rw [C1]
  split
  ·rename_i q
   rw [Bool.and_eq_true] at q;have hm:o∈l:=by simpa using q.1
   refine He adj os _ _ ?_;obtain⟨h1,h2,h3⟩:=List.nodup_append.mp h;rw [List.append_assoc,List.nodup_append];refine⟨h1,?_,λa ha b hb=>?_⟩
   ·(simp only [List.singleton_append,List.nodup_cons])
    exact⟨λm=>by simpa using (mF m).2,h2.sublist List.filter_sublist⟩
   ·rcases mA hb with hb|hb
    ·refine rwl (mS hb) ?_;exact h3 a ha o hm
    ·exact h3 a ha b (mF hb).1
  ·exact He adj os p l h
theorem GB(adj:Nat->Nat->Bool)(names:List Nat):∀(n:Nat) (p l pt:List Nat),(pt++(p++l)).Nodup->(∀z∈pt++p,z∈names)->(∀z∈l,z∈names)->(tLoop adj names n p l pt).1.Nodup/\(∀z∈(tLoop adj names n p l pt).1,z∈names)/\pt.length<=(tLoop adj names n p l pt).1.length
 |0=>λp l pt h hp hl=>⟨(List.nodup_append.mp h).1,λz m=>hp z (List.mem_append_left _ m),Nat.le_refl _⟩
 |n+1=>λp l pt h hp hl=>by
  cases q:p.reverse with
  |nil=>
   have:p=[]:=by simpa using q
   subst this;exact GB adj names n [] l pt h hp hl
  |cons c r=>
   have e:=Fp q;generalize r.reverse=r' at e;subst e;rw [AS];obtain⟨h1,h2,h3⟩:=List.nodup_append.mp h;have h4:(r'++l).Nodup:=by
    rw [List.append_assoc] at h2;obtain⟨a1,a2,a3⟩:=List.nodup_append.mp h2;refine List.nodup_append.mpr ⟨a1,(List.nodup_append.mp a2).2.1,λa ha b hb=>a3 a ha b (List.mem_append_right _ hb)⟩
   have h5:=He (adj c) names r' l h4;have dis:∀z∈r',z∉l:=λz hz hz'=>(List.nodup_append.mp h4).2.2 z hz z hz' rfl
   obtain⟨i1,i2⟩:=Eb (adj c) names names r' l (λz m=>m) (λz m=>⟨hp z (by simp [m]),dis z m⟩) hl;have src:∀z∈(Av (adj c) names r' l).1,z∈r'\/z∈l:=by
    have gen:∀(os p l:List Nat),∀z∈(Av (adj c) os p l).1,z∈p\/z∈l:=by
     intro os
     induction os with
     |nil=>exactλp l z m=>.inl m
     |cons o os ih=>
      intro p l z m;rw [C1] at m
      split at m
      ·rename_i q
       rw [Bool.and_eq_true] at q
       rcases ih _ _ z m with m|m
       ·rcases mA m with m|m
        ·exact .inl m
        ·refine rwl (mS m) ?_;exact .inr (by simpa using q.1)
       ·exact .inr (mF m).1
      ·exact ih _ _ z m
    exact gen names r' l
   have nc:∀z,z∈r'\/z∈l->z≠c:=by
    rw [List.append_assoc] at h2;obtain⟨a1,a2,a3⟩:=List.nodup_append.mp h2;intro z hz
    rcases hz with hz|hz
    ·exact a3 z hz c (by simp)
    ·rw [List.singleton_append,List.nodup_cons] at a2
     rintro rfl
     exact a2.1 hz
   obtain⟨k1,k2,k3⟩:=GB adj names n (Av (adj c) names r' l).1 (Av (adj c) names r' l).2 (pt++[c]) (by
    refine List.nodup_append.mpr ⟨?_,h5,λa ha b hb=>?_⟩
    ·refine List.nodup_append.mpr ⟨h1,by simp,λa ha b hb=>?_⟩;refine rwl (mS hb) ?_;exact h3 a ha c (by simp)
    ·have hb':b∈r'\/b∈l:=by
      rcases mA hb with hb|hb
      ·exact src b hb
      ·exact .inr (i2 b hb)
     rcases mA ha with ha|ha
     ·exact h3 a ha b (by rcases hb' with z|z<;>simp [z])
     ·refine rwl (mS ha) ?_;exact(nc b hb').symm) (λz m=>by
    rcases mA m with m|m
    ·rcases mA m with m|m
     ·exact hp z (by simp [m])
     ·exact hp z (by refine rwl (mS m) ?_;simp)
    ·exact(i1 z m).1) (λz m=>hl z (i2 z m))
   exact⟨k1,k2,by rw [List.length_append,List.length_singleton] at k3;(exact Nat.le_of_succ_le k3)⟩
noncomputable def Fj(names part:List Nat):Prop:=part≠[]/\part.Nodup/\∀z∈part,z∈names
theorem Nt(adj:Nat->Nat->Bool)(names:List Nat)(n:Nat)(c:Nat)(l:List Nat)(h:(c::l).Nodup)(hc:c∈names)(hl:∀z∈l,z∈names):0<(tLoop adj names (n+1) [c] l []).1.length:=by
 have e:tLoop adj names (n+1) [c] l []=tLoop adj names n (Av (adj c) names [] l).1 (Av (adj c) names [] l).2 [c]:=AS adj names n [] l [] c;refine rwl e ?_;have gen:∀(n:Nat) (p l pt:List Nat),pt.length<=(tLoop adj names n p l pt).1.length:=by
  intro n
  induction n with
  |zero=>exactλp l pt=>Nat.le_refl _
  |succ n ih=>
   intro p l pt
   rcases List.eq_nil_or_concat p with rfl|⟨r,c,rfl⟩
   ·exact ih _ _ _
   ·rw [List.concat_eq_append,AS];exact Nat.le_trans (by simp) (ih _ _ _)
 exact gen n _ _ [c]
theorem GQ(adj:Nat->Nat->Bool)(names:List Nat)(hne:names≠[]):∀(n:Nat) (l:List Nat) (ps:List (List Nat)),l.Nodup->(∀z∈l,z∈names)->(∀q∈ps,Fj names q)->(∀q∈EH adj names n l ps,Fj names q)/\(EH adj names n l ps).length<=ps.length+n
 |0,l=>λps _ _ hp=>⟨hp,Nat.le_refl _⟩
 |n+1,[]=>λps hd hl hp=>by
  refine lid λgg kk=>?_
  obtain⟨h1,h2⟩:=GQ adj names hne n [] ps hd hl hp;refine kk ?_;exact⟨h1,Nat.le_succ_of_le h2⟩
 |n+1,c::l=>λps hd hl hp=>by
  have hd':=List.nodup_cons.mp hd;have sub:=Dk adj names names.length [c] l [];refine lid λgg kk=>?_
  obtain⟨t1,t2,t3⟩:=GB adj names names.length [c] l [] hd (λz m=>by have m:z∈[c]:=m;refine rwl (mS m) ?_;exact hl c (.head _)) (λz m=>hl z (.tail _ m));obtain⟨m,hm⟩:∃m,names.length=m+1:=⟨names.length-1,by have:=List.length_pos_iff.mpr hne;(exact(Nat.sub_eq_iff_eq_add this).mp rfl)⟩;have pos:=Nt adj names m c l hd (hl c (.head _)) (λz m=>hl z (.tail _ m));rw [←hm] at pos;obtain⟨h1,h2⟩:=GQ adj names hne n (tLoop adj names names.length [c] l []).2 (ps++[BT (tLoop adj names names.length [c] l []).1]) (hd'.2.sublist sub) (λz m=>hl z (.tail _ (sub.subset m))) (λq m=>by
   rcases mA m with m|m
   ·exact hp q m
   ·refine rwl (mS m) ?_;have sp:=Dy (tLoop adj names names.length [c] l []).1;refine⟨λe=>?_,sp.nodup_iff.mpr t1,λz m=>t2 z (sp.mem_iff.mp m)⟩;have:=sp.length_eq;rw [e] at this;simp at this;lia)
  refine kk ?_;refine⟨h1,?_⟩;rw [List.length_append,List.length_singleton] at h2;show(EH adj names n _ _).length<=_;lia
theorem C7{adj:Nat->Nat->Bool}{names:List Nat}(hne:names≠[])(hd:names.Nodup):(∀q∈partsP adj names,Fj names q)/\(partsP adj names).length<=names.length:=by
 obtain⟨h1,h2⟩:=GQ adj names hne names.length names [] hd (λz m=>m) (λq m=>nomatch m);exact⟨h1,by unfold partsP;simpa using h2⟩
noncomputable def AZ(i:Nat):Nat:=if i=0 then 114 else if i=1 then 103 else 98
noncomputable abbrev Cut:=Nat×List (List Nat)
noncomputable def cuts0(f:Str->Option Int)(ns:List Nat):List Cut:=[(0,partsP (As f 0) ns),(1,partsP (As f 1) ns),(2,partsP (As f 2) ns)]
noncomputable def CI(f:Str->Option Int)(ns:List Nat):List Cut:=(cuts0 f ns).filter λc=>decide (c.2.length>1)
noncomputable abbrev Job:=List Lab×List Nat
noncomputable def K7{α:Type}(k:List Job->List (Nat×List Lab)->Option α)(r:List Job)(ls:List Lab)(c:Nat)(hs:List (Nat×List Lab)):List Cut->Option α
 |[(i,P)]=>k (r++P.map λpart=>((AZ i,c)::ls,part)) hs
 |_=>none
noncomputable def Y2{α:Type}(f:Str->Option Int)(k:List Job->List (Nat×List Lab)->Option α)(r:List Job)(ls:List Lab)(hs:List (Nat×List Lab)):List Nat->Option α
 |[]=>K7 k r ls 0 hs (CI f [])
 |[x]=>k r (hs++[(x,ls)])
 |c::d::ns=>K7 k r ls c hs (CI f (c::d::ns))
noncomputable def Q8{α:Type}(f:Str->Option Int)(k:List Job->List (Nat×List Lab)->Option α)(hs:List (Nat×List Lab)):List Job->Option α
 |[]=>k [] hs
 |(ls,ns)::r=>Y2 f k r.reverse ls hs ns
noncomputable def Bu(f:Str->Option Int):Nat->List Job->List (Nat×List Lab)->Option (List (Nat×List Lab))
 |0,pile,hs=>match pile with
  |[]=>some hs
  |_=>none
 |n+1,pile,hs=>Q8 f (Bu f n) hs pile.reverse
noncomputable def Df(f:Str->Option Int):Option (List (Nat×List Lab)):=Bu f 9 [([],Lt)] []
noncomputable def dt(top:List Nat):List Lab->List Nat
 |[]=>top
 |(p,q)::r=>p::q::46::dt top r
theorem LU(top:List Nat):∀ls,46::dt top ls=dom ls top
 |[]=>rfl
 |(p,q)::r=>by
  show 46::p::q::46::dt top r=46::p::q::dom r top
  (refine rwl (LU top r) ?_;rfl)
theorem Rc(top:List Nat)(ls:List Lab):(dt top ls).length=3*ls.length+top.length:=by
 have:=congrArg List.length (LU top ls);rw [FD,List.length_cons] at this;lia
noncomputable def Du(top:List Nat)(j:Job):T:=.tup [.str (S (dt top j.1)),.str (S j.2)]
noncomputable def B2(top:List Nat)(h:Nat×List Lab):T:=.tup [.str (S [h.1]),.str (S (Au h.1 h.2 top))]
noncomputable def KK(c:Cut):T:=.tup [.int c.1,.list (c.2.map gT)]
noncomputable def CcG(G:Tab):Prop:=∀(a b:Str) (k:T->Prop),a.length+b.length<=4096->k (.str (a++b))->G AI [.str a,.str b] k
noncomputable def PaG(G:Tab):Prop:=∀(names:List Nat) (p:Int) (f:Str->Option Int) (k:T->Prop),(∀a∈names,∀b∈names,a≠b->(f (pr a b)).isSome=true)->names.all (·<128)=true->names.length<=50->names.Nodup->
 k (.list ((partsP (As f p) names).map gT))->G AG [.str (S names),.int p,.dI f] k
noncomputable def fGs:Gs:=.last (.v Gj) (.cons (.cmp .Gt (.call BU (.cons (.sub (.v Gj) (.k (.int 1))) .nil)) (.k (.int 1))) .nil) (.v Gj)
theorem QT{G:Tab}(hG:BiG G){Q:List T->Prop}:∀(cs:List Cut) (ν:NS),(ν=[]\/∃t,ν=[(Gj,.fz t)])->(∀c∈cs,c.2.length<=50)->Q ((cs.filter λc=>decide (c.2.length>1)).map KK)->Eh (λt ν Q=>Gv G fGs t ν Q) (cs.map KK) ν (λout _=>Q out)
 |[]=>λν hν _ hQ=>hQ
 |c::cs=>λν hν hl hQ=>by
  have hc:=hl c (.head _);have go:∀(Q':List T->Prop),(Q' ((cs.filter λc=>decide (c.2.length>1)).map KK))->Eh (λt ν Q=>Gv G fGs t ν Q) (cs.map KK) [(Gj,.fz (KK c))] (λout _=>Q' out):=λQ' h'=>
   QT hG (Q:=Q') cs _ (.inr ⟨_,rfl⟩) (λc m=>hl c (.tail _ m)) h'
  have hlen:(c.2.map gT).length<=4096:=by rw [List.length_map];lia
  rcases hν with rfl|⟨t,rfl⟩
  all_goals
   refine hG BU _ _ ?_;refine And.intro hlen ?_
   cases q:decide (c.2.length>1) with
   |true=>
    have q':decide ((((c.2.map gT).length:Nat):Int)>1)=true:=by rw [List.length_map];exact decide_eq_true (by have:=of_decide_eq_true q;(refine Int.not_le.mp λh=>?_;lia))
    refine KP q' ?_;refine go (λout=>Q ([KK c]++out)) ?_;rw [List.filter_cons_of_pos (by exact q)] at hQ;exact hQ
   |false=>
    have q':decide ((((c.2.map gT).length:Nat):Int)>1)=false:=by rw [List.length_map];exact decide_eq_false (by have:=of_decide_eq_false q;lia)
    refine Bb q' ?_;refine go (λout=>Q ([]++out)) ?_;rw [List.filter_cons_of_neg (by refine rwl q ?_;decide)] at hQ;exact hQ
theorem Lm{i:Nat}(h:i<3):Bh (.str ⟨#[114,103,98]⟩) (.int (i:Int))=some (.str ⟨#[AZ i]⟩):=by
 have:i=0\/i=1\/i=2:=by lia
 rcases this with rfl|rfl|rfl<;>rfl
noncomputable def Pj:Ss:=(.cons (.ex (.push AK (.call AI (.cons (.bin .Add (.sub (.k (.str ⟨#[114,103,98]⟩)) (.sub (.sub (.v Bw) (.k (.int 0))) (.k (.int 0)))) (.sub (.v At) (.k (.int 0)))) (.cons (.call AI (.cons (.k (.str ⟨#[46]⟩)) (.cons (.v Ag) .nil))) .nil))) (.v AV)))
 (.cons (.asg (.v A3) (.bin .Add (.v A3) (.k (.int 1))))
 .nil))
noncomputable def νh(f:Str->Option Int)(top:List Nat)(w:Int)(pile:List T)(hs:List T)(r:NS):NS:=(Bj,.fz (.dI f))::(DH,.fz (.str (S top)))::(A3,.fz (.int w))::(AK,.ow (.acc pile))::(B3,.ow (.list hs))::r
noncomputable def Xu(i c:Nat)(d:List Nat):Str:=((⟨#[AZ i]⟩:Str)++(⟨#[c]⟩:Str))++((⟨#[46]⟩:Str)++S d)
theorem Vm{G:Tab}(hC:CcG G){f:Str->Option Int}{top:List Nat}{hs:List T}{ls:List Lab}{c:Nat}{ns:List Nat}{st:T}{i:Nat}{j:Int}{cv c0:T}(v0:Bh cv.wk (.int 0)=some c0)(v1:Bh c0 (.int 0)=some (.int j))(hi:Bh (.str ⟨#[114,103,98]⟩) (.int j)=some (.str ⟨#[AZ i]⟩))(hlen:(dt top ls).length<=4000){Q:Ou->Prop}(P:List (List Nat)):∀(w:Int) (pile:List T),pile.length+P.length<=1000->
  Q (.nxt (νh f top (w+P.length) (pile++P.map λpart=>Du top ((AZ i,c)::ls,part)) hs [(BF,.fz st),(Ag,.fz (.str (S (dt top ls)))),(At,.fz (.str (S (c::ns)))),(Bw,.fz cv)]))->
  BZ (BB (.v AV)) (λν Q=>Aq G Pj ν Q) (P.map gT) (νh f top w pile hs [(BF,.fz st),(Ag,.fz (.str (S (dt top ls)))),(At,.fz (.str (S (c::ns)))),(Bw,.fz cv)]) Q:=by
 induction P with
 |nil=>
  intro w pile _ hQ;have e1:w+((([]:List (List Nat)).length:Nat):Int)=w:=Int.add_zero w;have e2:pile++([]:List (List Nat)).map (λpart=>Du top ((AZ i,c)::ls,part))=pile:=List.append_nil _;rw [e1,e2] at hQ;exact hQ
 |cons p P ih=>
  intro w pile hm hQ;rw [List.length_cons] at hm;have ih:=ih (w+1) (pile++[Du top ((AZ i,c)::ls,p)]) (by(refine rwl List.length_append ?_;refine rwl List.length_singleton ?_);lia) (by
   have e1:w+1+(P.length:Int)=w+((p::P).length:Int):=by(simp only [List.length_cons]);(simp+arith)
   have e2:pile++[Du top ((AZ i,c)::ls,p)]++P.map (λpart=>Du top ((AZ i,c)::ls,part))=pile++(p::P).map (λpart=>Du top ((AZ i,c)::ls,part)):=by simp
   (refine rwl e1 ?_;refine rwl e2 ?_);exact hQ)
  have e3:Du top ((AZ i,c)::ls,p)=.tup [.str (Xu i c (dt top ls)),.str (S p)]:=by
   unfold Du;have:S (dt top ((AZ i,c)::ls))=Xu i c (dt top ls):=by
    show _=(S [AZ i]++S [c])++(S [46]++S (dt top ls))
    (simp only [DO,DO,DO]);rfl
   (refine rwl this ?_;rfl)
  have key:∀x,x=Du top ((AZ i,c)::ls,p)->BZ (BB (.v AV)) (λν Q=>Aq G Pj ν Q) (P.map gT) (νh f top (w+1) (pile++[x]) hs [(BF,.fz st),(Ag,.fz (.str (S (dt top ls)))),(At,.fz (.str (S (c::ns)))),(Bw,.fz cv)]) Q:=λx hx=>by
   subst hx;exact ih
  refine Ab v0 ?_;refine Ab (c:=.int 0) rfl ?_;refine Ab v1 ?_;refine Ab hi ?_;refine Ab (WQ c ns) ?_;refine hC _ _ _ (by rw [Al];show 1+_<=_;lia) ?_;have l2:((⟨#[46]⟩:Str)++S (dt top ls)).length=1+(dt top ls).length:=by(simp only [show(⟨#[46]⟩:Str)=S [46] from rfl,DO,Al]);simp;(exact Nat.add_comm (dt top ls).length 1)
  refine hC _ _ _ (by refine rwl l2 ?_;show 2+_<=_;lia) ?_;refine And.intro (by exact Nat.le_of_add_right_le hm) ?_;exact key _ e3.symm
noncomputable def Q9:Ss:=(.cons (.if_ (.and (.cons (.cmp .Gt (.v A3) (.k (.int 0))) (.cons (.cmp .Eq (.count AK) (.v A3)) .nil)))
 (.cons (.asg (.t [Ag,At]) (.pop AK))
 (.cons (.asg (.v A3) (.bin .Sub (.v A3) (.k (.int 1))))
 (.cons (.if_ (.cmp .Eq (.call BU (.cons (.v At) .nil)) (.k (.int 1)))
 (.cons (.ex (.ap B3 (.tup (.cons (.v At) (.cons (.call AI (.cons (.v At) (.cons (.call AI (.cons (.k (.str ⟨#[46]⟩)) (.cons (.v Ag) .nil))) .nil))) .nil)))))
 .nil)
 (.cons (.asgc Bw (.call AU (.cons (.k (.int 3)) .nil)) (.last (.v AM) .nil (.tup (.cons (.v AM) (.cons (.call AG (.cons (.v At) (.cons (.v AM) (.cons (.v Bj) .nil)))) .nil)))) [At,Bj])
 (.cons (.asgc Bw (.v Bw) fGs [])
 (.cons (.if_ (.cmp .NotEq (.call BU (.cons (.v Bw) .nil)) (.k (.int 1)))
 (.cons (.ret (.k .none))
 .nil)
 .nil)
 (.cons (.for_ (.v AV) (.sub (.sub (.v Bw) (.k (.int 0))) (.k (.int 1))) Pj)
 .nil)))))
 .nil)))
 .nil)
 .nil)
theorem Hf{l m:List Nat}(h:l.Nodup)(s:∀z∈l,z∈m):l.length<=m.length:=by
 induction l generalizing m with
 |nil=>simp
 |cons a l ih=>
  obtain⟨h1,h2⟩:=List.nodup_cons.mp h;have hm:=s a (.head _);have:=ih (m:=m.erase a) h2 (λz hz=>by
   have:z≠a:=by rintro rfl;exact h1 hz
   exact(List.mem_erase_of_ne this).mpr (s z (.tail _ hz)))
  rw [List.length_erase_of_mem hm] at this;have:=List.length_pos_of_mem hm;simp only [List.length_cons]
  (refine Nat.lt_of_not_le λh=>?_;omega)
noncomputable def Ye(n:Nat)(j:Job):Prop:=j.1.length+n<=9/\Fj Lt j.2
theorem C9(f:Str->Option Int):∀(n:Nat) (hs:List (Nat×List Lab)),Bu f n [] hs=some hs
 |0=>λhs=>rfl
 |n+1=>λhs=>C9 f n hs
theorem EA(f:Str->Option Int)(n:Nat)(r:List Job)(ls:List Lab)(x:Nat)(hs:List (Nat×List Lab)):Bu f (n+1) (r++[(ls,[x])]) hs=Bu f n r (hs++[(x,ls)]):=by
 show Q8 f (Bu f n) hs (r++[(ls,[x])]).reverse=_;rw [List.reverse_append];show Bu f n r.reverse.reverse _=_;rw [List.reverse_reverse]
theorem D6(f:Str->Option Int)(n:Nat)(r:List Job)(ls:List Lab)(c d:Nat)(ns:List Nat)(hs:List (Nat×List Lab)):Bu f (n+1) (r++[(ls,c::d::ns)]) hs=K7 (Bu f n) r ls c hs (CI f (c::d::ns)):=by
 show Q8 f (Bu f n) hs (r++[(ls,c::d::ns)]).reverse=_;rw [List.reverse_append];show K7 (Bu f n) r.reverse.reverse ls c hs _=_;rw [List.reverse_reverse]
theorem Rl{f:Str->Option Int}{ns:List Nat}(hne:ns≠[])(hd:ns.Nodup):∀c∈cuts0 f ns,c.1<3/\(∀q∈c.2,Fj ns q)/\c.2.length<=ns.length:=by
 intro c m;unfold cuts0 at m;simp only [List.mem_cons,List.not_mem_nil,or_false] at m
 rcases m with rfl|rfl|rfl
 ·exact⟨(by decide:0<3),(C7 hne hd).1,(C7 hne hd).2⟩
 ·exact⟨(by decide:1<3),(C7 hne hd).1,(C7 hne hd).2⟩
 ·exact⟨(by decide:2<3),(C7 hne hd).1,(C7 hne hd).2⟩
theorem Uv(top:List Nat)(r:List Job)(j:Job):JY ((r++[j]).map (Du top))=(Du top j,r.map (Du top)):=by
 refine rwl List.map_append ?_;exact FN _ _
theorem Jr{G:Tab}(hG:BiG G)(hC:CcG G)(hP:PaG G){f:Str->Option Int}{top:List Nat}(hf:∀a∈Lt,∀b∈Lt,a≠b->(f (pr a b)).isSome=true)(ht:top.length<=100){Q:Ou->Prop}:∀(ts:List T) (pile:List Job) (hs:List (Nat×List Lab)),(∀j∈pile,Ye ts.length j)->pile.length+5*ts.length<=100->hs.length+ts.length<=100->
  (∀pile' hs',pile'.length<=100->hs'.length<=100->(∀j∈pile',j.2≠[])->Bu f 0 pile' hs'=Bu f ts.length pile hs->Q (.nxt (νh f top pile'.length (pile'.map (Du top)) (hs'.map (B2 top)) [])))->
  (Bu f ts.length pile hs=none->Q (.ret .none))->
  BZ (BB (.v BF)) (λν Q=>Aq G Q9 ν Q) ts (νh f top pile.length (pile.map (Du top)) (hs.map (B2 top)) []) Q
 |[]=>λpile hs hj hp hh hN _=>hN pile hs (by simpa using hp) (by simpa using hh) (λj m=>(hj j m).2.1) rfl
 |t::ts=>λpile hs hj hp hh hN hR=>by
  rw [List.length_cons] at hp hh
  cases q:pile.reverse with
  |nil=>
   have:pile=[]:=by simpa using q
   subst this;rw [C9] at hR;exact Jr hG hC hP hf ht ts [] hs (λj m=>nomatch m) (by simp;lia) (by exact Nat.le_of_succ_le hh) (λpile' hs' h1 h2 h3 e=>hN pile' hs' h1 h2 h3 (by(simp only [e,C9,C9]))) (λe=>by rw [C9] at e;cases e)
  |cons j r=>
   have e:pile=r.reverse++[j]:=by have:=congrArg List.reverse q;simpa using this
   generalize r.reverse=r' at e;subst e;obtain⟨ls,ns⟩:=j;obtain⟨j1,j2,j3,j4⟩:=hj (ls,ns) (by simp);have hl5:ns.length<=5:=Hf j3 j4;rw [List.length_append,List.length_singleton] at hp;have hcount:((r'++[(ls,ns)]).map (Du top)).length<=1000:=by(simp only [List.length_map,List.length_append,List.length_singleton]);(refine Nat.lt_of_not_le λh=>?_;lia)
   have e1:(((r'++[(ls,ns)]).length:Nat):Int)-1=(r'.length:Int):=by(refine rwl List.length_append ?_;refine rwl List.length_singleton ?_);(simp+arith)
   refine KP (by refine rwl List.length_append ?_;simp) ?_;refine And.intro hcount ?_;refine KP (by rw [List.length_map];simp) ?_;refine And.intro hcount ?_;rw [Uv];refine hG BU _ _ ?_;refine And.intro (show(S ns).length<=_ by rw [Al];lia) ?_
   rcases ns with _|⟨c,_|⟨d,ns⟩⟩
   ·exact absurd rfl j2
   ·rw [List.length_cons,EA] at hR;have ih:=Jr hG hC hP (Q:=Q) hf ht ts r' (hs++[(c,ls)]) (λj m=>by
     obtain⟨a1,a2⟩:=hj j (by simp [m]);exact⟨by rw [List.length_cons] at a1;(exact Nat.le_of_succ_le a1),a2⟩) (by lia) (by simp;lia) (λpile' hs' h1 h2 h3 e=>hN pile' hs' h1 h2 h3 (by(simp only [e,List.length_cons,EA]))) hR
    have hd:(dt top ls).length<=127:=by rw [Rc];rw [List.length_cons] at j1;dsimp only at j1;lia
    have l2:((⟨#[46]⟩:Str)++S (dt top ls)).length=1+(dt top ls).length:=by(simp only [show(⟨#[46]⟩:Str)=S [46] from rfl,DO,Al]);simp;(exact Nat.add_comm (dt top ls).length 1)
    have e2:(hs++[(c,ls)]).map (B2 top)=hs.map (B2 top)++[.tup [.str (S [c]),.str (S [c]++((⟨#[46]⟩:Str)++S (dt top ls)))]]:=by
     refine rwl List.map_append ?_;have:S (Au c ls top)=S [c]++((⟨#[46]⟩:Str)++S (dt top ls)):=by
      show _=S [c]++(S [46]++S (dt top ls))
      (simp only [DO,DO])
      show S (c::dom ls top)=S (c::46::dt top ls);rw [LU]
     show _++[T.tup [.str (S [c]),.str (S (Au c ls top))]]=_
     (refine rwl this ?_;rfl)
    rw [e2,←e1] at ih;refine hC _ _ _ (show 1+(S (dt top ls)).length<=_ by rw [Al];lia) ?_;refine hC _ _ _ (show 1+((⟨#[46]⟩:Str)++S (dt top ls)).length<=_ by refine rwl l2 ?_;lia) ?_;refine And.intro (show 2<=1000 by decide) ?_;refine And.intro (by rw [List.length_map];lia) ?_;exact ih
   ·have hd:(dt top ls).length<=127:=by rw [Rc];rw [List.length_cons] at j1;dsimp only at j1;lia
    have hin:∀x∈cuts0 f (c::d::ns),x.1<3/\(∀q∈x.2,Fj (c::d::ns) q)/\x.2.length<=(c::d::ns).length:=Rl j2 j3;have j1:ls.length+(ts.length+1)<=9:=j1;have hl5:(c::d::ns).length<=5:=hl5;rw [List.length_cons,D6] at hR;have hN:∀pile' hs',pile'.length<=100->hs'.length<=100->(∀j∈pile',j.2≠[])->Bu f 0 pile' hs'=K7 (Bu f ts.length) r' ls c hs (CI f (c::d::ns))->Q (.nxt (νh f top pile'.length (pile'.map (Du top)) (hs'.map (B2 top)) [])):=λpile' hs' h1 h2 h3 e=>hN pile' hs' h1 h2 h3 (by(simp only [e,List.length_cons,D6]))
    have hlt:(c::d::ns).all (·<128)=true:=by
     (simp only [List.all_eq_true])
     intro z m;have:=j4 z m;unfold Lt at this;simp only [List.mem_cons,List.not_mem_nil,or_false] at this
     rcases this with rfl|rfl|rfl|rfl|rfl<;>decide
    have hff:∀a∈c::d::ns,∀b∈c::d::ns,a≠b->(f (pr a b)).isSome=true:=λa ha b hb=>hf a (j4 a ha) b (j4 b hb)
    have hl50:(c::d::ns).length<=50:=Nat.le_trans hl5 (by decide);refine hG AU _ _ ?_;refine hP _ _ _ _ hff hlt hl50 j3 ?_;refine And.intro (show 2<=1000 by decide) ?_;refine hP _ _ _ _ hff hlt hl50 j3 ?_;refine And.intro (show 2<=1000 by decide) ?_;refine hP _ _ _ _ hff hlt hl50 j3 ?_;refine And.intro (show 2<=1000 by decide) ?_;refine And.intro (show 3<=4000 by decide) ?_;show DP _ Bw (.fz (.list ((cuts0 f (c::d::ns)).map KK))) _;have e3:CI f (c::d::ns)=(cuts0 f (c::d::ns)).filter λc=>decide (c.2.length>1):=rfl
    rw [e3] at hR hN;have hcl:(cuts0 f (c::d::ns)).length=3:=rfl;generalize cuts0 f (c::d::ns)=cs at hin hR hN hcl⊢;refine QT hG cs _ (.inl rfl) (λx m=>by have:=(hin x m).2.2;(exact Nat.le_trans this hl50)) ?_;have hfl:=List.length_filter_le (λc:Cut=>decide (c.2.length>1)) cs;have hin:∀x∈cs.filter (λc=>decide (c.2.length>1)),x.1<3/\(∀q∈x.2,Fj (c::d::ns) q)/\x.2.length<=(c::d::ns).length:=λx m=>hin x (mF m).1
    generalize cs.filter (λc=>decide (c.2.length>1))=fs at hin hR hN hfl⊢;refine And.intro (by rw [List.length_map];lia) ?_
    rcases fs with _|⟨⟨i,P⟩,_|⟨y,fs⟩⟩
    ·refine hG BU _ _ ?_;refine And.intro (show 0<=4096 by decide) ?_;exact hR rfl
    ·obtain⟨hi3,hP1,hP2⟩:=hin (i,P) (.head _);dsimp only at hi3 hP1 hP2;have ih:=Jr hG hC hP (Q:=Q) hf ht ts (r'++P.map λpart=>((AZ i,c)::ls,part)) hs (λj m=>by
      rcases mA m with m|m
      ·obtain⟨a1,a2⟩:=hj j (by simp [m]);exact⟨by rw [List.length_cons] at a1;(exact Nat.le_of_succ_le a1),a2⟩
      ·obtain⟨q,mq,rfl⟩:=mM m;obtain⟨b1,b2,b3⟩:=hP1 q mq;exact⟨by show ls.length+1+_<=_;lia,b1,b2,λz mz=>j4 z (b3 z mz)⟩) (by(simp only [List.length_append,List.length_map]);lia) (by exact Nat.le_of_succ_le hh) hN hR
     have e4:(((r'++P.map λpart=>((AZ i,c)::ls,part)).length:Nat):Int)=((r'++[(ls,c::d::ns)]).length:Int)-1+P.length:=by
      rw [e1,List.length_append,List.length_map];rfl
     have e5:(r'++P.map λpart=>((AZ i,c)::ls,part)).map (Du top)=r'.map (Du top)++P.map λpart=>Du top ((AZ i,c)::ls,part):=by
      (refine rwl List.map_append ?_;refine rwl List.map_map ?_);rfl
     rw [e4,e5] at ih;have hi:Bh (.str ⟨#[114,103,98]⟩) (.int (i:Int))=some (.str ⟨#[AZ i]⟩):=Lm hi3;have e6:[(i,P)].map KK=[.tup [.int (i:Int),.list (P.map gT)]]:=rfl;refine rwl e6 ?_;generalize (i:Int)=j at hi⊢;refine hG BU _ _ ?_;refine And.intro (show 1<=4096 by decide) ?_;refine Vm hC (ls:=ls) (top:=top) (c:=c) (ns:=d::ns) (cv:=.list [.tup [.int j,.list (P.map gT)]]) (c0:=.tup [.int j,.list (P.map gT)]) (j:=j) rfl rfl hi (by lia) P _ _ (by rw [List.length_map];lia) ?_;exact ih
    ·refine hG BU _ _ ?_;refine And.intro (by rw [List.length_map];lia) ?_;exact hR rfl
theorem Ts{G:Tab}(hG:BiG G)(hC:CcG G)(hP:PaG G){f:Str->Option Int}{top:List Nat}(hf:∀a∈Lt,∀b∈Lt,a≠b->(f (pr a b)).isSome=true)(ht:top.length<=100){Q:Ou->Prop}
  (hN:∀pile' hs',pile'.length<=100->hs'.length<=100->(∀j∈pile',j.2≠[])->Bu f 0 pile' hs'=Df f->Q (.nxt (νh f top pile'.length (pile'.map (Du top)) (hs'.map (B2 top)) [])))
  (hR:Df f=none->Q (.ret .none)):
  G0 AU [.int 9] λt=>W (DK t) λts=>BZ (BB (.v BF)) (λν Q=>Aq G Q9 ν Q) ts (νh f top 1 [.tup [.str (S top),.str ⟨#[107,108,109,110,111]⟩]] [] []) Q:=by
 have h:=Jr hG hC hP hf ht (Q:=Q) (Db 9) [([],Lt)] [] (λj m=>by
  refine rwl (mS m) ?_;exact⟨by decide,by decide,by decide,λz m=>m⟩) (by decide) (by decide) hN hR
 have e:DK (T.rng 9)=some (Db 9):=rfl;show W (DK (.rng 9)) (λts=>BZ (BB (.v BF)) (λν Q=>Aq G Q9 ν Q) ts (νh f top 1 [.tup [.str (S top),.str ⟨#[107,108,109,110,111]⟩]] [] []) Q);refine rwl e ?_;exact h
theorem OU{G:Tab}(hG:BiG G)(hC:CcG G)(hP:PaG G){f:Str->Option Int}{top:List Nat}{k:T->Prop}(hf:∀a∈Lt,∀b∈Lt,a≠b->(f (pr a b)).isSome=true)(ht:top.length<=100)
  (hk:k (match Df f with|some hs=>.list (hs.map (B2 top))|none=>.none)):A1 G CS Cq [.dI f,.str (S top)] k:=by
 refine⟨rfl,?_⟩;refine And.intro (show 0<=1000 by decide) ?_;refine hG AU _ _ ?_;refine Ts hG hC hP hf ht (λpile' hs' h1 h2 h3 e=>?_) (λe=>?_)
 ·have e:Bu f 0 pile' hs'=Df f:=e;rw [←e] at hk;refine And.intro (by rw [List.length_map];lia) ?_
  cases q:pile'.reverse with
  |nil=>
   have:pile'=[]:=by simpa using q
   subst this;refine And.intro (show 2<=1000 by decide) ?_;exact hk
  |cons j r=>
   have e:pile'=r.reverse++[j]:=by have:=congrArg List.reverse q;simpa using this
   generalize r.reverse=r' at e;subst e;have hj:=h3 j (by simp);rw [Uv];have e2:((S (dt top j.1)==(⟨#[]⟩:Str))&&((S j.2==(⟨#[]⟩:Str))&&true))=false:=by
    (simp only [show(⟨#[]⟩:Str)=S [] from rfl,E0,E0])
    have:(j.2==([]:List Nat))=false:=by
     obtain⟨ls,ns⟩:=j
     cases ns with
     |nil=>exact absurd rfl hj
     |cons=>rfl
    refine rwl this ?_;simp
   refine And.intro (show 2<=1000 by decide) ?_;show k (if((S (dt top j.1)==(⟨#[]⟩:Str))&&((S j.2==(⟨#[]⟩:Str))&&true))=true then T.list _ else T.none);refine rwl e2 ?_;have e3:Bu f 0 (r'++[j]) hs'=none:=by cases r'<;>rfl
   rw [e3] at hk;exact hk
 ·have e:Df f=none:=e;rw [e] at hk;exact hk
noncomputable def RD(G:Tab):Prop:=∀(a b:Int) (k:T->Prop),B8 a b=true->k (.fn (divP a b))->G Ax [.int a,.int b] k
noncomputable def R7(G:Tab):Prop:=∀(r g b:UInt64) (k:T->Prop),CP (maxF r g b) (minF r g b)=true->k (Fo r g b)->G A6 [.fn r,.fn g,.fn b] k
noncomputable def Ha(h:UInt64):UInt64:=Float64.add (Float64.mul (Float64.ofInt 103079215104) h) (Float64.ofInt 1)
theorem Sd{G:Tab}(hG:BiG G)(hD:RD G)(hR:R7 G){a b c at_ i:Int}{h l s level share:UInt64}{k:T->Prop}(ha:B8 a 128=true)(hb:B8 b 128=true)(hc:B8 c 128=true)
  (ok:CP (maxF (divP a 128) (divP b 128) (divP c 128)) (minF (divP a 128) (divP b 128) (divP c 128))=true) (e:Fo (divP a 128) (divP b 128) (divP c 128)=.tup [.flt h,.fn l,.flt s])
  (h1:Float64.isNaN h=false) (h2:(Float64.cmpInt h 0==some .lt)=false) (h3:(Float64.cmpInt h 1==some .gt||Float64.cmpInt h 1==some .eq)=false)
  (h4:feq l level=true) (h5:feq s share=true) (h6:intF (Ha h)=some i) (h7:((i.fdiv 2-at_*1073741824).fmod 17179869184==0)=true) (h8:at_.natAbs<2^63)
  (hk:k (.int (((i.fdiv 2-at_*1073741824).fdiv 17179869184).fmod 3))):A1 G D1 CJ [.list [.int a,.int b,.int c],.int at_,.fn level,.fn share] k:=by
 refine⟨rfl,?_⟩;refine hD _ _ _ ha ?_;refine hD _ _ _ hb ?_;refine hD _ _ _ hc ?_;refine hR _ _ _ _ ok ?_;refine rwl e ?_;refine Bb (show Float64.isInf (Float64.ofInt 103079215104)=false by decide+kernel) ?_;refine Bb (show Float64.isInf (Float64.ofInt 1)=false by decide+kernel) ?_;refine hG MF _ _ ?_;refine Ab (o:=intF (Ha h)) h6 ?_;refine Bg h8 ?_;refine Bb h1 ?_;refine Bb h2 ?_;refine rwl (show((2:Int)^Int.toNat 30)=1073741824 from by decide) ?_;generalize i.fdiv 2-at_*1073741824=p at h7 hk⊢;refine Bb h3 ?_;have h4':(!feq l level)=false:=by refine rwl h4 ?_;rfl
 have h5':(!feq s share)=false:=by refine rwl h5 ?_;rfl
 have h7':(!(p.fmod 17179869184==0))=false:=by refine rwl h7 ?_;rfl
 refine Bb h4' ?_;refine Bb h5' ?_;refine Bb h7' ?_;exact hk
theorem Va{G:Tab}(hG:BiG G)(hD:RD G)(hR:R7 G){a1 a2 a3 b1 b2 b3 c1 c2 c3:Int}{h l s:UInt64}{k:T->Prop}(h1:B8 (a1+b1+c1) 384=true)(h2:B8 (a2+b2+c2) 384=true)(h3:B8 (a3+b3+c3) 384=true)
  (ok:CP (maxF (divP (a1+b1+c1) 384) (divP (a2+b2+c2) 384) (divP (a3+b3+c3) 384)) (minF (divP (a1+b1+c1) 384) (divP (a2+b2+c2) 384) (divP (a3+b3+c3) 384))=true)
  (e:Fo (divP (a1+b1+c1) 384) (divP (a2+b2+c2) 384) (divP (a3+b3+c3) 384)=.tup [.flt h,.fn l,.flt s])
  (hk:k (.flt s)):A1 G Bq AQ [.list [.list [.int a1,.int a2,.int a3],.list [.int b1,.int b2,.int b3],.list [.int c1,.int c2,.int c3]]] k:=by
 refine⟨rfl,?_⟩;refine hG AU _ _ ?_;refine hD _ _ _ h1 ?_;refine hD _ _ _ h2 ?_;refine hD _ _ _ h3 ?_;refine And.intro (show 3<=4000 by decide) ?_;refine hR _ _ _ _ ok ?_;refine rwl e ?_;exact hk
noncomputable def foursL:List (Nat×Nat×Nat×Nat):=Lt.flatMap λx=>(Lt.filter λv=>decide (x<v)).flatMap λv=>(Lt.filter λy=> !([x,v].contains y)).flatMap λy=>(Lt.filter λu=> !([x,v,y].contains u)).map λu=>(x,y,u,v)
noncomputable def FC(q:Nat×Nat×Nat×Nat):T:=.tup [chT q.1,chT q.2.1,chT q.2.2.1,chT q.2.2.2]
noncomputable def XA:Gs:=(.more (.v n_x) .nil (.k (.str ⟨#[107,108,109,110,111]⟩)) (.more (.v n_v) (.cons (.cmp .Lt (.v n_x) (.v n_v)) .nil) (.k (.str ⟨#[107,108,109,110,111]⟩)) (.more (.v n_y) (.cons (.cmp .NotIn (.v n_y) (.bin .Add (.v n_x) (.v n_v))) .nil) (.k (.str ⟨#[107,108,109,110,111]⟩)) (.last (.v n_u) (.cons (.cmp .NotIn (.v n_u) (.bin .Add (.bin .Add (.v n_x) (.v n_v)) (.v n_y))) .nil) (.tup (.cons (.v n_x) (.cons (.v n_y) (.cons (.v n_u) (.cons (.v n_v) .nil)))))))))
noncomputable def VI:Nat->Prop->Prop
 |0,p=>p
 |n+1,p=>4<=1000/\VI n p
theorem MB{p:Prop}(h:p):∀n,VI n p
 |0=>h
 |n+1=>⟨by decide,MB h n⟩
theorem Oj(G:Tab)(t:T)(Q:Ou->Prop)(h:Q (.nxt [(Ac,.fz t),(C3,.fz (.list (foursL.map FC)))])):Ay G (.asgc C3 (.k (.str ⟨#[107,108,109,110,111]⟩)) XA []) [(Ac,.fz t)] Q:=by
 have hlen:(foursL.map FC).length<=4000:=by decide
 have e:Ay G (.asgc C3 (.k (.str ⟨#[107,108,109,110,111]⟩)) XA []) [(Ac,.fz t)] Q=VI 60 ((foursL.map FC).length<=4000/\Q (.nxt [(Ac,.fz t),(C3,.fz (.list (foursL.map FC)))])):=by
  kernel_rfl
 refine rwl e ?_;exact MB ⟨hlen,h⟩ 60
noncomputable def FT:Ss:=(.cons (.swp [A4,Ae] (.cons (.sub (.v Ac) (.bin .Add (.v n_x) (.v n_y))) (.cons (.sub (.v Ac) (.bin .Add (.v n_y) (.v n_v))) .nil)))
 (.cons (.if_ (.and (.cons (.cmp .NotEq (.v A4) (.v Ae)) (.cons (.cmp .Eq (.lst (.cons (.sub (.v Ac) (.bin .Add (.v n_y) (.v n_u))) (.cons (.sub (.v Ac) (.bin .Add (.v n_u) (.v n_v))) .nil))) (.lst (.cons (.v A4) (.cons (.v A4) .nil)))) (.cons (.cmp .Eq (.lst (.cons (.sub (.v Ac) (.bin .Add (.v n_v) (.v n_x))) (.cons (.sub (.v Ac) (.bin .Add (.v n_x) (.v n_u))) .nil))) (.lst (.cons (.v Ae) (.cons (.v Ae) .nil)))) .nil))))
 (.cons (.ex (.ap Fz (.bin .Add (.bin .Add (.bin .Add (.v n_x) (.v n_y)) (.v n_u)) (.v n_v))))
 .nil)
 .nil)
 .nil))
noncomputable def vAt(f:Str->Option Int)(a b:Nat):Int:=(f (pr a b)).getD 0
noncomputable def DN(f:Str->Option Int)(q:Nat×Nat×Nat×Nat):Bool:=
 !(vAt f q.1 q.2.1==vAt f q.2.1 q.2.2.2)&&((vAt f q.2.1 q.2.2.1==vAt f q.1 q.2.1&&(vAt f q.2.2.1 q.2.2.2==vAt f q.1 q.2.1&&true))&&(vAt f q.2.2.2 q.1==vAt f q.2.1 q.2.2.2&&(vAt f q.1 q.2.2.1==vAt f q.2.1 q.2.2.2&&true)))
noncomputable def J3(q:Nat×Nat×Nat×Nat):T:=.str (S [q.1,q.2.1,q.2.2.1,q.2.2.2])
noncomputable def νf(f:Str->Option Int)(t:T)(bs:List T):NS:=[(Ac,.fz (.dI f)),(C3,.fz t),(Fz,.ow (.list bs))]
theorem Tz{G:Tab}{f:Str->Option Int}{t:T}{bs:List T}{x y u v:Nat}{v1 v2 v3 v4 v5 v6:Int}{ts:List T}{Q:Ou->Prop}(hb:bs.length<=1000)
  (h1:f (pr x y)=some v1) (h2:f (pr y v)=some v2) (h3:f (pr y u)=some v3) (h4:f (pr u v)=some v4) (h5:f (pr v x)=some v5) (h6:f (pr x u)=some v6)
  (hy:(!(v1==v2)&&((v3==v1&&(v4==v1&&true))&&(v5==v2&&(v6==v2&&true))))=true->BZ (BB (.t [n_x,n_y,n_u,n_v])) (λν Q=>Aq G FT ν Q) ts (νf f t (bs++[J3 (x,y,u,v)])) Q)
  (hn:(!(v1==v2)&&((v3==v1&&(v4==v1&&true))&&(v5==v2&&(v6==v2&&true))))=false->BZ (BB (.t [n_x,n_y,n_u,n_v])) (λν Q=>Aq G FT ν Q) ts (νf f t bs) Q):
  BZ (BB (.t [n_x,n_y,n_u,n_v])) (λν Q=>Aq G FT ν Q) (FC (x,y,u,v)::ts) (νf f t bs) Q:=by
 have g:∀{a b:Nat} {w:Int},f (pr a b)=some w->Bh (.dI f) (.str (pr a b))=some (.int w):=λ{a b w} h=>by
  show(f (pr a b)).map T.int=_;refine rwl h ?_;rfl
 refine Ab (g h1) ?_;refine Ab (g h2) ?_;refine And.intro (show 2<=1000 by decide) ?_;refine And.intro (show 2=2 from rfl) ?_
 cases q1:(!(v1==v2)) with
 |false=>
  rw [q1] at hn;refine Bb q1 ?_;exact hn rfl
 |true=>
  rw [q1] at hy hn;refine KP q1 ?_;refine Ab (g h3) ?_;refine Ab (g h4) ?_;refine And.intro (show 2<=1000 by decide) ?_;refine And.intro (show 2<=1000 by decide) ?_
  cases q2:(v3==v1&&(v4==v1&&true)) with
  |false=>
   rw [q2] at hn;refine Bb q2 ?_;exact hn rfl
  |true=>
   rw [q2] at hy hn;refine KP q2 ?_;refine Ab (g h5) ?_;refine Ab (g h6) ?_;refine And.intro (show 2<=1000 by decide) ?_;refine And.intro (show 2<=1000 by decide) ?_
   cases q3:(v5==v2&&(v6==v2&&true)) with
   |false=>
    rw [q3] at hn;refine Bb q3 ?_;exact hn rfl
   |true=>
    rw [q3] at hy;refine KP q3 ?_;refine And.intro hb ?_;exact hy rfl
noncomputable def neq(a b:Nat):Bool:=Lt.contains a&&Lt.contains b&& !(a==b)
noncomputable def Hv(q:Nat×Nat×Nat×Nat):Bool:=neq q.1 q.2.1&&(neq q.2.1 q.2.2.2&&(neq q.2.1 q.2.2.1&&(neq q.2.2.1 q.2.2.2&&(neq q.2.2.2 q.1&&neq q.1 q.2.2.1))))
theorem K8:foursL.all Hv=true:=by decide+kernel
theorem Do{f:Str->Option Int}(hf:∀a∈Lt,∀b∈Lt,a≠b->(f (pr a b)).isSome=true){a b:Nat}(h:neq a b=true):f (pr a b)=some (vAt f a b):=by
 unfold neq at h;simp only [Bool.and_eq_true,List.contains_iff_mem,Bool.not_eq_true',beq_eq_false_iff_ne] at h;have:=hf a h.1.1 b h.1.2 h.2;unfold vAt
 cases q:f (pr a b) with
 |none=>rw [q] at this;cases this
 |some v=>rfl
theorem Jt{G:Tab}{f:Str->Option Int}(hf:∀a∈Lt,∀b∈Lt,a≠b->(f (pr a b)).isSome=true){t:T}{Q:Ou->Prop}:∀(qs:List (Nat×Nat×Nat×Nat)) (bs:List T),qs.all Hv=true->bs.length+qs.length<=1000->
  Q (.nxt (νf f t (bs++(qs.filter (DN f)).map J3)))->BZ (BB (.t [n_x,n_y,n_u,n_v])) (λν Q=>Aq G FT ν Q) (qs.map FC) (νf f t bs) Q
 |[]=>λbs _ _ hQ=>by
  have e:bs++([]:List (Nat×Nat×Nat×Nat)).map J3=bs:=List.append_nil _;have hQ:Q (.nxt (νf f t (bs++([]:List (Nat×Nat×Nat×Nat)).map J3))):=hQ;rw [e] at hQ;exact hQ
 |(x,y,u,v)::qs=>λbs ho hl hQ=>by
  rw [List.all_cons,Bool.and_eq_true] at ho;rw [List.length_cons] at hl;have h0:=ho.1;unfold Hv at h0;simp only [Bool.and_eq_true] at h0;refine lid λgg kk=>?_
  obtain⟨h1,h2,h3,h4,h5,h6⟩:=h0;refine kk ?_;refine rwl List.map_cons ?_;refine Tz (by exact Nat.le_of_add_right_le hl) (Do hf h1) (Do hf h2) (Do hf h3) (Do hf h4) (Do hf h5) (Do hf h6) (λq=>?_) (λq=>?_)
  ·refine Jt hf qs _ ho.2 (by(refine rwl List.length_append ?_;refine rwl List.length_singleton ?_);lia) ?_;rw [List.filter_cons_of_pos (by exact q),List.map_cons] at hQ;rw [List.append_assoc];exact hQ
  ·refine Jt hf qs _ ho.2 (by exact Nat.le_of_succ_le hl) ?_;rw [List.filter_cons_of_neg (by intro z;exact Bool.false_ne_true (q.symm.trans z))] at hQ;exact hQ
theorem Wi{G:Tab}{f:Str->Option Int}{t:T}{k:T->Prop}{xs:List T}(hk:k (.list xs)):Aq G (.cons (.rown Fz) .nil) (νf f t xs) (PR k):=hk
theorem Wj{G:Tab}{f:Str->Option Int}(hf:∀a∈Lt,∀b∈Lt,a≠b->(f (pr a b)).isSome=true){k:T->Prop}(qs:List (Nat×Nat×Nat×Nat))(ok:qs.all Hv=true)(hl:qs.length<=1000)(hk:k (.list ((qs.filter (DN f)).map J3))):
  Aq G (.cons (.crt1 Fz (.l [])) (.cons (.for_ (.t [n_x,n_y,n_u,n_v]) (.v C3) FT) (.cons (.rown Fz) .nil))) [(Ac,.fz (.dI f)),(C3,.fz (.list (qs.map FC)))] (PR k):=by
 have h:BZ (BB (.t [n_x,n_y,n_u,n_v])) (λν Q=>Aq G FT ν Q) (qs.map FC) (νf f (.list (qs.map FC)) []) (λo=>match o with|.nxt ν=>Aq G (.cons (.rown Fz) .nil) ν (PR k)|.ret t=>PR k (.ret t)):=by
  refine Jt hf qs [] ok (by(simp only [List.length_nil,Nat.zero_add]);exact hl) ?_
  (simp only [List.nil_append])
  exact Wi hk
 exact h
theorem OV{G:Tab}{f:Str->Option Int}(hf:∀a∈Lt,∀b∈Lt,a≠b->(f (pr a b)).isSome=true){k:T->Prop}(hk:k (.list ((foursL.filter (DN f)).map J3))):A1 G CT Cs [.dI f] k:=by
 refine⟨rfl,?_⟩;refine Oj G (.dI f) _ ?_;exact Wj hf foursL K8 (by decide+kernel) hk
section
noncomputable def DE{α:Type}(n:Nat)(lt:Nat->Nat->Bool):KasT α->Option α
 |.ret a=>some a
 |.ask i j k=>if i<n/\j<n then DE n lt (k (lt i j)) else none
theorem MP{α:Type}{n:Nat}{lt:Nat->Nat->Bool}{cmp:Nat->Nat->(Bool->Shared->Prop)->Shared->Prop}{s:Shared}(hc:∀i j C,i<n->j<n->C (lt i j) s->cmp i j C s){Q:α->Shared->Prop}{r:α}:∀(t:KasT α),DE n lt t=some r->Q r s->t.kasWp cmp Q s
 |.ret a=>λe h=>by
  cases e
  exact h
 |.ask i j k=>λe h=>by
  have e:(if i<n/\j<n then DE n lt (k (lt i j)) else none)=some r:=e
  by_cases q:i<n/\j<n
  ·rw [if_pos q] at e;exact hc i j _ q.1 q.2 (MP hc (k (lt i j)) e h)
  ·rw [if_neg q] at e
   cases e
noncomputable def ltL:List Str->List Str->Bool
 |[],[]=>false
 |[],_::_=>true
 |_::_,[]=>false
 |x::xs,y::ys=>if x==y then ltL xs ys else decide (x.cps.toList<y.cps.toList)
noncomputable def Gu(vs:Array Value)(xs:List Str):Prop:=vs.size=xs.length/\∀(i:Nat) (h:i<vs.size) (h':i<xs.length),∃t,vs[i]=.str xs[i] t
open AutoSeq1 (wpAny_loadPart')
open MeetsSeq MeetsSeq2 MeetsSeq3 SeqRoads2 SeqAt
theorem SW(ys:List Str):ltL [] ys=decide (0<ys.length):=by cases ys<;>rfl
theorem A9{M:Model}{h:Heap}{l:Addr}{c:Value}{dd:Option Addr}{sl:Array (Option Value)}{items:Array Value}{n:Nat}(hl:h.get? l=some {cls:=c,dict:=dd,data:=.seq items n,slots:=sl}):Looks M h (Builtin.List.listItems (.ref l)) items:=((Looks.ld (part:=none) hl).andThen .now).andThen .now
theorem NW(l b:Addr)(items items2:Array Value)(n n2:Nat)(dd dd2:Option Addr)(sl sl2:Array (Option Value))(xs ys:List Str)(h1:Gu items xs)(h2:Gu items2 ys)(k:Nat):
  ∀i:Nat,items.size-i=k->i<=items.size->Meets (Builtin.«list.__eq__.loop» ⟨[.ref l,.ref b,rawInt i,rawInt 0],[]⟩)
   (λA R s=>s.heap.get? l=some {cls:=.type "list",dict:=dd,data:=.seq items n,slots:=sl}/\s.heap.get? b=some {cls:=.type "list",dict:=dd2,data:=.seq items2 n2,slots:=sl2}/\
    (i<=items2.size)/\R (.ok (.ret (.bool (ltL (xs.drop i) (ys.drop i))))) s):=by
 induction k with
 |zero=>
  intro i hk hle prog w A R s h;obtain⟨hp,g,d,tk,os⟩:=s;obtain⟨hl,hb,hi',h⟩:=h;have hi1:items[((i:Nat):Int).toNat]? =none:=Array.getElem?_eq_none (Nat.le_of_sub_eq_zero hk);have hd:xs.drop i=[]:=List.drop_eq_nil_of_le (h1.1▸Nat.le_of_sub_eq_zero hk);rw [hd,SW] at h;refine An (A9 hl) ?_;refine An (A9 hb) ?_;refine rwl hi1 ?_;refine An (A9 hl) ?_;refine An (A9 hb) ?_;refine wpAny_pure ?_;show R (.ok (.ret (.bool (decide (items.size<items2.size))))) _;have e:decide (items.size<items2.size)=decide (0<(ys.drop i).length):=by
   have:=h2.1;refine rwl List.length_drop ?_;exact decide_eq_decide.mpr (by omega)
  refine rwl e ?_;exact h
 |succ k ih=>
  intro i hk hle prog w A R s h;obtain⟨hp,g,d,tk,os⟩:=s;obtain⟨hl,hb,hi',h⟩:=h;have hlt:i<items.size:=by(exact Nat.lt_of_sub_eq_succ hk)
  have hx:i<xs.length:=by have:=h1.1;(exact Nat.lt_of_lt_of_eq hlt this)
  obtain⟨t,et⟩:=h1.2 i hlt hx;have hi1:items[((i:Nat):Int).toNat]? =some (.str xs[i] t):=et▸Array.getElem?_eq_getElem hlt;have hdx:xs.drop i=xs[i]::xs.drop (i+1):=List.drop_eq_getElem_cons hx;refine An (A9 hl) ?_;refine An (A9 hb) ?_;refine rwl hi1 ?_
  by_cases hq:i<items2.size
  ·have hy:i<ys.length:=by have:=h2.1;(exact Nat.lt_of_lt_of_eq hq this)
   obtain⟨u,eu⟩:=h2.2 i hq hy;have hi2:items2[((i:Nat):Int).toNat]? =some (.str ys[i] u):=eu▸Array.getElem?_eq_getElem hq;have hdy:ys.drop i=ys[i]::ys.drop (i+1):=List.drop_eq_getElem_cons hy;rw [hdx,hdy] at h;refine rwl hi2 ?_;refine wpAny_bind (PyProof.Rows.eqBool_str ?_)
   cases hb':(xs[i]==ys[i]) with
   |true=>
    have e:ltL (xs[i]::xs.drop (i+1)) (ys[i]::ys.drop (i+1))=ltL (xs.drop (i+1)) (ys.drop (i+1)):=if_pos hb';rw [e] at h;refine wpAny_pure (a:=Fin.again (.builtin "list.__eq__.loop" ⟨[.ref l,.ref b,rawInt (i+1),rawInt 0],[]⟩)) ?_;exact⟨plainId_quiet plain_eq_loop _,codeAny_builtin entry_eq_loop (by
     refine rwl (Around.under_plainId plain_eq_loop _) ?_;exact ih (i+1) (by omega) (by assumption) prog w A R _ ⟨hl,hb,by assumption,h⟩)⟩
   |false=>
    have e:ltL (xs[i]::xs.drop (i+1)) (ys[i]::ys.drop (i+1))=decide (xs[i].cps.toList<ys[i].cps.toList):=if_neg (hb'▸Bool.false_ne_true);rw [e] at h;refine An (A9 hl) ?_;refine An (A9 hb) ?_
    (refine rwl hi1 ?_;refine rwl hi2 ?_)
    refine wpAny_bind (show wpAny _ _ (richCompare .Lt _ _) _ _ _ from PyProof.Rows.lt_str ?_);exact wpAny_pure h
  ·have hi2:items2[((i:Nat):Int).toNat]? =none:=Array.getElem?_eq_none (Nat.le_of_not_lt hq);refine rwl hi2 ?_;refine An (A9 hl) ?_;refine An (A9 hb) ?_;refine wpAny_pure ?_;show R (.ok (.ret (.bool (decide (items.size<items2.size))))) _;have hdy:ys.drop i=[]:=List.drop_eq_nil_of_le (h2.1▸Nat.le_of_not_lt hq);rw [hdx,hdy] at h;have e:decide (items.size<items2.size)=false:=decide_eq_false (by lia);refine rwl e ?_;exact h
theorem NX(l b:Addr)(items items2:Array Value)(n n2:Nat)(dd dd2:Option Addr)(sl sl2:Array (Option Value))(xs ys:List Str)(h1:Gu items xs)(h2:Gu items2 ys):
  Meets (Builtin.«list.__lt__» ⟨[.ref l,.ref b],[]⟩)
   (λA R s=>s.heap.get? l=some {cls:=.type "list",dict:=dd,data:=.seq items n,slots:=sl}/\s.heap.get? b=some {cls:=.type "list",dict:=dd2,data:=.seq items2 n2,slots:=sl2}/\
    R (.ok (.ret (.bool (ltL xs ys)))) s):=by
 intro prog w A R s h;obtain⟨hp,g,d,tk,os⟩:=s;obtain⟨hl,hb,h⟩:=h;refine An (Looks.of_pure rfl) ?_;refine An (((Looks.ld (part:=none) hb).andThen .now:Looks _ _ (typeOf (.ref b)) (.type "list")).andThen (Looks.of_pure AutoSeq1.sub_list_list)) ?_;refine wpAny_pure (a:=Fin.again (.builtin "list.__eq__.loop" ⟨[.ref l,.ref b,rawInt 0,rawInt 0],[]⟩)) ?_;exact⟨plainId_quiet plain_eq_loop _,codeAny_builtin entry_eq_loop (by
  refine rwl (Around.under_plainId plain_eq_loop _) ?_;exact NW l b items items2 n n2 dd dd2 sl sl2 xs ys h1 h2 _ 0 rfl (Nat.zero_le _) prog w A R _ ⟨hl,hb,Nat.zero_le _,h⟩)⟩
end
section
variable{prog:Program}{w:World}{A:Around}{E:Value->Shared->Prop}{s:Shared}
theorem Jo{l b:Addr}{items items2:Array Value}{n n2:Nat}{dd dd2:Option Addr}{sl sl2:Array (Option Value)}{xs ys:List Str}{Q:Bool->Shared->Prop}(hu:A.units<cLine)
  (hl:s.heap.get? l=some {cls:=.type "list",dict:=dd,data:=.seq items n,slots:=sl}) (hb:s.heap.get? b=some {cls:=.type "list",dict:=dd2,data:=.seq items2 n2,slots:=sl2})
  (h1:Gu items xs) (h2:Gu items2 ys) (h:Q (ltL xs ys) s):wpAny (model prog w) A (keyLt' oneType' (.ref l) (.ref b)) Q E s:=by
 refine Gz (keyLt'_oneType _ _) ?_;refine wpAny_bind (wpAny_cRoomFor hu ?_);refine wpAny_bind (wpAny_callSpecialIfBound?_slot (T:="list") ⟨_,hl,rfl⟩ F.slot_list_lt (call_meets F.slot_list_lt ⟨_,hl,rfl⟩ F.entry_list_lt (F.args_list_lt_2 _ _) (NX l b items items2 n n2 dd dd2 sl sl2 xs ys h1 h2) ?_));refine⟨hl,hb,?_⟩;show wpAny _ _ _ _ _ _;exact wpAny_truthy_bool h
end
noncomputable def emp:Heap:=⟨#[],{}⟩
theorem Nc(a:Addr):emp.get? a=none:=rfl
noncomputable def CL(h:Heap)(X:List Addr):List (Addr×Obj):=(List.range h.objs.size).filterMap λa=>if a∈X then none else(h.get? a).map λo=>(a,o)
theorem mem_allBut{h:Heap}{X:List Addr}{a:Addr}{o:Obj}:(a,o)∈CL h X<->a∉X/\h.get? a=some o:=by
 unfold CL;rw [List.mem_filterMap]
 constructor
 ·rintro ⟨b,hb,e⟩
  split at e
  ·cases e
  ·rename_i hx
   cases q:h.get? b with
   |none=>rw [q] at e;cases e
   |some p=>rw [q] at e;cases e;exact⟨hx,q⟩
 ·rintro ⟨hx,e⟩
  exact⟨a,List.mem_range.mpr (Heap.lt_size e),by(refine rwl (if_neg hx) ?_;refine rwl e ?_);rfl⟩
theorem OB{h:Heap}{X:List Addr}{p:Addr×Obj}(m:p∈CL h X):p.1∉X:=(mem_allBut (a:=p.1) (o:=p.2)).mp m|>.1
theorem Hg{h:Heap}{L k:Addr}{o:Obj}{X:List Addr}(hk:h.get? k=some o)(hL:k≠L)(hX:L∈X):News emp L h ((k,o)::CL h X):=λp hp=>by
 rcases mC hp with rfl|hp
 ·exact⟨hk,hL,rfl⟩
 ·obtain⟨a,o⟩:=p;obtain⟨h1,h2⟩:=mem_allBut.mp hp;exact⟨h2,λq=>h1 (by have q:a=L:=q;refine rwl q ?_;exact hX),rfl⟩
theorem IB{h:Heap}{k:Addr}{o:Obj}{X:List Addr}(hX:k∈X):UpdF k o ((k,o)::CL h X) (λo'=>(k,o')::CL h X):=.head λp hp q=>OB hp (q▸hX)
theorem Jl{h h':Heap}{L:Addr}{X:List Addr}{r:List (Addr×Obj)}(N:News emp L h' r)(s:∀p∈CL h X,p∈r):Kp X h h':=λb o hb e=>(N (b,o) (s _ (mem_allBut.mpr ⟨hb,e⟩))).1
section
variable{prog:Program}{w:World}{B:Heap}{cls:Addr}{n:Nat}{A:Around}
theorem Rv{name qual p:Str}{params:Arguments}{body:Expr}{scope:Scope}{pm ctv:Value}{c' f:Addr}{t r:T}{v:Value}{s:Shared}{Hd:List Addr}{σ':Sig}
  (hA:AOk A (n+1)) (lim:B.NoLimit) (ho:s.heap.get? f=some (kla_obj name qual params body scope [] pm c' ctv)) (hcd:s.heap.CodeRec (.ref c') qual)
  (h1:params.posonlyargs=[]) (h2:params.vararg=none) (h3:params.kwonlyargs=[]) (h4:params.kwarg=none) (hp:params.args.map (·.arg)=[p])
  (hk:scope.kind=.function) (hl:scope.names.lookup p=some .local) (hc:∀x∈scope.names,x.2≠.cell) (hcn:B9 scope.names=[]) (hco:scope.isCoroutine=false) (hge:scope.isGenerator=false)
  (run:∀(C':Cx) (env':Env),Lk C' env' (En scope)->C'.cls=cls->PE prog w C' B (A.deeper env') env' body [(p,.fz t)] r σ')
  (base:Sub B s.heap) (live:Live Hd s.heap) (hv:Holds prog w Hd s.heap t v):Op prog w A Hd s (call (.ref f) [v] []) r:=λQ E hQ=>by
 have hb:bindArgs (kla_fn name qual params body scope [] pm (.ref c') ctv) ⟨[v],[]⟩=pure [(p,v)]:=by
  have:=HA (fd:=kla_fn name qual params body scope [] pm (.ref c') ctv) (vals:=[v]) h1 h2 h3 h4 rfl (by have:=congrArg List.length hp;simpa using this.symm) (by show(params.args.map (·.arg)).Nodup;refine rwl hp ?_;simp);refine rwl this ?_;show pure ((params.args.map (·.arg)).zip [v])=_;refine rwl hp ?_;rfl
 refine wpAny_call (kla_callFunE hA.room ho rfl hco hge rfl hcd ?_);refine rwl hb ?_;refine wpAny_pure (wpAny_newFunctionEnv hc (λx m=>by refine rwl (mS m) ?_;exact hl) (λh₁ hns hsb=>⟨(lim.keeps base).fresh _ hsb,?_⟩) hk);generalize he:newEnv scope s.heap.objs.size mainGlobals [] (qual++".<locals>.") (some f) (.ref c') none builtinsNs=env';have e1:env'.locals=s.heap.objs.size:=by refine rwr he ?_;rfl
 have e2:env'.cells=[]:=by refine rwr he ?_;rfl
 have e3:env'.scope=scope:=by refine rwr he ?_;rfl
 have sub:Sub s.heap h₁:=λb o e=>hsb.extBut b o (Nat.ne_of_lt (Heap.lt_size e)) (Heap.get?_push_of_some _ e)
 have nofr:=Ao s.heap;have nol:s.heap.objs.size∉Hd:=live.new;have lk:Lk ⟨cls,[],0⟩ env' (En scope):=by
  refine⟨by refine rwl e3 ?_;rfl,λx m=>(by rw [show(En scope).cn=[] from hcn] at m;cases m),by show []=B9 scope.names;(exact(hcn).symm),by refine rwl e3 ?_;exact hk⟩
 have kq:env'.kindOf p=some .local:=by unfold Env.kindOf;refine rwl e3 ?_;exact hl
 have F':Fm prog w ⟨cls,[],0⟩ B Hd [s.heap.objs.size] env' [(p,.fz t)] (λ_=>0) h₁:=by
  refine⟨by refine rwl e3 ?_;exact hk,by refine rwr he ?_;rfl,by refine rwr he ?_;rfl,Sub.trans' base sub,λb m=>?_,λb m=>?_,λb m q=>?_,⟨_,by refine rwl e1 ?_;exact hns⟩,by refine rwl e1 ?_;exact .head _,λx c e=>?_,λx m=>(nomatch m),λx y c e=>?_,λx t' e=>?_,λx o e=>?_,λx y o o' e=>?_,λx c e=>?_⟩
  ·refine rwl (mS m) ?_
   cases q:B.get? s.heap.objs.size with
   |none=>rfl
   |some o=>(refine rwr nofr ?_;refine rwl (base _ o q) ?_;rfl)
  ·rcases mA m with m|m
   ·refine rwl (mS m) ?_;exact by obtain⟨o,_,_,ho,_⟩:=hns;exact⟨o,ho⟩
   ·obtain⟨o,ho⟩:=live b m;exact⟨o,sub _ _ ho⟩
  ·rw [mS m] at q;exact nol q
  ·rw [e2] at e;cases e
  ·rw [e2] at e;cases e
  ·rw [AE] at e
   by_cases q:x=p
   ·rw [if_pos q] at e;cases e;subst q;exact⟨v,.loc _ kq (by refine rwl e1 ?_;exact hns) (by simp),hv.mv (Kp.of_sub sub) λb m=>by
     rcases mA m with m|m
     ·refine rwl (mS m) ?_;exact .inr nofr
     ·exact .inl m⟩
   ·rw [if_neg q] at e;cases e
  ·rw [AE] at e;split at e<;>cases e
  ·rw [AE] at e;split at e<;>cases e
  ·rw [AE] at e;split at e<;>cases e
 refine kla_codeExpr (run ⟨cls,[],0⟩ env' lk rfl Hd _ _ {s with heap:=h₁,toks:=s.toks+[(p,v)].length} _ _ F' λu h₂ k₂ kp F₂ hu=>?_);refine hQ u h₂ k₂ (λb o e=>kp b o (λm=>?_) (sub b o e)) (hu.less λb m=>List.mem_append_right _ m);rw [mS m,nofr] at e;cases e
end
noncomputable def BA(r:List Str):T:=.list (r.map T.str)
theorem OP{prog:Program}{w:World}{X:List Addr}{h:Heap}:∀{xs:List Str} {vs:List Value},HoldsL prog w X h (xs.map T.str) vs->Gu vs.toArray xs:=λ{xs vs} hv=>by
 have hl:vs.length=xs.length:=by have:=hv.length;simpa using this
 refine⟨by simpa using hl,λi h h'=>?_⟩;obtain⟨v,e,t,ht⟩:=hv.get (i:=i) (t:=.str xs[i]) (by simp [h']);refine⟨t,?_⟩;have h2:i<vs.length:=by simpa using h
 have:vs[i]=v:=by rw [List.getElem?_eq_getElem h2] at e;exact Option.some.inj e
 simpa [this] using ht
noncomputable def JO(kr:List Str->List Str)(rows:List (List Str)):Option (List (List Str)):=
 (DE rows.length (λi j=>ltL (((rows.map kr).reverse).getD i []) (((rows.map kr).reverse).getD j [])) (kas_sort rows.length)).bind λp=>
  (p.toList.mapM λi=>rows.reverse[i]?).map List.reverse
section
variable{prog:Program}{w:World}{B:Heap}{A:Around}{Hd:List Addr}{L kS D:Addr}{m:Str->Option Value}{h0:Heap}{e1:Nat}
structure KS(prog:Program)(w:World)(Hd:List Addr)(L kS D:Addr)(m:Str->Option Value)(h0:Heap)(e1:Nat)(kt:List T)(ks:List Value)(e:Nat)(h:Heap):Prop where
 fr:Fr emp L h m
 k:h.get? kS=some (seqObj "list" (List.toArray ks) e)
 d:h.get? D=some (seqObj "list" #[] e1)
 kp:Kp [L] h0 h
 hold:HoldsL prog w (kS::D::Hd) h kt ks
structure KFix(Hd:List Addr)(L kS D:Addr)(h0:Heap):Prop where
 kL:kS≠L
 dL:D≠L
 kd:kS≠D
 k0:h0.get? kS=none
 d0:h0.get? D=none
 lv:Live Hd h0
 lh:L∈Hd
theorem KFix.live(X:KFix Hd L kS D h0){kt:List T}{ks:List Value}{e:Nat}{h:Heap}(S:KS prog w Hd L kS D m h0 e1 kt ks e h):Live (kS::D::Hd) h:=λb hb=>by
 rcases mC hb with rfl|hb
 ·exact⟨_,S.k⟩
 ·rcases mC hb with rfl|hb
  ·exact⟨_,S.d⟩
  ·by_cases q:b=L
   ·subst q;obtain⟨o,_,_,ho,_⟩:=S.fr.ns;exact⟨o,ho⟩
   ·obtain⟨o,ho⟩:=X.lv b hb;exact⟨o,S.kp b o (λm=>q (mS m)) ho⟩
theorem KFix.old(X:KFix Hd L kS D h0){h:Heap}(kp:Kp [L] h0 h){ts:List T}{vs:List Value}(hv:HoldsL prog w Hd h0 ts vs):HoldsL prog w (kS::D::Hd) h ts vs:=
 hv.mv (kp.mono λb m=>by refine rwl (mS m) ?_;exact X.lh) λb m=>by
  rcases mC m with rfl|m
  ·exact .inr X.k0
  ·rcases mC m with rfl|m
   ·exact .inr X.d0
   ·exact .inl m
theorem KFix.step(X:KFix Hd L kS D h0){h h':Heap}{Y:List Addr}(hY:∀b∈Y,b=L\/b=kS\/b=D)(kp:Kp [L] h0 h)(kp':Kp Y h h'):Kp [L] h0 h':=λb o hb e=>kp' b o (λm=>by
 rcases hY b m with rfl|rfl|rfl
 ·exact hb (.head _)
 ·rw [X.k0] at e;cases e
 ·rw [X.d0] at e;cases e) (kp b o hb e)
theorem MO{f:Value}{kr:List Str->List Str}{Fin:List Value->Nat->Shared->Prop}(X:KFix Hd L kS D h0)(os:List (List Str))
  (key:∀(Hd':List Addr) (s:Shared) (t:List Str) (v:Value),Kp [L] h0 s.heap->Live Hd' s.heap->t∈os->Holds prog w Hd' s.heap (BA t) v->Op prog w A Hd' s (call f [v]) (BA (kr t))):
  ∀(rt kt:List (List Str)) (r ks:List Value) (e:Nat) (s:Shared),(∀t∈rt,t∈os)->KS prog w Hd L kS D m h0 e1 (kt.map BA) ks e s.heap->HoldsL prog w (kS::D::Hd) s.heap (rt.map BA) r->
   (∀ks' e' h' k',KS prog w Hd L kS D m h0 e1 ((kt++rt.map kr).map BA) ks' e' h'->Fin ks' e' {s with heap:=h',toks:=k'})->KatKeys prog w A emp L m kS f Fin r ks e s
 |[],kt,r,ks,e,s,_,S,hr,fin=>by
  have:r=[]:=hr;subst this;exact KatKeys.nil (fin ks e s.heap s.toks (by simpa using S))
 |t::rt,kt,r,ks,e,s,ho,S,hr,fin=>by
  obtain⟨v,r',rfl,hv,hr'⟩:=hr;refine KatKeys.cons (key _ s t v S.kp (X.live S) (ho t (.head _)) hv _ _ λu h' k sb hu=>?_);have hk':=sb _ _ S.k;refine KatBack.intro (news:=(kS,_)::CL h' [L,kS]) ⟨S.fr.ns.keeps sb,λb o q=>(by rw [Nc] at q;cases q),Nat.zero_le _⟩ (Hg hk' X.kL (.head _)) (IB (by simp)) λh'' c F'' N''=>?_
  have kp:=Jl N'' (h:=h') λp hp=>.tail _ hp
  have kp2:Kp (kS::D::Hd) h' h'':=kp.mono λb m=>by
   rcases mC m with rfl|m
   ·exact .tail _ (.tail _ X.lh)
   ·refine rwl (mS m) ?_;exact .head _
  have kp1:Kp (kS::D::Hd) s.heap h'':=(Kp.of_sub sb).trans kp2;refine MO X os key rt (kt++[t].map kr) r' (ks++[u]) c {s with heap:=h'',toks:=k} (λt' m=>ho t' (.tail _ m)) ⟨F'',(N'' _ (.head _)).1,kp _ _ (λm=>?_) (sb _ _ S.d),X.step (Y:=[L,kS]) (λb m=>?_) (X.step (Y:=[]) (λb m=>nomatch m) S.kp (Kp.of_sub sb)) kp,?_⟩ (hr'.up kp1) λks' e' h3 k' S'=>?_
  ·rcases mC m with q|m
   ·exact X.dL q
   ·exact X.kd (mS m).symm
  ·rcases mC m with rfl|m
   ·exact .inl rfl
   ·exact .inr (.inl (mS m))
  ·refine rwl List.map_append ?_;exact HoldsL.append (S.hold.up kp1) (.one (hu.up kp2))
  ·exact fin ks' e' h3 k' (by simpa using S')
theorem Hp{X:List Addr}{h:Heap}{rows:List (List Str)}{vs:List Value}(hv:HoldsL prog w X h (rows.map BA) vs):∀{p:List Nat} {outs:List (List Str)},(p.mapM λi=>rows[i]?)=some outs->
  HoldsL prog w X h (outs.map BA) (p.map λi=>vs.getD i Value.none)
 |[]=>λe=>by
  rw [List.mapM_nil] at e
  cases e
  exact rfl
 |i::p=>λe=>by
  rw [List.mapM_cons] at e
  cases q:rows[i]? with
  |none=>rw [q] at e;cases e
  |some r=>
   rw [q] at e
   cases q2:(p.mapM λi=>rows[i]?) with
   |none=>rw [q2] at e;cases e
   |some os=>
    rw [q2] at e
    cases e
    obtain⟨v,e1,h1⟩:=hv.get (i:=i) (t:=BA r) (by(refine rwl (List.getElem?_map) ?_;refine rwl q ?_);rfl);refine⟨v,_,?_,h1,Hp hv q2⟩
    (refine rwl List.map_cons ?_;refine rwl (List.getD_eq_getElem?_getD) ?_;refine rwl e1 ?_)
    rfl
theorem W8{Y:List Addr}{s:Shared}{keys:List (List Str)}{ks:List Value}(hA:A.units<cLine)(hk:HoldsL prog w Y s.heap (keys.map BA) ks){i j:Nat}{C:Bool->Shared->Prop}(hi:i<keys.length)(hj:j<keys.length)
  (h:C (ltL (keys.getD i []) (keys.getD j [])) s):kas_ask prog w A oneType' ks i j C s:=by
 have at':∀i,i<keys.length->∃a vs n,ks.getD i Value.none=.ref a/\s.heap.get? a=some {cls:=.type "list",dict:=none,data:=.seq (List.toArray vs) n,slots:= #[]}/\Gu (List.toArray vs) (keys.getD i []):=λi hi=>by
  refine lid λgg kk=>?_
  obtain⟨v,e,a,vs,rfl,_,l,hl⟩:=hk.get (i:=i) (t:=BA keys[i]) (by simp [hi]);obtain⟨n,hn⟩:=l.plain;refine kk ?_;refine⟨a,vs,n,by(refine rwl (List.getD_eq_getElem?_getD) ?_;refine rwl e ?_);rfl,hn,?_⟩
  (refine rwl (List.getD_eq_getElem?_getD) ?_;refine rwl (List.getElem?_eq_getElem hi) ?_)
  exact OP hl
 refine lid λgg kk=>?_
 obtain⟨a,va,na,e1,o1,s1⟩:=at' i hi;obtain⟨b,vb,nb,e2,o2,s2⟩:=at' j hj;refine kk ?_;unfold kas_ask
 (refine rwl e1 ?_;refine rwl e2 ?_)
 exact Jo hA o1 o2 s1 s2 h
end
section
variable{prog:Program}{w:World}{A:Around}{E:Value->Shared->Prop}{s:Shared}{Hd:List Addr}{L q:Addr}{m:Str->Option Value}{n:Nat}{v:Value}{rows outs:List (List Str)}{kr:List Str->List Str}{Q:Value->Shared->Prop}
theorem PF(hA:AOk A (n+2))(hn:s.heap.Ns L m)(lh:L∈Hd)(lv:Live Hd s.heap)(hv:Holds prog w Hd s.heap (.list (rows.map BA)) v)(h2:2<=rows.length)(h64:rows.length<64)(hs:JO kr rows=some outs)
  (key:∀(Hd':List Addr) (s':Shared) (t:List Str) (u:Value),Kp [L] s.heap s'.heap->Live Hd' s'.heap->t∈rows->Holds prog w Hd' s'.heap (BA t) u->Op prog w A.in1.in1 Hd' s' (call (.ref q) [u]) (BA (kr t)))
  (hQ:∀D h' k,Kp [L] s.heap h'->h'.Ns L m->Holds prog w Hd h' (.list (outs.map BA)) (.ref D)->Q (.ref D) {s with heap:=h',toks:=k}):
  wpAny (model prog w) A (call (.builtin "sorted") [v] [(Str.ofString "key",.ref q),(Str.ofString "reverse",.bool true)]) Q E s:=by
 refine lid λgg kk=>?_
 obtain⟨l,vs,rfl,hl0,hl,hvs⟩:=hv;have hlen:vs.length=rows.length:=by have:=hvs.length;simpa using this
 have hL:∃o,s.heap.get? L=some o:=by obtain⟨o,_,_,ho,_⟩:=hn;exact⟨o,ho⟩
 unfold JO at hs;obtain⟨p,hrun,hs⟩:=Option.bind_eq_some_iff.mp hs;obtain⟨outs',hm,rfl⟩:=Option.map_eq_some_iff.mp hs;refine kk ?_;refine kat_sortedK (h₀:=emp) (L:=L) (m:=m) (news:=CL s.heap [L]) (vs:=vs) (b:=true) (f:=.ref q) ⟨hn,λb o e=>(by rw [Nc] at e;cases e),Nat.zero_le _⟩ (λp hp=>?_) hl.is (by exact le_of_le_of_eq h2 (id (Eq.symm hlen))) (by exact lt_of_eq_of_lt hlen h64)
  (ksk_s2 _ _ _) (λx=>ksk_l2 _ _ _) (λx=>ksk_t2 q x true) λD kS e1 h' F' N' hlt hab=>?_
 ·refine lid λgg kk=>?_
  obtain⟨a,o⟩:=p;obtain⟨x1,x2⟩:=mem_allBut.mp hp;refine kk ?_;exact⟨x2,λz=>x1 (List.mem_singleton.mpr z),rfl⟩
 have kp:Kp [L] s.heap h':=Jl N' λp hp=>.tail _ (.tail _ hp)
 have nk:=N' (kS,seqObj "list" #[] 0) (.head _);have nd:=N' (D,seqObj "list" #[] e1) (.tail _ (.head _));have d0:s.heap.get? D=none:=by
  cases z:s.heap.get? D with
  |none=>rfl
  |some o=>exact absurd (hab (D,o) (mem_allBut.mpr ⟨λz=>nd.2.1 (mS z),z⟩)) (Nat.lt_irrefl _)
 have k0:s.heap.get? kS=none:=by
  cases z:s.heap.get? kS with
  |none=>rfl
  |some o=>exact absurd (Nat.lt_trans (hab (kS,o) (mem_allBut.mpr ⟨λz=>nk.2.1 (mS z),z⟩)) hlt) (Nat.lt_irrefl _)
 have X:KFix Hd L kS D s.heap:=⟨nk.2.1,nd.2.1,λz=>absurd hlt (by refine rwl z ?_;exact Nat.lt_irrefl _),k0,d0,lv,lh⟩;have hA2:AOk A.in1.in1 n:=(hA.in1).in1;refine MO X rows key rows [] vs [] 0 {s with heap:=h'} (λt m=>m) ⟨F',nk.1,nd.1,kp,rfl⟩ (X.old kp hvs) λks e h1 k1 S=>?_
 simp only [List.nil_append] at S;have hks:ks.length=rows.length:=by have:=S.hold.length;simpa using this
 refine kas_kind (T:=.type "list") (by exact le_of_le_of_eq h2 (id (Eq.symm hks))) (λu hu=>?_) rfl rfl ?_
 ·refine lid λgg kk=>?_
  obtain⟨i,hi⟩:=List.getElem?_of_mem hu;obtain⟨t,e1,ht⟩:=S.hold.getv hi;rw [List.getElem?_map] at e1;obtain⟨r,_,rfl⟩:=Option.map_eq_some_iff.mp e1;obtain⟨a,us,rfl,_,lst,_⟩:=ht;obtain⟨k,hk⟩:=lst.plain;refine kk ?_;exact(Looks.ld hk).andThen .now
 refine rwl hlen ?_;have hrev:HoldsL prog w (kS::D::Hd) h1 (((rows.map kr).reverse).map BA) (katRev true ks):=by
  show HoldsL prog w _ _ _ ks.reverse;refine rwl List.map_reverse ?_;exact S.hold.reverse
 refine MP (n:=rows.length) (lt:=λi j=>ltL (((rows.map kr).reverse).getD i []) (((rows.map kr).reverse).getD j [])) (λi j C hi hj hC=>?_) (r:=p) _ hrun ?_
 ·exact W8 (s:={s with heap:=h1,toks:=k1}) (Nat.lt_of_le_of_lt (Nat.le_add_right _ _) hA2.cl) hrev (by simpa using hi) (by simpa using hj) hC
 refine KatFin.intro (news:=(kS,_)::CL h1 [L,kS]) S.fr (Hg S.k nk.2.1 (.head _)) (IB (by simp)) λh2' c2 F2 N2=>?_
 have kp2:=Jl N2 (h:=h1) λp hp=>.tail _ hp
 have dd:h2'.get? D=some (seqObj "list" #[] e1):=kp2 _ _ (λz=>by
  rcases mC z with z|z
  ·exact nd.2.1 z
  ·exact X.kd (mS z).symm) S.d
 refine KasFin.intro (news:=(D,_)::CL h2' [L,D]) F2 (Hg dd nd.2.1 (.head _)) (IB (by simp)) λh3 c3 F3 N3=>?_
 have kp3:=Jl N3 (h:=h2') λp hp=>.tail _ hp
 have kA:Kp [L] s.heap h3:=X.step (Y:=[L,D]) (λb m=>by
  rcases mC m with rfl|m
  ·exact .inl rfl
  ·exact .inr (.inr (mS m))) (X.step (Y:=[L,kS]) (λb m=>by
  rcases mC m with rfl|m
  ·exact .inl rfl
  ·exact .inr (.inl (mS m))) S.kp kp2) kp3
 refine hQ D h3 k1 kA F3.ns ⟨D,_,rfl,λz=>?_,⟨_,(N3 _ (.head _)).1,rfl,c3,rfl,rfl,rfl⟩,?_⟩
 ·refine lid λgg kk=>?_
  obtain⟨o,ho⟩:=lv D z;refine kk ?_;rw [d0] at ho;cases ho
 ·have h5:=hvs.reverse;rw [←List.map_reverse] at h5;have h6:=Hp h5 hm;refine rwl List.map_reverse ?_;exact h6.reverse.up (kA.mono λb m=>by refine rwl (mS m) ?_;exact lh)
end
section
variable{prog:Program}{w:World}{C:Cx}{B:Heap}{A:Around}{H0 Mu:List Addr}{env:Env}{σ:Sig}{ad:Str->Addr}{h h':Heap}{n:Nat}
theorem Fm.far{P:Addr}{ps:Array Value}{m:Str->Option Value}(F:Fm prog w C B H0 Mu env σ ad h)(hPH:P∈H0)(hPB:B.get? P=none)(hP:h.get? P=some (tabObj ps))(k:Kp [env.locals,P] h h')(hn:h.Ns env.locals m)(hn':h'.Ns env.locals m)
  (lp:∃o,h'.get? P=some o):Fm prog w C B H0 Mu env σ ad h':=by
 have kk:Kp (Mu++H0) h h':=k.mono λb m=>by
  rcases mC m with rfl|m
  ·exact List.mem_append_left _ F.lmu
  ·refine rwl (mS m) ?_;exact List.mem_append_right _ hPH
 have lL:∃o,h'.get? env.locals=some o:=by obtain⟨o,_,_,ho,_⟩:=hn';exact⟨o,ho⟩
 have cel:∀n c,env.cells.lookup n=some c->∀o,h.get? c=some o->h'.get? c=some o:=λn c e o q=>k c o (λm=>by
  rcases mC m with z|m
  ·exact(F.cells n c e).2 z
  ·rw [mS m] at e;obtain⟨⟨v,oc,ho,hd⟩,_⟩:=F.cells n P e;rw [hP] at ho;cases ho;cases hd) q
 have old:∀y u,VarIs env h y u->VarIs env h' y u:=λy u i=>by
  cases i with
  |loc m1 q n e=>
   rw [Ns.uniq n hn] at e;exact .loc _ q hn' e
  |cel c q l i=>obtain⟨o,ho,hd⟩:=i;exact .cel c q l ⟨o,cel _ _ l o ho,hd⟩
  |fre c q z l i=>obtain⟨o,ho,hd⟩:=i;exact .fre c q z l ⟨o,cel _ _ l o ho,hd⟩
 refine F.mv (λ_ m=>m) (λ_ m=>.inl m) kk (λb o e=>k b o (λm=>?_) (F.base b o e)) F.off (λb hb=>?_) F.apart ⟨_,hn'⟩ cel old λa ha hl o=>k a o λm=>?_
 ·rcases mC m with rfl|m
  ·rw [F.off _ F.lmu] at e;cases e
  ·rw [mS m,hPB] at e;cases e
 ·by_cases q:b=env.locals
  ·exact q▸lL
  ·by_cases q2:b=P
   ·exact q2▸lp
   ·obtain⟨o,ho⟩:=F.live b hb;exact⟨o,k b o (λm=>(mC m).elim q λm=>q2 (mS m)) ho⟩
 ·rcases mC m with z|m
  ·exact hl z
  ·rw [mS m] at ha;exact F.apart P ha hPH
end
theorem Sg{t ex:Expr}{l:Nat}{env:Env}(h:swapsWith ex (some t) l env=pure false):swapsWithSole [t] ex l env=pure false:=h
section
variable{prog:Program}{w:World}{C:Cx}{B:Heap}{A:Around}{H0 Mu:List Addr}{env:Env}{σ:Sig}{ad:Str->Addr}{n:Nat}{p:Program}{loose:List Str}{mean:ExcName->Option Value}{mg mb:Str->Option Value}
theorem Vn{x y z:Str}{f:Fs}{params:Arguments}{body:Expr}{scope:Scope}{p1 p2 p3 p4 lp kp kp2 cp q:Pos}{k0:Nat}{c P:Addr}{rows outs:List (List Str)}{kr:List Str->List Str}{s:Shared}{Q:Flow->Shared->Prop}{E:Value->Shared->Prop}
  (hA:AOk A (n+3)) (lk:Lk C env f) (T:Top p loose mean mg mb B) (C0:CodeHd B c P) (hcode:env.code=.ref c) (hPB:B.get? P=none) (gs:GlobAt B "sorted" (.builtin "sorted")) (hgk:env.kindOf "sorted"=some .globalImplicit)
  (hx:CA C env x=true) (hy:(y==("__debug__":Str))=false) (hrows:σ.lookup y=some (.fz (.list (rows.map BA))))
  (h1:params.posonlyargs=[]) (h2:params.vararg=none) (h3:params.kwonlyargs=[]) (h4:params.kwarg=none) (hp:params.args.map (·.arg)=[z]) (hdef:params.defaults=[]/\params.kw_defaults=[])
  (hk:scope.kind=.function) (hsc:scope.names=[(z,.local)]) (hco:scope.isCoroutine=false) (hge:scope.isGenerator=false)
  (run:∀t∈rows,∃σ',∀(A':Around) (C':Cx) (env':Env),AOk A' n->Lk C' env' (En scope)->C'.cls=C.cls->PE prog w C' B A' env' body [(z,.fz (BA t))] (BA (kr t)) σ')
  (r2:2<=rows.length) (r64:rows.length<64) (hs:JO kr rows=some outs)
  (F:Fm prog w C B H0 Mu env σ ad s.heap) (hPH:P∈H0) (hP:s.heap.get? P=some (tabObj #[]))
  (hQ:∀h' k,(∃ps,h'.get? P=some (tabObj ps))->Fm prog w C B H0 Mu env ((x,.fz (.list (outs.map BA)))::σ) ad h'->Q .next {s with heap:=h',toks:=k}):
  wpAny (model prog w) A (exec (.Assign [.Name x p1] (.Call (.Name "sorted" p2) [.Name y p3] [⟨some (Str.ofString "key"),.Lambda params body scope lp,kp⟩,⟨some (Str.ofString "reverse"),.Constant (.bool true) k0 q,kp2⟩] cp) p4) env) Q E s:=by
 refine lid λgg kk=>?_
 obtain⟨m,hn⟩:=F.ns;refine kk ?_;have hPL:P≠env.locals:=λq=>by
  refine lid λgg kk=>?_
  obtain⟨o,es,ep,e,hd,_⟩:=hn;refine kk ?_;rw [←q,hP] at e;cases e;cases hd
 have lim:B.NoLimit:=T.nolimit;refine wpAny_Assign_stores ?h ?a ?b
 case a=>
  exact Sg (Dl lk rfl)
 case b=>exact C6 (r:=none) lk rfl
 refine wpAny_bind (m:=eval (.Name "sorted" p2) env) ?_;refine wpAny_Name (Bc F.kind F.glob F.blt (gs.is F.base hgk) ?_) (by decide+kernel);refine callWith_kw ?_;refine spliced_cons ?_;refine M2 (A:=A) (pos:=p3) hy hrows H0 Mu ad s _ _ F λv h₁ k₁ kp₁ F₁ hv=>?_
 refine spliced_nil ?_;refine lid λgg kk=>?_
 obtain⟨m₁,hn₁'⟩:=F₁.ns;refine kk ?_;have hP₁:h₁.get? P=some (tabObj #[]):=kp₁ _ _ (λm=>F.apart P m hPH) hP;have hcl:closureFor scope env=pure []:=by
  unfold closureFor;refine rwl hsc ?_;rfl
 refine kws_cons (kla_eval (show defaultsOf params env=([],[]) from ?_) ?_)
 ·(simp only [defaultsOf_eq,hdef.1,hdef.2]);rfl
 refine lid λgg kk=>?_
 obtain⟨bm,ob,b1,b2,b3,b4,b5,b6⟩:=T.bmain;refine kk ?_;have hgP:mainGlobals≠P:=λq=>by
  refine lid λgg kk=>?_
  obtain⟨o,es,ep,e,hd,_⟩:=T.g;refine kk ?_;rw [q,hPB] at e;cases e
 have hbP:bm≠P:=λq=>by rw [q,hPB] at b3;cases b3
 have hbG:bm≠mainGlobals:=λq=>by
  refine lid λgg kk=>?_
  obtain⟨o,es,ep,e,hd,_⟩:=T.g;refine kk ?_;rw [q,e] at b3;cases b3;rw [hd] at b6;cases b6
 refine kla_makeFunction (mg:=mg) hcl F₁.glob (T.g.keeps F₁.base) hcode (C0.keeps F₁.base) hP₁ trivial rfl hgP ⟨bm,ob,b1,b2,hbG,hbP,F₁.base _ _ b3,b4,b5,b6⟩ λc' ctv h₂ k₂ hx2 hge2 hlt2 hrec htb=>?_
 refine kws_cons (wpAny_Constant_bool (kws_nil ?_));show wpAny (model prog w) A (call (.builtin "sorted") [v] [(Str.ofString "key",.ref h₂.objs.size),(Str.ofString "reverse",.bool true)]) _ E _;have kp3:Kp [P] h₁ (h₂.push (kla_obj "<lambda>" (env.qual++"<lambda>") params body scope [] ((mg "__name__").getD .none) c' ctv)):=λb o hb e=>Heap.get?_push_of_some _ (hx2 b o (λq=>hb (by refine rwl q ?_;exact .head _)) e)
 have hob:(h₂.push (kla_obj "<lambda>" (env.qual++"<lambda>") params body scope [] ((mg "__name__").getD .none) c' ctv)).get? h₂.objs.size=some _:=Heap.get?_push_size _ rfl;have hrec':=hrec;have hns3:(h₂.push (kla_obj "<lambda>" (env.qual++"<lambda>") params body scope [] ((mg "__name__").getD .none) c' ctv)).Ns env.locals m₁:=(hn₁'.extBut hx2 hPL.symm).push _;have htb3:(h₂.push (kla_obj "<lambda>" (env.qual++"<lambda>") params body scope [] ((mg "__name__").getD .none) c' ctv)).get? P=some (tabObj (#[]++ #[rawInt lp.line,rawInt lp.col,.ref c'])):=Heap.get?_push_of_some _ htb;have hLlt:env.locals<h₁.objs.size:=hn₁'.lt;have hsz:env.locals<h₂.objs.size:=(hn₁'.extBut hx2 hPL.symm).lt;have hrec3:(h₂.push (kla_obj "<lambda>" (env.qual++"<lambda>") params body scope [] ((mg "__name__").getD .none) c' ctv)).CodeRec (.ref c') (env.qual++"<lambda>"):=hrec.keeps λb o e=>Heap.get?_push_of_some _ e
 have hfL:h₂.objs.size≠env.locals:=Nat.ne_of_gt hsz;generalize h₂.push (kla_obj "<lambda>" (env.qual++"<lambda>") params body scope [] ((mg "__name__").getD .none) c' ctv)=h₃ at*;generalize h₂.objs.size=fa at*;have kk3:Kp (Mu++H0) h₁ h₃:=kp3.mono λb m=>by refine rwl (mS m) ?_;exact List.mem_append_right _ hPH
 have lv3:Live (Mu++H0) h₃:=λb hb=>by
  by_cases q:b=P
  ·refine rwl q ?_;exact⟨_,htb3⟩
  ·refine lid λgg kk=>?_
   obtain⟨o,ho⟩:=F₁.live b hb;refine kk ?_;exact⟨o,kp3 b o (λm=>q (mS m)) ho⟩
 refine PF (n:=n+1) (s:={s with heap:=h₃,toks:=k₂}) hA hns3 (List.mem_append_left _ F.lmu) lv3 (hv.up kk3) r2 r64 hs (λHd' s' t u kL lv' ht hu=>?_) λD h' k kL hns' hD=>?_
 ·refine lid λgg kk=>?_
  obtain⟨σ',pe⟩:=run t ht;have hA1:AOk A.in1.in1 (n+1):=hA.in1.in1;obtain⟨c₂,oc,vs,tq,e2,hoc,hd,hvq⟩:=hrec3;refine kk ?_
  cases e2
  have hcL:c'≠env.locals:=λq=>by rw [q] at hge2;exact absurd hLlt (Nat.not_lt.mpr hge2)
  refine Rv hA1 lim (kL _ _ (λm=>?_) hob) ⟨c',oc,vs,tq,rfl,kL _ _ (λm=>hcL (mS m)) hoc,hd,hvq⟩ h1 h2 h3 h4 hp hk (by refine rwl hsc ?_;simp) (λx m=>by rw [hsc,List.mem_singleton] at m;refine rwl m ?_;exactλq=>(by cases q)) (by refine rwl hsc ?_;rfl) hco hge (λC' env' lk' hc'=>pe _ C' env' (hA1.deeper env') lk' hc') (λb o e=>?_) lv' hu
  ·rw [mS m] at hfL;exact hfL rfl
  ·refine kL b o (λm=>?_) (kp3 b o (λm=>?_) (F₁.base b o e))
   ·rw [mS m,F.off _ F.lmu] at e;cases e
   ·rw [mS m,hPB] at e;cases e
 ·have kLP:Kp [env.locals,P] h₁ h':=λb o hb e=>kL b o (λm=>hb (by refine rwl (mS m) ?_;exact .head _)) (kp3 b o (λm=>hb (.tail _ m)) e)
  have hP':=kL _ _ (λm=>hPL (mS m)) htb3;have F':=F₁.far hPH hPB hP₁ kLP hn₁' hns' ⟨_,hP'⟩;refine Bo (Ft (A:=A) (pos:=p1) hx H0 Mu ad _ (.ref D) _ _ F' hD λh₅ k₅ kp₅ F₅=>?_);exact hQ h₅ k₅ ⟨_,kp₅ _ _ (λm=>F.apart P m hPH) hP'⟩ F₅
end
section
open PySem.Float64
theorem KV{a b:Nat}(h:V a=V b):a=b:=by
 rcases Nat.lt_trichotomy a b with q|q|q
 ·exact absurd h (Nat.ne_of_lt (V_lt q))
 ·exact q
 ·exact absurd h (Nat.ne_of_gt (V_lt q))
noncomputable def frc{α:Type}(x:Nat)(f:Nat->α):α:=Nat.casesOn x (f 0) λn=>f (Nat.succ n)
theorem CH{α:Type}(x:Nat)(f:Nat->α):frc x f=f x:=by cases x<;>rfl
theorem Y7{a b c W:Nat}(h1:a<b)(h2:b<c)(e:dist W a=dist W c):dist W b<dist W a:=by
 unfold dist at*
 (refine Nat.lt_of_not_le λh=>?_;omega)
theorem Os{a b:Nat}(h:a<b)(p:a%2=0)(q:b%2=0):a+1<b:=by(refine Nat.lt_of_not_le λh=>?_;lia)
theorem Ik{W D t t0:Nat}(hD:0<D)(A:∀t',dist W (D*V t0)<=dist W (D*V t')/\(V t'≠V t0->dist W (D*V t0)=dist W (D*V t')->t0%2=0))
  (B:∀t',dist W (D*V t)<=dist W (D*V t')/\(V t'≠V t->dist W (D*V t)=dist W (D*V t')->t%2=0)) (q:t0<t):False:=by
 have e:=Nat.le_antisymm (A t).1 (B t0).1;have ne:V t≠V t0:=Nat.ne_of_gt (V_lt q);have h:=Os q ((A t).2 ne e) ((B t0).2 ne.symm e.symm);exact Nat.not_lt.mpr (A (t0+1)).1 (Y7 (Nat.mul_lt_mul_of_pos_left (V_lt (Nat.lt_succ_self t0)) hD) (Nat.mul_lt_mul_of_pos_left (V_lt h) hD) e)
theorem Qd{W D t t0:Nat}(hD:0<D)(A:∀t',dist W (D*V t0)<=dist W (D*V t')/\(V t'≠V t0->dist W (D*V t0)=dist W (D*V t')->t0%2=0))
  (B:∀t',dist W (D*V t)<=dist W (D*V t')/\(V t'≠V t->dist W (D*V t)=dist W (D*V t')->t%2=0)):t0=t:=by
 rcases Nat.lt_trichotomy t0 t with q|q|q
 ·exact(Ik hD A B q).elim
 ·exact q
 ·exact(Ik hD B A q).elim
theorem X3{P B n:Nat}(h:P/B<n)(hB:0<B):halfEven P B<=n:=Nat.le_trans (halfEven_le' P B hB) h
theorem X4{P B:Nat}:P/B<=halfEven P B:=by
 unfold halfEven;dsimp only
 split
 ·exact Nat.le_succ _
 ·exact Nat.le_refl _
theorem Yb:2*V (infMag-1)<(2^54-1)*2^2045:=by decide+kernel
theorem PU{P B W D E K:Nat}(hK:2*(2^2000*2^53)<K)(hD:0<D)(hB:0<B)(hW:W*B=P*(D*2^E))(h2:P<2^53*B)(hE:E<=2000):¬D*K<=2*W:=λh5=>by
 have h7:K*(D*B)<=2*(2^E*P)*D:=by
  calc K*(D*B)=D*K*B:=by(simp only [Nat.mul_left_comm,Nat.mul_assoc])
   _<=2*W*B:=Nat.mul_le_mul_right B h5
   _=2*(2^E*P)*D:=by rw [Nat.mul_assoc,hW,Nat.mul_assoc,Nat.mul_comm D,←Nat.mul_assoc P,Nat.mul_comm P]
 have h8:2*(2^E*P)*D<=2*(2^2000*(2^53*B))*D:=Nat.mul_le_mul_right D (Nat.mul_le_mul_left 2 (Nat.mul_le_mul (Nat.pow_le_pow_right (by decide) hE) (Nat.le_of_lt h2)));have h9:2*(2^2000*(2^53*B))*D=2*(2^2000*2^53)*(D*B):=by rw [←Nat.mul_assoc (2^2000),←Nat.mul_assoc 2,Nat.mul_assoc,Nat.mul_comm B]
 rw [h9] at h8;exact Nat.not_lt.mpr (Nat.le_of_mul_le_mul_right (Nat.le_trans h7 h8) (Nat.mul_pos hD hB)) hK
theorem NT{D K v:Nat}(hD:0<D)(h5:D*K<=2*(D*v)):K<=2*v:=Nat.le_of_mul_le_mul_left (Nat.mul_left_comm 2 D v▸h5) hD
theorem RI:2*(2^2000*2^53)<(2^54-1)*2^2045:=by decide+kernel
theorem Ph{r:UInt64}{neg:Bool}{W D P B E:Nat}(R:Right r neg W D)(hD:0<D)(hB:0<B)(hW:W*B=P*(D*2^E))(h1:2^52*B<=P)(h2:P<2^53*B)(hE:E<=2000):r=pack neg (E*2^52+halfEven P B):=by
 obtain⟨t0,rfl,hle,hov,near⟩:=R;have hV:V (E*2^52+halfEven P B)=halfEven P B*2^E:=V_at (X3 ((Nat.div_lt_iff_lt_mul hB).mpr h2) hB) (.inl (Nat.le_trans ((Nat.le_div_iff_mul_le hB).mpr h1) X4));have key:∀v,B*dist W (D*v)=D*dist (P*2^E) (B*v):=λv=>by
  (simp only [←dist_mul,←dist_mul,Nat.mul_comm B W,hW,Nat.mul_left_comm P,Nat.mul_left_comm B])
 have core:=nearest_core (a:=P) (b:=B) (k:=E) hB rfl h2 (.inr h1);refine congrArg (pack neg) (Qd hD (near (Nat.lt_of_le_of_ne hle λq=>PU RI hD hB hW h2 hE (hov.mp q))) λt'=>?_);rw [hV];obtain⟨c1,c2⟩:=core t';refine⟨?_,λhne he=>?_⟩
 ·refine Nat.le_of_mul_le_mul_left (c:=B) ?_ hB
  (simp only [key,key])
  exact Nat.mul_le_mul_left D c1
 ·have he':D*dist (P*2^E) (B*(halfEven P B*2^E))=D*dist (P*2^E) (B*V t'):=by(simp only [←key,←key,he])
  rw [Nat.add_mod,c2 hne (Nat.eq_of_mul_eq_mul_left hD he'),Nat.mul_mod];simp
theorem Ot{a b:Nat}(h:dist a b<=0):a=b:=Nat.le_antisymm (Nat.le_of_sub_eq_zero (Nat.le_zero.mp (Nat.le_trans (Nat.le_add_right _ _) h))) (Nat.le_of_sub_eq_zero (Nat.le_zero.mp (Nat.le_trans (Nat.le_add_left _ _) h)))
theorem Ov(a:Nat):dist a a=0:=by unfold dist;rw [Nat.sub_self]
theorem DW{r:UInt64}{neg:Bool}{W D t:Nat}(R:Right r neg W D)(hD:0<D)(hW:W=D*V t)(ht:t<9218868437227405312):r=pack neg t:=by
 obtain⟨t0,rfl,hle,hov,near⟩:=R;subst hW;have lt:t0<infMag:=Nat.lt_of_le_of_ne hle λq=>
  Nat.not_lt.mpr (NT hD (hov.mp q)) (Nat.lt_of_le_of_lt (Nat.mul_le_mul_left 2 (V_mono (Nat.le_pred_of_lt (show t<infMag from ht)))) Yb)
 exact congrArg (pack neg) (KV (Nat.eq_of_mul_eq_mul_left hD (Ot (Nat.le_trans (near lt t).1 (Nat.le_of_eq (Ov _)))).symm))
end
section
open PySem.Float64
theorem Iv:infMag=9218868437227405312:=rfl
noncomputable def bad:Nat:=9223372036854775808
noncomputable def fin(X:Nat):Bool:=Nat.ble X 9218868437227405311
theorem FW{X:Nat}(h:fin X=true):X<9218868437227405312:=by
 exact Nat.lt_succ_of_le (Nat.le_of_ble_eq_true h)
theorem Nj:fin bad=false:=by decide+kernel
noncomputable def F(x:UInt64)(X:Nat):Prop:=x=pack false X/\X<9218868437227405312
theorem F.dec{x:UInt64}{X:Nat}(h:F x X):∃m e,decode x=.fin false m e/\m*2^(e+1074).toNat=V X:=by
 obtain⟨rfl,h⟩:=h;exact decode_pack false (Iv▸h)
theorem F.val{x:UInt64}{X:Nat}(h:F x X):Float64.val x=(V X:Int):=by
 obtain⟨rfl,h⟩:=h;refine rwl (val_pack false (Iv▸h)) ?_;rfl
theorem IA:F (Float64.zero false) 0:=⟨rfl,by decide⟩
noncomputable def mt(X:Nat):Nat:=Nat.add 4503599627370496 (Nat.mod X 4503599627370496)
noncomputable def ex(X:Nat):Nat:=Nat.sub (Nat.div X 4503599627370496) 1
noncomputable def nrm(X:Nat):Bool:=Nat.ble 4503599627370496 X
theorem Ez{X:Nat}(h:nrm X=true):V X=mt X*2^ex X:=by
 have:X/2^52≠0:=Nat.ne_of_gt (Nat.div_pos (Nat.le_of_ble_eq_true h) (by decide));unfold V;refine rwl (if_neg this) ?_;rfl
noncomputable def hE(P B:Nat):Nat:=bif (Nat.ble (Nat.add B 1) (Nat.mul 2 (Nat.mod P B))||(Nat.beq (Nat.mul 2 (Nat.mod P B)) B&&Nat.beq (Nat.mod (Nat.div P B) 2) 1)) then Nat.add (Nat.div P B) 1 else Nat.div P B
theorem dlt(a b:Nat):decide (a>b)=Nat.ble (b+1) a:=by
 cases h:Nat.ble (b+1) a with
 |true=>exact decide_eq_true (Nat.le_of_ble_eq_true h)
 |false=>exact decide_eq_false λq=>by rw [Nat.ble_eq.mpr q] at h;cases h
theorem Xw{b:Bool}{x y:Nat}:(if b=true then x else y)=bif b then x else y:=by cases b<;>rfl
theorem XW(a b:Nat):(a==b)=Nat.beq a b:=by
 cases h:Nat.beq a b with
 |true=>exact beq_iff_eq.mpr (Nat.eq_of_beq_eq_true h)
 |false=>exact beq_eq_false_iff_ne.mpr (Nat.ne_of_beq_eq_false h)
theorem X5(P B:Nat):hE P B=halfEven P B:=by
 unfold halfEven;dsimp only
 (simp only [dlt,Xw,XW,XW])
 rfl
noncomputable def rk(P B E:Nat):Nat:=bif Nat.ble (Nat.mul 4503599627370496 B) P then bif Nat.ble (Nat.mul 9007199254740992 B) P then bad else bif Nat.ble E 2000 then Nat.add (Nat.mul E 4503599627370496) (hE P B) else bad else bad
theorem F_c{b:Bool}{r:UInt64}{x y:Nat}(h:fin (bif b then x else y)=true)(k1:b=true->fin x=true->F r x)(k2:b=false->fin y=true->F r y):F r (bif b then x else y):=by
 cases b with
 |true=>exact k1 rfl h
 |false=>exact k2 rfl h
theorem F_g{b:Bool}{r:UInt64}{x:Nat}(h:fin (bif b then x else bad)=true)(k1:b=true->fin x=true->F r x):F r (bif b then x else bad):=F_c h k1 λ_ h=>by rw [Nj] at h;cases h
theorem F_b{b:Bool}{r:UInt64}{x:Nat}(h:fin (bif b then bad else x)=true)(k1:b=false->fin x=true->F r x):F r (bif b then bad else x):=F_c h (λ_ h=>by rw [Nj] at h;cases h) k1
theorem MD{a b:Nat}(h:Nat.ble a b=false):b<a:=Nat.lt_of_not_le λq=>by rw [Nat.ble_eq.mpr q] at h;cases h
theorem Fn{r:UInt64}{W D P B E:Nat}(R:Right r false W D)(hD:0<D)(hB:0<B)(hW:W*B=P*(D*2^E))(h:fin (rk P B E)=true):F r (rk P B E):=
 F_g h λh1 h=>F_b h λh2 h=>F_g h λh3 h=>⟨by
  rw [X5];exact Ph R hD hB hW (Nat.le_of_ble_eq_true h1) (MD h2) (Nat.le_of_ble_eq_true h3),FW h⟩
end
section
open PySem.Float64
noncomputable def lgT(q k a:Nat):Nat:=Nat.rec (λa=>a) (λk ih a=>frc (Nat.add a (Nat.pow 2 k)) λb=>bif Nat.ble (Nat.pow 2 b) q then ih b else ih a) k a
noncomputable def MV(P k e:Nat):Nat:=bif Nat.ble 1074 (Nat.add e k) then rk P (Nat.pow 2 k) (Nat.sub (Nat.add e k) 1074) else bad
noncomputable def XB(mx my e:Nat):Nat:=bif Nat.ble 40564819207303340847894502572032 (Nat.mul mx my) then MV (Nat.mul mx my) 53 e else MV (Nat.mul mx my) 52 e
noncomputable def DQ(X Y:Nat):Nat:=bif Nat.beq X 0 then 0 else bif Nat.beq Y 0 then 0 else bif nrm X then bif nrm Y then frc (mt X) λmx=>frc (mt Y) λmy=>frc (Nat.add (ex X) (ex Y)) λe=>XB mx my e else bad else bad
noncomputable def QR(P d e:Nat):Nat:=bif Nat.ble (Nat.pow 2 (Nat.add 53 d)) P then rk P (Nat.pow 2 (Nat.add d 1)) (Nat.add e (Nat.add d 1)) else rk P (Nat.pow 2 d) (Nat.add e d)
noncomputable def Na(X Y:Nat):Nat:=bif nrm Y then frc (mt X) λmx=>frc (mt Y) λmy=>frc (ex Y) λe=>frc (Nat.sub (ex X) e) λd=>QR (Nat.add (Nat.mul mx (Nat.pow 2 d)) my) d e else bad
noncomputable def D8(X Y:Nat):Nat:=bif Nat.beq X 0 then Y else bif Nat.beq Y 0 then X else bif Nat.ble Y X then Na X Y else Na Y X
noncomputable def QM(P e L:Nat):Nat:=bif Nat.ble 52 L then rk P (Nat.pow 2 (Nat.sub L 52)) (Nat.add e (Nat.sub L 52)) else
 frc (Nat.sub 52 L) λj=>frc (Nat.mul P (Nat.pow 2 j)) λq=>bif Nat.ble j e then bif Nat.ble 4503599627370496 q then bif Nat.ble q 9007199254740992 then Nat.add (Nat.mul (Nat.sub e j) 4503599627370496) q else bad else bad else bad
noncomputable def X9(P e:Nat):Nat:=frc (lgT P 7 0) λL=>QM P e L
noncomputable def BK(X Y:Nat):Nat:=bif Nat.beq Y 0 then X else bif Nat.beq X Y then 0 else bif Nat.ble Y X then bif nrm Y then frc (mt X) λmx=>frc (mt Y) λmy=>frc (ex Y) λe=>frc (Nat.sub (ex X) e) λd=>X9 (Nat.sub (Nat.mul mx (Nat.pow 2 d)) my) e else bad else bad
noncomputable def MY(mx my ix iy j:Nat):Nat:=bif Nat.ble (Nat.add iy j) (Nat.add 1074 ix) then rk (Nat.mul mx (Nat.pow 2 j)) my (Nat.sub (Nat.add 1074 ix) (Nat.add iy j)) else bad
noncomputable def QO(X Y:Nat):Nat:=bif nrm X then bif nrm Y then frc (mt X) λmx=>frc (mt Y) λmy=>frc (ex X) λix=>frc (ex Y) λiy=>bif Nat.ble my mx then MY mx my ix iy 52 else MY mx my ix iy 53 else bad else bad
noncomputable def fdiv(X Y:Nat):Nat:=bif Nat.beq X 0 then(bif nrm Y then 0 else bad) else QO X Y
noncomputable def TA(a b j:Nat):Nat:=bif Nat.ble j 1074 then rk (Nat.mul a (Nat.pow 2 j)) b (Nat.sub 1074 j) else bad
noncomputable def dvN(a b:Nat):Nat:=bif Nat.beq a 0 then 0 else bif Nat.beq b 0 then bad else frc (Nat.sub (Nat.add 52 (lgT b 8 0)) (lgT a 8 0)) λj=>bif Nat.ble (Nat.mul 4503599627370496 b) (Nat.mul a (Nat.pow 2 j)) then TA a b j else TA a b (Nat.add j 1)
theorem Me{X:Nat}(h:Nat.beq X 0=true):X=0:=Nat.eq_of_beq_eq_true h
theorem BL{r:UInt64}{x:Nat}{f:Nat->Nat}(h:fin (frc x f)=true)(k:fin (f x)=true->F r (f x)):F r (frc x f):=by
 rw [CH] at h⊢;exact k h
theorem YA:fin 0=true:=rfl
theorem ET{r:UInt64}{D:Nat}(R:Right r false 0 D)(hD:0<D):F r 0:=⟨DW R hD (by rfl) (by decide),by decide⟩
theorem K9{r:UInt64}{mx my ix iy k:Nat}(R:Right r false (mx*2^ix*(my*2^iy)) (2^1074))(h:fin (MV (Nat.mul mx my) k (Nat.add ix iy))=true):F r (MV (Nat.mul mx my) k (Nat.add ix iy)):=
 F_g h λc h=>Fn R (Nat.two_pow_pos _) (Nat.two_pow_pos _) (by
  have e1:(2:Nat)^1074*2^((ix+iy+k)-1074)=2^ix*2^iy*2^k:=by
   (simp only [←Nat.pow_add,←Nat.pow_add,←Nat.pow_add,Nat.add_sub_cancel' (Nat.le_of_ble_eq_true c:1074<=ix+iy+k)])
  show mx*2^ix*(my*2^iy)*2^k=mx*my*(2^1074*2^((ix+iy+k)-1074));rw [e1,Nat.mul_mul_mul_comm,Nat.mul_assoc]) h
theorem F.mul{x y:UInt64}{X Y:Nat}(hx:F x X)(hy:F y Y)(h:fin (DQ X Y)=true):F (Float64.mul x y) (DQ X Y):=by
 obtain⟨m,e,dx,_⟩:=hx.dec;obtain⟨k,f,dy,_⟩:=hy.dec;have R:=mul_right dx dy;rw [hx.val,hy.val,Int.natAbs_natCast,Int.natAbs_natCast] at R;clear dx dy;refine F_c h (λq _=>?_) λ_ h=>F_c h (λq _=>?_) λ_ h=>F_g h λn1 h=>F_g h λn2 h=>BL h λh=>BL h λh=>BL h λh=>?_
 ·rw [Me q,V_zero,Nat.zero_mul] at R;exact ET R (Nat.two_pow_pos _)
 ·rw [Me q,V_zero,Nat.mul_zero] at R;exact ET R (Nat.two_pow_pos _)
 ·rw [Ez n1,Ez n2] at R;exact F_c h (λ_ h=>K9 R h) λ_ h=>K9 R h
end
section
open PySem.Float64
theorem T5{X Y:Nat}(h:Y<=X):ex Y<=ex X:=Nat.sub_le_sub_right (Nat.div_le_div_right (c:=4503599627370496) h) 1
theorem PT{X Y:Nat}(h:Y<=X)(n:nrm Y=true):nrm X=true:=Nat.ble_eq.mpr (Nat.le_trans (Nat.le_of_ble_eq_true n) h)
theorem KH{X Y:Nat}(h:Y<=X):(2:Nat)^ex X=2^(ex X-ex Y)*2^ex Y:=by(simp only [←Nat.pow_add,Nat.sub_add_cancel (T5 h)])
theorem Ll{r:UInt64}{P i k:Nat}(R:Right r false (P*2^i) 1)(h:fin (rk P (2^k) (i+k))=true):F r (rk P (2^k) (i+k)):=
 Fn R (by decide) (Nat.two_pow_pos _) (by(simp only [Nat.one_mul,Nat.pow_add,Nat.mul_assoc])) h
theorem QQ{r:UInt64}{P d i:Nat}(R:Right r false (P*2^i) 1)(h:fin (QR P d i)=true):F r (QR P d i):=F_c h (λ_ h=>Ll R h) λ_ h=>Ll R h
theorem KD{r:UInt64}{X Y:Nat}(hl:Y<=X)(R:Right r false (V X+V Y) 1)(h:fin (Na X Y)=true):F r (Na X Y):=
 F_g h λn h=>BL h λh=>BL h λh=>BL h λh=>BL h λh=>by
  rw [Ez n,Ez (PT hl n),KH hl,←Nat.mul_assoc,←Nat.add_mul] at R;exact QQ R h
theorem F.same{x:UInt64}{Z:Nat}{r:UInt64}(hx:F x Z)(R:Right r false (V Z) 1):F r Z:=⟨DW R (by decide) (Nat.one_mul _).symm hx.2,hx.2⟩
theorem F.add{x y:UInt64}{X Y:Nat}(hx:F x X)(hy:F y Y)(h:fin (D8 X Y)=true):F (Float64.add x y) (D8 X Y):=by
 refine lid λgg kk=>?_
 obtain⟨m,e,dx,_⟩:=hx.dec;obtain⟨k,f,dy,_⟩:=hy.dec;obtain⟨r1,r2⟩:=add_right dx dy;refine kk ?_;rw [hx.val,hy.val,←Int.natCast_add] at r1 r2;clear dx dy
 by_cases z:V X+V Y=0
 ·have a:=KV ((Nat.eq_zero_of_add_eq_zero_right z).trans V_zero.symm);have b:=KV ((Nat.eq_zero_of_add_eq_zero_left z).trans V_zero.symm)
  (simp only [r1 (congrArg _ z),a,b])
  exact IA
 ·have R:=r2 λq=>z (Int.ofNat.inj q)
  rw [decide_eq_false (Int.not_lt.mpr (Int.natCast_nonneg _)),Int.natAbs_natCast] at R;clear r1 r2;refine F_c h (λq _=>?_) λ_ h=>F_c h (λq _=>?_) λ_ h=>F_c h (λq h=>KD (Nat.le_of_ble_eq_true q) R h) λq h=>KD (Nat.le_of_lt (MD q)) (Nat.add_comm (V X) (V Y)▸R) h
  ·rw [Me q,V_zero,Nat.zero_add] at R;exact hy.same R
  ·rw [Me q,V_zero,Nat.add_zero] at R;exact hx.same R
theorem QL{r:UInt64}{P i L:Nat}(R:Right r false (P*2^i) 1)(h:fin (QM P i L)=true):F r (QM P i L):=
 F_c h (λ_ h=>Ll R h) λ_ h=>BL h λh=>BL h λh=>F_g h λc1 h=>F_g h λc2 h=>F_g h λc3 h=>by
  have hf:=FW h;refine⟨DW R (by decide) ?_ hf,hf⟩;revert c1 c2 c3;generalize Nat.sub 52 L=j;intro c1 c2 c3;show P*2^i=1*V ((i-j)*2^52+P*2^j)
  (simp only [V_at (k:=i-j) (q:=P*2^j) (Nat.le_of_ble_eq_true c3) (.inl (Nat.le_of_ble_eq_true c2)),Nat.one_mul,Nat.mul_assoc,←Nat.pow_add,Nat.add_sub_cancel' (Nat.le_of_ble_eq_true c1)])
theorem F.sub{x y:UInt64}{X Y:Nat}(hx:F x X)(hy:F y Y)(h:fin (BK X Y)=true):F (Float64.sub x y) (BK X Y):=by
 obtain⟨m,e,dx,_⟩:=hx.dec;obtain⟨k,f,dy,_⟩:=hy.dec;obtain⟨r1,r2⟩:=sub_right dx dy;rw [hx.val,hy.val] at r1 r2;clear dx dy;have go:Y<=X->X≠Y->Right (Float64.sub x y) false (V X-V Y) 1:=λhl hn=>by
  have hv:=V_mono hl;rw [←Int.ofNat_sub hv] at r2;have R:=r2 λq=>hn (KV (Nat.le_antisymm (Nat.le_of_sub_eq_zero (Int.ofNat.inj q)) hv))
  rwa [decide_eq_false (Int.not_lt.mpr (Int.natCast_nonneg _)),Int.natAbs_natCast] at R
 refine F_c h (λq _=>?_) λ_ h=>F_c h (λq _=>?_) λq2 h=>F_g h λc1 h=>F_g h λc2 h=>BL h λh=>BL h λh=>BL h λh=>BL h λh=>BL h λh=>?_
 ·have y0:=Me q;subst y0
  by_cases x0:X=0
  ·subst x0;refine rwl (r1 (Int.sub_self _)) ?_;exact IA
  ·have R:=go (Nat.zero_le _) x0;rw [V_zero,Nat.sub_zero] at R;exact hx.same R
 ·have e:=Nat.eq_of_beq_eq_true q;subst e;refine rwl (r1 (Int.sub_self _)) ?_;exact IA
 ·have hl:=Nat.le_of_ble_eq_true c1;have R:=go hl (λz=>by rw [z,Nat.beq_refl] at q2;cases q2);rw [Ez c2,Ez (PT hl c2),KH hl,←Nat.mul_assoc,←Nat.sub_mul] at R;exact QL R h
theorem Jj(Y:Nat):0<mt Y:=Nat.lt_of_lt_of_le (by decide) (Nat.le_add_right 4503599627370496 _)
theorem KC{r:UInt64}{mx my ix iy j:Nat}(hm:0<my)(R:Right r false (mx*2^ix*2^1074) (my*2^iy))(h:fin (MY mx my ix iy j)=true):F r (MY mx my ix iy j):=
 F_g h λc h=>Fn R (Nat.mul_pos hm (Nat.two_pow_pos _)) hm (by
  have e1:(2:Nat)^ix*2^1074=2^j*(2^iy*2^(1074+ix-(iy+j))):=by
   rw [←Nat.pow_add,←Nat.pow_add,←Nat.pow_add,←Nat.add_assoc,Nat.add_comm j,Nat.add_sub_cancel' (Nat.le_of_ble_eq_true c:iy+j<=1074+ix),Nat.add_comm]
  show mx*2^ix*2^1074*my=mx*2^j*(my*2^iy*2^(1074+ix-(iy+j)));rw [Nat.mul_assoc mx,e1,Nat.mul_assoc my,Nat.mul_left_comm _ my,←Nat.mul_assoc mx,Nat.mul_comm my]) h
theorem F.ne0{y:UInt64}{Y k e:Nat}(n:nrm Y=true)(hk:k*e=V Y):k≠0:=λz=>by
 rw [z,Nat.zero_mul,Ez n] at hk;exact Nat.ne_of_lt (Nat.mul_pos (Jj Y) (Nat.two_pow_pos (ex Y))) hk
theorem F.div2{x y:UInt64}{X Y:Nat}(hx:F x X)(hy:F y Y)(h:fin (QO X Y)=true):F (Float64.div x y) (QO X Y):=by
 refine lid λgg kk=>?_
 obtain⟨m,e,dx,_⟩:=hx.dec;obtain⟨k,f,dy,hk⟩:=hy.dec;refine kk ?_;refine F_g h λn1 h=>F_g h λn2 h=>BL h λh=>BL h λh=>BL h λh=>BL h λh=>?_
 have R:=div_right dx dy (F.ne0 (y:=y) n2 hk);rw [hx.val,hy.val,Int.natAbs_natCast,Int.natAbs_natCast,Ez n1,Ez n2] at R;exact F_c h (λ_ h=>KC (Jj Y) R h) λ_ h=>KC (Jj Y) R h
theorem F.div{x y:UInt64}{X Y:Nat}(hx:F x X)(hy:F y Y)(h:fin (fdiv X Y)=true):F (Float64.div x y) (fdiv X Y):=by
 refine F_c h (λq h=>F_g h λn2 h=>?_) λ_ h=>hx.div2 hy h
 obtain⟨m,e,dx,_⟩:=hx.dec;obtain⟨k,f,dy,hk⟩:=hy.dec;have R:=div_right dx dy (F.ne0 (y:=y) n2 hk);rw [hx.val,hy.val,Int.natAbs_natCast,Int.natAbs_natCast,Me q,V_zero,Nat.zero_mul] at R;exact ET R (by refine rwl (Ez n2) ?_;exact Nat.mul_pos (Jj Y) (Nat.two_pow_pos _))
theorem Nd{r:UInt64}{a b j:Nat}(hb:0<b)(R:Right r false (a*2^1074) b)(h:fin (TA a b j)=true):F r (TA a b j):=
 F_g h λc h=>Fn R hb hb (by
  have e1:(2:Nat)^1074=2^j*2^(1074-j):=by(simp only [←Nat.pow_add,Nat.add_sub_cancel' (Nat.le_of_ble_eq_true c)])
  show a*2^1074*b=a*2^j*(b*2^(1074-j));rw [e1,←Nat.mul_assoc,Nat.mul_assoc (a*2^j),Nat.mul_comm b]) h
theorem Oi(b:Nat):Float64.ofFrac false 0 b=Float64.zero false:=by
 unfold Float64.ofFrac Float64.zero;rfl
theorem Wq{a b:Nat}(h:fin (dvN a b)=true):F (Float64.ofFrac false a b) (dvN a b):=by
 refine F_c h (λq _=>by(simp only [Me q,Oi]);exact IA) λ_ h=>F_b h λq2 h=>BL h λh=>?_
 have hb:0<b:=Nat.pos_of_ne_zero λz=>by rw [z] at q2;cases q2
 have R:Right (Float64.ofFrac false a b) false (a*2^1074) b:=ofFrac_right hb rfl hb;exact F_c h (λ_ h=>Nd hb R h) λ_ h=>Nd hb R h
theorem F.divP{a b:Nat}(h:fin (dvN a b)=true):F (Mine.Internal.divP (a:Int) (b:Int)) (dvN a b):=by
 unfold Mine.Internal.divP
 (simp only [decide_eq_false (Int.not_lt.mpr (Int.natCast_nonneg a)),decide_eq_false (Int.not_lt.mpr (Int.natCast_nonneg b)),Int.natAbs_natCast,Int.natAbs_natCast])
 exact Wq h
end
section
open PySem.Float64
theorem F.cmp{x y:UInt64}{X Y:Nat}(hx:F x X)(hy:F y Y):Float64.cmp x y=some (compare (V X:Int) (V Y)):=by
 refine lid λgg kk=>?_
 obtain⟨m,e,dx,_⟩:=hx.dec;obtain⟨k,f,dy,_⟩:=hy.dec;refine kk ?_
 (refine rwl (cmp_right dx dy) ?_;refine rwl hx.val ?_;refine rwl hy.val ?_;rfl)
theorem Qf{X Y:Nat}(h:X≠Y):Nat.beq X Y=false:=Bool.eq_false_iff.mpr λz=>h (Nat.eq_of_beq_eq_true z)
theorem ST{X Y:Nat}(h:Y<X):Nat.ble X Y=false:=Bool.eq_false_iff.mpr λz=>by rw [Nat.ble_eq] at z;lia
theorem F.feq{x y:UInt64}{X Y:Nat}(hx:F x X)(hy:F y Y):feq x y=Nat.beq X Y:=by
 unfold Mine.Internal.feq;refine rwl (hx.cmp hy) ?_
 rcases Nat.lt_trichotomy X Y with q|q|q
 ·(refine rwl (Int.compare_eq_lt.mpr (Int.ofNat_lt.mpr (V_lt q))) ?_;refine rwl (Qf (by exact Nat.ne_of_lt q)) ?_);rfl
 ·subst q;rw [Int.compare_eq_eq.mpr rfl,Nat.beq_refl];rfl
 ·(refine rwl (Int.compare_eq_gt.mpr (Int.ofNat_lt.mpr (V_lt q))) ?_;refine rwl (Qf (by exact Ne.symm (Nat.ne_of_lt q))) ?_);rfl
theorem F.flt{x y:UInt64}{X Y:Nat}(hx:F x X)(hy:F y Y):FV x y= !(Nat.ble Y X):=by
 unfold FV;refine rwl (hx.cmp hy) ?_
 rcases Nat.lt_or_ge X Y with q|q
 ·(refine rwl (Int.compare_eq_lt.mpr (Int.ofNat_lt.mpr (V_lt q))) ?_;refine rwl (ST q) ?_);rfl
 ·have ne:compare (V X:Int) (V Y)≠.lt:=λz=>by have:=Int.compare_eq_lt.mp z;have:=V_mono q;lia
  refine rwl (Nat.ble_eq.mpr q) ?_
  simpa using ne
theorem F.fle{x y:UInt64}{X Y:Nat}(hx:F x X)(hy:F y Y):fle x y=Nat.ble X Y:=by
 have h1:=hx.flt hy;have h2:=hx.feq hy;unfold FV at h1;unfold Mine.Internal.feq at h2;unfold Mine.Internal.fle
 (refine rwl h1 ?_;refine rwl h2 ?_)
 rcases Nat.lt_trichotomy X Y with q|q|q
 ·(refine rwl (ST q) ?_;refine rwl (Nat.ble_eq.mpr (by exact Nat.le_of_succ_le q)) ?_);rfl
 ·subst q;(simp only [Nat.beq_refl,Nat.ble_eq.mpr (by exact Nat.le_refl X)]);rfl
 ·(simp only [ST q,Qf (by exact Ne.symm (Nat.ne_of_lt q)),Nat.ble_eq.mpr (by exact Nat.le_of_succ_le q)]);rfl
theorem F.isZero{x:UInt64}{X:Nat}(hx:F x X)(h:Nat.beq X 0=false):Float64.isZero x=false:=by
 obtain⟨m,e,dx,hv⟩:=hx.dec;unfold Float64.isZero;refine rwl dx ?_
 cases m with
 |zero=>
  rw [Nat.zero_mul] at hv;have:=KV (hv.symm.trans V_zero.symm);subst this
  cases h
 |succ m=>rfl
theorem F.lit{X:Nat}(x:UInt64)(h:Nat.beq x.toNat X=true)(h2:fin X=true):F x X:=by
 have:=Nat.eq_of_beq_eq_true h;refine⟨?_,FW h2⟩;subst this;apply UInt64.toNat_inj.mp;refine rwl (pack_toNat false (by have:=FW h2;(refine Nat.lt_of_not_le λh=>?_;lia))) ?_;simp
noncomputable def tr(X:Nat):Nat:=bif nrm X then bif Nat.ble 1074 (ex X) then Nat.mul (mt X) (Nat.pow 2 (Nat.sub (ex X) 1074)) else Nat.div (mt X) (Nat.pow 2 (Nat.sub 1074 (ex X))) else 0
theorem WN(X:Nat):tr X=V X/2^1074:=by
 unfold tr
 cases h:nrm X with
 |false=>
  have:X<4503599627370496:=by
   rcases Nat.lt_or_ge X 4503599627370496 with q|q
   ·exact q
   ·unfold nrm at h;rw [Nat.ble_eq.mpr q] at h;cases h
  have hv:V X=X:=by unfold V;(exact(if_pos (by exact Nat.div_eq_of_lt this)))
  (simp only [cond_false,hv])
  refine(Nat.div_eq_of_lt (Nat.lt_of_lt_of_le this ?_)).symm;exact Nat.le_trans (show 4503599627370496<=2^52 by decide) (Nat.pow_le_pow_right (by decide) (by decide))
 |true=>
  (simp only [cond_true,Ez h])
  cases q:Nat.ble 1074 (ex X) with
  |true=>
   (simp only [cond_true])
   have hq:=Nat.ble_eq.mp q;have e1:(2:Nat)^ex X=2^(ex X-1074)*2^1074:=by(simp only [←Nat.pow_add]);congr 1;(exact(Nat.sub_eq_iff_eq_add hq).mp rfl)
   (simp only [e1,←Nat.mul_assoc,Nat.mul_div_cancel _ (Nat.two_pow_pos _)])
   rfl
  |false=>
   (simp only [cond_false])
   have hq:ex X<=1074:=by
    rcases Nat.le_total (ex X) 1074 with z|z
    ·exact z
    ·rw [Nat.ble_eq.mpr z] at q;cases q
   have e1:(2:Nat)^1074=2^(1074-ex X)*2^ex X:=by(simp only [←Nat.pow_add]);congr 1;(exact(Nat.sub_eq_iff_eq_add hq).mp rfl)
   (refine rwl e1 ?_;refine rwl (Nat.mul_div_mul_right _ _ (Nat.two_pow_pos _)) ?_)
   rfl
theorem F.intF{x:UInt64}{X:Nat}(hx:F x X):intF x=some (tr X:Int):=by
 refine lid λgg kk=>?_
 obtain⟨m,e,dx,hv⟩:=hx.dec;refine kk ?_;have he:=decode_ge dx;unfold Mine.Internal.intF;refine rwl dx ?_;show some (floorOf false m e)=_;unfold floorOf sgn
 (rw [WN];refine rwr hv ?_)
 congr 1
 split
 ·rename_i h
  have e1:(e+1074).toNat=e.toNat+1074:=by lia
  (simp only [e1,Nat.pow_add,←Nat.mul_assoc,Nat.mul_div_cancel _ (Nat.two_pow_pos _)])
  simp
 ·rename_i h
  have e1:1074=(-e).toNat+(e+1074).toNat:=by lia
  have e2:(2:Nat)^1074=2^(-e).toNat*2^(e+1074).toNat:=by(simp only [←Nat.pow_add,←e1])
  (refine rwl e2 ?_;refine rwl (Nat.mul_div_mul_right _ _ (Nat.two_pow_pos _)) ?_)
  simp only [Bool.false_eq_true,if_false];refine rwl (Int.fdiv_eq_ediv_of_nonneg _ (by exact Int.le_of_lt (Int.pow_pos (by decide)))) ?_;simp
end
section
open PySem.Float64
noncomputable def KR:Nat:=4607182418800017408
noncomputable def HT:Nat:=4611686018427387904
noncomputable def EM:Nat:=4602678819172646912
noncomputable def W7:Nat:=4618441417868443648
noncomputable def J4:Nat:=4595172819793696085
noncomputable def Dt:Nat:=4604180019048437077
noncomputable def b41:Nat:=4791830003522207744
noncomputable def huF(h k:Nat):UInt64:=(Float64.divmod (if k=0 then Float64.add (divP h 48) FX else if k=1 then divP h 48 else Float64.sub (divP h 48) FX) FY).2
noncomputable def hueT:List (List Nat):=[[4599676419421066581,0,4604180019048437078],[4600051719390014122,4581662020911584597,4604367669032910848],[4600427019358961664,4586165620538955093,4604555319017384619],[4600802319327909205,4589168020290535424,4604742969001858390],[4601177619296856746,4590669220166325589,4604930618986332160],[4601552919265804288,4592170420042115755,4605118268970805931],[4601928219234751829,4593671619917905920,4605305918955279702],[4602303519203699370,4594422219855801003,4605493568939753472],[4602678819172646912,4595172819793696085,4605681218924227243],[4602866469157120682,4595923419731591168,4605868868908701014],[4603054119141594453,4596674019669486251,4606056518893174784],[4603241769126068224,4597424619607381333,4606244168877648555],[4603429419110541994,4598175219545276416,4606431818862122326],[4603617069095015765,4598550519514223957,4606619468846596096],[4603804719079489536,4598925819483171499,4606807118831069867],[4603992369063963306,4599301119452119040,4606994768815543638],[4604180019048437077,4599676419421066581,0],[4604367669032910848,4600051719390014123,4581662020911584608],[4604555319017384618,4600427019358961664,4586165620538955096],[4604742969001858389,4600802319327909205,4589168020290535424],[4604930618986332160,4601177619296856747,4590669220166325592],[4605118268970805930,4601552919265804288,4592170420042115756],[4605305918955279701,4601928219234751829,4593671619917905920],[4605493568939753472,4602303519203699371,4594422219855801004],[4605681218924227242,4602678819172646912,4595172819793696086],[4605868868908701014,4602866469157120683,4595923419731591170],[4606056518893174784,4603054119141594453,4596674019669486250],[4606244168877648554,4603241769126068224,4597424619607381334],[4606431818862122326,4603429419110541995,4598175219545276417],[4606619468846596096,4603617069095015765,4598550519514223957],[4606807118831069866,4603804719079489536,4598925819483171499],[4606994768815543638,4603992369063963307,4599301119452119041],[0,4604180019048437077,4599676419421066581],[4581662020911584576,4604367669032910848,4600051719390014123],[4586165620538955104,4604555319017384619,4600427019358961665],[4589168020290535424,4604742969001858389,4600802319327909205],[4590669220166325584,4604930618986332160,4601177619296856747],[4592170420042115760,4605118268970805931,4601552919265804289],[4593671619917905920,4605305918955279701,4601928219234751829],[4594422219855801000,4605493568939753472,4602303519203699371],[4595172819793696088,4605681218924227243,4602678819172646912],[4595923419731591168,4605868868908701013,4602866469157120682],[4596674019669486248,4606056518893174784,4603054119141594454],[4597424619607381336,4606244168877648555,4603241769126068224],[4598175219545276416,4606431818862122325,4603429419110541994],[4598550519514223956,4606619468846596096,4603617069095015766],[4598925819483171500,4606807118831069867,4603804719079489536],[4599301119452119040,4606994768815543637,4603992369063963306]]
noncomputable def hueN(h k:Nat):Nat:=(hueT.getD h []).getD k 0
noncomputable def fcs:List (Nat×Nat):=[(0,0),(4581662020911584576,1),(4581662020911584597,1),(4581662020911584608,1),(4586165620538955088,2),(4586165620538955093,2),(4586165620538955096,2),(4586165620538955104,2),(4589168020290535408,3),(4589168020290535424,3),(4590669220166325584,4),(4590669220166325589,4),(4590669220166325592,4),(4592170420042115752,5),(4592170420042115755,5),(4592170420042115756,5),(4592170420042115760,5),(4593671619917905912,6),(4593671619917905920,6),(4594422219855801000,7),(4594422219855801003,7),(4594422219855801004,7),(4595172819793696084,8)]
noncomputable def lvl(s w:Nat):Nat:=dvN (Nat.add (Nat.mul 2 w) (Nat.mul 8 s)) 256
noncomputable def shr(s w:Nat):Nat:=bif Nat.ble (Nat.add (Nat.mul 2 w) (Nat.mul 8 s)) 128 then dvN (Nat.mul 8 s) (Nat.add (Nat.mul 2 w) (Nat.mul 8 s)) else dvN (Nat.mul 8 s) (Nat.sub 256 (Nat.add (Nat.mul 2 w) (Nat.mul 8 s)))
noncomputable def m2N(L S:Nat):Nat:=bif Nat.ble L EM then DQ L (D8 KR S) else BK (D8 L S) (DQ L S)
noncomputable def m1N(L M:Nat):Nat:=BK (DQ HT L) M
noncomputable def Yn(v:Nat):Nat:=Nat.div (tr (D8 (DQ b41 v) KR)) 2
noncomputable def Xa(v:Nat):Bool:=fin (DQ b41 v)&&fin (D8 (DQ b41 v) KR)
noncomputable def Yh(h c:Nat):Nat:=bif Nat.ble (bif Nat.ble c h then h-c else c-h) 24 then(bif Nat.ble c h then h-c else c-h) else 48-(bif Nat.ble c h then h-c else c-h)
noncomputable def prtN(h k:Nat):Nat:=8-(Yh h (16*k)-8)
noncomputable def HN(u:Nat):Nat:=bif Nat.ble J4 u then BK Dt u else u
noncomputable def kdN(u:Nat):Nat:=bif Nat.ble J4 u then(bif Nat.ble EM u then(bif Nat.ble Dt u then 2 else 0) else 1) else 0
noncomputable def MH(d f:Nat):Bool:=fin (DQ d f)&&fin (DQ (DQ d f) W7)
noncomputable def vN(m1 d f:Nat):Nat:=D8 m1 (DQ (DQ d f) W7)
noncomputable def JX(n v:Nat):Bool:=Xa v&&Nat.beq (Yn v) (Nat.mul n 8589934592)
noncomputable def all(l:List (Nat×Nat))(p:Nat->Nat->Bool):Bool:=List.rec true (λa _ ih=>bif p a.1 a.2 then ih else false) l
noncomputable def Bp(n:Nat)(p:Nat->Bool):Bool:=Nat.rec true (λn ih=>bif p n then ih else false) n
noncomputable def Qj(s w:Nat):Bool:=frc (lvl s w) λL=>frc (shr s w) λS=>fin L&&fin S&& !(Nat.beq S 0)&&(bif Nat.ble L EM then fin (D8 KR S)&&fin (DQ L (D8 KR S)) else fin (D8 L S)&&fin (DQ L S)&&fin (BK (D8 L S) (DQ L S)))&&
 frc (m2N L S) λm2=>fin (DQ HT L)&&fin (m1N L m2)&&frc (m1N L m2) λm1=>fin (BK m2 m1)&&JX (Nat.add w (Nat.mul s 8)) m2&&JX w m1&&frc (BK m2 m1) λd=>all fcs λf p=>MH d f&&fin (vN m1 d f)&&JX (Nat.add w (Nat.mul s p)) (vN m1 d f)
noncomputable def X2(h k:Nat):Bool:=frc (hueN h k) λu=>Nat.beq (huF h k).toNat u&&fin u&&(bif Nat.beq (kdN u) 1 then Nat.beq (prtN h k) 8 else bif Nat.beq (kdN u) 2 then Nat.beq (prtN h k) 0 else fin (HN u)&&fcs.any λq=>Nat.beq q.1 (HN u)&&Nat.beq q.2 (prtN h k))
theorem VY:(Bp 48 λh=>Bp 3 λk=>X2 h k)=true:=by decide+kernel
end
section
open PySem.Float64
theorem Ai{p:Nat->Bool}:∀{n:Nat},Bp n p=true->∀i,i<n->p i=true
 |0=>λ_ i hi=>by lia
 |n+1=>λh i hi=>by
  have h:(bif p n then Bp n p else false)=true:=h
  cases q:p n with
  |false=>rw [q] at h;cases h
  |true=>
   rw [q,cond_true] at h
   by_cases e:i=n
   ·subst e;exact q
   ·exact Ai h i (by(refine Nat.lt_of_not_le λh=>?_;lia))
theorem Mg{p:Nat->Nat->Bool}:∀{l:List (Nat×Nat)},all l p=true->∀a∈l,p a.1 a.2=true
 |[]=>λ_ a ha=>nomatch ha
 |b::l=>λh a ha=>by
  have h:(bif p b.1 b.2 then all l p else false)=true:=h
  cases q:p b.1 b.2 with
  |false=>rw [q] at h;cases h
  |true=>
   rw [q,cond_true] at h
   rcases mC ha with rfl|ha
   ·exact q
   ·exact Mg h a ha
theorem lv1:(Bp 100 λw=>Qj 1 w)=true:=by decide+kernel
theorem lv2:(Bp 100 λw=>Qj 2 w)=true:=by decide+kernel
theorem lv3:(Bp 100 λw=>Qj 3 w)=true:=by decide+kernel
theorem VO{s w:Nat}(h1:1<=s)(h3:s<=3)(hw:w<100):Qj s w=true:=by
 have:s=1\/s=2\/s=3:=by lia
 rcases this with rfl|rfl|rfl
 ·exact Ai lv1 w hw
 ·exact Ai lv2 w hw
 ·exact Ai lv3 w hw
theorem F1:F FY KR:=F.lit _ (by decide+kernel) (by decide+kernel)
theorem F2_:F KF HT:=F.lit _ (by decide+kernel) (by decide+kernel)
theorem Fh:F Ep EM:=F.lit _ (by decide+kernel) (by decide+kernel)
theorem F6_:F QU W7:=F.lit _ (by decide+kernel) (by decide+kernel)
theorem Fsx:F Jw J4:=F.lit _ (by decide+kernel) (by decide+kernel)
theorem Ftt:F Dq Dt:=F.lit _ (by decide+kernel) (by decide+kernel)
theorem F41:F (Float64.ofInt 2199023255552) b41:=F.lit _ (by decide+kernel) (by decide+kernel)
theorem Fi1:F (Float64.ofInt 1) KR:=F.lit _ (by decide+kernel) (by decide+kernel)
theorem F0:F 0 0:=F.lit _ (by decide+kernel) (by decide+kernel)
noncomputable def levF(s w:Nat):UInt64:=divP ((2*w+8*s:Nat):Int) (256:Nat)
noncomputable def shaF(s w:Nat):UInt64:=divP ((8*s:Nat):Int) ((if 2*w+8*s<=128 then 2*w+8*s else 256-(2*w+8*s):Nat):Int)
noncomputable def P2(v:UInt64):Option Int:=intF (Float64.add (Float64.mul (Float64.ofInt 2199023255552) v) (Float64.ofInt 1))
structure Lv(s w L S:Nat):Prop where
 fL:F (levF s w) L
 fS:F (shaF s w) S
 s0:Nat.beq S 0=false
 fm2:F (m2P (levF s w) (shaF s w)) (m2N L S)
 fm1:F (m1P (levF s w) (m2P (levF s w) (shaF s w))) (m1N L (m2N L S))
 top:JX (w+s*8) (m2N L S)=true
 low:JX w (m1N L (m2N L S))=true
 fd:F (Float64.sub (m2P (levF s w) (shaF s w)) (m1P (levF s w) (m2P (levF s w) (shaF s w)))) (BK (m2N L S) (m1N L (m2N L S)))
 inn:∀a∈fcs,MH (BK (m2N L S) (m1N L (m2N L S))) a.1=true/\fin (vN (m1N L (m2N L S)) (BK (m2N L S) (m1N L (m2N L S))) a.1)=true/\JX (w+s*a.2) (vN (m1N L (m2N L S)) (BK (m2N L S) (m1N L (m2N L S))) a.1)=true
theorem Xq{s w:Nat}(h:fin (lvl s w)=true):F (levF s w) (lvl s w):=F.divP h
theorem WT{s w:Nat}(h:fin (shr s w)=true):F (shaF s w) (shr s w):=by
 unfold shr shaF at*
 cases q:Nat.ble (Nat.add (Nat.mul 2 w) (Nat.mul 8 s)) 128 with
 |true=>
  rw [q,cond_true] at h
  (rw [cond_true];refine rwl (if_pos (show 2*w+8*s<=128 from Nat.ble_eq.mp q)) ?_)
  exact F.divP h
 |false=>
  rw [q,cond_false] at h;rw [cond_false,if_neg (show¬2*w+8*s<=128 fromλz=>by rw [show Nat.ble (Nat.add (Nat.mul 2 w) (Nat.mul 8 s)) 128=true from Nat.ble_eq.mpr z] at q;cases q)];exact F.divP h
theorem Kz{s w:Nat}(h1:1<=s)(h3:s<=3)(hw:w<100):Lv s w (lvl s w) (shr s w):=by
 have h:=VO h1 h3 hw;unfold Qj at h;simp only [CH,Bool.and_eq_true,Bool.not_eq_true'] at h;obtain⟨⟨⟨⟨hL,hS⟩,s0⟩,hm⟩,⟨⟨a1,a2⟩,⟨⟨⟨b1,b2⟩,b3⟩,b4⟩⟩⟩:=h;have fL:=Xq hL;have fS:=WT hS;have fm2:F (m2P (levF s w) (shaF s w)) (m2N (lvl s w) (shr s w)):=by
  unfold m2P m2N;refine rwl (fL.fle Fh) ?_
  cases q:Nat.ble (lvl s w) EM with
  |true=>
   rw [q,cond_true] at hm;simp only [Bool.and_eq_true] at hm;rw [if_pos rfl,cond_true];exact fL.mul (F1.add fS hm.1) hm.2
  |false=>
   rw [q,cond_false] at hm;simp only [Bool.and_eq_true] at hm;rw [if_neg (by simp),cond_false];exact(fL.add fS hm.1.1).sub (fL.mul fS hm.1.2) hm.2
 have fm1:F (m1P (levF s w) (m2P (levF s w) (shaF s w))) (m1N (lvl s w) (m2N (lvl s w) (shr s w))):=(F2_.mul fL a1).sub fm2 a2;refine⟨fL,fS,s0,fm2,fm1,b2,b3,fm2.sub fm1 b1,λa ha=>?_⟩;have:=Mg b4 a ha;simp only [Bool.and_eq_true] at this;exact⟨this.1.1,this.1.2,this.2⟩
theorem Mv{v:UInt64}{V n:Nat}(f:F v V)(h:JX n V=true):∃i,P2 v=some i/\i.fdiv 2=((n*8589934592:Nat):Int):=by
 unfold JX Xa at h;simp only [Bool.and_eq_true] at h;have:=((F41.mul f h.1.1).add Fi1 h.1.2).intF;refine⟨_,this,?_⟩;have e:=Nat.eq_of_beq_eq_true h.2;refine rwl (Int.fdiv_eq_ediv_of_nonneg _ (by decide)) ?_;show((tr (D8 (DQ b41 V) KR):Nat):Int)/((2:Nat):Int)=_
 (simp only [←Int.natCast_ediv])
 congr 1
theorem UI{h k s w:Nat}(hh:h<48)(hk:k<3)(h1:1<=s)(h3:s<=3)(hw:w<100){x:UInt64}(hx:(Float64.divmod x FY).2=huF h k):
  ∃i,P2 (vP (m1P (levF s w) (m2P (levF s w) (shaF s w))) (m2P (levF s w) (shaF s w)) x)=some i/\i.fdiv 2=(((w+s*prtN h k)*8589934592:Nat):Int):=by
 have X:=Kz h1 h3 hw;have hu:=Ai (Ai VY h hh) k hk;unfold X2 at hu;simp only [CH,Bool.and_eq_true] at hu;refine lid λgg kk=>?_
 obtain⟨⟨u1,u2⟩,u3⟩:=hu;refine kk ?_;have fu:F (huF h k) (hueN h k):=F.lit _ u1 u2;unfold vP;refine rwl hx ?_;dsimp only
 (refine rwl (fu.flt Fsx) ?_;refine rwl (fu.flt Fh) ?_;refine rwl (fu.flt Ftt) ?_)
 unfold kdN at u3;generalize hueN h k=u at*;generalize huF h k=y at*;generalize prtN h k=p at*
 cases q1:Nat.ble J4 u with
 |false=>
  simp only [q1,cond_false,Bool.not_false,if_true] at u3⊢;have u3:(fin (HN u)&&fcs.any λq=>Nat.beq q.1 (HN u)&&Nat.beq q.2 p)=true:=u3;simp only [Bool.and_eq_true,List.any_eq_true] at u3;refine lid λgg kk=>?_
  obtain⟨_,a,ha,e1,e2⟩:=u3;have e1:=Nat.eq_of_beq_eq_true e1;have e2:=Nat.eq_of_beq_eq_true e2;have e3:HN u=u:=by unfold HN;(simp only [q1,cond_false])
  obtain⟨i1,i2,i3⟩:=X.inn a ha;refine kk ?_;unfold MH at i1;simp only [Bool.and_eq_true] at i1;rw [e1,e3] at i1 i2 i3;rw [e2] at i3;exact Mv (X.fm1.add ((X.fd.mul fu i1.1).mul F6_ i1.2) i2) i3
 |true=>
  simp only [q1,cond_true,Bool.not_true,Bool.false_eq_true,if_false] at u3⊢
  cases q2:Nat.ble EM u with
  |false=>
   simp only [q2,cond_false,Bool.not_false,if_true] at u3⊢;have:=Nat.eq_of_beq_eq_true (show Nat.beq p 8=true from u3);refine rwl this ?_;exact Mv X.fm2 X.top
  |true=>
   simp only [q2,cond_true,Bool.not_true,Bool.false_eq_true,if_false] at u3⊢
   cases q3:Nat.ble Dt u with
   |true=>
    simp only [q3,cond_true,Bool.not_true,Bool.false_eq_true,if_false] at u3⊢;have:=Nat.eq_of_beq_eq_true (show Nat.beq p 0=true from u3)
    (simp only [this,Nat.mul_zero,Nat.add_zero])
    exact Mv X.fm1 X.low
   |false=>
    simp only [q3,cond_false,Bool.not_false,if_true] at u3⊢;have u3:(fin (HN u)&&fcs.any λq=>Nat.beq q.1 (HN u)&&Nat.beq q.2 p)=true:=u3;simp only [Bool.and_eq_true,List.any_eq_true] at u3;refine lid λgg kk=>?_
    obtain⟨g,a,ha,e1,e2⟩:=u3;have e1:=Nat.eq_of_beq_eq_true e1;have e2:=Nat.eq_of_beq_eq_true e2;have e3:HN u=BK Dt u:=by unfold HN;(simp only [q1,cond_true])
    obtain⟨i1,i2,i3⟩:=X.inn a ha;refine kk ?_;unfold MH at i1;simp only [Bool.and_eq_true] at i1;rw [e1,e3] at i1 i2 i3;rw [e2] at i3;rw [e3] at g;exact Mv (X.fm1.add ((X.fd.mul (Ftt.sub fu g) i1.1).mul F6_ i1.2) i2) i3
noncomputable def TU(w s h k:Nat)(v:UInt64):Prop:=∃i,P2 v=some i/\i.fdiv 2=(((w+s*prtN h k)*8589934592:Nat):Int)
theorem P3{h s w:Nat}{P:Prop}(hh:h<48)(h1:1<=s)(h3:s<=3)(hw:w<100)
  (K:∀v0 v1 v2,Of (divP h 48) (levF s w) (shaF s w)=.tup [.flt v0,.flt v1,.flt v2]->TU w s h 0 v0->TU w s h 1 v1->TU w s h 2 v2->P):P:=by
 have X:=Kz h1 h3 hw;refine K _ _ _ ?_ (UI (k:=0) hh (by decide) h1 h3 hw (x:=Float64.add (divP h 48) FX) rfl) (UI (k:=1) hh (by decide) h1 h3 hw (x:=divP h 48) rfl) (UI (k:=2) hh (by decide) h1 h3 hw (x:=Float64.sub (divP h 48) FX) rfl);unfold Of
 (refine rwl (X.fS.feq F0) ?_;refine rwl X.s0 ?_)
 rfl
end
section
open PySem.Float64
noncomputable def nmx(X Y Z:Nat):Nat:=let m:=if X<Y then Y else X;if m<Z then Z else m
noncomputable def nmn(X Y Z:Nat):Nat:=let m:=if Y<X then Y else X;if Z<m then Z else m
theorem F.lt{x y:UInt64}{X Y:Nat}(hx:F x X)(hy:F y Y):(Float64.cmp x y==some .lt)=decide (X<Y):=by
 have:=hx.flt hy;unfold FV at this;refine rwl this ?_
 rcases Nat.lt_or_ge X Y with q|q
 ·(refine rwl (ST q) ?_;refine rwl (decide_eq_true q) ?_);rfl
 ·(refine rwl (Nat.ble_eq.mpr q) ?_;refine rwl (decide_eq_false (by exact Nat.not_lt.mpr q)) ?_);rfl
theorem F.max{x y z:UInt64}{X Y Z:Nat}(hx:F x X)(hy:F y Y)(hz:F z Z):F (maxF x y z) (nmx X Y Z):=by
 unfold maxF nmx;dsimp only;refine rwl (hx.lt hy) ?_
 by_cases q:X<Y
 ·(refine rwl (decide_eq_true q) ?_;refine rwl (if_pos rfl) ?_;refine rwl (if_pos q) ?_;refine rwl (hy.lt hz) ?_)
  by_cases q2:Y<Z
  ·(refine rwl (decide_eq_true q2) ?_;refine rwl (if_pos rfl) ?_;refine rwl (if_pos q2) ?_);exact hz
  ·(refine rwl (decide_eq_false q2) ?_;refine rwl (if_neg (by simp)) ?_;refine rwl (if_neg q2) ?_);exact hy
 ·refine rwl (decide_eq_false q) ?_;simp only [Bool.false_eq_true,if_false]
  (refine rwl (if_neg q) ?_;refine rwl (hx.lt hz) ?_)
  by_cases q2:X<Z
  ·(refine rwl (decide_eq_true q2) ?_;refine rwl (if_pos rfl) ?_;refine rwl (if_pos q2) ?_);exact hz
  ·(refine rwl (decide_eq_false q2) ?_;refine rwl (if_neg (by simp)) ?_;refine rwl (if_neg q2) ?_);exact hx
theorem F.min{x y z:UInt64}{X Y Z:Nat}(hx:F x X)(hy:F y Y)(hz:F z Z):F (minF x y z) (nmn X Y Z):=by
 unfold minF nmn;dsimp only;refine rwl (hy.lt hx) ?_
 by_cases q:Y<X
 ·(refine rwl (decide_eq_true q) ?_;refine rwl (if_pos rfl) ?_;refine rwl (if_pos q) ?_;refine rwl (hz.lt hy) ?_)
  by_cases q2:Z<Y
  ·(refine rwl (decide_eq_true q2) ?_;refine rwl (if_pos rfl) ?_;refine rwl (if_pos q2) ?_);exact hz
  ·(refine rwl (decide_eq_false q2) ?_;refine rwl (if_neg (by simp)) ?_;refine rwl (if_neg q2) ?_);exact hy
 ·refine rwl (decide_eq_false q) ?_;simp only [Bool.false_eq_true,if_false]
  (refine rwl (if_neg q) ?_;refine rwl (hz.lt hx) ?_)
  by_cases q2:Z<X
  ·(refine rwl (decide_eq_true q2) ?_;refine rwl (if_pos rfl) ?_;refine rwl (if_pos q2) ?_);exact hz
  ·(refine rwl (decide_eq_false q2) ?_;refine rwl (if_neg (by simp)) ?_;refine rwl (if_neg q2) ?_);exact hx
theorem F.uniq{x y:UInt64}{X:Nat}(hx:F x X)(hy:F y X):x=y:=hx.1.trans hy.1.symm
noncomputable def Gn(d n:Nat):Bool:=Bp n λi=>frc (dvN i d) λa=>frc (dvN (i+1) d) λb=>fin a&& !(Nat.ble b a)
theorem Jp{d n:Nat}(h:Gn d n=true):∀{i j:Nat},i<j->j<=n->dvN i d<dvN j d:=by
 intro i j hij hj
 induction j with
 |zero=>lia
 |succ j ih=>
  have:=Ai h j (by assumption);simp only [CH,Bool.and_eq_true,Bool.not_eq_true'] at this;have lt:dvN j d<dvN (j+1) d:=by
   rcases Nat.lt_or_ge (dvN j d) (dvN (j+1) d) with q|q
   ·exact q
   ·rw [Nat.ble_eq.mpr q] at this;cases this.2
  rcases Nat.lt_or_ge i j with q|q
  ·exact Nat.lt_trans (ih q (by exact Nat.le_of_succ_le hj)) lt
  ·have:i=j:=by(exact Nat.eq_of_le_of_lt_succ q hij)
   subst this;exact lt
theorem Tk{d n:Nat}(h:Gn d n=true){i:Nat}(hi:i<n):fin (dvN i d)=true:=by
 have:=Ai h i hi;simp only [CH,Bool.and_eq_true] at this;exact this.1
theorem Ek:Gn 128 124=true:=by decide+kernel
theorem D5:Gn 384 373=true:=by decide+kernel
theorem MR{d n:Nat}(h:Gn d n=true){a b c:Nat}(ha:a<=n)(hb:b<=n)(hc:c<=n):nmx (dvN a d) (dvN b d) (dvN c d)=dvN (nmx a b c) d:=by
 have cmp:∀{x y:Nat},x<=n->y<=n->(dvN x d<dvN y d<->x<y):=λ{x y} hx hy=>⟨λq=>by
  rcases Nat.lt_trichotomy x y with z|z|z
  ·exact z
  ·subst z;lia
  ·have:=Jp h z hx;(refine Nat.lt_of_not_le λh=>?_;lia),λq=>Jp h q hy⟩
 unfold nmx;dsimp only
 by_cases q:a<b
 ·(refine rwl (if_pos q) ?_;refine rwl (if_pos ((cmp ha hb).mpr q)) ?_)
  by_cases q2:b<c
  ·(refine rwl (if_pos q2) ?_;refine rwl (if_pos ((cmp hb hc).mpr q2)) ?_;rfl)
  ·(refine rwl (if_neg q2) ?_;refine rwl (if_neg (λz=>q2 ((cmp hb hc).mp z))) ?_;rfl)
 ·(refine rwl (if_neg q) ?_;refine rwl (if_neg (λz=>q ((cmp ha hb).mp z))) ?_)
  by_cases q2:a<c
  ·(refine rwl (if_pos q2) ?_;refine rwl (if_pos ((cmp ha hc).mpr q2)) ?_;rfl)
  ·(refine rwl (if_neg q2) ?_;refine rwl (if_neg (λz=>q2 ((cmp ha hc).mp z))) ?_;rfl)
theorem MQ{d n:Nat}(h:Gn d n=true){a b c:Nat}(ha:a<=n)(hb:b<=n)(hc:c<=n):nmn (dvN a d) (dvN b d) (dvN c d)=dvN (nmn a b c) d:=by
 have cmp:∀{x y:Nat},x<=n->y<=n->(dvN x d<dvN y d<->x<y):=λ{x y} hx hy=>⟨λq=>by
  rcases Nat.lt_trichotomy x y with z|z|z
  ·exact z
  ·subst z;lia
  ·have:=Jp h z hx;(refine Nat.lt_of_not_le λh=>?_;lia),λq=>Jp h q hy⟩
 unfold nmn;dsimp only
 by_cases q:b<a
 ·(refine rwl (if_pos q) ?_;refine rwl (if_pos ((cmp hb ha).mpr q)) ?_)
  by_cases q2:c<b
  ·(refine rwl (if_pos q2) ?_;refine rwl (if_pos ((cmp hc hb).mpr q2)) ?_;rfl)
  ·(refine rwl (if_neg q2) ?_;refine rwl (if_neg (λz=>q2 ((cmp hc hb).mp z))) ?_;rfl)
 ·(refine rwl (if_neg q) ?_;refine rwl (if_neg (λz=>q ((cmp hb ha).mp z))) ?_)
  by_cases q2:c<a
  ·(refine rwl (if_pos q2) ?_;refine rwl (if_pos ((cmp hc ha).mpr q2)) ?_;rfl)
  ·(refine rwl (if_neg q2) ?_;refine rwl (if_neg (λz=>q2 ((cmp hc ha).mp z))) ?_;rfl)
noncomputable def luN(X M:Nat):Nat:=fdiv (D8 X M) HT
noncomputable def saN(X M:Nat):Nat:=bif Nat.ble (luN X M) EM then fdiv (BK X M) (D8 X M) else fdiv (BK X M) (BK (BK HT X) M)
noncomputable def Pa(X M:Nat):Bool:=fin X&&fin M&& !(Nat.beq M X)&&fin (BK X M)&& !(Nat.beq (BK X M) 0)&&fin (D8 X M)&&fin (luN X M)&&fin (saN X M)&& !(Nat.beq (saN X M) 0)&&
 (bif Nat.ble (luN X M) EM then !(Nat.beq (D8 X M) 0) else fin (BK HT X)&&fin (BK (BK HT X) M)&& !(Nat.beq (BK (BK HT X) M) 0))
structure Sa(x m:UInt64)(X M:Nat):Prop where
 ok:CP x m=true
 ne:feq m x=false
 lu:F (F6 x m) (luN X M)
 sa:F (OZ x m) (saN X M)
 s0:Nat.beq (saN X M) 0=false
theorem Ue{x m:UInt64}{X M:Nat}(hx:x=pack false X)(hm:m=pack false M)(h:Pa X M=true):Sa x m X M:=by
 unfold Pa at h;simp only [Bool.and_eq_true,Bool.not_eq_true'] at h;obtain⟨⟨⟨⟨⟨⟨⟨⟨⟨a1,a2⟩,a3⟩,a4⟩,a5⟩,a6⟩,a7⟩,a8⟩,a9⟩,b⟩:=h;have fx:F x X:=⟨hx,FW a1⟩;have fm:F m M:=⟨hm,FW a2⟩;have fs:=fx.sub fm a4;have fa:=fx.add fm a6;have fl:F (F6 x m) (luN X M):=fa.div F2_ a7;have e1:feq m x=false:=by refine rwl (fm.feq fx) ?_;exact a3
 refine⟨?_,e1,fl,?_,a9⟩
 ·unfold CP
  (refine rwl e1 ?_;refine rwl (fs.isZero a5) ?_;refine rwl (fl.fle Fh) ?_)
  cases q:Nat.ble (luN X M) EM with
  |true=>
   rw [q,cond_true] at b
   (refine rwl (if_pos rfl) ?_;refine rwl (fa.isZero (by simpa using b)) ?_);rfl
  |false=>
   rw [q,cond_false] at b;simp only [Bool.and_eq_true,Bool.not_eq_true'] at b
   (refine rwl (if_neg (by simp)) ?_;refine rwl (((F2_.sub fx b.1.1).sub fm b.1.2).isZero b.2) ?_);rfl
 ·unfold OZ saN at*;refine rwl (fl.fle Fh) ?_
  cases q:Nat.ble (luN X M) EM with
  |true=>
   rw [q,cond_true] at a8;rw [if_pos rfl,cond_true];exact fs.div fa a8
  |false=>
   rw [q,cond_false] at b a8;simp only [Bool.and_eq_true] at b;rw [if_neg (by simp),cond_false];exact fs.div ((F2_.sub fx b.1.1).sub fm b.1.2) a8
noncomputable def pairs17:List (Nat×Nat):=[(0,16),(0,24),(1,16),(2,16),(2,17),(3,16),(4,16),(4,18),(5,18),(6,19),(6,20),(7,22),(8,20),(8,21),(8,22),(8,23),(8,24)]
noncomputable def RZ(s w:Nat):Bool:=all pairs17 λa b=>frc (dvN (3*w+s*b) 384) λX=>frc (dvN (3*w+s*a) 384) λM=>Pa X M
theorem st1:(Bp 100 λw=>RZ 1 w)=true:=by decide+kernel
theorem st2:(Bp 100 λw=>RZ 2 w)=true:=by decide+kernel
theorem st3:(Bp 100 λw=>RZ 3 w)=true:=by decide+kernel
end
section
open PySem.Float64
theorem SN{f:Nat->Nat}{a b c:Nat}(h1:f a<f b<->a<b)(h2:f a<f c<->a<c)(h3:f b<f c<->b<c):nmx (f a) (f b) (f c)=f (nmx a b c):=by
 unfold nmx;dsimp only
 by_cases q:a<b
 ·(refine rwl (if_pos q) ?_;refine rwl (if_pos (h1.mpr q)) ?_)
  by_cases q2:b<c
  ·(refine rwl (if_pos q2) ?_;refine rwl (if_pos (h3.mpr q2)) ?_;rfl)
  ·(refine rwl (if_neg q2) ?_;refine rwl (if_neg (λz=>q2 (h3.mp z))) ?_;rfl)
 ·(refine rwl (if_neg q) ?_;refine rwl (if_neg (λz=>q (h1.mp z))) ?_)
  by_cases q2:a<c
  ·(refine rwl (if_pos q2) ?_;refine rwl (if_pos (h2.mpr q2)) ?_;rfl)
  ·(refine rwl (if_neg q2) ?_;refine rwl (if_neg (λz=>q2 (h2.mp z))) ?_;rfl)
theorem SO{f:Nat->Nat}{a b c:Nat}(h1:f b<f a<->b<a)(h2:f c<f a<->c<a)(h3:f c<f b<->c<b):nmn (f a) (f b) (f c)=f (nmn a b c):=by
 unfold nmn;dsimp only
 by_cases q:b<a
 ·(refine rwl (if_pos q) ?_;refine rwl (if_pos (h1.mpr q)) ?_)
  by_cases q2:c<b
  ·(refine rwl (if_pos q2) ?_;refine rwl (if_pos (h3.mpr q2)) ?_;rfl)
  ·(refine rwl (if_neg q2) ?_;refine rwl (if_neg (λz=>q2 (h3.mp z))) ?_;rfl)
 ·(refine rwl (if_neg q) ?_;refine rwl (if_neg (λz=>q (h1.mp z))) ?_)
  by_cases q2:c<a
  ·(refine rwl (if_pos q2) ?_;refine rwl (if_pos (h2.mpr q2)) ?_;rfl)
  ·(refine rwl (if_neg q2) ?_;refine rwl (if_neg (λz=>q2 (h2.mp z))) ?_;rfl)
theorem Ga{s:Nat}(h:1<=s)(w a b:Nat):w+s*a<w+s*b<->a<b:=by
 constructor
 ·intro q
  rcases Nat.lt_or_ge a b with z|z
  ·exact z
  ·have:=Nat.mul_le_mul_left s z;(refine Nat.lt_of_not_le λh=>?_;lia)
 ·intro q;have:=Nat.mul_lt_mul_of_pos_left q (show 0<s by assumption)
  (exact Nat.add_lt_add_left this w)
theorem Nn{s:Nat}(h:1<=s)(w a b c:Nat):nmx (w+s*a) (w+s*b) (w+s*c)=w+s*nmx a b c:=SN (f:=λt=>w+s*t) (Ga h w a b) (Ga h w a c) (Ga h w b c)
theorem Nm{s:Nat}(h:1<=s)(w a b c:Nat):nmn (w+s*a) (w+s*b) (w+s*c)=w+s*nmn a b c:=SO (f:=λt=>w+s*t) (Ga h w b a) (Ga h w c a) (Ga h w c b)
noncomputable def k8F(t:Nat):UInt64:=divP ((8-t:Nat):Int) ((8:Nat):Int)
noncomputable def K5(a b c:Nat):UInt64:=
 (Float64.divmod (Float64.div (if a=8 then Float64.sub (k8F c) (k8F b) else if b=8 then Float64.sub (Float64.add KF (k8F a)) (k8F c) else Float64.sub (Float64.add U3 (k8F b)) (k8F a)) QU) FY).2
noncomputable def Tm(h:Nat):Bool:=
 !(Float64.isNaN (K5 (prtN h 0) (prtN h 1) (prtN h 2)))&& !(Float64.cmpInt (K5 (prtN h 0) (prtN h 1) (prtN h 2)) 0==some .lt)&&
 !(Float64.cmpInt (K5 (prtN h 0) (prtN h 1) (prtN h 2)) 1==some .gt||Float64.cmpInt (K5 (prtN h 0) (prtN h 1) (prtN h 2)) 1==some .eq)&&
 decide ((intF (Ha (K5 (prtN h 0) (prtN h 1) (prtN h 2)))).map (λi=>i.fdiv 2)=some ((h:Int)*1073741824))
theorem Wa:Bp 48 Tm=true:=by decide+kernel
noncomputable def WY(h:Nat):Bool:=decide (prtN h 0<=8/\prtN h 1<=8/\prtN h 2<=8/\nmx (prtN h 0) (prtN h 1) (prtN h 2)=8/\nmn (prtN h 0) (prtN h 1) (prtN h 2)=0)
theorem Vt:Bp 48 WY=true:=by decide+kernel
noncomputable def OL(s w:Nat):Bool:=frc (dvN (w+s*8) 128) λX=>frc (dvN w 128) λM=>Pa X M&&Nat.beq (luN X M) (lvl s w)&&Nat.beq (saN X M) (shr s w)&&
 Bp 9 λt=>frc (dvN (w+s*t) 128) λT=>fin (BK X T)&&fin (fdiv (BK X T) (BK X M))&&Nat.beq (fdiv (BK X T) (BK X M)) (dvN (8-t) 8)&&(bif Nat.beq t 8 then true else !(Nat.beq T X))
theorem td1:(Bp 100 λw=>OL 1 w)=true:=by decide+kernel
theorem td2:(Bp 100 λw=>OL 2 w)=true:=by decide+kernel
theorem td3:(Bp 100 λw=>OL 3 w)=true:=by decide+kernel
theorem US{s w:Nat}(h1:1<=s)(h3:s<=3)(hw:w<100):OL s w=true:=by
 have:s=1\/s=2\/s=3:=by lia
 rcases this with rfl|rfl|rfl
 ·exact Ai td1 w hw
 ·exact Ai td2 w hw
 ·exact Ai td3 w hw
theorem VU:(Bp 9 λt=>fin (dvN (8-t) 8))=true:=by decide+kernel
noncomputable def nF(n d:Nat):UInt64:=divP (n:Int) (d:Int)
theorem Ji{n d N:Nat}(h:Gn d N=true)(hn:n<N):F (nF n d) (dvN n d):=F.divP (Tk h hn)
theorem RN{h s w:Nat}(hh:h<48)(h1:1<=s)(h3:s<=3)(hw:w<100):
  ∃x m l sa i,maxF (nF (w+s*prtN h 0) 128) (nF (w+s*prtN h 1) 128) (nF (w+s*prtN h 2) 128)=x/\minF (nF (w+s*prtN h 0) 128) (nF (w+s*prtN h 1) 128) (nF (w+s*prtN h 2) 128)=m/\
   CP x m=true/\Fo (nF (w+s*prtN h 0) 128) (nF (w+s*prtN h 1) 128) (nF (w+s*prtN h 2) 128)=.tup [.flt (K5 (prtN h 0) (prtN h 1) (prtN h 2)),.fn l,.flt sa]/\
   feq l (levF s w)=true/\feq sa (shaF s w)=true/\Tm h=true/\intF (Ha (K5 (prtN h 0) (prtN h 1) (prtN h 2)))=some i/\i.fdiv 2=(h:Int)*1073741824:=by
 have hp:=Ai Vt h hh;have hk:=Ai Wa h hh;have ht:=US h1 h3 hw;have X:=Kz h1 h3 hw;unfold WY at hp;refine lid λgg kk=>?_
 obtain⟨p0,p1,p2,pm,pn⟩:=of_decide_eq_true hp;have hk':=hk;unfold Tm at hk';simp only [Bool.and_eq_true,decide_eq_true_eq] at hk';obtain⟨i,hi,hi2⟩:=Option.map_eq_some_iff.mp hk'.2;refine kk ?_;clear hk';generalize prtN h 0=a at*;generalize prtN h 1=b at*;generalize prtN h 2=c at*;unfold OL at ht;simp only [CH,Bool.and_eq_true] at ht;refine lid λgg kk=>?_
 obtain⟨⟨⟨t1,t2⟩,t3⟩,t4⟩:=ht;refine kk ?_;have t2:=Nat.eq_of_beq_eq_true t2;have t3:=Nat.eq_of_beq_eq_true t3;have ms:s*a<=24/\s*b<=24/\s*c<=24:=⟨by have:=Nat.mul_le_mul h3 p0;omega,by have:=Nat.mul_le_mul h3 p1;omega,by have:=Nat.mul_le_mul h3 p2;omega⟩;have fa:=Ji Ek (n:=w+s*a) (by(refine Nat.lt_of_not_le λh=>?_;lia));have fb:=Ji Ek (n:=w+s*b) (by(refine Nat.lt_of_not_le λh=>?_;lia));have fc:=Ji Ek (n:=w+s*c) (by(refine Nat.lt_of_not_le λh=>?_;lia));have hx:=fa.max fb fc;have hm:=fa.min fb fc;rw [MR Ek (by lia) (by lia) (by lia),Nn h1,pm] at hx;rw [MQ Ek (by lia) (by lia) (by lia),Nm h1,pn] at hm;have SA:=Ue hx.1 hm.1 t1;refine⟨_,_,F6 (maxF (nF (w+s*a) 128) (nF (w+s*b) 128) (nF (w+s*c) 128)) (minF (nF (w+s*a) 128) (nF (w+s*b) 128) (nF (w+s*c) 128)),
  OZ (maxF (nF (w+s*a) 128) (nF (w+s*b) 128) (nF (w+s*c) 128)) (minF (nF (w+s*a) 128) (nF (w+s*b) 128) (nF (w+s*c) 128)),i,rfl,rfl,SA.ok,?_,?_,?_,hk,hi,hi2⟩
 ·unfold Fo
  (refine rwl SA.ne ?_;refine rwl (if_neg (by simp)) ?_)
  congr 3
  have q8:∀t,t<=8->∀y,F y (dvN (w+s*t) 128)->Float64.div (Float64.sub (maxF (nF (w+s*a) 128) (nF (w+s*b) 128) (nF (w+s*c) 128)) y) (Float64.sub (maxF (nF (w+s*a) 128) (nF (w+s*b) 128) (nF (w+s*c) 128)) (minF (nF (w+s*a) 128) (nF (w+s*b) 128) (nF (w+s*c) 128)))=k8F t:=λt ht y fy=>by
   have:=Ai t4 t (by exact Nat.lt_succ_of_le ht);simp only [CH,Bool.and_eq_true] at this;refine lid λgg kk=>?_
   obtain⟨⟨⟨r1,r2⟩,r3⟩,_⟩:=this;refine kk ?_;have r3:=Nat.eq_of_beq_eq_true r3;unfold Pa at t1;simp only [Bool.and_eq_true] at t1;have fm:F (minF (nF (w+s*a) 128) (nF (w+s*b) 128) (nF (w+s*c) 128)) (dvN w 128):=by rw [Nat.mul_zero,Nat.add_zero] at hm;exact hm
   have g:=(hx.sub fy r1).div (hx.sub fm t1.1.1.1.1.1.1.2) r2;rw [r3] at g;exact g.uniq (F.divP (Ai VU t (by exact Nat.lt_succ_of_le ht)))
  have e8:∀t,t<=8->∀y,F y (dvN (w+s*t) 128)->(feq y (maxF (nF (w+s*a) 128) (nF (w+s*b) 128) (nF (w+s*c) 128))=true<->t=8):=λt ht y fy=>by
   refine rwl (fy.feq hx) ?_
   constructor
   ·intro q;have:=Ai t4 t (by exact Nat.lt_succ_of_le ht);simp only [CH,Bool.and_eq_true] at this
    rcases Nat.lt_or_ge t 8 with z|z
    ·rw [Qf (show t≠8 by(exact Nat.ne_of_lt z)),cond_false,q] at this;simp at this
    ·(exact Eq.symm (Nat.le_antisymm z ht))
   ·intro q;rw [q,Nat.beq_refl]
  unfold VX K5
  (refine rwl (q8 a p0 _ fa) ?_;refine rwl (q8 b p1 _ fb) ?_;refine rwl (q8 c p2 _ fc) ?_)
  congr 3
  by_cases z:a=8
  ·(exact(if_pos ((e8 a p0 _ fa).mpr z)).trans (if_pos z).symm)
  ·(refine rwl (if_neg (λq=>z ((e8 a p0 _ fa).mp q))) ?_;refine rwl (if_neg z) ?_)
   by_cases z2:b=8
   ·(exact(if_pos ((e8 b p1 _ fb).mpr z2)).trans (if_pos z2).symm)
   ·(exact(if_neg (λq=>z2 ((e8 b p1 _ fb).mp q))).trans (if_neg z2).symm)
 ·(simp only [SA.lu.feq X.fL,Nat.mul_zero,Nat.add_zero,t2,Nat.beq_refl])
 ·(simp only [SA.sa.feq X.fS,Nat.mul_zero,Nat.add_zero,t3,Nat.beq_refl])
end
section
open PySem.Float64
theorem PZ(X:Nat):nmx X X X=X:=by unfold nmx;simp
theorem Qa(X:Nat):nmn X X X=X:=by unfold nmn;simp
theorem Hx{x:UInt64}{X:Nat}(h:F x X):feq x x=true:=by(simp only [h.feq h,Nat.beq_refl])
noncomputable def Wb(n:Nat):Bool:=frc (dvN n 384) λG=>fin (D8 G G)&&fin (fdiv (D8 G G) HT)&&Nat.beq (fdiv (D8 G G) HT) G
theorem QA:Bp 373 Wb=true:=by decide+kernel
theorem IK{x y z:UInt64}{X:Nat}(hx:F x X)(hy:F y X)(hz:F z X):CP (maxF x y z) (minF x y z)=true/\Fo x y z=.tup [.flt 0,.fn (F6 x x),.flt 0]:=by
 have e1:=hy.uniq hx;have e2:=hz.uniq hx;subst e1 e2;have hM:=hx.max hx hx;have hm:=hx.min hx hx;rw [PZ] at hM;rw [Qa] at hm;have a:=hM.uniq hx;have b:=hm.uniq hx;have q:=Hx hx;unfold Fo CP
 (refine rwl a ?_;refine rwl b ?_;refine rwl q ?_)
 exact⟨rfl,rfl⟩
theorem Tt{n:Nat}(hn:n<373):CP (maxF (nF n 384) (nF n 384) (nF n 384)) (minF (nF n 384) (nF n 384) (nF n 384))=true/\Fo (nF n 384) (nF n 384) (nF n 384)=.tup [.flt 0,.fn (F6 (nF n 384) (nF n 384)),.flt 0]/\
  feq (F6 (nF n 384) (nF n 384)) (nF n 384)=true/\feq (nF n 384) (nF n 384)=true:=by
 have f:=Ji D5 hn;have g:=Ai QA n hn;unfold Wb at g;simp only [CH,Bool.and_eq_true] at g;obtain⟨⟨g1,g2⟩,g3⟩:=g;refine⟨(IK f f f).1,(IK f f f).2,?_,Hx f⟩;unfold F6;refine rwl (((f.add f g1).div F2_ g2).feq f) ?_;exact g3
noncomputable def hj(h j:Nat):Nat:=(h+16*j)%48
noncomputable def Gq(a b c:Nat):Bool:= !(Nat.beq a b)&& !(Nat.beq b c)&& !(Nat.beq a c)
noncomputable def uS(h a b c k:Nat):Nat:=prtN (hj h a) k+prtN (hj h b) k+prtN (hj h c) k
noncomputable def WR(h a b c:Nat):Bool:=Nat.ble (uS h a b c 0) 24&&Nat.ble (uS h a b c 1) 24&&Nat.ble (uS h a b c 2) 24&&
 (bif Gq a b c then Nat.beq (uS h a b c 0) (uS h a b c 1)&&Nat.beq (uS h a b c 0) (uS h a b c 2) else pairs17.contains (nmn (uS h a b c 0) (uS h a b c 1) (uS h a b c 2),nmx (uS h a b c 0) (uS h a b c 1) (uS h a b c 2)))
theorem UW:(Bp 48 λh=>Bp 3 λa=>Bp 3 λb=>Bp 3 λc=>WR h a b c)=true:=by decide+kernel
theorem UX{s w:Nat}(h1:1<=s)(h3:s<=3)(hw:w<100):RZ s w=true:=by
 have:s=1\/s=2\/s=3:=by lia
 rcases this with rfl|rfl|rfl
 ·exact Ai st1 w hw
 ·exact Ai st2 w hw
 ·exact Ai st3 w hw
theorem XQ{x:UInt64}{X:Nat}(h:F x X):Float64.isNaN x=false/\(Float64.cmpInt x 0==some .eq)=Nat.beq X 0:=by
 obtain⟨m,e,dx,_⟩:=h.dec;refine⟨by unfold Float64.isNaN;(refine rwl dx ?_;rfl),?_⟩
 (simp only [cmpInt_right dx,h.val,Int.zero_mul])
 by_cases z:X=0
 ·subst z
  (simp only [V_zero])
  rfl
 ·have:(0:Int)<V X:=by
   have:=V_lt (Nat.pos_of_ne_zero z);rw [V_zero] at this
   (exact Int.natCast_pos.mpr this)
  (refine rwl (Int.compare_eq_gt.mpr this) ?_;refine rwl (Qf z) ?_)
  rfl
noncomputable def nS(h s w a b c k:Nat):Nat:=(w+s*prtN (hj h a) k)+(w+s*prtN (hj h b) k)+(w+s*prtN (hj h c) k)
theorem Vd{h s w a b c:Nat}(hh:h<48)(h1:1<=s)(h3:s<=3)(hw:w<100)(ha:a<3)(hb:b<3)(hc:c<3):
  ∃u l sa,CP (maxF (nF (nS h s w a b c 0) 384) (nF (nS h s w a b c 1) 384) (nF (nS h s w a b c 2) 384)) (minF (nF (nS h s w a b c 0) 384) (nF (nS h s w a b c 1) 384) (nF (nS h s w a b c 2) 384))=true/\
   Fo (nF (nS h s w a b c 0) 384) (nF (nS h s w a b c 1) 384) (nF (nS h s w a b c 2) 384)=.tup [.flt u,.fn l,.flt sa]/\Float64.isNaN sa=false/\(Float64.cmpInt sa 0==some .eq)=Gq a b c:=by
 have hu:=Ai (Ai (Ai (Ai UW h hh) a ha) b hb) c hc;unfold WR at hu;simp only [Bool.and_eq_true] at hu;obtain⟨⟨⟨u0,u1⟩,u2⟩,hu⟩:=hu;have u0:=Nat.ble_eq.mp u0;have u1:=Nat.ble_eq.mp u1;have u2:=Nat.ble_eq.mp u2;have e:∀k,nS h s w a b c k=3*w+s*uS h a b c k:=λk=>by
  unfold nS uS
  (simp only [Nat.mul_add,Nat.mul_add])
  (simp+arith)
 (refine rwl (e 0) ?_;refine rwl (e 1) ?_;refine rwl (e 2) ?_)
 generalize uS h a b c 0=p at*;generalize uS h a b c 1=q at*;generalize uS h a b c 2=r at*;have m0:=Nat.mul_le_mul h3 u0;have m1:=Nat.mul_le_mul h3 u1;have m2:=Nat.mul_le_mul h3 u2;have f0:=Ji D5 (n:=3*w+s*p) (by(refine Nat.lt_of_not_le λh=>?_;lia));have f1:=Ji D5 (n:=3*w+s*q) (by(refine Nat.lt_of_not_le λh=>?_;lia));have f2:=Ji D5 (n:=3*w+s*r) (by(refine Nat.lt_of_not_le λh=>?_;lia))
 cases d:Gq a b c with
 |true=>
  rw [d,cond_true] at hu;simp only [Bool.and_eq_true] at hu;have e1:=Nat.eq_of_beq_eq_true hu.1;have e2:=Nat.eq_of_beq_eq_true hu.2;subst e1 e2;obtain⟨s1,s2⟩:=IK f0 f0 f0;exact⟨_,_,_,s1,s2,by decide+kernel,by decide+kernel⟩
 |false=>
  rw [d,cond_false] at hu;have hm:=List.contains_iff_mem.mp hu;have hs:=Mg (show all pairs17 _=true from UX h1 h3 hw) _ hm;simp only [CH] at hs;have hx:=f0.max f1 f2;have hn:=f0.min f1 f2;rw [MR D5 (by lia) (by lia) (by lia),Nn h1] at hx;rw [MQ D5 (by lia) (by lia) (by lia),Nm h1] at hn;have SA:=Ue hx.1 hn.1 hs;obtain⟨c1,c2⟩:=XQ SA.sa;have er:Fo (nF (3*w+s*p) 384) (nF (3*w+s*q) 384) (nF (3*w+s*r) 384)=_:=if_neg (by refine rwl SA.ne ?_;simp);exact⟨_,_,_,SA.ok,er,c1,by(exact(c2).trans (SA.s0))⟩
end
theorem KB{l:List Nat}{o:Nat}(h:l.Nodup)(m:o∈l):l.Perm (o::l.filter (·!=o)):=by
 induction l with
 |nil=>cases m
 |cons a l ih=>
  obtain⟨h1,h2⟩:=List.nodup_cons.mp h
  by_cases e:a=o
  ·subst e;have:(a::l).filter (·!=a)=l:=by
    refine rwl (List.filter_cons_of_neg (by simp)) ?_;exact List.filter_eq_self.mpr λx hx=>by simp;rintro rfl;exact h1 hx
   (refine rwl this ?_;rfl)
  ·have:(a::l).filter (·!=o)=a::l.filter (·!=o):=List.filter_cons_of_pos (by simpa using e);refine rwl this ?_
   rcases mC m with rfl|m
   ·exact absurd rfl e
   ·exact((ih h2 m).cons a).trans (List.Perm.swap _ _ _)
theorem EZ(adj:Nat->Bool):∀(os p l:List Nat),l.Nodup->((Av adj os p l).1++(Av adj os p l).2).Perm (p++l)
 |[]=>λp l h=>.refl _
 |o::os=>λp l h=>by
  rw [C1]
  split
  ·rename_i q
   rw [Bool.and_eq_true] at q;have hm:o∈l:=by simpa using q.1
   refine(EZ adj os _ _ (h.sublist List.filter_sublist)).trans ?_;rw [List.append_assoc];exact(KB h hm).symm.append_left p
  ·exact EZ adj os p l h
theorem FQ(adj:Nat->Bool):∀(os p l:List Nat),∀y∈(Av adj os p l).2,y∈os->adj y=false
 |[]=>λp l y _ m=>nomatch m
 |o::os=>λp l y hy m=>by
  rw [C1] at hy
  split at hy
  ·rcases mC m with rfl|m
   ·have:=(C8 adj os _ _).subset hy;simp at this
   ·exact FQ adj os _ _ y hy m
  ·rename_i q
   rcases mC m with rfl|m
   ·have hl:=(C8 adj os _ _).subset hy;have:l.contains y=true:=by simpa using hl
    rw [this,Bool.true_and] at q
    simpa using q
   ·exact FQ adj os _ _ y hy m
theorem oStep_src(adj:Nat->Bool):∀(os p l:List Nat),∀z∈(Av adj os p l).1,z∈p\/adj z=true
 |[]=>λp l z m=>.inl m
 |o::os=>λp l z m=>by
  rw [C1] at m
  split at m
  ·rename_i q
   rw [Bool.and_eq_true] at q
   rcases oStep_src adj os _ _ z m with m|m
   ·rcases mA m with m|m
    ·exact .inl m
    ·refine rwl (mS m) ?_;exact .inr q.2
   ·exact .inr m
  ·exact oStep_src adj os _ _ z m
noncomputable def JA(adj:Nat->Nat->Bool)(names:List Nat)(q:Nat->Bool):Prop:=∀x∈names,∀y∈names,adj x y=true->q x=q y
structure TI(adj:Nat->Nat->Bool)(names:List Nat)(p l pt:List Nat):Prop where
 nd:(pt++(p++l)).Nodup
 inn:∀z∈pt++(p++l),z∈names
 sep:∀x∈pt,∀y∈l,adj x y=false
theorem TI.le{adj:Nat->Nat->Bool}{names p l pt:List Nat}(h:TI adj names p l pt):pt.length+(p.length+l.length)<=names.length:=by
 have:=Hf h.nd h.inn
 simpa using this
theorem Dx(adj:Nat->Nat->Bool)(names:List Nat):∀(n:Nat) (p l pt:List Nat),TI adj names p l pt->(p=[]\/n+pt.length=names.length)->
  ((tLoop adj names n p l pt).1++(tLoop adj names n p l pt).2).Perm (pt++(p++l))/\(∀x∈(tLoop adj names n p l pt).1,∀y∈(tLoop adj names n p l pt).2,adj x y=false)/\
   ∀(q:Nat->Bool) (b:Bool),JA adj names q->(∀z∈pt++p,q z=b)->∀z∈(tLoop adj names n p l pt).1,q z=b
 |0=>λp l pt I hn=>by
  have hp:p=[]:=by
   rcases hn with hn|hn
   ·exact hn
   ·have:=I.le;exact List.length_eq_zero_iff.mp (by lia)
  subst hp;exact⟨.refl _,I.sep,λq b _ hq z m=>hq z (List.mem_append_left _ m)⟩
 |n+1=>λp l pt I hn=>by
  cases e:p.reverse with
  |nil=>
   have:p=[]:=by simpa using e
   subst this;exact Dx adj names n [] l pt I (.inl rfl)
  |cons c r=>
   have e:=Fp e;generalize r.reverse=r' at e;subst e;rw [AS];have hn:n+(pt++[c]).length=names.length:=by
    rcases hn with hn|hn
    ·simp at hn
    ·(refine rwl List.length_append ?_;refine rwl List.length_singleton ?_);lia
   have nd:=I.nd;have ndl:l.Nodup:=(List.nodup_append.mp (List.nodup_append.mp nd).2.1).2.1;have pm:=EZ (adj c) names r' l ndl;have hc:c∈names:=I.inn c (by simp);have pm2:(pt++[c]++((Av (adj c) names r' l).1++(Av (adj c) names r' l).2)).Perm (pt++(r'++[c]++l)):=by
    refine(pm.append_left (pt++[c])).trans ?_
    (simp only [List.append_assoc,List.append_assoc])
    refine List.Perm.append_left pt ?_;have:=(List.perm_append_comm (l₁:=[c]) (l₂:=r')).append_right l;rw [List.append_assoc,List.append_assoc] at this;exact this
   have I':TI adj names (Av (adj c) names r' l).1 (Av (adj c) names r' l).2 (pt++[c]):=by
    refine⟨pm2.nodup_iff.mpr nd,λz m=>I.inn z (pm2.mem_iff.mp m),λx hx y hy=>?_⟩;have yl:=(C8 (adj c) names r' l).subset hy
    rcases mA hx with hx|hx
    ·exact I.sep x hx y yl
    ·refine rwl (mS hx) ?_;exact FQ (adj c) names r' l y hy (I.inn y (by simp [yl]))
   obtain⟨h1,h2,h3⟩:=Dx adj names n _ _ _ I' (.inr hn);refine⟨h1.trans pm2,h2,λq b hq hz=>h3 q b hq λz m=>?_⟩;have hcb:q c=b:=hz c (by simp)
   rcases mA m with m|m
   ·rcases mA m with m|m
    ·exact hz z (by simp [m])
    ·refine rwl (mS m) ?_;exact hcb
   ·rcases oStep_src (adj c) names r' l z m with m'|m'
    ·exact hz z (by simp [m'])
    ·have hzn:z∈names:=I.inn z (pm2.mem_iff.mp (List.mem_append_right _ (List.mem_append_left _ m)))
     (exact(hq c hc z hzn m').symm.trans (hcb))
structure Parts(adj:Nat->Nat->Bool)(names:List Nat)(P:List (List Nat)):Prop where
 perm:P.flatten.Perm names
 ne:∀q∈P,q≠[]
 sep:P.Pairwise λa b=>∀x∈a,∀y∈b,adj x y=false
 one:∀q∈P,∀(f:Nat->Bool),JA adj names f->∀x∈q,∀y∈q,f x=f y
 up:∀q∈P,q.Pairwise (·≤ ·)
 heads:P.Pairwise λa b=>∀y∈b,a.headD 0<y
theorem ER(adj:Nat->Nat->Bool)(names:List Nat):∀(n:Nat) (l:List Nat) (ps:List (List Nat)),l.length<=n->(ps.flatten++l).Perm names->names.Nodup->l.Pairwise (·< ·)->(∀q∈ps,q≠[])->(ps.Pairwise λa b=>∀x∈a,∀y∈b,adj x y=false)->
  (∀q∈ps,∀x∈q,∀y∈l,adj x y=false)->(∀q∈ps,∀(f:Nat->Bool),JA adj names f->∀x∈q,∀y∈q,f x=f y)->(∀q∈ps,q.Pairwise (·≤ ·))->(ps.Pairwise λa b=>∀y∈b,a.headD 0<y)->(∀q∈ps,∀y∈l,q.headD 0<y)->
  Parts adj names (EH adj names n l ps)
 |0,l=>λps hl hp _ _ a1 a2 _ a3 a4 a5 _=>by
  have:l=[]:=List.length_eq_zero_iff.mp (by exact Nat.eq_zero_of_le_zero hl);subst this;rw [List.append_nil] at hp;exact⟨hp,a1,a2,a3,a4,a5⟩
 |n+1,[]=>λps hl hp nd hs a1 a2 b1 a3 a4 a5 b2=>ER adj names n [] ps (Nat.zero_le _) hp nd hs a1 a2 b1 a3 a4 a5 b2
 |n+1,c::l=>λps hl hp nd hs a1 a2 b1 a3 a4 a5 b2=>by
  have inn:∀z∈c::l,z∈names:=λz m=>hp.mem_iff.mp (List.mem_append_right _ m)
  have ndl:(c::l).Nodup:=(List.nodup_append.mp (hp.nodup_iff.mpr nd)).2.1;obtain⟨hs1,hs2⟩:=List.pairwise_cons.mp hs;obtain⟨m,hm⟩:∃m,names.length=m+1:=⟨names.length-1,by have:=List.length_pos_of_mem (inn c (.head _));(exact(Nat.sub_eq_iff_eq_add this).mp rfl)⟩;have I:TI adj names [c] l []:=⟨ndl,inn,λx hx=>nomatch hx⟩;have key:(tLoop adj names names.length [c] l []).1++(tLoop adj names names.length [c] l []).2|>.Perm (c::l):=by
   have:=(Dx adj names names.length [c] l [] I (.inr (by simp))).1
   simpa using this
  obtain⟨_,t2,t3⟩:=Dx adj names names.length [c] l [] I (.inr (by simp));have hc:c∈(tLoop adj names names.length [c] l []).1:=by
   have gen:∀(n:Nat) (p l pt:List Nat),∀z∈pt,z∈(tLoop adj names n p l pt).1:=by
    intro n
    induction n with
    |zero=>exactλp l pt z m=>m
    |succ n ih=>
     intro p l pt z m
     rcases List.eq_nil_or_concat p with rfl|⟨r,c,rfl⟩
     ·exact ih _ _ _ z m
     ·rw [List.concat_eq_append,AS];exact ih _ _ _ z (List.mem_append_left _ m)
   (refine rwl hm ?_;refine rwl (show tLoop adj names (m+1) [c] l []=tLoop adj names m (Av (adj c) names [] l).1 (Av (adj c) names [] l).2 [c] from AS adj names m [] l [] c) ?_)
   exact gen _ _ _ _ c (.head _)
  have sub:=Dk adj names names.length [c] l [];show Parts adj names (EH adj names n (tLoop adj names names.length [c] l []).2 (ps++[BT (tLoop adj names names.length [c] l []).1]));generalize (tLoop adj names names.length [c] l []).1=q at*;generalize (tLoop adj names names.length [c] l []).2=l' at*;have sp:=Dy q;have su:=Gc q;have hq:∀z∈BT q,z∈c::l:=λz m=>key.mem_iff.mp (List.mem_append_left _ (sp.mem_iff.mp m))
  have hl':∀z∈l',z∈l:=λz m=>sub.subset m
  have hd:(BT q).headD 0=c:=by
   have cm:c∈BT q:=sp.mem_iff.mpr hc
   cases e:BT q with
   |nil=>rw [e] at cm;cases cm
   |cons a r=>
    rw [e] at su cm hq;have h1:c<=a:=by
     rcases mC (hq a (.head _)) with rfl|z
     ·exact Nat.le_refl _
     ·exact Nat.le_of_lt (hs1 a z)
    have h2:a<=c:=by
     rcases mC cm with rfl|z
     ·exact Nat.le_refl _
     ·exact(List.pairwise_cons.mp su).1 c z
    show a=c
    (exact Nat.le_antisymm h2 h1)
  refine ER adj names n l' (ps++[BT q]) ?_ ?_ nd (hs2.sublist sub) ?_ ?_ ?_ ?_ ?_ ?_ ?_
  ·have:=sub.length_le;rw [List.length_cons] at hl;lia
  ·refine List.Perm.trans ?_ hp
   (simp only [List.flatten_append,List.append_assoc])
   refine List.Perm.append_left _ ?_;simp only [List.flatten_cons,List.flatten_nil,List.append_nil];exact(sp.append_right l').trans key
  ·intro x m
   rcases mA m with m|m
   ·exact a1 x m
   ·refine rwl (mS m) ?_;intro e;have:=sp.mem_iff.mpr hc;rw [e] at this
    cases this
  ·refine List.pairwise_append.mpr ⟨a2,List.pairwise_singleton _ _,λa ha b hb x hx y hy=>?_⟩;rw [mS hb] at hy;exact b1 a ha x hx y (hq y hy)
  ·intro a ha x hx y hy
   rcases mA ha with ha|ha
   ·exact b1 a ha x hx y (.tail _ (hl' y hy))
   ·rw [mS ha] at hx;exact t2 x (sp.mem_iff.mp hx) y hy
  ·intro a ha f hf x hx y hy
   rcases mA ha with ha|ha
   ·exact a3 a ha f hf x hx y hy
   ·rw [mS ha] at hx hy;have go:=t3 f (f c) hf λz m=>by
     have m:z∈[c]:=m
     (exact congrArg _ (mS m))
    (exact(go x (sp.mem_iff.mp hx)).trans (go y (sp.mem_iff.mp hy)).symm)
  ·intro a ha
   rcases mA ha with ha|ha
   ·exact a4 a ha
   ·refine rwl (mS ha) ?_;exact su
  ·refine List.pairwise_append.mpr ⟨a5,List.pairwise_singleton _ _,λa ha b hb y hy=>?_⟩;rw [mS hb] at hy;exact b2 a ha y (hq y hy)
  ·intro a ha y hy
   rcases mA ha with ha|ha
   ·exact b2 a ha y (.tail _ (hl' y hy))
   ·(refine rwl (mS ha) ?_;refine rwl hd ?_)
    exact hs1 y (hl' y hy)
theorem CC(adj:Nat->Nat->Bool){names:List Nat}(h:names.Pairwise (·< ·)):Parts adj names (partsP adj names):=
 ER adj names names.length names [] (Nat.le_refl _) (.refl _) (h.imp λq=>Nat.ne_of_lt q) h (λq m=>nomatch m) .nil (λq m=>nomatch m) (λq m=>nomatch m) (λq m=>nomatch m) .nil (λq m=>nomatch m)
structure NoBad(c:Nat->Nat->Int)(ns:List Nat):Prop where
 tri:∀x∈ns,∀y∈ns,∀z∈ns,x≠y->x≠z->y≠z->c x y=c x z\/c x y=c y z\/c x z=c y z
 four:∀x∈ns,∀y∈ns,∀u∈ns,∀v∈ns,x≠y->x≠u->x≠v->y≠u->y≠v->u≠v->c x y=c y u->c y u=c u v->c y v=c v x->c v x=c x u->c x y=c y v
theorem NoBad.sub{c:Nat->Nat->Int}{ns ms:List Nat}(h:NoBad c ns)(s:∀z∈ms,z∈ns):NoBad c ms:=
 ⟨λx hx y hy z hz=>h.tri x (s x hx) y (s y hy) z (s z hz),λx hx y hy u hu v hv=>h.four x (s x hx) y (s y hy) u (s u hu) v (s v hv)⟩
structure Split(c:Nat->Nat->Int)(ns:List Nat)(i:Int)(q:Nat->Bool):Prop where
 a:∃x∈ns,q x=true
 b:∃y∈ns,q y=false
 x:∀x∈ns,∀y∈ns,q x=true->q y=false->c x y=i
theorem QJ{c:Nat->Nat->Int}(sym:∀a b,c a b=c b a):∀{ns:List Nat},ns.Nodup->2<=ns.length->NoBad c ns->∃i q,Split c ns i q
 |[]=>λ_ h _=>by simp at h
 |[_]=>λ_ h _=>by simp at h
 |[a,b]=>λnd _ _=>by
  have hab:a≠b:=λe=>by subst e;simp at nd
  refine⟨c a b,λx=>x==a,⟨a,by simp,by simp⟩,⟨b,by simp,by simpa using hab.symm⟩,λx hx y hy qx qy=>?_⟩;have ex:x=a:=by simpa using qx
  have ey:y≠a:=by simpa using qy
  subst ex
  rcases mC hy with z|hy
  ·exact absurd z ey
  ·(exact congrArg _ (mS hy))
 |z::a::b::r=>λnd _ hb=>by
  obtain⟨hz,nd'⟩:=List.nodup_cons.mp nd;obtain⟨i,q,S⟩:=QJ sym nd' (by simp) (hb.sub λx m=>.tail _ m);generalize a::b::r=V at*;have inV:∀x∈z::V,x≠z->x∈V:=λx m h=>(mC m).resolve_left h
  have neq:∀x∈V,x≠z:=λx m e=>hz (e▸m)
  by_cases c1:∀x∈V,q x=true->c z x=i
  ·refine⟨i,λx=>q x&& !(x==z),?_,⟨z,.head _,by simp⟩,λx hx y hy qx qy=>?_⟩
   ·obtain⟨x,hx,h⟩:=S.a;exact⟨x,.tail _ hx,by simp [h,neq x hx]⟩
   ·simp only [Bool.and_eq_true,Bool.not_eq_true',beq_eq_false_iff_ne] at qx;have xv:=inV x hx qx.2
    by_cases e:y=z
    ·subst e;rw [sym];exact c1 x xv qx.1
    ·refine S.x x xv y (inV y hy e) qx.1 ?_
     simpa [e] using qy
  by_cases c2:∀x∈V,q x=false->c z x=i
  ·refine⟨i,λx=>q x||x==z,⟨z,.head _,by simp⟩,?_,λx hx y hy qx qy=>?_⟩
   ·obtain⟨x,hx,h⟩:=S.b;exact⟨x,.tail _ hx,by simp [h,neq x hx]⟩
   ·simp only [Bool.or_eq_false_iff,beq_eq_false_iff_ne] at qy;have yv:=inV y hy qy.2
    by_cases e:x=z
    ·subst e;exact c2 y yv qy.1
    ·refine S.x x (inV x hx e) y yv ?_ qy.1
     simpa [e] using qx
  have⟨x1,m1,q1,n1⟩:∃x,x∈V/\q x=true/\c z x≠i:=by
   apply Classical.byContradiction;intro h;exact c1 λx m p=>Classical.byContradiction λe=>h ⟨x,m,p,e⟩
  have⟨x2,m2,q2,n2⟩:∃x,x∈V/\q x=false/\c z x≠i:=by
   apply Classical.byContradiction;intro h;exact c2 λx m p=>Classical.byContradiction λe=>h ⟨x,m,p,e⟩
  clear c1 c2;have tri:=λx (hx:x∈V) y (hy:y∈V) (e:x≠y)=>hb.tri z (.head _) x (.tail _ hx) y (.tail _ hy) (neq x hx).symm (neq y hy).symm e
  have two:∀x∈V,c z x≠i->c z x=c z x2:=λx m n=>by
   have qn:∀x y,q x=true->q y=false->x≠y:=λx y a b e=>by subst e;rw [a] at b;cases b
   have go:∀x∈V,q x=true->c z x≠i->∀y∈V,q y=false->c z y≠i->c z x=c z y:=λx hx qx nx y hy qy ny=>by
    have:=tri x hx y hy (qn x y qx qy);rw [S.x x hx y hy qx qy] at this
    rcases this with h|h|h
    ·exact h
    ·exact absurd h nx
    ·exact absurd h ny
   cases e:q x with
   |true=>exact go x m e n x2 m2 q2 n2
   |false=>(exact(go x1 m1 q1 n1 x m e n).symm.trans (go x1 m1 q1 n1 x2 m2 q2 n2))
  by_cases hI:∀x∈V,c z x≠i
  ·refine⟨c z x2,λx=>x==z,⟨z,.head _,by simp⟩,⟨x2,.tail _ m2,by simpa using neq x2 m2⟩,λx hx y hy qx qy=>?_⟩;have ex:x=z:=by simpa using qx
   have ey:y≠z:=by simpa using qy
   subst ex;have yv:=inV y hy ey;exact two y yv (hI y yv)
  ·have⟨u0,mu,hu0⟩:∃x,x∈V/\c z x=i:=by
    apply Classical.byContradiction;intro h;exact hI λx m e=>h ⟨x,m,e⟩
   refine⟨i,λx=> !(x==z)&&c z x==i,⟨u0,.tail _ mu,by simp [neq u0 mu,hu0]⟩,⟨z,.head _,by simp⟩,λu hu x hx qu qx=>?_⟩;simp only [Bool.and_eq_true,Bool.not_eq_true',beq_eq_false_iff_ne,beq_iff_eq] at qu;have uv:=inV u hu qu.1
   by_cases e:x=z
   ·subst e;rw [sym];exact qu.2
   have xv:=inV x hx e;have nx:c z x≠i:=by simpa [e] using qx
   have ux:u≠x:=λz=>by subst z;exact nx qu.2
   have go:∀y∈V,q y≠q u->q x=q u->c z y≠i->c u x=i:=λy hy qy qxu ny=>by
    have cy:∀t∈V,q t=q u->c t y=i:=λt ht qt=>by
     cases e1:q u with
     |true=>rw [e1] at qt qy;exact S.x t ht y hy qt (by simpa using qy)
     |false=>
      rw [e1] at qt qy;rw [sym];exact S.x y hy t ht (by simpa using qy) qt
    have uy:u≠y:=λz=>qy (by(exact congrArg _ (z).symm))
    have xy:x≠y:=λz=>qy (by(refine rwr z ?_;refine rwl qxu ?_;rfl))
    have jx:=two x xv nx;have jy:=two y hy ny;have t:=tri u uv x xv ux;rw [qu.2] at t
    rcases t with h|h|h
    ·exact absurd h.symm nx
    ·exact h.symm
    ·have b4:=hb.four u hu x hx z (.head _) y (.tail _ hy) ux qu.1 uy e xy (neq y hy).symm (by(exact(h).symm.trans (sym x z).symm)) (by exact rwl (sym x z) (rwl jx (rwl jy rfl))) (by exact rwl (cy x xv qxu) (rwl (sym y u) (rwl (cy u uv rfl) rfl))) (by exact rwl (sym y u) (rwl (cy u uv rfl) (rwl (sym u z) (rwl qu.2 rfl))))
     (exact(b4).trans (cy x xv qxu))
   by_cases qq:q x=q u
   ·cases e1:q u with
    |true=>exact go x2 m2 (by(refine rwl q2 ?_;refine rwl e1 ?_);decide) qq n2
    |false=>exact go x1 m1 (by(refine rwl q1 ?_;refine rwl e1 ?_);decide) qq n1
   ·cases e1:q u with
    |true=>
     have:q x=false:=by rw [e1] at qq;simpa using qq
     exact S.x u uv x xv e1 this
    |false=>
     have:q x=true:=by rw [e1] at qq;simpa using qq
     rw [sym];exact S.x x xv u uv this e1
section
variable{f:Str->Option Int}
theorem Good.at(g:Good f){a b:Nat}(ha:a∈Lt)(hb:b∈Lt)(ne:a≠b):f (pr a b)=some (vAt f a b):=by
 have:=(g.dom (pr a b)).mpr ⟨a,ha,b,hb,ne,rfl⟩;unfold vAt
 cases q:f (pr a b) with
 |none=>rw [q] at this;cases this
 |some v=>rfl
theorem Good.vsym(g:Good f)(a b:Nat):vAt f a b=vAt f b a:=by unfold vAt;rw [g.sym]
theorem Good.in3(g:Good f){a b:Nat}(ha:a∈Lt)(hb:b∈Lt)(ne:a≠b):vAt f a b=0\/vAt f a b=1\/vAt f a b=2:=by
 have:=g.val _ _ (g.at ha hb ne);lia
theorem Good.adj(g:Good f){a b:Nat}(ha:a∈Lt)(hb:b∈Lt)(ne:a≠b)(i:Int):As f i a b=false<->vAt f a b=i:=by
 unfold As;refine rwl (g.at ha hb ne) ?_;simp
theorem Parts.cross{adj:Nat->Nat->Bool}{names:List Nat}{P:List (List Nat)}(h:Parts adj names P)(s:∀x y,adj x y=false->adj y x=false){x y:Nat}(hx:x∈names)(hy:y∈names)(hn:∀q∈P,x∈q->y∈q->False):adj x y=false:=by
 obtain⟨a,ha,xa⟩:=List.mem_flatten.mp (h.perm.mem_iff.mpr hx);obtain⟨b,hb,yb⟩:=List.mem_flatten.mp (h.perm.mem_iff.mpr hy);have ne:a≠b:=λe=>hn a ha xa (e▸yb)
 have gen:∀{P:List (List Nat)},(P.Pairwise λa b=>∀x∈a,∀y∈b,adj x y=false)->a∈P->b∈P->adj x y=false:=by
  intro P
  induction P with
  |nil=>intro _ m;cases m
  |cons q P ih=>
   intro hp m m';obtain⟨p1,p2⟩:=List.pairwise_cons.mp hp
   rcases mC m with e1|m1
   ·rcases mC m' with e2|m2
    ·exact absurd (e1.trans e2.symm) ne
    ·exact p1 b m2 x (e1▸xa) y yb
   ·rcases mC m' with e2|m2
    ·exact s y x (p1 a m1 y (e2▸yb) x xa)
    ·exact ih p2 m1 m2
 exact gen h.sep ha hb
theorem FI{adj:Nat->Nat->Bool}{names:List Nat}{P:List (List Nat)}(h:Parts adj names P)(nd:names.Nodup)(h2:2<=P.length):∃x∈names,∃y∈names,∀q∈P,x∈q->y∈q->False:=by
 match P,h,h2 with
 |[],_,h2=>simp at h2
 |[_],_,h2=>simp at h2
 |a::b::r,h,_=>
  obtain⟨x,xa⟩:=List.exists_mem_of_ne_nil a (h.ne a (by simp));obtain⟨y,yb⟩:=List.exists_mem_of_ne_nil b (h.ne b (by simp));have ndP:(a::b::r).flatten.Nodup:=h.perm.nodup_iff.mpr nd;refine⟨x,h.perm.mem_iff.mp (List.mem_flatten.mpr ⟨a,by simp,xa⟩),y,h.perm.mem_iff.mp (List.mem_flatten.mpr ⟨b,by simp,yb⟩),λq hq xq yq=>?_⟩;rw [List.flatten_cons,List.flatten_cons] at ndP;obtain⟨_,n2,n3⟩:=List.nodup_append.mp ndP
  rcases mC hq with rfl|hq
  ·exact n3 y yq y (List.mem_append_left _ yb) rfl
  ·exact n3 x xa x (by
    rcases mC hq with rfl|hq
    ·exact List.mem_append_left _ xq
    ·exact List.mem_append_right _ (List.mem_flatten.mpr ⟨q,hq,xq⟩)) rfl
theorem Good.adj_sym(g:Good f)(i:Int)(x y:Nat)(h:As f i x y=false):As f i y x=false:=by
 unfold As at*;rw [g.sym];exact h
theorem Good.one_cut(g:Good f){ns:List Nat}(hs:ns.Pairwise (·< ·))(hl:∀z∈ns,z∈Lt){i j:Int}(h1:2<=(partsP (As f i) ns).length)(h2:2<=(partsP (As f j) ns).length):i=j:=by
 have nd:ns.Nodup:=hs.imp λq=>Nat.ne_of_lt q
 have PI:=CC (As f i) hs;have PJ:=CC (As f j) hs;generalize partsP (As f i) ns=P at*;generalize partsP (As f j) ns=Q at*;obtain⟨x,hx,y,hy,hxy⟩:=FI PI nd h1;obtain⟨u,hu,v,hv,huv⟩:=FI PJ nd h2;apply Classical.byContradiction;intro ne;have nP:∀{z},z∈ns->∃p∈P,z∈p:=λh=>by
  obtain⟨a,ha,xa⟩:=List.mem_flatten.mp (PI.perm.mem_iff.mpr h);exact⟨a,ha,xa⟩
 have nQ:∀{z},z∈ns->∃p∈Q,z∈p:=λh=>by
  obtain⟨a,ha,xa⟩:=List.mem_flatten.mp (PJ.perm.mem_iff.mpr h);exact⟨a,ha,xa⟩
 have uniq:∀{R:List (List Nat)},R.flatten.Nodup->∀{p q:List Nat} {z:Nat},p∈R->q∈R->z∈p->z∈q->p=q:=by
  intro R
  induction R with
  |nil=>intro _ p q z m;cases m
  |cons a R ih=>
   intro nd p q z m m' zp zq;rw [List.flatten_cons] at nd;obtain⟨_,n2,n3⟩:=List.nodup_append.mp nd
   rcases mC m with e1|m1
   ·rcases mC m' with e2|m2
    ·exact e1.trans e2.symm
    ·exact absurd rfl (n3 z (e1▸zp) z (List.mem_flatten.mpr ⟨q,m2,zq⟩))
   ·rcases mC m' with e2|m2
    ·exact absurd rfl (n3 z (e2▸zq) z (List.mem_flatten.mpr ⟨p,m1,zp⟩))
    ·exact ih n2 m1 m2 zp zq
 have ndP:=PI.perm.nodup_iff.mpr nd;have ndQ:=PJ.perm.nodup_iff.mpr nd;have same:∀{a b:Nat},a∈ns->b∈ns->a≠b->(∀q∈Q,a∈q->b∈q->False)->∃p∈P,a∈p/\b∈p:=λ{a b} ha hb ne' h=>by
  apply Classical.byContradiction;intro k;have e1:=(g.adj (hl a ha) (hl b hb) ne' j).mp (PJ.cross (g.adj_sym j) ha hb h);have e2:=(g.adj (hl a ha) (hl b hb) ne' i).mp (PI.cross (g.adj_sym i) ha hb λq hq x1 x2=>k ⟨q,hq,x1,x2⟩);exact ne (e2.symm.trans e1)
 have ne_uv:u≠v:=λe=>by
  obtain⟨q,hq,z⟩:=nQ hu;exact huv q hq z (e▸z)
 obtain⟨p,hp,up,vp⟩:=same hu hv ne_uv huv;have⟨z,hz,zp⟩:∃z,z∈ns/\z∉p:=by
  by_cases xp:x∈p
  ·exact⟨y,hy,λyp=>hxy p hp xp yp⟩
  ·exact⟨x,hx,xp⟩
 have out:∀{t:Nat},t∈p->∀q∈P,t∈q->z∈q->False:=λtp q hq tq zq=>zp (uniq ndP hp hq tp tq▸zq)
 obtain⟨q,hq,zq⟩:=nQ hz;have cl:∀{t:Nat},t∈ns->t∈p->t∈q:=λ{t} ht tp=>by
  apply Classical.byContradiction;intro k;have tz:t≠z:=λe=>zp (e▸tp)
  obtain⟨p',hp',tp',zp'⟩:=same ht hz tz λq' hq' t1 z1=>k (uniq ndQ hq' hq z1 zq▸t1)
  exact out tp p' hp' tp' zp'
 exact huv q hq (cl hu up) (cl hv vp)
theorem Good.cut(g:Good f){ns:List Nat}(hs:ns.Pairwise (·< ·))(hl:∀z∈ns,z∈Lt)(h2:2<=ns.length)(nb:NoBad (vAt f) ns):
  ∃i:Nat,i<3/\CI f ns=[(i,partsP (As f i) ns)]/\2<=(partsP (As f i) ns).length:=by
 have nd:ns.Nodup:=hs.imp λq=>Nat.ne_of_lt q
 refine lid λgg kk=>?_
 obtain⟨i,q,S⟩:=QJ g.vsym nd h2 nb;obtain⟨x,hx,qx⟩:=S.a;obtain⟨y,hy,qy⟩:=S.b;refine kk ?_;have xy:x≠y:=λe=>by subst e;rw [qx] at qy;cases qy
 have i3:=g.in3 (hl x hx) (hl y hy) xy;rw [S.x x hx y hy qx qy] at i3;have cl:JA (As f i) ns q:=λa ha b hb h=>by
  apply Classical.byContradiction;intro ne;have ab:a≠b:=λe=>ne (by(exact congrArg _ (e)))
  have:As f i a b=false:=(g.adj (hl a ha) (hl b hb) ab i).mpr (by
   cases e:q a with
   |true=>exact S.x a ha b hb e (by rw [e] at ne;cases h:q b;rfl;exact absurd h.symm ne)
   |false=>rw [g.vsym];exact S.x b hb a ha (by rw [e] at ne;cases h:q b;exact absurd h.symm ne;rfl) e)
  rw [this] at h;cases h
 have two:2<=(partsP (As f i) ns).length:=by
  have P:=CC (As f i) hs;generalize partsP (As f i) ns=R at*
  match R,P with
  |[],P=>
   have:=P.perm.mem_iff.mpr hx
   cases this
  |[a],P=>
   have xa:x∈a:=by simpa using P.perm.mem_iff.mpr hx
   have ya:y∈a:=by simpa using P.perm.mem_iff.mpr hy
   have:=P.one a (by simp) q cl x xa y ya;rw [qx,qy] at this;cases this
  |_::_::_,_=>simp
 have no:∀j:Int,j≠i->¬(partsP (As f j) ns).length>1:=λj hj h=>hj (g.one_cut hs hl h two)
 unfold CI cuts0
 rcases i3 with rfl|rfl|rfl
 ·refine⟨0,by decide,?_,two⟩
  (refine rwl (List.filter_cons_of_pos (by simp;assumption)) ?_;refine rwl (List.filter_cons_of_neg (by simpa using no 1 (by decide))) ?_;refine rwl (List.filter_cons_of_neg (by simpa using no 2 (by decide))) ?_)
  rfl
 ·refine⟨1,by decide,?_,two⟩
  (refine rwl (List.filter_cons_of_neg (by simpa using no 0 (by decide))) ?_;refine rwl (List.filter_cons_of_pos (by simp;assumption)) ?_;refine rwl (List.filter_cons_of_neg (by simpa using no 2 (by decide))) ?_)
  rfl
 ·refine⟨2,by decide,?_,two⟩
  (refine rwl (List.filter_cons_of_neg (by simpa using no 0 (by decide))) ?_;refine rwl (List.filter_cons_of_neg (by simpa using no 1 (by decide))) ?_;refine rwl (List.filter_cons_of_pos (by simp;assumption)) ?_)
  rfl
end
noncomputable abbrev C5:=List (Nat×List Lab)
noncomputable def Gy(a:Nat×List Lab):List Nat:=(a.2.map (·.2)).reverse++[a.1]
theorem Te(x:Nat)(p:List Lab)(l:Lab)(ls:List Lab):Gy (x,p++l::ls)=(ls.map (·.2)).reverse++l.2::((p.map (·.2)).reverse++[x]):=by
 unfold Gy;simp
structure PJ(f:Str->Option Int)(j:Job)(o:C5):Prop where
 perm:(o.map (·.1)).Perm j.2
 nb:NoBad (vAt f) j.2
 suf:∀a∈o,(∃p k,a.2=p++(k,j.2.headD 0)::j.1)\/(j.2=[a.1]/\a.2=j.1)
 com:∀a∈o,∀b∈o,a.1≠b.1->BN a.2 b.2=some (AZ (vAt f a.1 b.1).toNat)
 ord:o.Pairwise λa b=>Gy b<Gy a
 lab:j.1.all AD=true->∀a∈o,a.2.all AD=true
 len:∀a∈o,a.2.length+1<=j.1.length+j.2.length
theorem PJ.key{f:Str->Option Int}{j:Job}{o:C5}(h:PJ f j o){a:Nat×List Lab}(ha:a∈o):∃r,Gy a=(j.1.map (·.2)).reverse++j.2.headD 0::r:=by
 obtain⟨x,lx⟩:=a
 rcases h.suf _ ha with ⟨p,k,e⟩|⟨e1,e2⟩
 ·have e:lx=p++(k,j.2.headD 0)::j.1:=e;subst e;exact⟨_,Te x p _ _⟩
 ·have e1:j.2=[x]:=e1;have e2:lx=j.1:=e2;subst e2;exact⟨[],by refine rwl e1 ?_;rfl⟩
theorem SZ(p:List Nat){a b:Nat}(r s:List Nat)(h:a<b):(p++a::r)<(p++b::s):=by
 induction p with
 |nil=>exact List.Lex.rel h
 |cons x p ih=>exact List.Lex.cons ih
theorem Lc{α:Type}{a b c:List α}(h:(a++c)<:+(b++c)):a<:+b:=by
 obtain⟨t,e⟩:=h;rw [←List.append_assoc] at e;exact⟨t,List.append_cancel_right e⟩
theorem I0{lb:List Lab}{l:Lab}{ls:List Lab}(h2:(l::ls)<:+lb):∀(p:List Lab),(∀t,t≠[]->t<:+p->¬(t++l::ls)<:+lb)->BN (p++l::ls) lb=some l.1
 |[]=>λ_=>by
  show BN (l::ls) lb=_;unfold BN
  (exact(if_pos (by simpa using h2)))
 |x::p=>λh=>by
  show BN (x::(p++l::ls)) lb=_;unfold BN;have:¬(x::(p++l::ls))<:+lb:=h (x::p) (by simp) (List.suffix_refl _);refine rwl (if_neg (by simpa using this)) ?_;exact I0 h2 p λt ht hs=>h t ht (hs.trans (List.suffix_cons x p))
theorem Xl{z:Nat}(h:z∈Lt):97<=z/\z<=122/\(z !=99)=true:=by
 have:z=107\/z=108\/z=109\/z=110\/z=111:=by simpa [Lt] using h
 rcases this with rfl|rfl|rfl|rfl|rfl<;>decide
theorem Qt(i:Nat){z:Nat}(h:z∈Lt):AD (AZ i,z)=true:=by
 obtain⟨a,b,c⟩:=Xl h;unfold AD AZ;dsimp only
 (refine rwl (decide_eq_true a) ?_;refine rwl (decide_eq_true b) ?_;refine rwl c ?_)
 split
 ·rfl
 ·split<;>rfl
theorem El{ns:List Nat}(h:ns≠[]):ns.headD 0∈ns:=by
 cases ns with
 |nil=>exact absurd rfl h
 |cons a r=>exact .head _
section
variable{f:Str->Option Int}
theorem Ta(ls:List Lab)(x:Nat):PJ f (ls,[x]) [(x,ls)]:=by
 refine⟨.refl _,⟨?_,?_⟩,?_,?_,List.pairwise_singleton _ _,?_,?_⟩
 ·intro a ha b hb _ _ ne;rw [mS ha,mS hb] at ne;exact absurd rfl ne
 ·intro a ha b hb _ _ _ _ ne;rw [mS ha,mS hb] at ne;exact absurd rfl ne
 ·intro a ha;refine rwl (mS ha) ?_;exact .inr ⟨rfl,rfl⟩
 ·intro a ha b hb ne;rw [mS ha,mS hb] at ne;exact absurd rfl ne
 ·intro h a ha;refine rwl (mS ha) ?_;exact h
 ·intro a ha;refine rwl (mS ha) ?_;exact Nat.le_refl _
end
theorem AN:∀{R:List (List Nat)},R.flatten.Nodup->∀{p q:List Nat} {z:Nat},p∈R->q∈R->z∈p->z∈q->p=q
 |[]=>λ_ p q z m _ _ _=>nomatch m
 |a::R=>λnd p q z m m' zp zq=>by
  rw [List.flatten_cons] at nd;obtain⟨_,n2,n3⟩:=List.nodup_append.mp nd
  rcases mC m with e1|m1
  ·rcases mC m' with e2|m2
   ·exact e1.trans e2.symm
   ·exact absurd rfl (n3 z (e1▸zp) z (List.mem_flatten.mpr ⟨q,m2,zq⟩))
  ·rcases mC m' with e2|m2
   ·exact absurd rfl (n3 z (e2▸zq) z (List.mem_flatten.mpr ⟨p,m1,zp⟩))
   ·exact AN n2 m1 m2 zp zq
theorem Q1{α β:Type}{g:α->β}:∀{L:List α},(L.Pairwise λp q=>g p≠g q)->∀{p q:α},p∈L->q∈L->g p=g q->p=q
 |[]=>λ_ p q m _ _=>nomatch m
 |a::L=>λh p q m m' e=>by
  obtain⟨h1,h2⟩:=List.pairwise_cons.mp h
  rcases mC m with e1|m1
  ·rcases mC m' with e2|m2
   ·exact e1.trans e2.symm
   ·exact absurd (e1▸e) (h1 q m2)
  ·rcases mC m' with e2|m2
   ·exact absurd (e2▸e).symm (h1 p m1)
   ·exact Q1 h2 m1 m2 e
theorem Gm{α:Type}{t l:List α}(h:t<:+l)(ne:t≠[]):t.getLast? =l.getLast? :=by
 obtain⟨s,rfl⟩:=h;refine rwl (List.getLast?_append) ?_
 cases q:t.getLast? with
 |none=>exact absurd (List.getLast?_eq_none_iff.mp q) ne
 |some x=>rfl
section
variable{f:Str->Option Int}
theorem outs_perm:∀(L:List (Job×C5)),(∀p∈L,PJ f p.1 p.2)->(((L.map (·.2)).flatten).map (·.1)).Perm ((L.map (·.1.2)).flatten)
 |[]=>λ_=>.refl _
 |p::L=>λh=>by
  simp only [List.map_cons,List.flatten_cons,List.map_append];exact(h p (.head _)).perm.append (outs_perm L λq m=>h q (.tail _ m))
theorem SL(g:Good f){ls:List Lab}{ns:List Nat}{i:Nat}{P:List (List Nat)}{L:List (Job×C5)}(hs:ns.Pairwise (·< ·))(hl:∀z∈ns,z∈Lt)(hP:Parts (As f i) ns P)(h2:2<=P.length)
  (hL:L.map (·.1)=P.map λpart=>((AZ i,ns.headD 0)::ls,part)) (h:∀p∈L,PJ f p.1 p.2):PJ f (ls,ns) (L.map (·.2)).reverse.flatten:=by
 have nd:ns.Nodup:=hs.imp λq=>Nat.ne_of_lt q
 have ndP:=hP.perm.nodup_iff.mpr nd;have eP:L.map (·.1.2)=P:=by
  have:=congrArg (List.map (·.2)) hL;rw [List.map_map,List.map_map] at this;rw [show P=P.map ((λx:Job=>x.2)∘ λpart=>((AZ i,ns.headD 0)::ls,part)) by simp [Function.comp_def]];exact this
 have job:∀p∈L,p.1.1=(AZ i,ns.headD 0)::ls/\p.1.2∈P:=λp hp=>by
  have:p.1∈L.map (·.1):=List.mem_map_of_mem hp;rw [hL] at this;obtain⟨part,hm,e⟩:=mM this;refine rwr e ?_;exact⟨rfl,hm⟩
 have mem:∀{a:Nat×List Lab},a∈(L.map (·.2)).reverse.flatten->∃p∈L,a∈p.2:=λ{a} ha=>by
  obtain⟨o,ho,m⟩:=List.mem_flatten.mp ha;obtain⟨p,hp,rfl⟩:=mM (List.mem_reverse.mp ho);exact⟨p,hp,m⟩
 have at_:∀p∈L,∀a∈p.2,a.1∈p.1.2:=λp hp a ha=>(h p hp).perm.mem_iff.mp (List.mem_map_of_mem ha)
 have inns:∀q∈P,∀z∈q,z∈ns:=λq hq z hz=>hP.perm.mem_iff.mp (List.mem_flatten.mpr ⟨q,hq,hz⟩)
 have part:∀{z},z∈ns->∃p∈P,z∈p:=λh=>by
  obtain⟨a,ha,xa⟩:=List.mem_flatten.mp (hP.perm.mem_iff.mpr h);exact⟨a,ha,xa⟩
 have col:∀{x y},x∈ns->y∈ns->x≠y->(∀q∈P,x∈q->y∈q->False)->vAt f x y=i:=λ{x y} hx hy ne hn=>(g.adj (hl x hx) (hl y hy) ne i).mp (hP.cross (g.adj_sym i) hx hy hn)
 have nbq:∀q∈P,NoBad (vAt f) q:=λq hq=>by
  rw [←eP] at hq;obtain⟨p,hp,rfl⟩:=mM hq;exact(h p hp).nb
 have sufx:∀p∈L,∀a∈p.2,∃pa,a.2=pa++(AZ i,ns.headD 0)::ls/\(pa=[]\/∃k,pa.getLast? =some (k,p.1.2.headD 0)):=λp hp a ha=>by
  have e1:=(job p hp).1
  rcases(h p hp).suf a ha with ⟨p',k,e⟩|⟨_,e⟩
  ·rw [e1] at e;exact⟨p'++[(k,p.1.2.headD 0)],by refine rwl e ?_;simp,.inr ⟨k,by simp⟩⟩
  ·rw [e1] at e;exact⟨[],e,.inl rfl⟩
 refine⟨?_,⟨?_,?_⟩,?_,?_,?_,?_,?_⟩
 ·have a1:((L.map (·.2)).reverse.flatten).Perm (L.map (·.2)).flatten:=(List.reverse_perm _).flatten;refine(a1.map _).trans ((outs_perm L h).trans ?_);refine rwl eP ?_;exact hP.perm
 ·intro x hx y hy z hz xy xz yz
  by_cases s1:∃q,q∈P/\x∈q/\y∈q
  ·obtain⟨q,hq,xq,yq⟩:=s1
   by_cases s2:∃q,q∈P/\x∈q/\z∈q
   ·obtain⟨q',hq',xq',zq⟩:=s2;have:=AN ndP hq hq' xq xq';subst this;exact(nbq q hq).tri x xq y yq z zq xy xz yz
   ·have e1:=col hx hz xz λq hq a b=>s2 ⟨q,hq,a,b⟩
    have e2:=col hy hz yz λq' hq' a b=>s2 ⟨q',hq',AN ndP hq hq' yq a▸xq,b⟩
    exact .inr (.inr (e1.trans e2.symm))
  ·have e1:=col hx hy xy λq hq a b=>s1 ⟨q,hq,a,b⟩
   by_cases s2:∃q,q∈P/\x∈q/\z∈q
   ·obtain⟨q,hq,xq,zq⟩:=s2;have e2:=col hy hz yz λq' hq' a b=>s1 ⟨q',hq',AN ndP hq hq' zq b▸xq,a⟩
    exact .inr (.inl (e1.trans e2.symm))
   ·have e2:=col hx hz xz λq hq a b=>s2 ⟨q,hq,a,b⟩
    exact .inl (e1.trans e2.symm)
 ·intro x hx y hy u hu v hv xy xu xv yu yv uv h1 h2 h3 h4;apply Classical.byContradiction;intro ne;have same:∀{x y},x∈ns->y∈ns->x≠y->vAt f x y≠i->∃q∈P,x∈q/\y∈q:=λ{x y} hx hy xy n=>by
   apply Classical.byContradiction;intro k;exact n (col hx hy xy λq hq a b=>k ⟨q,hq,a,b⟩)
  by_cases e:vAt f x y=i
  ·have n:vAt f y v≠i:=λz=>ne (e.trans z.symm)
   obtain⟨q,hq,yq,vq⟩:=same hy hv yv n;obtain⟨q',hq',vq',xq⟩:=same hv hx xv.symm (h3▸n);obtain⟨q'',hq'',xq'',uq⟩:=same hx hu xu (h4▸h3▸n);have e1:=AN ndP hq hq' vq vq';subst e1;have e2:=AN ndP hq hq'' xq xq'';subst e2;exact ne ((nbq q hq).four x xq y yq u uq v vq xy xu xv yu yv uv h1 h2 h3 h4)
  ·obtain⟨q,hq,xq,yq⟩:=same hx hy xy e;obtain⟨q',hq',yq',uq⟩:=same hy hu yu (h1▸e);obtain⟨q'',hq'',uq'',vq⟩:=same hu hv uv (h2▸h1▸e);have e1:=AN ndP hq hq' yq yq';subst e1;have e2:=AN ndP hq hq'' uq uq'';subst e2;exact ne ((nbq q hq).four x xq y yq u uq v vq xy xu xv yu yv uv h1 h2 h3 h4)
 ·intro a ha;obtain⟨p,hp,m⟩:=mem ha;obtain⟨pa,e,_⟩:=sufx p hp a m;exact .inl ⟨pa,_,e⟩
 ·intro a ha b hb ne;obtain⟨p,hp,ma⟩:=mem ha;obtain⟨q,hq,mb⟩:=mem hb;have pne:L.Pairwise λp q=>p.1.2≠q.1.2:=by
   have:=hP.heads;rw [←eP] at this;refine(List.pairwise_map.mp this).imp_of_mem λ{p q} _ hq z e=>?_
   have:=z (q.1.2.headD 0) (El (hP.ne _ (job q hq).2));rw [e] at this;exact Nat.lt_irrefl _ this
  by_cases e:p.1.2=q.1.2
  ·have:=Q1 pne hp hq e;subst this;exact(h p hp).com a ma b mb ne
  ·have hpP:=(job p hp).2;have hqP:=(job q hq).2;have apart:∀r∈P,a.1∈r->b.1∈r->False:=λr hr x1 x2=>e ((AN ndP hpP hr (at_ p hp a ma) x1).trans (AN ndP hr hqP x2 (at_ q hq b mb)))
   refine rwl (col (inns _ hpP _ (at_ p hp a ma)) (inns _ hqP _ (at_ q hq b mb)) ne apart) ?_;obtain⟨pa,ea,la⟩:=sufx p hp a ma;obtain⟨pb,eb,lb⟩:=sufx q hq b mb
   (refine rwl ea ?_;refine rwl eb ?_)
   refine I0 (List.suffix_append _ _) pa λt ht hs' hn=>?_
   have st:=Lc hn;have l1:=Gm hs' ht;have l2:=Gm st ht
   rcases la with rfl|⟨k,la⟩
   ·exact ht (List.suffix_nil.mp hs')
   rcases lb with rfl|⟨k',lb⟩
   ·exact ht (List.suffix_nil.mp st)
   rw [la] at l1;rw [lb,l1] at l2;have e3:p.1.2.headD 0=q.1.2.headD 0:=congrArg Prod.snd (Option.some.inj l2);exact e (AN ndP hpP hqP (El (hP.ne _ hpP)) (e3▸El (hP.ne _ hqP)))
 ·refine List.pairwise_flatten.mpr ⟨λo ho=>?_,?_⟩
  ·obtain⟨p,hp,rfl⟩:=mM (List.mem_reverse.mp ho);exact(h p hp).ord
  ·(simp only [List.pairwise_reverse,List.pairwise_map])
   have:=hP.heads;rw [←eP] at this;refine(List.pairwise_map.mp this).imp_of_mem λ{p q} hp hq z a ha b hb=>?_
   obtain⟨r,er⟩:=(h q hq).key ha;obtain⟨s,es⟩:=(h p hp).key hb;rw [(job q hq).1] at er;rw [(job p hp).1] at es
   (refine rwl er ?_;refine rwl es ?_)
   exact SZ _ _ _ (z _ (El (hP.ne _ (job q hq).2)))
 ·intro hk a ha;obtain⟨p,hp,m⟩:=mem ha;refine(h p hp).lab ?_ a m
  (simp only [(job p hp).1,List.all_cons,hk])
  have:ns≠[]:=λz=>by
   subst z;have:=(job p hp).2;obtain⟨x,hx⟩:=List.exists_mem_of_ne_nil _ (hP.ne _ this);exact nomatch inns _ this x hx
  refine rwl (Qt i (hl _ (El this))) ?_;rfl
 ·intro a ha;obtain⟨p,hp,m⟩:=mem ha;have h3:=(h p hp).len a m;rw [(job p hp).1,List.length_cons] at h3;obtain⟨x,hx,y,hy,hxy⟩:=FI hP nd h2;have hpP:=(job p hp).2;have⟨z,hz,zp⟩:∃z,z∈ns/\z∉p.1.2:=by
   by_cases xp:x∈p.1.2
   ·exact⟨y,hy,λyp=>hxy _ hpP xp yp⟩
   ·exact⟨x,hx,xp⟩
  have ndp:p.1.2.Nodup:=((h p hp).perm.nodup_iff.mp (by
   have:((p.2.map (·.1))).Nodup:=by
    refine(h p hp).perm.nodup_iff.mpr ?_;have gen:∀{R:List (List Nat)},R.flatten.Nodup->∀q∈R,q.Nodup:=λ{R} h q hq=>h.sublist (List.sublist_flatten_of_mem hq)
    exact gen ndP _ hpP
   exact this))
  have:=Hf (l:=z::p.1.2) (m:=ns) (List.nodup_cons.mpr ⟨zp,ndp⟩) λt m=>by
   rcases mC m with rfl|m
   ·exact hz
   ·exact inns _ hpP t m
  rw [List.length_cons] at this;show a.2.length+1<=ls.length+ns.length
  (refine Nat.lt_of_not_le λh=>?_;lia)
end
structure NOk(ns:List Nat):Prop where
 up:ns.Pairwise (·< ·)
 sub:∀z∈ns,z∈Lt
 ne:ns≠[]
theorem Rk{f:Str->Option Int}{ns:List Nat}{i:Nat}{P:List (List Nat)}(h:CI f ns=[(i,P)]):P=partsP (As f i) ns/\2<=P.length:=by
 have m:((i,P):Cut)∈CI f ns:=by refine rwl h ?_;exact .head _
 obtain⟨m1,m2⟩:=mF m;have m2:P.length>1:=of_decide_eq_true m2;refine⟨?_,m2⟩;unfold cuts0 at m1;simp only [List.mem_cons,List.not_mem_nil,or_false,Prod.mk.injEq] at m1
 rcases m1 with ⟨rfl,rfl⟩|⟨rfl,rfl⟩|⟨rfl,rfl⟩<;>rfl
theorem Parts.ok{adj:Nat->Nat->Bool}{ns:List Nat}{P:List (List Nat)}(h:Parts adj ns P)(o:NOk ns):∀q∈P,NOk q:=λq hq=>by
 have nd:P.flatten.Nodup:=h.perm.nodup_iff.mpr (o.up.imp λq=>Nat.ne_of_lt q);have ndq:q.Nodup:=nd.sublist (List.sublist_flatten_of_mem hq);refine⟨?_,λz hz=>o.sub z (h.perm.mem_iff.mp (List.mem_flatten.mpr ⟨q,hq,hz⟩)),h.ne q hq⟩;exact(List.pairwise_and_iff.mpr ⟨h.up q hq,ndq⟩).imp λ⟨a,b⟩=>Nat.lt_of_le_of_ne a b
section
variable{f:Str->Option Int}
theorem CG(g:Good f):∀(n:Nat) (pile:List Job) (hs res:C5),(∀j∈pile,NOk j.2)->Bu f n pile hs=some res->∃L:List (Job×C5),L.map (·.1)=pile/\(∀p∈L,PJ f p.1 p.2)/\res=hs++(L.map (·.2)).reverse.flatten
 |0=>λpile hs res _ h=>by
  cases pile with
  |nil=>cases h;exact⟨[],rfl,(λp m=>nomatch m),by simp⟩
  |cons j r=>cases h
 |n+1=>λpile hs res ok h=>by
  cases e:pile.reverse with
  |nil=>
   have:pile=[]:=by simpa using e
   subst this;exact CG g n [] hs res ok h
  |cons j r=>
   have e:pile=r.reverse++[j]:=by have:=congrArg List.reverse e;simpa using this
   generalize r.reverse=r' at e;subst e;obtain⟨ls,ns⟩:=j;have oj:NOk ns:=ok (ls,ns) (by simp);have or':∀j∈r',NOk j.2:=λj m=>ok j (by simp [m])
   match ns,oj,h with
   |[],oj,_=>exact absurd rfl oj.ne
   |[x],oj,h=>
    rw [EA] at h;obtain⟨L,h1,h2,h3⟩:=CG g n r' _ res or' h;refine⟨L++[((ls,[x]),[(x,ls)])],by simp [h1],λp m=>?_,by refine rwl h3 ?_;simp⟩
    rcases mA m with m|m
    ·exact h2 p m
    ·refine rwl (mS m) ?_;exact Ta ls x
   |c::d::ns,oj,h=>
    rw [D6] at h;have⟨i,P,hc⟩:∃i P,CI f (c::d::ns)=[(i,P)]:=by
     match q:CI f (c::d::ns),h with
     |[],h=>cases h
     |[(i,P)],h=>exact⟨i,P,rfl⟩
     |_::_::_,h=>cases h
    rw [hc] at h;have h:Bu f n (r'++P.map λpart=>((AZ i,c)::ls,part)) hs=some res:=h;obtain⟨eP,hP2⟩:=Rk hc;have PS:=CC (As f i) oj.up;rw [←eP] at PS;have okP:=PS.ok oj;obtain⟨L,h1,h2,h3⟩:=CG g n _ hs res (λj m=>by
     rcases mA m with m|m
     ·exact or' j m
     ·obtain⟨q,hq,rfl⟩:=mM m;exact okP q hq) h
    obtain⟨L1,L2,rfl,e1,e2⟩:=List.map_eq_append_iff.mp h1;refine⟨L1++[((ls,c::d::ns),(L2.map (·.2)).reverse.flatten)],by simp [e1],λp m=>?_,by refine rwl h3 ?_;simp⟩
    rcases mA m with m|m
    ·exact h2 p (List.mem_append_left _ m)
    ·refine rwl (mS m) ?_;exact SL g oj.up oj.sub PS hP2 e2 λp m=>h2 p (List.mem_append_right _ m)
noncomputable def HL(pile:List Job):Nat:=(pile.map λj=>2*j.2.length-1).sum
theorem Kw(a b:List Job):HL (a++b)=HL a+HL b:=by unfold HL;simp
theorem Hm(lab:List Lab):∀(P:List (List Nat)),(∀q∈P,q≠[])->HL (P.map λpart=>(lab,part))+P.length=2*P.flatten.length
 |[]=>λ_=>rfl
 |q::P=>λh=>by
  have ih:=Hm lab P λq m=>h q (.tail _ m)
  have hq:=List.length_pos_iff.mpr (h q (.head _));unfold HL at*;simp only [List.map_cons,List.sum_cons,List.length_cons,List.flatten_cons,List.length_append] at ih⊢;lia
theorem Hr(g:Good f):∀(n:Nat) (pile:List Job) (hs:C5),(∀j∈pile,NOk j.2/\NoBad (vAt f) j.2)->HL pile<=n->(Bu f n pile hs).isSome=true
 |0=>λpile hs ok h=>by
  cases pile with
  |nil=>rfl
  |cons j r=>
   exfalso;have:=List.length_pos_iff.mpr (ok j (.head _)).1.ne;unfold HL at h;simp only [List.map_cons,List.sum_cons] at h;omega
 |n+1=>λpile hs ok h=>by
  cases e:pile.reverse with
  |nil=>
   have:pile=[]:=by simpa using e
   subst this;rw [C9];rfl
  |cons j r=>
   have e:pile=r.reverse++[j]:=by have:=congrArg List.reverse e;simpa using this
   generalize r.reverse=r' at e;subst e;obtain⟨ls,ns⟩:=j;have oj:=ok (ls,ns) (by simp);have or':∀j∈r',NOk j.2/\NoBad (vAt f) j.2:=λj m=>ok j (by simp [m])
   rw [Kw] at h;have e1:HL [(ls,ns)]=2*ns.length-1:=by unfold HL;simp
   rw [e1] at h
   match ns,oj,h with
   |[],oj,_=>exact absurd rfl oj.1.ne
   |[x],oj,h=>
    rw [EA];exact Hr g n r' _ or' (by simp at h;omega)
   |c::d::ns,oj,h=>
    rw [D6];obtain⟨i,_,hc,h2⟩:=g.cut oj.1.up oj.1.sub (by simp) oj.2;refine rwl hc ?_;have PS:=CC (As f i) oj.1.up;generalize partsP (As f i) (c::d::ns)=P at*;have okP:=PS.ok oj.1;refine Hr g n (r'++P.map λpart=>((AZ i,c)::ls,part)) hs (λj m=>?_) ?_
    ·rcases mA m with m|m
     ·exact or' j m
     ·obtain⟨q,hq,rfl⟩:=mM m;exact⟨okP q hq,oj.2.sub λz hz=>PS.perm.mem_iff.mp (List.mem_flatten.mpr ⟨q,hq,hz⟩)⟩
    ·rw [Kw];have:=Hm ((AZ i,c)::ls) P PS.ne;have hl:=PS.perm.length_eq;simp only [List.length_cons] at hl h;lia
theorem M8{α β:Type}{g:α->β}{L:List α}{b:β}(h:L.map g=[b]):∃p,L=[p]/\g p=b:=by
 cases L with
 |nil=>cases h
 |cons p L=>
  rw [List.map_cons] at h
  injection h with h1 h2
  cases L with
  |nil=>exact⟨p,rfl,h1⟩
  |cons q L=>cases h2
theorem R9:NOk Lt:=⟨by decide,λz m=>m,by decide⟩
theorem LL(g:Good f)(h:NoBad (vAt f) Lt):∃hs,Df f=some hs/\PJ f ([],Lt) hs:=by
 have:=Hr g 9 [([],Lt)] [] (λj m=>by refine rwl (mS m) ?_;exact⟨R9,h⟩) (by decide);obtain⟨hs,e⟩:=Option.isSome_iff_exists.mp this;obtain⟨L,h1,h2,h3⟩:=CG g 9 _ [] hs (λj m=>by refine rwl (mS m) ?_;exact R9) e;refine⟨hs,e,?_⟩;obtain⟨p,rfl,e1⟩:=M8 h1;have:=h2 p (by simp);rw [e1] at this;simp at h3;refine rwl h3 ?_;exact this
theorem LM(g:Good f)(h:¬NoBad (vAt f) Lt):Df f=none:=by
 cases e:Df f with
 |none=>rfl
 |some hs=>
  exfalso;obtain⟨L,h1,h2,h3⟩:=CG g 9 _ [] hs (λj m=>by refine rwl (mS m) ?_;exact R9) e;obtain⟨p,rfl,e1⟩:=M8 h1;have:=h2 p (by simp);rw [e1] at this;exact h this.nb
end
noncomputable def threesL:List (Nat×Nat×Nat):=[(107,108,109),(107,108,110),(107,108,111),(107,109,110),(107,109,111),(107,110,111),(108,109,110),(108,109,111),(108,110,111),(109,110,111)]
noncomputable def rbB(f:Str->Option Int)(t:Nat×Nat×Nat):Bool:= !(vAt f t.1 t.2.1==vAt f t.1 t.2.2)&&(!(vAt f t.1 t.2.1==vAt f t.2.1 t.2.2)&& !(vAt f t.1 t.2.2==vAt f t.2.1 t.2.2))
noncomputable def Ui(x y z:Nat)(t:Nat×Nat×Nat):Bool:=
 (t.1==x&&t.2.1==y&&t.2.2==z)||(t.1==x&&t.2.1==z&&t.2.2==y)||(t.1==y&&t.2.1==x&&t.2.2==z)||(t.1==y&&t.2.1==z&&t.2.2==x)||(t.1==z&&t.2.1==x&&t.2.2==y)||(t.1==z&&t.2.1==y&&t.2.2==x)
theorem KZ:(Lt.all λx=>Lt.all λy=>Lt.all λz=>x==y||x==z||y==z||threesL.any (Ui x y z))=true:=by decide+kernel
theorem Nr:(threesL.all λt=>Lt.contains t.1&&Lt.contains t.2.1&&Lt.contains t.2.2&& !(t.1==t.2.1)&& !(t.1==t.2.2)&& !(t.2.1==t.2.2))=true:=by decide+kernel
theorem Ol:(Lt.all λx=>Lt.all λy=>Lt.all λu=>Lt.all λv=>x==y||x==u||x==v||y==u||y==v||u==v|| !(decide (x<v))||foursL.contains (x,y,u,v))=true:=by decide+kernel
theorem Gx{p:Nat->Bool}{l:List Nat}(h:l.all p=true){x:Nat}(hx:x∈l):p x=true:=List.all_eq_true.mp h x hx
section
variable{f:Str->Option Int}
theorem PV(g:Good f)(h1:threesL.any (rbB f)=false)(h2:foursL.filter (DN f)=[]):NoBad (vAt f) Lt:=by
 refine⟨λx hx y hy z hz xy xz yz=>?_,λx hx y hy u hu v hv xy xu xv yu yv uv e1 e2 e3 e4=>?_⟩
 ·have:=Gx (Gx (Gx KZ hx) hy) hz;simp only [Bool.or_eq_true,beq_iff_eq,xy,xz,yz,false_or,List.any_eq_true] at this;obtain⟨t,ht,hp⟩:=this;have nr:rbB f t=false:=by
   cases q:rbB f t with
   |false=>rfl
   |true=>
    have:threesL.any (rbB f)=true:=List.any_eq_true.mpr ⟨t,ht,q⟩;rw [h1] at this;cases this
  have nr':vAt f t.1 t.2.1=vAt f t.1 t.2.2\/vAt f t.1 t.2.1=vAt f t.2.1 t.2.2\/vAt f t.1 t.2.2=vAt f t.2.1 t.2.2:=by
   unfold rbB at nr;simp only [Bool.and_eq_false_iff,Bool.not_eq_false',beq_iff_eq] at nr;exact nr
  obtain⟨a,b,c⟩:=t;unfold Ui at hp;simp only [Bool.or_eq_true,Bool.and_eq_true,beq_iff_eq] at hp;have s:=g.vsym;dsimp only at nr'
  rcases hp with ((((⟨⟨rfl,rfl⟩,rfl⟩|⟨⟨rfl,rfl⟩,rfl⟩)|⟨⟨rfl,rfl⟩,rfl⟩)|⟨⟨rfl,rfl⟩,rfl⟩)|⟨⟨rfl,rfl⟩,rfl⟩)|⟨⟨rfl,rfl⟩,rfl⟩
  ·exact nr'
  ·refine rwl (s c b) ?_;rcases nr' with h|h|h<;>simp [h]
  ·refine rwl (s b a) ?_;rcases nr' with h|h|h<;>simp [h]
  ·(refine rwl (s c a) ?_;refine rwl (s c b) ?_);rcases nr' with h|h|h<;>simp [h]
  ·(refine rwl (s b a) ?_;refine rwl (s c a) ?_);rcases nr' with h|h|h<;>simp [h]
  ·(refine rwl (s c b) ?_;refine rwl (s c a) ?_;refine rwl (s b a) ?_);rcases nr' with h|h|h<;>simp [h]
 ·have go:∀x∈Lt,∀y∈Lt,∀u∈Lt,∀v∈Lt,x≠y->x≠u->x≠v->y≠u->y≠v->u≠v->x<v->vAt f x y=vAt f y u->vAt f y u=vAt f u v->vAt f y v=vAt f v x->vAt f v x=vAt f x u->vAt f x y=vAt f y v:=by
   intro x hx y hy u hu v hv xy xu xv yu yv uv lt e1 e2 e3 e4;have:=Gx (Gx (Gx (Gx Ol hx) hy) hu) hv;simp only [Bool.or_eq_true,beq_iff_eq,xy,xu,xv,yu,yv,uv,false_or,decide_eq_true lt,Bool.not_true,Bool.false_eq_true] at this;have hm:(x,y,u,v)∈foursL:=by simpa using this
   apply Classical.byContradiction;intro ne;have:(x,y,u,v)∈foursL.filter (DN f):=List.mem_filter.mpr ⟨hm,by
    unfold DN;simp only [Bool.and_eq_true,Bool.not_eq_true',beq_eq_false_iff_ne,beq_iff_eq,and_true];exact⟨ne,⟨e1.symm,(e1.trans e2).symm⟩,e3.symm,(e3.trans e4).symm⟩⟩
   rw [h2] at this
   cases this
  rcases Nat.lt_or_gt_of_ne xv with lt|lt
  ·exact go x hx y hy u hu v hv xy xu xv yu yv uv lt e1 e2 e3 e4
  ·have s:=g.vsym;have:=go v hv u hu y hy x hx uv.symm yv.symm xv.symm yu.symm xu.symm xy.symm lt (by exact rwl (s v u) (rwl (s u y) (rwl e2 rfl))) (by exact rwl (s u y) (rwl (s y x) (rwl e1 rfl))) (by exact rwl (s u x) (rwl (s x v) (rwl e4 rfl))) (by exact rwl (s x v) (rwl (s v y) (rwl e3 rfl)));rw [s v u,s u x] at this;exact rwl e1 (rwl e2 (rwl this (rwr e4 (rwl e3 rfl))))
theorem W6(g:Good f)(h:threesL.any (rbB f)=true\/foursL.filter (DN f)≠[]):¬NoBad (vAt f) Lt:=λnb=>by
 rcases h with h|h
 ·obtain⟨t,ht,hr⟩:=List.any_eq_true.mp h;have:=List.all_eq_true.mp Nr t ht;simp only [Bool.and_eq_true,Bool.not_eq_true',beq_eq_false_iff_ne,List.contains_iff_mem] at this;obtain⟨⟨⟨⟨⟨a,b⟩,c⟩,d⟩,e⟩,k⟩:=this;have:=nb.tri t.1 a t.2.1 b t.2.2 c d e k;unfold rbB at hr;simp only [Bool.and_eq_true,Bool.not_eq_true',beq_eq_false_iff_ne] at hr
  rcases this with z|z|z
  ·exact hr.1 z
  ·exact hr.2.1 z
  ·exact hr.2.2 z
 ·obtain⟨q,hq⟩:=List.exists_mem_of_ne_nil _ h;obtain⟨hm,hb⟩:=mF hq;have ok:=List.all_eq_true.mp K8 q hm;obtain⟨x,y,u,v⟩:=q;unfold Hv neq at ok;simp only [Bool.and_eq_true,Bool.not_eq_true',beq_eq_false_iff_ne,List.contains_iff_mem] at ok;obtain⟨⟨⟨hx,hy⟩,xy⟩,⟨⟨_,hv⟩,yv⟩,⟨⟨_,hu⟩,yu⟩,⟨_,uv⟩,⟨_,vx⟩,_,xu⟩:=ok;unfold DN at hb;simp only [Bool.and_eq_true,Bool.not_eq_true',beq_eq_false_iff_ne,beq_iff_eq,and_true] at hb;obtain⟨ne,⟨b1,b2⟩,b3,b4⟩:=hb;exact ne (nb.four x hx y hy u hu v hv xy xu (Ne.symm vx) yu yv uv b1.symm (b1.trans b2.symm) b3.symm (b3.trans b4.symm))
end
theorem Ir{α:Type}{n:Nat}{lt lt':Nat->Nat->Bool}(h:∀i j,i<n->j<n->lt i j=lt' i j):∀t:KasT α,DE n lt t=DE n lt' t
 |.ret a=>rfl
 |.ask i j k=>by
  unfold DE
  by_cases q:i<n/\j<n
  ·(refine rwl (if_pos q) ?_;refine rwl (if_pos q) ?_;refine rwl (h i j q.1 q.2) ?_)
   exact Ir h (k (lt' i j))
  ·(exact(if_neg q).trans (if_neg q).symm)
noncomputable def posN(x:Nat):List Nat->Nat
 |[]=>0
 |y::r=>bif Nat.beq x y then 0 else posN x r+1
noncomputable def P9(π:List Nat):Bool:=
 decide (((DE 5 (λi j=>Nat.blt (posN (Lt.reverse.getD j 0) π) (posN (Lt.reverse.getD i 0) π)) (kas_sort 5)).bind λp=>(p.toList.mapM λ(i:Nat)=>Lt.reverse[i]?).map List.reverse)=some π)
noncomputable def nd5(a b c d e:Nat):Bool:= !(Nat.beq a b)&& !(Nat.beq a c)&& !(Nat.beq a d)&& !(Nat.beq a e)&& !(Nat.beq b c)&& !(Nat.beq b d)&& !(Nat.beq b e)&& !(Nat.beq c d)&& !(Nat.beq c e)&& !(Nat.beq d e)
theorem S8:(Lt.all λa=>Lt.all λb=>Nat.beq a b||Lt.all λc=>Nat.beq a c||Nat.beq b c||Lt.all λd=>Nat.beq a d||Nat.beq b d||Nat.beq c d||Lt.all λe=> !(nd5 a b c d e)||P9 [a,b,c,d,e])=true:=by decide+kernel
theorem P7{π:List Nat}(h:π.Perm Lt):P9 π=true:=by
 have hl:π.length=5:=h.length_eq;have nd:π.Nodup:=h.nodup_iff.mpr (by decide)
 match π,hl with
 |[a,b,c,d,e],_=>
  have m:∀x∈[a,b,c,d,e],x∈Lt:=λx hx=>h.mem_iff.mp hx
  have n5:nd5 a b c d e=true:=by
   simp only [List.nodup_cons,List.mem_cons,List.not_mem_nil,or_false,not_or] at nd;unfold nd5;simp only [Bool.and_eq_true,Bool.not_eq_true'];have z:∀{x y:Nat},¬x=y->Nat.beq x y=false:=λh=>Bool.eq_false_iff.mpr λq=>h (Nat.eq_of_beq_eq_true q)
   refine lid λgg kk=>?_
   obtain⟨⟨a1,a2,a3,a4⟩,⟨b1,b2,b3⟩,⟨c1,c2⟩,d1,_⟩:=nd;refine kk ?_;exact⟨⟨⟨⟨⟨⟨⟨⟨⟨z a1,z a2⟩,z a3⟩,z a4⟩,z b1⟩,z b2⟩,z b3⟩,z c1⟩,z c2⟩,z d1⟩
  have n5':=n5;unfold nd5 at n5';simp only [Bool.and_eq_true,Bool.not_eq_true'] at n5';refine lid λgg kk=>?_
  obtain⟨⟨⟨⟨⟨⟨⟨⟨⟨a1,a2⟩,a3⟩,a4⟩,b1⟩,b2⟩,b3⟩,c1⟩,c2⟩,d1⟩:=n5';refine kk ?_;have h1:=Gx S8 (m a (by simp));have h2:=Gx h1 (m b (by simp));rw [a1,Bool.false_or] at h2;have h3:=Gx h2 (m c (by simp));rw [a2,b1,Bool.false_or,Bool.false_or] at h3;have h4:=Gx h3 (m d (by simp));rw [a3,b2,c1,Bool.false_or,Bool.false_or,Bool.false_or] at h4;have h5:=Gx h4 (m e (by simp));rw [n5] at h5
  simpa using h5
noncomputable def s1(n:Nat):Str:=S [n]
theorem Ur:∀(a b:List Nat),ltL (a.map s1) (b.map s1)=decide (a<b)
 |[],[]=>rfl
 |[],y::b=>rfl
 |x::a,[]=>rfl
 |x::a,y::b=>by
  have ih:=Ur a b
  (refine rwl List.map_cons ?_;refine rwl List.map_cons ?_)
  unfold ltL;have e:(s1 x==s1 y)=(x==y):=by
   unfold s1;rw [E0];simp
  refine rwl e ?_
  by_cases q:x=y
  ·subst q
   (refine rwl (if_pos (by simp)) ?_;refine rwl ih ?_)
   exact decide_eq_decide.mpr (by rw [List.cons_lt_cons_iff];simp)
  ·refine rwl (if_neg (by simpa using q)) ?_;unfold s1
   (simp only [AB,AB])
   exact decide_eq_decide.mpr (by(simp only [List.cons_lt_cons_iff,List.cons_lt_cons_iff]);simp [q])
theorem Mw:∀{hs:C5},(hs.Pairwise λa b=>Gy b<Gy a)->(hs.map (·.1)).Nodup->∀{a b},a∈hs->b∈hs->decide (Gy a<Gy b)=Nat.blt (posN b.1 (hs.map (·.1))) (posN a.1 (hs.map (·.1)))
 |[]=>λ_ _ a b ha _=>nomatch ha
 |h::hs=>λhp nd a b ha hb=>by
  obtain⟨p1,p2⟩:=List.pairwise_cons.mp hp;rw [List.map_cons] at nd;obtain⟨n1,n2⟩:=List.nodup_cons.mp nd;have ne:∀c∈hs,Nat.beq c.1 h.1=false:=λc hc=>Bool.eq_false_iff.mpr λz=>n1 (by
   have:=Nat.eq_of_beq_eq_true z;refine rwr this ?_;exact List.mem_map_of_mem hc)
  have pos:∀c∈hs,posN c.1 ((h::hs).map (·.1))=posN c.1 (hs.map (·.1))+1:=λc hc=>by
   show(bif Nat.beq c.1 h.1 then 0 else posN c.1 (hs.map (·.1))+1)=_;refine rwl (ne c hc) ?_;rfl
  have pos0:posN h.1 ((h::hs).map (·.1))=0:=by
   refine rwl List.map_cons ?_;unfold posN;rw [Nat.beq_refl];rfl
  have bl:∀{x y:Nat},y<=x->Nat.blt x y=false:=λ{x y} h=>Bool.eq_false_iff.mpr λz=>by rw [Nat.blt_eq] at z;lia
  rcases mC ha with e1|ha1
  ·(refine rwl e1 ?_;refine rwl pos0 ?_;refine rwl (bl (Nat.zero_le _)) ?_)
   rcases mC hb with e2|hb1
   ·refine rwl e2 ?_;exact decide_eq_false (List.lt_irrefl _)
   ·exact decide_eq_false λz=>List.lt_irrefl _ (List.lt_trans z (p1 b hb1))
  ·rcases mC hb with e2|hb1
   ·(refine rwl e2 ?_;refine rwl pos0 ?_;refine rwl (pos a ha1) ?_;refine rwl (decide_eq_true (p1 a ha1)) ?_)
    exact(Nat.blt_eq.mpr (Nat.succ_pos _)).symm
   ·(refine rwl (pos a ha1) ?_;refine rwl (pos b hb1) ?_;refine rwl (Mw p2 n2 ha1 hb1) ?_)
    generalize posN b.1 (hs.map (·.1))=x;generalize posN a.1 (hs.map (·.1))=y
    rcases Nat.lt_or_ge x y with q|q
    ·rfl
    ·rfl
noncomputable def B4(a:Nat×List Lab):List Str:=S [a.1]::a.2.map λl=>S [l.1,l.2]
noncomputable def krS(row:List Str):List Str:=row.reverse.map λl=>Txt.item l (-1)
theorem VS(a:Nat×List Lab):krS (B4 a)=(Gy a).map s1:=by
 unfold krS B4 Gy s1
 (refine rwl List.reverse_cons ?_;refine rwl List.map_append ?_;refine rwl List.map_append ?_;refine rwr List.map_reverse ?_;refine rwl List.map_map ?_;refine rwr List.map_reverse ?_;refine rwl List.map_map ?_)
 congr 1
theorem Ky{α β γ:Type}(g:β->γ)(h:α->Option β):∀l:List α,(l.mapM λi=>(h i).map g)=(l.mapM h).map (List.map g)
 |[]=>rfl
 |a::l=>by
  (refine rwl List.mapM_cons ?_;refine rwl List.mapM_cons ?_;refine rwl (Ky g h l) ?_)
  cases h a with
  |none=>rfl
  |some b=>
   cases l.mapM h with
   |none=>rfl
   |some bs=>rfl
noncomputable def BI(hs:C5)(x:Nat):List Lab:=match hs.find? λa=>a.1==x with
 |some a=>a.2
 |none=>[]
theorem ls_at:∀{hs:C5},(hs.map (·.1)).Nodup->∀{a},a∈hs->BI hs a.1=a.2
 |[]=>λ_ a ha=>nomatch ha
 |h::hs=>λnd a ha=>by
  rw [List.map_cons] at nd;obtain⟨n1,n2⟩:=List.nodup_cons.mp nd;unfold BI
  rcases mC ha with rfl|ha
  ·(refine rwl (List.find?_cons_of_pos (by simp)) ?_;rfl)
  ·have:(h.1==a.1)=false:=beq_eq_false_iff_ne.mpr λz=>n1 (z▸List.mem_map_of_mem ha)
   refine rwl (List.find?_cons_of_neg (by simp [this])) ?_;exact ls_at n2 ha
theorem Sf{f:Str->Option Int}{hs:C5}(h:PJ f ([],Lt) hs):JO krS (Lt.map λx=>B4 (x,BI hs x))=some (hs.map B4):=by
 have nd:(hs.map (·.1)).Nodup:=h.perm.nodup_iff.mpr (by decide);have ent:∀{x},x∈Lt->(x,BI hs x)∈hs:=λ{x} hx=>by
  obtain⟨a,ha,e⟩:=mM (h.perm.mem_iff.mpr hx);have:=ls_at nd ha;rw [e] at this;refine rwl this ?_;obtain⟨y,l⟩:=a;have e:y=x:=e;subst e;exact ha
 have chk:=of_decide_eq_true (P7 h.perm);unfold JO;rw [List.length_map];show(DE 5 _ (kas_sort 5)).bind _=_;rw [Ir (lt':=λi j=>Nat.blt (posN (Lt.reverse.getD j 0) (hs.map (·.1))) (posN (Lt.reverse.getD i 0) (hs.map (·.1)))) (λi j hi hj=>?_)]
 ·have e:∀p:Array Nat,((p.toList.mapM λ(i:Nat)=>(Lt.map λx=>B4 (x,BI hs x)).reverse[i]?).map List.reverse)=((p.toList.mapM λ(i:Nat)=>Lt.reverse[i]?).map List.reverse).map (List.map λx=>B4 (x,BI hs x)):=λp=>by
   have:(λ(i:Nat)=>(Lt.map λx=>B4 (x,BI hs x)).reverse[i]?)=λ(i:Nat)=>(Lt.reverse[i]?).map λx=>B4 (x,BI hs x):=by
    funext i
    (refine rwr List.map_reverse ?_;refine rwl (List.getElem?_map) ?_;rfl)
   rw [this,Ky];generalize (p.toList.mapM λ(i:Nat)=>Lt.reverse[i]?)=o
   cases o with
   |none=>rfl
   |some l=>simp
  have e2:∀o:Option (Array Nat),(o.bind λp=>(p.toList.mapM λ(i:Nat)=>(Lt.map λx=>B4 (x,BI hs x)).reverse[i]?).map List.reverse)=(o.bind λp=>(p.toList.mapM λ(i:Nat)=>Lt.reverse[i]?).map List.reverse).map (List.map λx=>B4 (x,BI hs x)):=λo=>by
   cases o with
   |none=>rfl
   |some p=>exact e p
  (simp only [e2,chk])
  show some ((hs.map (·.1)).map _)=_;refine rwl List.map_map ?_
  congr 1
  refine List.map_congr_left λa ha=>?_
  show B4 (a.1,BI hs a.1)=B4 a
  (refine rwl (ls_at nd ha) ?_;rfl)
 ·have at':∀i,i<5->((Lt.map λx=>B4 (x,BI hs x)).map krS).reverse.getD i []=(Gy (Lt.reverse.getD i 0,BI hs (Lt.reverse.getD i 0))).map s1/\Lt.reverse.getD i 0∈Lt:=λi hi=>by
   (refine rwl List.map_map ?_;refine rwr List.map_reverse ?_)
   have hl:i<Lt.reverse.length:=hi
   (refine rwl (List.getD_eq_getElem?_getD) ?_;refine rwl (List.getElem?_map) ?_;refine rwl (List.getElem?_eq_getElem hl) ?_;refine rwl (List.getD_eq_getElem?_getD) ?_;refine rwl (List.getElem?_eq_getElem hl) ?_)
   exact⟨VS _,List.mem_reverse.mp (List.getElem_mem hl)⟩
  obtain⟨e1,m1⟩:=at' i hi;obtain⟨e2,m2⟩:=at' j hj
  (simp only [e1,e2,Ur])
  exact Mw h.ord nd (ent m1) (ent m2)
section
variable{prog:Program}{w:World}{B:Heap}{cls:Addr}{n:Nat}{G H:Tab}
theorem GOk.put(hB:BaseOk prog B cls)(hG:GOk prog w B cls n G)(h2:2<=n)(hH:GOk prog w B cls (n+1) H){fn:Nat}{ps:List Nat}{body:Ss}{tk1:Bool}(X:FnFact B fn ps tk1 body):
  GOk prog w B cls (n+1) (Dh H fn (A1 G ps body)):=λf ts k q=>by
 obtain⟨a,stmts,scope,g,fa,ok,ck,tk⟩:=X;unfold Dh at q
 cases e:Nat.beq f fn with
 |false=>rw [e] at q;exact hH f ts k q
 |true=>
  rw [e] at q;have:=Nat.eq_of_beq_eq_true e;subst this;obtain⟨hl,hr⟩:=q;obtain⟨o,ho,p⟩:=sSs hB hG h2 body _ tk1 _ _ _ ck hr
  cases o with
  |nxt _=>exact Bad.no ho
  |ret t=>
   refine⟨t,ho,λA C env pos np es σ σ₁ hA hcl hd hk hp pa=>?_⟩;refine Lx hd hk g hA hB.lim fa ok (by rw [List.length_map];exact hl) hp pa λC' env' lk hc' ht=>?_
   rw [←Hb];exact p ⟨A.deeper env',C',env',hA.deeper env',lk,hc'.trans hcl⟩ λz=>by refine rwl ht ?_;exact tk z
end
theorem BiG.add{H:Tab}{fn:Nat}{spec:List T->(T->Prop)->Prop}(h:BiG H)(hn:biN fn=10):BiG (Dh H fn spec):=λf ts k q=>by
 unfold Dh
 cases e:Nat.beq f fn with
 |false=>exact h f ts k q
 |true=>
  have:=Nat.eq_of_beq_eq_true e;subst this;unfold G0 at q;rw [hn] at q;exact Bad.no q
noncomputable def G1:Tab:=
 Dh (Dh (Dh (Dh (Dh (Dh (Dh (Dh (Dh G0 Ks (A1 G0 S5 R2)) Ax (A1 G0 E3 Ds)) AI (A1 G0 Fv Ex)) Bl (A1 G0 D2 CK)) BG (A1 G0 Fu Ew))
  Jd (A1 G0 p_v b_v)) AL (A1 G0 Cy BQ)) A6 (A1 G0 Cw BP)) AX (A1 G0 CT Cs)
noncomputable def G2:Tab:=
 Dh (Dh (Dh (Dh (Dh (Dh G1 Am (A1 G1 BD Bn)) Br (A1 G1 G4 FE)) A7 (A1 G1 BC Bt)) AR (A1 G1 D1 CJ))
  Ap (A1 G1 Bq AQ)) AG (A1 G1 CR Cp)
noncomputable def G3:Tab:=Dh (Dh G2 AW (A1 G2 CS Cq)) A8 (A1 G2 Cz BR)
structure AllFn(B:Heap):Prop where
 ne:FnFact B Ks S5 false R2
 td:FnFact B Ax E3 true Ds
 cc:FnFact B AI Fv false Ex
 co:FnFact B Bl D2 false CK
 hd:FnFact B BG Fu false Ew
 v:FnFact B Jd p_v false b_v
 pa:FnFact B AL Cy false BQ
 rg:FnFact B A6 Cw true BP
 fo:FnFact B AX CT false Cs
 dm:FnFact B Am BD false Bn
 re:FnFact B Br G4 false FE
 hl:FnFact B A7 BC false Bt
 to:FnFact B AR D1 false CJ
 sa:FnFact B Ap Bq false AQ
 pt:FnFact B AG CR true Cp
 ho:FnFact B AW CS false Cq
 cm:FnFact B A8 Cz false BR
section
variable{prog:Program}{w:World}{B:Heap}{cls:Addr}
theorem Yf(hB:BaseOk prog B cls)(hb:BiOk B)(A:AllFn B):GOk prog w B cls 5 G3:=by
 have g0:GOk prog w B cls 2 G0:=UE (n:=0) hB hb;have g1:GOk prog w B cls 3 G1:=.put hB g0 (by decide) (.put hB g0 (by decide) (.put hB g0 (by decide) (.put hB g0 (by decide) (.put hB g0 (by decide) (.put hB g0 (by decide) (.put hB g0 (by decide) (.put hB g0 (by decide) (.put hB g0 (by decide) g0.mono A.ne) A.td) A.cc) A.co) A.hd) A.v) A.pa) A.rg) A.fo;have g2:GOk prog w B cls 4 G2:=.put hB g1 (by decide) (.put hB g1 (by decide) (.put hB g1 (by decide) (.put hB g1 (by decide) (.put hB g1 (by decide) (.put hB g1 (by decide) g1.mono A.dm) A.re) A.hl) A.to) A.sa) A.pt;exact .put hB g2 (by decide) (.put hB g2 (by decide) g2.mono A.ho) A.cm
end
theorem bi1:BiG G1:=.add (.add (.add (.add (.add (.add (.add (.add (.add (λ_ _ _ q=>q) rfl) rfl) rfl) rfl) rfl) rfl) rfl) rfl) rfl
theorem bi2:BiG G2:=.add (.add (.add (.add (.add (.add bi1 rfl) rfl) rfl) rfl) rfl) rfl
theorem bi3:BiG G3:=.add (.add bi2 rfl) rfl
theorem bi0:BiG G0:=λ_ _ _ q=>q
theorem Tr:WG G1:=λx k h1 h2 hk=>Nz (G:=G0) h1 h2 hk
theorem v1:VG G1:=λm1 m2 hue x k hx hk=>Yi (G:=G0) hx hk
theorem XO:RD G1:=λa b k ok hk=>GN (G:=G0) ok hk
theorem WU:R7 G1:=λr g b k ok hk=>OS bi0 ok hk
theorem ne1:NeG G1:=λa b k hk=>WS (G:=G0) hk
theorem co1:CoG G1:=λa b k hk=>JN (G:=G0) hk
theorem cc2:CcG G2:=λa b k hl hk=>N1 bi0 hl hk
theorem pa2:PaG G2:=λnames p f k h1 h2 h3 h4 hk=>OT bi1 ne1 co1 h1 h2 h3 h4 hk
theorem dm2:DmG G2:=λA B k h1 h2 h3 h4 h5 hk=>DG Tr h1 h2 h3 h4 h5 hk
theorem re2:ReG G2:=λx k h1 h2 h3 hk=>JM Tr h1 h2 h3 hk
theorem Y6:RD G3:=λa b k ok hk=>GN (G:=G0) ok hk
theorem Yl:R7 G3:=λr g b k ok hk=>OS bi0 ok hk
theorem dm3:DmG G3:=λA B k h1 h2 h3 h4 h5 hk=>DG Tr h1 h2 h3 h4 h5 hk
theorem re3:ReG G3:=λx k h1 h2 h3 hk=>JM Tr h1 h2 h3 hk
noncomputable abbrev MG:Nat:=7561825
noncomputable abbrev Jh:Nat:=431198270305
noncomputable abbrev CY:Nat:=495740282211
noncomputable abbrev E8:Nat:=28258971087891555
noncomputable abbrev Hl:Nat:=125779970256739
noncomputable abbrev Qg:Nat:=1952672100
noncomputable abbrev BX:Nat:=32481164592114022
noncomputable abbrev AH:Nat:=500153084262
noncomputable abbrev E7:Nat:=431349919590
noncomputable abbrev De:Nat:=2036691559
noncomputable abbrev G5:Nat:=431415715176
noncomputable abbrev LF:Nat:=1953722216
noncomputable abbrev Jg:Nat:=1936029032
noncomputable abbrev D4:Nat:=495606196587
noncomputable abbrev Fy:Nat:=7823724
noncomputable abbrev Jf:Nat:=1701667182
noncomputable abbrev D3:Nat:=491327353455
noncomputable abbrev FR:Nat:=28259048414077296
noncomputable abbrev DI:Nat:=7827314
noncomputable abbrev Je:Nat:=1937207154
noncomputable abbrev Cj:Nat:=128026154263411
noncomputable abbrev Im:Nat:=7173491
noncomputable abbrev Ce:Nat:=435493693556
noncomputable abbrev Ee:Nat:=126879330887796
noncomputable abbrev Hi:Nat:=1936025972
noncomputable abbrev Up:Nat:=7954807
noncomputable abbrev LC:Nat:=1937334647
noncomputable abbrev BE:Nat:=435744761975
noncomputable abbrev n_z:Nat:=122
noncomputable def q1:St:=(.asg (.v CY) (.lst (.cons (.bin .Add (.k (.int 26891)) (.call Im (.cons (.sub (.v Cj) (.slc (.x (.k (.int 0))) .no (.x (.k (.int 3))))) .nil))) (.cons (.bin .Add (.k (.int 11)) (.call Im (.cons (.sub (.v Cj) (.slc (.x (.k (.int 1))) .no (.x (.k (.int 3))))) .nil))) (.cons (.bin .Add (.k (.int 8709)) (.call Im (.cons (.sub (.v Cj) (.slc (.x (.k (.int 2))) .no (.x (.k (.int 3))))) .nil))) .nil)))))
noncomputable def q2:St:=(.asg (.v Ac) (.call AL (.cons (.sub (.v CY) (.k (.int 0))) (.cons (.sub (.v CY) (.k (.int 1))) .nil))))
noncomputable def q3:St:=(.asg (.t [FS,Ak,BE]) (.tup (.cons (.bin .Mod (.sub (.v CY) (.k (.int 2))) (.k (.int 48))) (.cons (.bin .Add (.k (.int 1)) (.bin .Mod (.bin .FloorDiv (.sub (.v CY) (.k (.int 2))) (.k (.int 48))) (.k (.int 3)))) (.cons (.bin .Mod (.bin .FloorDiv (.sub (.v CY) (.k (.int 2))) (.k (.int 144))) (.k (.int 100))) .nil)))))
noncomputable def q4:St:=(.asg (.v CW) (.call Ax (.cons (.bin .Add (.bin .Add (.v BE) (.v BE)) (.bin .Mult (.k (.int 8)) (.v Ak))) (.cons (.k (.int 256)) .nil))))
noncomputable def q5:St:=(.asg (.v CU) (.call Ax (.cons (.bin .Mult (.k (.int 8)) (.v Ak)) (.cons (.call Gi (.cons (.bin .Add (.bin .Add (.v BE) (.v BE)) (.bin .Mult (.k (.int 8)) (.v Ak))) (.cons (.bin .Sub (.bin .Sub (.bin .Sub (.k (.int 256)) (.v BE)) (.v BE)) (.bin .Mult (.k (.int 8)) (.v Ak))) .nil))) .nil))))
noncomputable def q6:St:=(.asgc LC (.tup (.cons (.v FS) (.cons (.bin .Mod (.bin .Add (.v FS) (.k (.int 16))) (.k (.int 48))) (.cons (.bin .Mod (.bin .Add (.v FS) (.k (.int 32))) (.k (.int 48))) .nil)))) (.last (.v CX) .nil (.comp (.tup (.cons (.k (.int 0)) (.cons (.k (.int 16)) (.cons (.k (.int 32)) .nil)))) (.last (.v Hl) .nil (.call Gi (.cons (.call MG (.cons (.bin .Sub (.v CX) (.v Hl)) .nil)) (.cons (.bin .Sub (.k (.int 48)) (.call MG (.cons (.bin .Sub (.v CX) (.v Hl)) .nil))) .nil)))) [CX])) [])
noncomputable def q7:St:=(.asg (.v A2) (.comp (.v LC) (.last (.v DI) .nil (.comp (.v DI) (.last (.v Up) .nil (.bin .Add (.v BE) (.bin .Mult (.v Ak) (.call ME (.cons (.k (.int 0)) (.cons (.call Gi (.cons (.k (.int 8)) (.cons (.bin .Sub (.k (.int 16)) (.v Up)) .nil))) .nil)))))) [Ak,BE])) [Ak,BE]))
noncomputable def q8:St:=(.asg (.v Jg) (.lst (.cons (.call Ax (.cons (.v FS) (.cons (.k (.int 48)) .nil))) (.cons (.call Ax (.cons (.bin .Mod (.bin .Add (.v FS) (.k (.int 16))) (.k (.int 48))) (.cons (.k (.int 48)) .nil))) (.cons (.call Ax (.cons (.bin .Mod (.bin .Add (.v FS) (.k (.int 32))) (.k (.int 48))) (.cons (.k (.int 48)) .nil))) .nil)))))
noncomputable def q9:St:=(.asgc FR (.v Jg) (.last (.v CX) .nil (.comp (.call A7 (.cons (.v CX) (.cons (.v CW) (.cons (.v CU) .nil)))) (.last (.v AV) .nil (.bin .FloorDiv (.call MF (.cons (.bin .Add (.bin .Mult (.bin .Pow (.k (.int 2)) (.k (.int 41))) (.v AV)) (.k (.int 1))) .nil)) (.k (.int 2)))) [])) [CW,CU])
noncomputable def q10:St:=(.asg (.v D4) (.comp (.v A2) (.last (.v CV) .nil (.call AR (.cons (.v CV) (.cons (.v FS) (.cons (.v CW) (.cons (.v CU) .nil)))))) [FS,CW,CU]))
noncomputable def q11:St:=(.if_ (.or (.cons (.cmp .NotEq (.v FR) (.comp (.v A2) (.last (.v CV) .nil (.comp (.v CV) (.last (.v AV) .nil (.bin .Mult (.v AV) (.bin .Pow (.k (.int 2)) (.k (.int 33))))) [])) [])) (.cons (.cmp .NotEq (.v D4) (.lst (.cons (.k (.int 0)) (.cons (.k (.int 1)) (.cons (.k (.int 2)) .nil))))) .nil)))
 (.cons (.ret (.k (.bool false)))
 .nil)
 .nil)
noncomputable def q12:St:=(.asg (.v De) (.call Ax (.cons (.bin .Add (.bin .Add (.sub (.sub (.v A2) (.k (.int 0))) (.k (.int 0))) (.sub (.sub (.v A2) (.k (.int 1))) (.k (.int 0)))) (.sub (.sub (.v A2) (.k (.int 2))) (.k (.int 0)))) (.cons (.k (.int 384)) .nil))))
noncomputable def q13:St:=(.if_ (.or (.cons (.cmp .NotEq (.call A6 (.cons (.v De) (.cons (.v De) (.cons (.v De) .nil)))) (.tup (.cons (.k (.int 0)) (.cons (.v De) (.cons (.k (.int 0)) .nil))))) (.cons (.cmp .NotEq (.call A7 (.cons (.sub (.v Jg) (.k (.int 0))) (.cons (.v De) (.cons (.k (.int 0)) .nil)))) (.tup (.cons (.v De) (.cons (.v De) (.cons (.v De) .nil))))) .nil)))
 (.cons (.ret (.k (.bool false)))
 .nil)
 .nil)
noncomputable def q14:St:=(.asgc Hi (.k (.str ⟨#[107,108,109,110,111]⟩)) (.more (.v n_x) .nil (.k (.str ⟨#[107,108,109,110,111]⟩)) (.last (.v n_y) (.cons (.cmp .Lt (.v n_x) (.v n_y)) .nil) (.bin .Add (.v n_x) (.v n_y)))) [])
noncomputable def q15:St:=(.asgc Ee (.v Hi) (.more (.v Be) .nil (.k (.str ⟨#[107,108,109,110,111]⟩)) (.last (.v n_z) (.cons (.cmp .Lt (.sub (.v Be) (.k (.int 1))) (.v n_z)) .nil) (.lst (.cons (.sub (.v Ac) (.v Be)) (.cons (.sub (.v Ac) (.bin .Add (.sub (.v Be) (.k (.int 0))) (.v n_z))) (.cons (.sub (.v Ac) (.bin .Add (.sub (.v Be) (.k (.int 1))) (.v n_z))) .nil)))))) [Ac])
noncomputable def q16:St:=(.if_ (.cmp .NotEq (.comp (.v Ee) (.last (.v Ce) .nil (.cmp .Eq (.call Ap (.cons (.comp (.v Ce) (.last (.v AM) .nil (.sub (.v A2) (.v AM))) [A2]) .nil)) (.k (.int 0)))) [A2]) (.comp (.v Ee) (.last (.v Ce) .nil (.cmp .Eq (.call CF (.cons (.v Ce) .nil)) (.lst (.cons (.k (.int 0)) (.cons (.k (.int 1)) (.cons (.k (.int 2)) .nil)))))) []))
 (.cons (.ret (.k (.bool false)))
 .nil)
 .nil)
noncomputable def q17:St:=(.asg (.v DH) (.sub (.lst (.cons (.k (.str ⟨#[108,111,99,97,108]⟩)) (.cons (.k (.str ⟨#[120,46,99,111,109]⟩)) .nil))) (.bin .Mod (.bin .FloorDiv (.sub (.v CY) (.k (.int 2))) (.k (.int 14400))) (.k (.int 2)))))
noncomputable def q18:St:=(.asg (.v AH) (.met .join (.k (.str ⟨#[46]⟩)) (.cons (.bin .Add (.bin .Add (.lst (.cons (.k (.str ⟨#[107]⟩)) .nil)) (.comp (.k (.str ⟨#[108,109,110,111]⟩)) (.last (.v n_x) .nil (.bin .Add (.sub (.k (.str ⟨#[114,103,98]⟩)) (.sub (.v Ac) (.bin .Add (.k (.str ⟨#[107]⟩)) (.v n_x)))) (.v n_x))) [Ac])) (.lst (.cons (.v DH) .nil))) .nil)))
noncomputable def q19:St:=(.swp [Ag,BX] (.cons (.sub (.v AH) (.slc (.x (.k (.int 1))) .no .no)) (.cons (.bin .Mod (.k (.str ⟨#[46,37,100]⟩)) (.bin .Add (.k (.int 10)) (.v FS))) .nil)))
noncomputable def q20:St:=(.asg (.v E8) (.lst (.cons (.v AH) (.cons (.bin .Add (.k (.str ⟨#[107,46]⟩)) (.v DH)) (.cons (.bin .Add (.v AH) (.v BX)) (.cons (.bin .Add (.v AH) (.k (.str ⟨#[46]⟩))) (.cons (.v DH) .nil)))))))
noncomputable def q21:St:=(.asgk Jh (.lst (.cons (.e (.tup (.cons (.bin .Add (.v AH) (.k (.str ⟨#[46,122]⟩))) (.cons (.met .upper (.v Ag) .nil) .nil)))) (.cons (.e (.tup (.cons (.met .upper (.v AH) .nil) (.cons (.v AH) .nil)))) (.cons (.e (.tup (.cons (.met .upper (.bin .Add (.v AH) (.v BX)) .nil) (.cons (.bin .Add (.v AH) (.v BX)) .nil)))) (.cons (.e (.tup (.cons (.bin .Add (.k (.str ⟨#[46]⟩)) (.v AH)) (.cons (.v Ag) .nil)))) (.cons (.e (.tup (.cons (.bin .Add (.v AH) (.k (.str ⟨#[46]⟩))) (.cons (.v Ag) .nil)))) (.cons (.e (.tup (.cons (.sub (.v Ag) (.slc (.x (.k (.int 1))) .no .no)) (.cons (.v Ag) .nil)))) (.cons (.e (.tup (.cons (.bin .Add (.k (.str ⟨#[120]⟩)) (.sub (.v Ag) (.slc (.x (.k (.int 1))) .no .no))) (.cons (.v Ag) .nil)))) (.cons (.e (.tup (.cons (.v AH) (.cons (.sub (.v Ag) (.slc (.x (.k (.int 1))) .no .no)) .nil)))) (.cons (.e (.tup (.cons (.v AH) (.cons (.k (.str ⟨#[46]⟩)) .nil)))) (.cons (.e (.tup (.cons (.bin .Add (.v AH) (.v BX)) (.cons (.bin .Add (.v Ag) (.v BX)) .nil)))) (.cons (.tup (.cons (.rep1 (.v AH) ⟨#[46]⟩ ⟨#[46,46]⟩) (.cons (.e (.bin .Add (.k (.str ⟨#[46]⟩)) (.v Ag))) .nil))) .nil)))))))))))))
noncomputable def q22:St:=(.asgc G5 (.v Jh) (.last (.t [A4,Ae]) .nil (.call Am (.cons (.v A4) (.cons (.v Ae) .nil)))) [])
noncomputable def q23:St:=(.if_ (.or (.cons (.cmp .NotEq (.comp (.v G5) (.last (.v A4) .nil (.cmp .Is (.v A4) (.k (.bool true)))) []) (.bin .Add (.bin .Mult (.lst (.cons (.k (.bool true)) .nil)) (.k (.int 3))) (.bin .Mult (.lst (.cons (.k (.bool false)) .nil)) (.k (.int 8))))) (.cons (.cmp .NotEq (.comp (.v G5) (.last (.v A4) .nil (.cmp .Is (.v A4) (.k (.bool false)))) []) (.bin .Add (.bin .Mult (.lst (.cons (.k (.bool false)) .nil)) (.k (.int 3))) (.bin .Mult (.lst (.cons (.k (.bool true)) .nil)) (.k (.int 8))))) .nil)))
 (.cons (.ret (.k (.bool false)))
 .nil)
 .nil)
noncomputable def q24:St:=(.if_ (.cmp .NotEq (.comp (.v E8) (.last (.v LF) .nil (.call Br (.cons (.v LF) .nil))) []) (.bin .Add (.lst (.cons (.v Ag) (.cons (.bin .Add (.k (.str ⟨#[46]⟩)) (.v DH)) .nil))) (.sub (.v E8) (.slc (.x (.k (.int 2))) .no .no))))
 (.cons (.ret (.k (.bool false)))
 .nil)
 .nil)
noncomputable def q25:St:=(.asg (.v E7) (.call AW (.cons (.dic (.v Ac) (.last (.v Be) .nil (.tup (.cons (.v Be) (.cons (.sub (.v D4) (.sub (.v Ac) (.v Be))) .nil)))) [D4,Ac]) (.cons (.v DH) .nil))))
noncomputable def q26:St:=(.if_ (.or (.cons (.cmp .In (.lst (.cons (.k (.int 0)) (.cons (.k (.int 1)) (.cons (.k (.int 2)) .nil)))) (.comp (.v Ee) (.last (.v Ce) .nil (.call CF (.cons (.v Ce) .nil))) [])) (.cons (.cmp .NotEq (.call AX (.cons (.v Ac) .nil)) (.lst .nil)) .nil)))
 (.cons (.ret (.cmp .Is (.v E7) (.k .none)))
 .nil)
 .nil)
noncomputable def q27:St:=(.if_ (.cmp .Is (.v E7) (.k .none))
 (.cons (.ret (.k (.bool false)))
 .nil)
 .nil)
noncomputable def q28:St:=(.asg (.v B3) (.call Qg (.cons (.v E7) .nil)))
noncomputable def q29:St:=(.asgc Je (.k (.str ⟨#[107,108,109,110,111]⟩)) (.last (.v Jf) .nil (.met .split (.sub (.sub (.v B3) (.v Jf)) (.slc .no (.x (.bin .Sub (.un .USub (.call BU (.cons (.v DH) .nil))) (.k (.int 1)))) .no)) (.cons (.k (.str ⟨#[46]⟩)) .nil))) [B3,DH])
noncomputable def q31:St:=(.if_ (.cmp .NotEq (.comp (.v E7) (.last (.t [Jf,LF]) .nil (.v Jf)) []) (.comp (.v D3) (.last (.v DI) .nil (.sub (.v DI) (.k (.int 0)))) []))
 (.cons (.ret (.k (.bool false)))
 .nil)
 .nil)
noncomputable def q32:St:=(.ret (.cmp .Eq (.comp (.v Hi) (.last (.v Be) .nil (.call A8 (.cons (.sub (.v B3) (.sub (.v Be) (.k (.int 0)))) (.cons (.sub (.v B3) (.sub (.v Be) (.k (.int 1)))) .nil)))) [B3]) (.comp (.v Hi) (.last (.v Be) .nil (.sub (.k (.str ⟨#[114,103,98]⟩)) (.sub (.v Ac) (.v Be)))) [Ac])))
noncomputable def FZ:Ss:=(.cons q1 (.cons q2 (.cons q3 (.cons q4 (.cons q5 (.cons q6 (.cons q7 (.cons q8 (.cons q9 (.cons q10 (.cons q11 (.cons q12 (.cons q13 (.cons q14 (.cons q15 (.cons q16 (.cons q17 (.cons q18 (.cons q19 (.cons q20 (.cons q21 (.cons q22 (.cons q23 (.cons q24 (.cons q25 (.cons q26 (.cons q27 (.cons q28 (.cons q29 .nil)))))))))))))))))))))))))))))
noncomputable def HC:Ss:=(.cons q31 (.cons q32 .nil))
structure LawG(G:Tab):Prop where
 bi:BiG G
 div:RD G
 rgb:R7 G
 dm:DmG G
 re:ReG G
 pa:∀(c ch:Int) (k:T->Prop),(∀f,Good f->k (.dI f))->G AL [.int c,.int ch] k
 hls:∀(h l s:UInt64) (k:T->Prop),k (Of h l s)->G A7 [.fn h,.fn l,.fn s] k
 hls0:∀(h l:UInt64) (k:T->Prop),k (.tup [.fn l,.fn l,.fn l])->G A7 [.fn h,.fn l,.int 0] k
 told:∀(a b c at_ i:Int) (h l s level share:UInt64) (k:T->Prop),B8 a 128=true->B8 b 128=true->B8 c 128=true->CP (maxF (divP a 128) (divP b 128) (divP c 128)) (minF (divP a 128) (divP b 128) (divP c 128))=true->
  Fo (divP a 128) (divP b 128) (divP c 128)=.tup [.flt h,.fn l,.flt s]->Float64.isNaN h=false->(Float64.cmpInt h 0==some .lt)=false->(Float64.cmpInt h 1==some .gt||Float64.cmpInt h 1==some .eq)=false->feq l level=true->feq s share=true->
  intF (Ha h)=some i->((i.fdiv 2-at_*1073741824).fmod 17179869184==0)=true->at_.natAbs<2^63->k (.int (((i.fdiv 2-at_*1073741824).fdiv 17179869184).fmod 3))->G AR [.list [.int a,.int b,.int c],.int at_,.fn level,.fn share] k
 sat:∀(a1 a2 a3 b1 b2 b3 c1 c2 c3:Int) (h l s:UInt64) (k:T->Prop),B8 (a1+b1+c1) 384=true->B8 (a2+b2+c2) 384=true->B8 (a3+b3+c3) 384=true->
  CP (maxF (divP (a1+b1+c1) 384) (divP (a2+b2+c2) 384) (divP (a3+b3+c3) 384)) (minF (divP (a1+b1+c1) 384) (divP (a2+b2+c2) 384) (divP (a3+b3+c3) 384))=true->
  Fo (divP (a1+b1+c1) 384) (divP (a2+b2+c2) 384) (divP (a3+b3+c3) 384)=.tup [.flt h,.fn l,.flt s]->k (.flt s)->G Ap [.list [.list [.int a1,.int a2,.int a3],.list [.int b1,.int b2,.int b3],.list [.int c1,.int c2,.int c3]]] k
 hosts:∀(f:Str->Option Int) (top:List Nat) (k:T->Prop),(∀a∈Lt,∀b∈Lt,a≠b->(f (pr a b)).isSome=true)->top.length<=100->k (match Df f with|some hs=>.list (hs.map (B2 top))|none=>.none)->G AW [.dI f,.str (S top)] k
 fours:∀(f:Str->Option Int) (k:T->Prop),(∀a∈Lt,∀b∈Lt,a≠b->(f (pr a b)).isSome=true)->k (.list ((foursL.filter (DN f)).map J3))->G AX [.dI f] k
 common:∀(x y:Nat) (l:Lab) (ls ls':List Lab) (top:List Nat) (p:Nat) (k:T->Prop),TopOk top->EE x=true->EE y=true->(l::ls).all AD=true->ls'.all AD=true->(l::ls).length<=5->ls'.length<=100->BN (l::ls) ls'=some p->k (.str (S [p]))->
  G A8 [.str (S (Au x (l::ls) top)),.str (S (Au y ls' top))] k
theorem Xr:LawG G3 where
 bi:=bi3
 div:=Y6
 rgb:=Yl
 dm:=dm3
 re:=re3
 pa:=λc ch k h=>Ny (G:=G0) h
 hls:=λh l s k hk=>Vb v1 hk
 hls0:=λh l k hk=>Se (G:=G1) hk
 told:=λa b c at_ i h l s level share k h1 h2 h3 h4 h5 h6 h7 h8 h9 h10 h11 h12 h13 hk=>Sd bi1 XO WU h1 h2 h3 h4 h5 h6 h7 h8 h9 h10 h11 h12 h13 hk
 sat:=λa1 a2 a3 b1 b2 b3 c1 c2 c3 h l s k h1 h2 h3 h4 h5 hk=>Va bi1 XO WU h1 h2 h3 h4 h5 hk
 hosts:=λf top k h1 h2 hk=>OU bi2 cc2 pa2 h1 h2 hk
 fours:=λf k h hk=>OV (G:=G0) h hk
 common:=λx y l ls ls' top p k h1 h2 h3 h4 h5 h6 h7 h8 hk=>N4 bi2 dm2 re2 h1 h2 h3 h4 h5 h6 h7 h8 hk
theorem Pm{ns:List Int}(lo hi st:Option Int):∃ms:List Int,Ie (ns.map T.int) lo hi st=ms.map T.int:=by
 unfold Ie;generalize sliceRange _ _ _=l;refine⟨l.filterMap (ns[·]?),?_⟩;refine rwl List.map_filterMap ?_;refine congrArg (λg=>l.filterMap g) ?_
 funext i
 (exact(List.getElem?_map))
theorem Ho(ms:List Int):Iu (ms.map T.int)=some ms:=Kx (f:=T.int?) (g:=T.int) (λ_=>rfl) ms
noncomputable abbrev vs:List Nat:=[Cj,CY,Ac,FS,Ak,BE,CW,CU,LC,A2,Jg,FR,D4,De,Hi,Ee,DH,AH,BX,Ag,E8,Jh,G5,E7,B3,Je,D3]
noncomputable abbrev cel(a b c:Int):T:=.list [.int a,.int b,.int c]
theorem r1{G:Tab}(X:LawG G){ns:List Int}(hl:ns.length<=63){Q:Ou->Prop}(h:∀a b c,Q (.nxt (params vs [.list (ns.map .int),cel a b c]))):Ay G q1 (params vs [.list (ns.map .int)]) Q:=by
 obtain⟨m0,e0⟩:=Pm (ns:=ns) (some 0) none (some 3);obtain⟨m1,e1⟩:=Pm (ns:=ns) (some 1) none (some 3);obtain⟨m2,e2⟩:=Pm (ns:=ns) (some 2) none (some 3);have hc:(some (3:Int)≠some 0/\(ns.map T.int).length<=4096):=⟨by decide,by rw [List.length_map];lia⟩;refine Bg hc ?_;refine Ab (congrArg (λl=>some (T.list l)) e0) ?_;refine X.bi Im _ _ ?_;refine Ab (Ho m0) ?_;refine Bg hc ?_;refine Ab (congrArg (λl=>some (T.list l)) e1) ?_;refine X.bi Im _ _ ?_;refine Ab (Ho m1) ?_;refine Bg hc ?_;refine Ab (congrArg (λl=>some (T.list l)) e2) ?_;refine X.bi Im _ _ ?_;refine Ab (Ho m2) ?_;refine And.intro (show 3<=1000 by decide) ?_;exact h _ _ _
theorem Az{G:Tab}{α:Type}{tg:Tg}{elt:X}{f g:α->T}{p:α->NS}{ν:NS}{l:List α}{ts:List T}{k:List T->NS->Prop}(e:ts=l.map f)
  (h0:∀a (Q:NS->Prop),Q (p a)->BB tg (f a) ν Q) (h1:∀a b (Q:NS->Prop),Q (p b)->BB tg (f b) (p a) Q)
  (h:∀a∈l,∀Q:T->NS->Prop,Q (g a) (p a)->AC G elt (p a) Q) (hk:∀ν,k (l.map g) ν):Eh (λt ν Q=>Gv G (.last tg .nil elt) t ν Q) ts ν k:=by
 subst e
 induction l generalizing ν k with
 |nil=>exact hk ν
 |cons a l ih=>exact h0 a _ (h a (.head _) _ (ih (h1 a) (λb m=>h b (.tail _ m)) λν=>hk ν))
noncomputable def XZ:List (Nat×Nat)->Prop->Prop
 |[],P=>P
 |p::r,P=>p.1<=p.2/\XZ r P
theorem big{A P:Prop}(l:List (Nat×Nat))(e:A=XZ l P)(c:l.all (λp=>Nat.ble p.1 p.2)=true)(h:P):A:=by
 refine rwl e ?_;clear e
 induction l with
 |nil=>exact h
 |cons p l ih=>exact⟨Nat.le_of_ble_eq_true (y1 c),ih (y2 c)⟩
noncomputable def keysL:List (Nat×Nat):=Lt.flatMap λa=>(Lt.filter λb=> !Nat.beq a b).map λb=>(a,b)
noncomputable def isK(s:Str):Bool:=keysL.any λp=>decide (pr p.1 p.2=s)
noncomputable def WP(v:Str->Int)(s:Str):Option Int:=bif isK s then some (v s) else none
theorem Td:∀p∈keysL,p.1∈Lt/\p.2∈Lt/\p.1≠p.2:=by decide+kernel
theorem Vs:∀a∈Lt,∀b∈Lt,a≠b->isK (pr a b)=true:=by decide+kernel
theorem QC{f:Str->Option Int}(g:Good f):∃v,f=WP v:=by
 refine⟨λs=>(f s).getD 0,funext λs=>?_⟩;unfold WP
 cases q:f s with
 |none=>
  cases k:isK s with
  |false=>rfl
  |true=>
   obtain⟨p,m,e⟩:=List.any_eq_true.mp k;obtain⟨h1,h2,h3⟩:=Td p m;have:=(g.dom s).mpr ⟨_,h1,_,h2,h3,(of_decide_eq_true e).symm⟩;rw [q] at this;cases this
 |some v=>
  obtain⟨a,ha,b,hb,ne,rfl⟩:=(g.dom s).mp (by rw [q];rfl);show some v=bif _ then some ((f (pr a b)).getD 0) else none
  rw [Vs a ha b hb ne,q];rfl
theorem G9{a b X:Nat}(hb:b≠0)(f:F (divP (a:Int) (b:Int)) X):B8 (a:Int) (b:Int)=true:=by
 unfold B8;refine lid λgg kk=>?_
 obtain⟨m,e,dx,_⟩:=f.dec;refine kk ?_;have:Float64.isInf (divP (a:Int) (b:Int))=false:=by unfold Float64.isInf;(refine rwl dx ?_;rfl)
 unfold divP at this;refine rwl this ?_;have:((b:Int)==0)=false:=by simpa using hb
 refine rwl this ?_;rfl
section
variable{G:Tab}(X:LawG G){s p:T}{a b c:Int}{h z w:Nat}{Q:Ou->Prop}
include X
theorem r2(h:∀f,Good f->Q (.nxt (params vs [s,cel a b c,.dI f]))):Ay G q2 (params vs [s,cel a b c]) Q:=by
 exact X.pa _ _ _ h
theorem r3(e1:c.fmod 48=h)(e2:1+(c.fdiv 48).fmod 3=z)(e3:(c.fdiv 144).fmod 100=w)(hQ:Q (.nxt (params vs [s,cel a b c,p,.int h,.int z,.int w]))):Ay G q3 (params vs [s,cel a b c,p]) Q:=by
 rw [←e1,←e2,←e3] at hQ;refine And.intro (show 3<=1000 by decide) ?_;exact hQ
theorem r4(z1:1<=z)(z3:z<=3)(hw:w<100)(hQ:Q (.nxt (params vs [s,cel a b c,p,.int h,.int z,.int w,.fn (levF z w)]))):Ay G q4 (params vs [s,cel a b c,p,.int h,.int z,.int w]) Q:=by
 have Y:=Kz z1 z3 hw;have e:(w:Int)+w+8*z=((2*w+8*z:Nat):Int):=by(simp+arith)
 have ok:=G9 (by decide) Y.fL;unfold levF at hQ;rw [←e] at ok hQ;exact X.div _ _ _ ok hQ
theorem r5{l:UInt64}(z1:1<=z)(z3:z<=3)(hw:w<100)(hQ:Q (.nxt (params vs [s,cel a b c,p,.int h,.int z,.int w,.fn l,.fn (shaF z w)]))):Ay G q5 (params vs [s,cel a b c,p,.int h,.int z,.int w,.fn l]) Q:=by
 have Y:=Kz z1 z3 hw;have e0:(8:Int)*z=((8*z:Nat):Int):=by rfl
 have e:(if(256:Int)-w-w-8*z<w+w+8*z then(256:Int)-w-w-8*z else w+w+8*z)=((if 2*w+8*z<=128 then 2*w+8*z else 256-(2*w+8*z):Nat):Int):=by
  split<;>split<;>lia
 have ok:=G9 (by split<;>lia) Y.fS;unfold shaF at hQ;rw [←e0,←e] at ok hQ;refine X.bi Gi _ _ ?_;exact X.div _ _ _ ok hQ
end
noncomputable def dI(k c:Int):Int:=if k-c<0 then-(k-c) else k-c
noncomputable def wI(k c:Int):Int:=if 48-dI k c<dI k c then 48-dI k c else dI k c
noncomputable def pI(y:Int):Int:=if(if 16-y<8 then 16-y else 8)>0 then(if 16-y<8 then 16-y else 8) else 0
theorem V1:(Bp 48 λh=>decide (pI (wI h 0)=prtN h 0/\pI (wI h 16)=prtN h 1/\pI (wI h 32)=prtN h 2))=true:=by decide+kernel
noncomputable def wr(k:Int):T:=.list [.int (wI k 0),.int (wI k 16),.int (wI k 32)]
theorem hj1(h:Nat):((h:Int)+16).fmod 48=hj h 1:=by
 refine rwl (Int.fmod_eq_emod_of_nonneg _ (by decide)) ?_;unfold hj;rfl
theorem hj2(h:Nat):((h:Int)+32).fmod 48=hj h 2:=by
 refine rwl (Int.fmod_eq_emod_of_nonneg _ (by decide)) ?_;unfold hj;rfl
theorem DL(h j:Nat):hj h j<48:=Nat.mod_lt _ (by decide)
noncomputable def lt1(w z k:Nat)(j:Nat):Int:=((w+z*prtN k j:Nat):Int)
noncomputable def ltR(w z k:Nat):T:=.list [.int (lt1 w z k 0),.int (lt1 w z k 1),.int (lt1 w z k 2)]
theorem Qk{w z k:Nat}(hk:k<48):T.list [.int ((w:Int)+z*pI (wI k 0)),.int ((w:Int)+z*pI (wI k 16)),.int ((w:Int)+z*pI (wI k 32))]=ltR w z k:=by
 obtain⟨a,b,c⟩:=of_decide_eq_true (Ai V1 k hk);rw [a,b,c];rfl
theorem h48{h:Nat}(hh:h<48):∀k∈[h,hj h 1,hj h 2],k<48:=by simp [hh,DL]
section
variable{G:Tab}(X:LawG G){s p:T}{a b c:Int}{h z w:Nat}{l m:UInt64}{Q:Ou->Prop}
include X
theorem r6(hh:h<48)(hQ:Q (.nxt (params vs [s,cel a b c,p,.int h,.int z,.int w,.fn l,.fn m,.list [wr h,wr (hj h 1),wr (hj h 2)]]))):Ay G q6 (params vs [s,cel a b c,p,.int h,.int z,.int w,.fn l,.fn m]) Q:=by
 rw [←hj1,←hj2] at hQ;refine And.intro (show 3<=1000 by decide) ?_;refine Az (l:=[(h:Int),((h:Int)+16).fmod 48,((h:Int)+32).fmod 48]) (f:=T.int) (g:=wr) rfl (λ_ _ q=>q) (λ_ _ _ q=>q) (λk _ Q hQ=>?_) λν=>And.intro (show 3<=4000 by decide) hQ
 refine And.intro (show 3<=1000 by decide) ?_;refine Az (l:=[(0:Int),16,32]) (f:=T.int) (g:=λc=>.int (wI k c)) rfl (λ_ _ q=>q) (λ_ _ _ q=>q) (λc _ Q hQ=>?_) λν=>And.intro (show 3<=4000 by decide) hQ
 refine X.bi MG _ _ ?_;refine X.bi MG _ _ ?_;refine X.bi Gi _ _ ?_;exact hQ
theorem r7(hh:h<48)(hz:(z:Int).natAbs<2^63)(hQ:Q (.nxt (params vs [s,cel a b c,p,.int h,.int z,.int w,.fn l,.fn m,.list [wr h,wr (hj h 1),wr (hj h 2)],.list [ltR w z h,ltR w z (hj h 1),ltR w z (hj h 2)]]))):
  Ay G q7 (params vs [s,cel a b c,p,.int h,.int z,.int w,.fn l,.fn m,.list [wr h,wr (hj h 1),wr (hj h 2)]]) Q:=by
 refine Az (l:=[h,hj h 1,hj h 2]) (f:=λk:Nat=>wr k) (g:=ltR w z) rfl (λ_ _ q=>q) (λ_ _ _ q=>q) (λk m Q hQ=>?_) λν=>And.intro (show 3<=4000 by decide) hQ
 refine Az (l:=[wI k 0,wI k 16,wI k 32]) (f:=T.int) (g:=λy=>.int ((w:Int)+z*pI y)) rfl (λ_ _ q=>q) (λ_ _ _ q=>q) (λy _ Q hQ=>?_) λν=>And.intro (show 3<=4000 by decide) (rwl (Qk (h48 hh k m)) hQ)
 refine X.bi Gi _ _ ?_;refine X.bi ME _ _ ?_;refine Bg hz ?_;exact hQ
theorem r8{ws li:T}(hh:h<48)(hQ:Q (.nxt (params vs [s,cel a b c,p,.int h,.int z,.int w,.fn l,.fn m,ws,li,.list [.fn (nF h 48),.fn (nF (hj h 1) 48),.fn (nF (hj h 2) 48)]]))):
  Ay G q8 (params vs [s,cel a b c,p,.int h,.int z,.int w,.fn l,.fn m,ws,li]) Q:=by
 have inc48:∀k:Nat,k<48->B8 (k:Int) ((48:Nat):Int)=true:=λk hk=>by
  have:(Bp 48 λk=>fin (dvN k 48))=true:=by decide+kernel
  exact G9 (by decide) (F.divP (Ai this k hk))
 have o0:=inc48 h hh;have o1:=inc48 _ (DL h 1);have o2:=inc48 _ (DL h 2);unfold nF at hQ;rw [←hj1] at o1 hQ;rw [←hj2] at o2 hQ;refine X.div _ _ _ o0 ?_;refine X.div _ _ _ o1 ?_;refine X.div _ _ _ o2 ?_;refine And.intro (show 3<=1000 by decide) ?_;exact hQ
end
noncomputable def pt1(w z k j:Nat):Int:=lt1 w z k j*8589934592
noncomputable def ptR(w z k:Nat):T:=.list [.int (pt1 w z k 0),.int (pt1 w z k 1),.int (pt1 w z k 2)]
theorem SX(w z k j:Nat):(((w+z*prtN k j)*8589934592:Nat):Int)=pt1 w z k j:=by
 unfold pt1 lt1;simp
section
variable{G:Tab}(X:LawG G){s p:T}{a b c:Int}{h z w:Nat}{l m:UInt64}{Q:Ou->Prop}
include X
theorem r9{ws li:T}(hh:h<48)(z1:1<=z)(z3:z<=3)(hw:w<100)
  (hQ:Q (.nxt (params vs [s,cel a b c,p,.int h,.int z,.int w,.fn (levF z w),.fn (shaF z w),ws,li,.list [.fn (nF h 48),.fn (nF (hj h 1) 48),.fn (nF (hj h 2) 48)],.list [ptR w z h,ptR w z (hj h 1),ptR w z (hj h 2)]]))):
  Ay G q9 (params vs [s,cel a b c,p,.int h,.int z,.int w,.fn (levF z w),.fn (shaF z w),ws,li,.list [.fn (nF h 48),.fn (nF (hj h 1) 48),.fn (nF (hj h 2) 48)]]) Q:=by
 have f1:Float64.isInf (Float64.ofInt 2199023255552)=false:=by decide+kernel
 have f2:Float64.isInf (Float64.ofInt 1)=false:=by decide+kernel
 refine Az (l:=[h,hj h 1,hj h 2]) (f:=λk=>.fn (nF k 48)) (g:=ptR w z) rfl (λ_ _ q=>q) (λ_ _ _ q=>q) (λk m Q hQ=>?_) λν=>And.intro (show 3<=4000 by decide) hQ
 refine P3 (h48 hh k m) z1 z3 hw λv0 v1 v2 e o0 o1 o2=>?_
 generalize levF z w=lv at*;generalize shaF z w=sh at*;refine X.hls _ _ _ _ ?_;refine rwl (show Of (nF k 48) lv sh=_ from e) ?_;have o:∀p∈[(v0,0),(v1,1),(v2,2)],TU w z k p.2 p.1:=by simp [o0,o1,o2]
 refine Az (l:=[(v0,(0:Nat)),(v1,1),(v2,2)]) (f:=λp:UInt64×Nat=>T.flt p.1) (g:=λp:UInt64×Nat=>T.int (pt1 w z k p.2)) rfl (λ_ _ q=>q) (λ_ _ _ q=>q) (λp m Q hQ=>?_) λν=>And.intro (show 3<=4000 by decide) hQ
 obtain⟨i,xa,xb⟩:=o p m;refine Bb f1 ?_;refine Bb f2 ?_;refine X.bi MF _ _ ?_;refine Ab xa ?_;exact show Q (.int (i.fdiv 2)) _ from rwl (congrArg T.int (xb.trans (SX w z k p.2))) hQ
end
noncomputable def Yy(h j:Nat):Bool:=decide ((((hj h j:Int)*1073741824-(h:Int)*1073741824).fmod 17179869184==0)=true/\(((hj h j:Int)*1073741824-(h:Int)*1073741824).fdiv 17179869184).fmod 3=(j:Int))
theorem VT:(Bp 48 λh=>Bp 3 λj=>Yy h j)=true:=by decide+kernel
theorem hj0{h:Nat}(hh:h<48):hj h 0=h:=Nat.mod_eq_of_lt hh
theorem Dc{k j:Nat}(hk:k<48)(hj:j<3):prtN k j<=8:=Nat.sub_le _ _
theorem Ku{n d N:Nat}(hd:d≠0)(h:Gn d N=true)(hn:n<N):B8 (n:Int) (d:Int)=true:=G9 hd (Ji h hn)
theorem B1{z t:Nat}(z3:z<=3)(ht:t<=8):z*t<=24:=Nat.mul_le_mul z3 ht
theorem SQ{xs:List T}{d:PyData}(h:(T.list xs).toPy=some d)(h1:SeqAt.shaped d=true)(h2:d.canLay0=true):BS .NotEq (.list xs) (.list xs)=some false:=by
 have e:eqG (.list xs) (.list xs)=some true:=by
  unfold eqG;refine rwl h ?_;show(if(SeqAt.shaped d&&SeqAt.shaped d)=true then some (PyData.eqv d d) else none)=_
  (refine rwl h1 ?_;refine rwl (SeqAt.eqv_refl _ h2) ?_);rfl
 show(eqG (.list xs) (.list xs)).map _=_;refine rwl e ?_;rfl
theorem Ko{xs:List T}{d:PyData}{k:Bool->Prop}(h:(T.list xs).toPy=some d)(h1:SeqAt.shaped d=true)(h2:d.canLay0=true)(hk:k false):J0 .NotEq (.list xs) (.list xs) k:=
 show W (BS .NotEq (.list xs) (.list xs)) k from Ab (SQ h h1 h2) hk
section
variable{G:Tab}(X:LawG G){s p:T}{a b c:Int}{h z w:Nat}{l m:UInt64}{Q:Ou->Prop}
include X
theorem KY{j:Nat}(hj3:j<3)(hh:h<48)(z1:1<=z)(z3:z<=3)(hw:w<100){k:T->Prop}(hk:k (.int j)):G AR [ltR w z (hj h j),.int h,.fn (levF z w),.fn (shaF z w)] k:=by
 refine lid λgg kk=>?_
 obtain⟨x,m,l,sa,i,ex,em,ok,er,e4,e5,hk',e6,e7⟩:=RN (DL h j) z1 z3 hw;unfold Tm at hk';simp only [Bool.and_eq_true,Bool.not_eq_true'] at hk';obtain⟨⟨⟨k1,k2⟩,k3⟩,_⟩:=hk';refine kk ?_;have kd:=of_decide_eq_true (Ai (Ai VT h hh) j hj3);rw [←e7] at kd;rw [←ex,←em] at ok;have n0:=B1 z3 (Dc (DL h j) (show 0<3 by decide));have n1:=B1 z3 (Dc (DL h j) (show 1<3 by decide));have n2:=B1 z3 (Dc (DL h j) (show 2<3 by decide));refine X.told _ _ _ _ i _ l sa _ _ k (Ku (by decide) Ek (by(refine Nat.lt_of_not_le λh=>?_;lia))) (Ku (by decide) Ek (by(refine Nat.lt_of_not_le λh=>?_;lia))) (Ku (by decide) Ek (by(refine Nat.lt_of_not_le λh=>?_;lia))) ok er k1 k2 k3 e4 e5 e6 kd.1 (by(refine Nat.lt_of_not_le λh=>?_;omega)) ?_;refine rwl kd.2 ?_;exact hk
theorem r10{ws hu pt:T}(hh:h<48)(z1:1<=z)(z3:z<=3)(hw:w<100)
  (hQ:Q (.nxt (params vs [s,cel a b c,p,.int h,.int z,.int w,.fn (levF z w),.fn (shaF z w),ws,.list [ltR w z h,ltR w z (hj h 1),ltR w z (hj h 2)],hu,pt,.list [.int 0,.int 1,.int 2]]))):
  Ay G q10 (params vs [s,cel a b c,p,.int h,.int z,.int w,.fn (levF z w),.fn (shaF z w),ws,.list [ltR w z h,ltR w z (hj h 1),ltR w z (hj h 2)],hu,pt]) Q:=by
 have t0:=λk=>KY X (show 0<3 by decide) hh z1 z3 hw (k:=k)
 rw [hj0 hh] at t0;have t1:=λk=>KY X (show 1<3 by decide) hh z1 z3 hw (k:=k)
 have t2:=λk=>KY X (show 2<3 by decide) hh z1 z3 hw (k:=k)
 refine t0 _ ?_;refine t1 _ ?_;refine t2 _ ?_;refine And.intro (show 3<=4000 by decide) ?_;exact hQ
theorem r11{ws hu:T}(hh:h<48)(z3:z<=3)(hw:w<100)
  (hQ:Q (.nxt (params vs [s,cel a b c,p,.int h,.int z,.int w,.fn l,.fn m,ws,.list [ltR w z h,ltR w z (hj h 1),ltR w z (hj h 2)],hu,.list [ptR w z h,ptR w z (hj h 1),ptR w z (hj h 2)],.list [.int 0,.int 1,.int 2]]))):
  Ay G q11 (params vs [s,cel a b c,p,.int h,.int z,.int w,.fn l,.fn m,ws,.list [ltR w z h,ltR w z (hj h 1),ltR w z (hj h 2)],hu,.list [ptR w z h,ptR w z (hj h 1),ptR w z (hj h 2)],.list [.int 0,.int 1,.int 2]]) Q:=by
 have sm:∀k j,k<48->j<3->(lt1 w z k j).natAbs<2^63:=λk j hk hj=>by
  have:=B1 z3 (Dc hk hj);unfold lt1
  (refine Nat.lt_of_not_le λh=>?_;omega)
 refine Az (l:=[h,hj h 1,hj h 2]) (f:=ltR w z) (g:=ptR w z) rfl (λ_ _ q=>q) (λ_ _ _ q=>q) (λk m Q hQ=>?_) λν=>And.intro (show 3<=4000 by decide) ?_
 ·refine Az (l:=[0,1,2]) (f:=λj:Nat=>T.int (lt1 w z k j)) (g:=λj:Nat=>T.int (pt1 w z k j)) rfl (λ_ _ q=>q) (λ_ _ _ q=>q) (λj mj Q hQ=>?_) λν=>And.intro (show 3<=4000 by decide) hQ
  refine Bg (sm k j (h48 hh k m) (by simp at mj;lia)) ?_;exact hQ
 ·refine Ko (xs:=[h,hj h 1,hj h 2].map (ptR w z)) (d:=.list ([h,hj h 1,hj h 2].map λk=>.list [.int (pt1 w z k 0),.int (pt1 w z k 1),.int (pt1 w z k 2)])) rfl rfl rfl ?_;refine And.intro (show 3<=1000 by decide) ?_;exact hQ
end
theorem G7{g:UInt64}{X:Nat}(f:F g X):eqE (.fn g) (.fn g)=some true:=by
 have h1:=Hx f;unfold feq at h1;refine if_pos ?_;unfold Wm
 (refine rwl ((XQ f).1) ?_;refine rwl h1 ?_)
 simp
theorem JF{xs ys:List T}(hl:xs.length=ys.length)(h:∀j,j<xs.length->EK xs ys j=some true):BS .NotEq (.tup xs) (.tup ys)=some false:=by
 show(eqX _ _).map (!·)=_;have a:(List.range xs.length).all (λj=>(EK xs ys j).isSome)=true:=List.all_eq_true.mpr λj hj=>by refine rwl (h j (List.mem_range.mp hj)) ?_;rfl
 have b:(List.range xs.length).all (λj=>(EK xs ys j).getD false)=true:=List.all_eq_true.mpr λj hj=>by refine rwl (h j (List.mem_range.mp hj)) ?_;rfl
 have e:eqX (.tup xs) (.tup ys)=some true:=by
  show(if _ then _ else _)=_
  (refine rwl (if_pos ⟨hl,a⟩) ?_;refine rwl b ?_;rfl)
 refine rwl e ?_;rfl
theorem lt3{P:Nat->Prop}(h0:P 0)(h1:P 1)(h2:P 2):∀j,j<3->P j:=λj hj=>by
 have:j=0\/j=1\/j=2:=by lia
 rcases this with rfl|rfl|rfl<;>assumption
theorem Mj:eqE (.flt 0) (.int 0)=some true:=by
 show some (Float64.cmpInt 0 0==some .eq)=_;decide+kernel
noncomputable def grN(w z h:Nat):Nat:=(w+z*prtN h 0)+(w+z*prtN (hj h 1) 0)+(w+z*prtN (hj h 2) 0)
theorem QB{w z h:Nat}(hh:h<48)(z3:z<=3)(hw:w<100):grN w z h<373:=by
 have a:=B1 z3 (Dc hh (show 0<3 by decide));have b:=B1 z3 (Dc (DL h 1) (show 0<3 by decide));have c:=B1 z3 (Dc (DL h 2) (show 0<3 by decide));unfold grN
 (refine Nat.lt_of_not_le λh=>?_;lia)
theorem Wc(w z h:Nat):lt1 w z h 0+lt1 w z (hj h 1) 0+lt1 w z (hj h 2) 0=(grN w z h:Int):=by
 unfold grN lt1;rfl
section
variable{G:Tab}(X:LawG G){s p:T}{a b c:Int}{h z w:Nat}{l m:UInt64}{Q:Ou->Prop}
include X
theorem r12{ws hu pt kd:T}(hh:h<48)(z3:z<=3)(hw:w<100)
  (hQ:Q (.nxt (params vs [s,cel a b c,p,.int h,.int z,.int w,.fn l,.fn m,ws,.list [ltR w z h,ltR w z (hj h 1),ltR w z (hj h 2)],hu,pt,kd,.fn (nF (grN w z h) 384)]))):
  Ay G q12 (params vs [s,cel a b c,p,.int h,.int z,.int w,.fn l,.fn m,ws,.list [ltR w z h,ltR w z (hj h 1),ltR w z (hj h 2)],hu,pt,kd]) Q:=by
 have ok:=Ku (d:=384) (by decide) D5 (QB hh z3 hw);unfold nF at hQ;rw [←Wc] at ok hQ;exact X.div _ _ _ ok hQ
theorem r13{ws li pt kd h1 h2:T}{g0:UInt64}{n:Nat}(hn:n<373)
  (hQ:Q (.nxt (params vs [s,cel a b c,p,.int h,.int z,.int w,.fn l,.fn m,ws,li,.list [.fn g0,h1,h2],pt,kd,.fn (nF n 384)]))):
  Ay G q13 (params vs [s,cel a b c,p,.int h,.int z,.int w,.fn l,.fn m,ws,li,.list [.fn g0,h1,h2],pt,kd,.fn (nF n 384)]) Q:=by
 refine lid λgg kk=>?_
 obtain⟨ok,er,e1,e2⟩:=Tt hn;refine kk ?_;have f:=Ji D5 hn;have el:F6 (nF n 384) (nF n 384)=nF n 384:=by
  have g:=Ai QA n hn;unfold Wb at g;simp only [CH,Bool.and_eq_true] at g;refine lid λgg kk=>?_
  obtain⟨⟨g1,g2⟩,g3⟩:=g;refine kk ?_;have:=(f.add f g1).div F2_ g2;rw [Nat.eq_of_beq_eq_true g3] at this;exact this.uniq f
 have c1:=JF (xs:=[.flt 0,.fn (nF n 384),.flt 0]) (ys:=[.int 0,.fn (nF n 384),.int 0]) rfl (lt3 Mj (G7 f) Mj);have c2:=JF (xs:=[.fn (nF n 384),.fn (nF n 384),.fn (nF n 384)]) (ys:=[.fn (nF n 384),.fn (nF n 384),.fn (nF n 384)]) rfl (lt3 (G7 f) (G7 f) (G7 f));rw [el] at er;refine X.rgb _ _ _ _ ok ?_;refine rwl er ?_;refine And.intro (show 3<=1000 by decide) ?_;refine Ab c1 ?_;refine X.hls0 _ _ _ ?_;refine And.intro (show 3<=1000 by decide) ?_;refine Ab c2 ?_;exact hQ
end
noncomputable def Gb:T:=.list (tiesL.map λq=>.str (pr q.1 q.2))
noncomputable def vQ(f:Str->Option Int)(a b:Nat):Nat:=(vAt f a b).toNat
noncomputable def RT(f:Str->Option Int)(t:Nat×Nat×Nat):T:=.list [.int (vAt f t.1 t.2.1),.int (vAt f t.1 t.2.2),.int (vAt f t.2.1 t.2.2)]
noncomputable def OK(f:Str->Option Int):T:=.list (threesL.map (RT f))
noncomputable def rb3(f:Str->Option Int)(t:Nat×Nat×Nat):Bool:=Gq (vQ f t.1 t.2.1) (vQ f t.1 t.2.2) (vQ f t.2.1 t.2.2)
theorem GA{f:Str->Option Int}(g:Good f){a b:Nat}(ha:a∈Lt)(hb:b∈Lt)(ne:a≠b):vAt f a b=vQ f a b/\vQ f a b<3:=by
 have:=g.in3 ha hb ne;unfold vQ;lia
theorem XF{f:Str->Option Int}(g:Good f){a b:Nat}(ha:a∈Lt)(hb:b∈Lt)(ne:a≠b):Bh (.dI f) (.str (pr a b))=some (.int (vAt f a b)):=by
 show(f (pr a b)).map T.int=_;refine rwl (g.at ha hb ne) ?_;rfl
noncomputable def eq3(a b c:Nat):Bool:=decide (eqX (.list ((sortI [(a:Int),(b:Int),(c:Int)]).map T.int)) (.list [.int 0,.int 1,.int 2])=some (Gq a b c))
theorem T8:(Bp 3 λa=>Bp 3 λb=>Bp 3 λc=>eq3 a b c)=true:=by decide+kernel
theorem Wo{a b c:Nat}(ha:a<3)(hb:b<3)(hc:c<3):eqX (.list ((sortI [(a:Int),(b:Int),(c:Int)]).map T.int)) (.list [.int 0,.int 1,.int 2])=some (Gq a b c):=of_decide_eq_true (Ai (Ai (Ai T8 a ha) b hb) c hc)
noncomputable def liT(w z h:Nat):T:=.list [ltR w z h,ltR w z (hj h 1),ltR w z (hj h 2)]
theorem Xo{w z h n:Nat}(hh:h<48)(hn:n<3):Bh (liT w z h) (.int n)=some (ltR w z (hj h n)):=by
 have:n=0\/n=1\/n=2:=by lia
 rcases this with rfl|rfl|rfl
 ·refine rwl (hj0 hh) ?_;rfl
 ·rfl
 ·rfl
theorem Xj{w z h a b c k:Nat}(z3:z<=3)(hw:w<100)(hk:k<3):nS h z w a b c k<373:=by
 have a1:=B1 z3 (Dc (DL h a) hk);have b1:=B1 z3 (Dc (DL h b) hk);have c1:=B1 z3 (Dc (DL h c) hk);unfold nS
 (refine Nat.lt_of_not_le λh=>?_;lia)
section
variable{G:Tab}(X:LawG G){a1 a2 a3 a4 a5 a6 a7 a8 a9 a10 a11 a12 a13 a14 a15:T}{Q:Ou->Prop}
theorem r14(hQ:Q (.nxt (params vs [a1,a2,a3,a4,a5,a6,a7,a8,a9,a10,a11,a12,a13,a14,Gb]))):Ay G q14 (params vs [a1,a2,a3,a4,a5,a6,a7,a8,a9,a10,a11,a12,a13,a14]) Q:=by
 have e:Ay G q14 (params vs [a1,a2,a3,a4,a5,a6,a7,a8,a9,a10,a11,a12,a13,a14]) Q=(10<=4000/\Q (.nxt (params vs [a1,a2,a3,a4,a5,a6,a7,a8,a9,a10,a11,a12,a13,a14,Gb]))):=by kernel_rfl
 refine rwl e ?_;exact⟨by decide,hQ⟩
theorem r15{f:Str->Option Int}(g:Good f)(hQ:Q (.nxt (params vs [a1,a2,.dI f,a4,a5,a6,a7,a8,a9,a10,a11,a12,a13,a14,Gb,OK f]))):Ay G q15 (params vs [a1,a2,.dI f,a4,a5,a6,a7,a8,a9,a10,a11,a12,a13,a14,Gb]) Q:=by
 obtain⟨v,rfl⟩:=QC g;exact big [(3,1000),(3,1000),(3,1000),(3,1000),(3,1000),(3,1000),(3,1000),(3,1000),(3,1000),(3,1000),(10,4000)] (by kernel_rfl) rfl hQ
include X
theorem Yk{w z h a b c:Nat}(hh:h<48)(z1:1<=z)(z3:z<=3)(hw:w<100)(ha:a<3)(hb:b<3)(hc:c<3):
  ∃sa,Float64.isNaN sa=false/\(Float64.cmpInt sa 0==some .eq)=Gq a b c/\∀k:T->Prop,k (.flt sa)->G Ap [.list [ltR w z (hj h a),ltR w z (hj h b),ltR w z (hj h c)]] k:=by
 refine lid λgg kk=>?_
 obtain⟨u,l,sa,ok,er,n,e⟩:=Vd (h:=h) (s:=z) (w:=w) hh z1 z3 hw ha hb hc;refine kk ?_;have d:∀k,k<3->B8 (lt1 w z (hj h a) k+lt1 w z (hj h b) k+lt1 w z (hj h c) k) 384=true:=λk hk=>Ku (by decide) D5 (Xj (a:=a) (b:=b) (c:=c) (h:=h) z3 hw hk)
 exact⟨sa,n,e,λk hk=>X.sat _ _ _ _ _ _ _ _ _ u l sa k (d 0 (by decide)) (d 1 (by decide)) (d 2 (by decide)) ok er hk⟩
omit X in
theorem Rr{xs ys:List T}{v:Bool}{k:Bool->Prop}(e:BS .Eq (.list xs) (.list ys)=some v)(h:k v):J0 .Eq (.list xs) (.list ys) k:=Ab e h
noncomputable def RR(w z h:Nat)(n:Int):T:=ltR w z (hj h n.toNat)
noncomputable def I3(i:Int):Prop:=∃n:Nat,n<3/\i=n
omit X in
theorem Xp{w z h:Nat}(hh:h<48){i:Int}(hi:I3 i):Bh (liT w z h) (.int i)=some (RR w z h i):=by
 obtain⟨n,l,rfl⟩:=hi;exact Xo hh l
noncomputable abbrev Tri(t:Nat×Nat×Nat):Prop:=decide (t.1∈Lt/\t.2.1∈Lt/\t.2.2∈Lt/\t.1≠t.2.1/\t.1≠t.2.2/\t.2.1≠t.2.2)=true
omit X in
theorem Dw:∀t∈threesL,Tri t:=by decide+kernel
omit X in
theorem WM{f:Str->Option Int}(g:Good f){t:Nat×Nat×Nat}(m:t∈threesL){P:Int->Int->Int->Prop}(h:∀a b c,I3 a->I3 b->I3 c->P a b c):P (vAt f t.1 t.2.1) (vAt f t.1 t.2.2) (vAt f t.2.1 t.2.2):=by
 obtain⟨h1,h2,h3,n1,n2,n3⟩:=of_decide_eq_true (Dw t m);exact h _ _ _ ⟨_,(GA g h1 h2 n1).2,(GA g h1 h2 n1).1⟩ ⟨_,(GA g h1 h3 n2).2,(GA g h1 h3 n2).1⟩ ⟨_,(GA g h2 h3 n3).2,(GA g h2 h3 n3).1⟩
noncomputable def d3(a b c:Int):Bool:=Gq a.toNat b.toNat c.toNat
theorem Yj{w z h:Nat}(hh:h<48)(z1:1<=z)(z3:z<=3)(hw:w<100){a b c:Int}(ha:I3 a)(hb:I3 b)(hc:I3 c){k:T->Prop}(hk:∀s,Float64.isNaN s=false->(Float64.cmpInt s 0==some .eq)=d3 a b c->k (.flt s)):G Ap [.list [RR w z h a,RR w z h b,RR w z h c]] k:=by
 obtain⟨a,la,rfl⟩:=ha;obtain⟨b,lb,rfl⟩:=hb;obtain⟨c,lc,rfl⟩:=hc;obtain⟨s0,n0,e0,k0⟩:=Yk X hh z1 z3 hw la lb lc;exact k0 _ (hk s0 n0 e0)
omit X in
theorem XK{a b c:Int}(ha:I3 a)(hb:I3 b)(hc:I3 c):BS .Eq (.list ((sortI [a,b,c]).map T.int)) (.list [.int 0,.int 1,.int 2])=some (d3 a b c):=by
 obtain⟨a,la,rfl⟩:=ha;obtain⟨b,lb,rfl⟩:=hb;obtain⟨c,lc,rfl⟩:=hc;exact Wo la lb lc
theorem r16{w z h:Nat}{f:Str->Option Int}(g:Good f)(hh:h<48)(z1:1<=z)(z3:z<=3)(hw:w<100)(hQ:Q (.nxt (params vs [a1,a2,a3,a4,a5,a6,a7,a8,a9,liT w z h,a11,a12,a13,a14,a15,OK f]))):
  Ay G q16 (params vs [a1,a2,a3,a4,a5,a6,a7,a8,a9,liT w z h,a11,a12,a13,a14,a15,OK f]) Q:=by
 refine Az (l:=threesL) (f:=RT f) (g:=λt=>T.bool (rb3 f t)) rfl (λ_ _ q=>q) (λ_ _ _ q=>q) (λt m Q=>?_) λν=>And.intro (show 10<=4000 by decide) ?_
 ·refine WM g m (P:=λa b c=>Q (.bool (d3 a b c)) [(A2,.fz (liT w z h)),(Ce,.fz (.list [.int a,.int b,.int c]))]->AC G _ [(A2,.fz (liT w z h)),(Ce,.fz (.list [.int a,.int b,.int c]))] Q) λa b c ia ib ic hQ=>?_
  refine Az (l:=[a,b,c]) (f:=T.int) (g:=RR w z h) rfl (λ_ _ q=>q) (λ_ _ _ q=>q) (λn m Q hQ=>Ab (Xp hh ?_) hQ) λν=>And.intro (show 3<=4000 by decide) (Yj X hh z1 z3 hw ia ib ic λs n e=>Bb n (show Q (.bool _) _ from rwl (congrArg T.bool e) hQ))
  simp at m
  rcases m with rfl|rfl|rfl<;>assumption
 ·refine Az (l:=threesL) (f:=RT f) (g:=λt=>T.bool (rb3 f t)) rfl (λ_ _ q=>q) (λ_ _ _ q=>q) (λt m Q=>?_) λν=>And.intro (show 10<=4000 by decide) ?_
  ·refine WM g m (P:=λa b c=>Q (.bool (d3 a b c)) [(Ce,.fz (.list [.int a,.int b,.int c]))]->AC G _ [(Ce,.fz (.list [.int a,.int b,.int c]))] Q) λa b c ia ib ic hQ=>?_
   refine X.bi CF _ _ ?_;refine And.intro (show 3<64 by decide) ?_;refine And.intro (show 3<=1000 by decide) ?_;exact Rr (XK ia ib ic) hQ
  ·refine Ko (xs:=threesL.map λt=>.bool (rb3 f t)) (d:=.list (threesL.map λt=>.bool (rb3 f t))) rfl rfl rfl ?_;exact hQ
end
noncomputable def Tp(top:List Nat):Prop:=top=UQ\/top=UP
theorem Tp.ok{top:List Nat}(T:Tp top):TopOk top:=by rcases T with rfl|rfl;exact RM;exact RJ
theorem UO(n:Int)(h:n=0\/n=1):∃top,Tp top/\Bh (.list [.str ⟨#[108,111,99,97,108]⟩,.str ⟨#[120,46,99,111,109]⟩]) (.int n)=some (.str (S top)):=by
 rcases h with rfl|rfl
 ·exact⟨UQ,.inl rfl,rfl⟩
 ·exact⟨UP,.inr rfl,rfl⟩
noncomputable def rg(f:Str->Option Int)(c:Nat):Nat:=AZ (vAt f 107 c).toNat
noncomputable def fl(p q r s:Nat):List Lab:=[(p,108),(q,109),(r,110),(s,111)]
noncomputable def fL(f:Str->Option Int):List Lab:=fl (rg f 108) (rg f 109) (rg f 110) (rg f 111)
theorem IO(f:Str->Option Int){c:Nat}(h:c∈Lt):AD (rg f c,c)=true:=Qt _ h
theorem XG(f:Str->Option Int):(fL f).all AD=true:=by
 unfold fL fl
 (refine rwl List.all_cons ?_;refine rwl List.all_cons ?_;refine rwl List.all_cons ?_;refine rwl List.all_cons ?_;refine rwl (IO f (by decide)) ?_;refine rwl (IO f (by decide)) ?_;refine rwl (IO f (by decide)) ?_;refine rwl (IO f (by decide)) ?_)
 rfl
theorem WV{f:Str->Option Int}(g:Good f){c:Nat}(h:c∈Lt)(ne:107≠c):Bh (.str ⟨#[114,103,98]⟩) (.int (vAt f 107 c))=some (.str ⟨#[rg f c]⟩):=by
 obtain⟨e,l⟩:=GA g (a:=107) (by decide) h ne;have:=Lm l;refine rwl e ?_;rw [show(vQ f 107 c)=(vAt f 107 c).toNat from rfl] at this⊢;exact this
theorem VV{top:List Nat}(T:Tp top)(p q r s:Nat):Met.run .join ⟨#[46]⟩ [.list [.str ⟨#[107]⟩,.str (⟨#[p]⟩++⟨#[108]⟩),.str (⟨#[q]⟩++⟨#[109]⟩),.str (⟨#[r]⟩++⟨#[110]⟩),.str (⟨#[s]⟩++⟨#[111]⟩),.str (S top)]]=some (.str (S (Au 107 (fl p q r s) top))):=by
 rcases T with rfl|rfl<;>kernel_rfl
theorem WW{top:List Nat}(T:Tp top)(p q r s:Nat):Ba (S (Au 107 (fl p q r s) top)) ⟨#[46]⟩ ⟨#[46,46]⟩=S (107::46::dom (fl p q r s) top):=by
 rcases T with rfl|rfl<;>kernel_rfl
noncomputable def fig(h:Nat):List Nat:=[46,48+(10+h)/10,48+(10+h)%10]
theorem MX:(Bp 48 λh=>decide (Sy (10+(h:Int))=S (fig h))&&(Sre.isDigit (48+(10+h)/10)&&Sre.isDigit (48+(10+h)%10)&&(fig h).all okC))=true:=by decide+kernel
theorem XC(n:Int):n.fmod 2=0\/n.fmod 2=1:=by
 refine rwl (Int.fmod_eq_emod_of_nonneg n (by decide)) ?_
 (exact Int.emod_two_eq n)
theorem WD{xs ys:List T}{k:T->Prop}(h:xs.length+ys.length<=4096)(hk:k (.list (xs++ys))):TM .Add (.list xs) (.list ys) k:=Bg h hk
theorem Cd{x y:Str}{k:T->Prop}(h:x.length+y.length<=4096)(hk:k (.str (x++y))):TM .Add (.str x) (.str y) k:=Bg h hk
section
variable{G:Tab}(X:LawG G){a1 a3 a4 a5 a6 a7 a8 a9 a10 a11 a12 a13 a14 a15 a16:T}{x y c:Int}{Q:Ou->Prop}
theorem r17(hQ:∀top,Tp top->Q (.nxt (params vs [a1,cel x y c,a3,a4,a5,a6,a7,a8,a9,a10,a11,a12,a13,a14,a15,a16,.str (S top)]))):
  Ay G q17 (params vs [a1,cel x y c,a3,a4,a5,a6,a7,a8,a9,a10,a11,a12,a13,a14,a15,a16]) Q:=by
 refine lid λgg kk=>?_
 obtain⟨top,T,e⟩:=UO ((c.fdiv 14400).fmod 2) (XC _);refine kk ?_;refine And.intro (show 2<=1000 by decide) ?_;refine Ab e ?_;exact hQ top T
theorem r18{f:Str->Option Int}(g:Good f){a2:T}{top:List Nat}(T:Tp top)(hQ:Q (.nxt (params vs [a1,a2,.dI f,a4,a5,a6,a7,a8,a9,a10,a11,a12,a13,a14,a15,a16,.str (S top),.str (S (Au 107 (fL f) top))]))):
  Ay G q18 (params vs [a1,a2,.dI f,a4,a5,a6,a7,a8,a9,a10,a11,a12,a13,a14,a15,a16,.str (S top)]) Q:=by
 refine And.intro (show 1<=1000 by decide) ?_;refine Az (l:=[108,109,110,111]) (f:=chT) (g:=λc=>.str (⟨#[rg f c]⟩++⟨#[c]⟩)) rfl (λ_ _ q=>q) (λ_ _ _ q=>q) (λc m Q hQ=>?_) λν=>And.intro (show 4<=4000 by decide) (And.intro (show 1<=1000 by decide) ?_)
 ·obtain⟨hc,ne⟩:=(show∀c∈[108,109,110,111],c∈Lt/\107≠c by decide) c m;refine Ab (XF g (a:=107) (by decide) hc ne) ?_;refine Ab (WV g hc ne) ?_;exact hQ
 refine WD (show 5+1<=4096 by decide) ?_;exact cast (by kernel_rfl) (Ab (k:=λt=>Q (.nxt (params vs [a1,a2,.dI f,a4,a5,a6,a7,a8,a9,a10,a11,a12,a13,a14,a15,a16,.str (S top),t]))) (VV T (rg f 108) (rg f 109) (rg f 110) (rg f 111)) hQ)
theorem r19{a2 a3 a17:T}{x d g:Str}{h:Int}(hx:Bh (.str x) (.slc (some 1) none none)=some (.str d))(hm:DC .Mod (.str ⟨#[46,37,100]⟩) (.int (10+h))=some (.str g))(hQ:Q (.nxt (params vs [a1,a2,a3,.int h,a5,a6,a7,a8,a9,a10,a11,a12,a13,a14,a15,a16,a17,.str x,.str g,.str d]))):
  Ay G q19 (params vs [a1,a2,a3,.int h,a5,a6,a7,a8,a9,a10,a11,a12,a13,a14,a15,a16,a17,.str x]) Q:=by
 refine Ab hx ?_;refine Ab hm ?_;refine And.intro (show 2<=1000 by decide) ?_;refine And.intro (show 2=2 from rfl) ?_;exact hQ
theorem VM{i:Int}(h0:0<=i)(h1:i<10^10):DC .Mod (.str ⟨#[46,37,100]⟩) (.int i)=some (.str (Sy i)):=if_pos ⟨rfl,h0,h1⟩
theorem T3{h:Nat}(hh:h<48):DC .Mod (.str ⟨#[46,37,100]⟩) (.int (10+(h:Int)))=some (.str (S (fig h))):=by
 have fg:=Ai MX h hh;simp only [Bool.and_eq_true,decide_eq_true_eq] at fg;refine rwr fg.1 ?_;exact VM (i:=10+(h:Int)) (by exact Int.zero_le_ofNat (10+h)) (by(refine Int.not_le.mp λh=>?_;lia))
end
noncomputable def H8(t x g:Str):T:=.list [.str x,.str (⟨#[107,46]⟩++t),.str (x++g),.str (x++⟨#[46]⟩),.str t]
noncomputable def tw(x y:Str):T:=.tup [.str x,.str y]
noncomputable def W9(x g d e r:Str):T:=.list [tw (x++⟨#[46,122]⟩) (Txt.upper d),tw (Txt.upper x) x,tw (Txt.upper (x++g)) (x++g),tw (⟨#[46]⟩++x) d,tw (x++⟨#[46]⟩) d,tw e d,tw (⟨#[120]⟩++e) d,tw x e,tw x ⟨#[46]⟩,tw (x++g) (d++g),tw r (⟨#[46]⟩++d)]
section
variable{G:Tab}(X:LawG G){a1 a2 a3 a4 a5 a6 a7 a8 a9 a10 a11 a12 a13 a14 a15 a16:T}{t x g d e r:Str}{Q:Ou->Prop}
theorem r20(ht:t.length<=4000)(hxg:x.length+g.length<=4000)(hQ:Q (.nxt (params vs [a1,a2,a3,a4,a5,a6,a7,a8,a9,a10,a11,a12,a13,a14,a15,a16,.str t,.str x,.str g,.str d,H8 t x g]))):
  Ay G q20 (params vs [a1,a2,a3,a4,a5,a6,a7,a8,a9,a10,a11,a12,a13,a14,a15,a16,.str t,.str x,.str g,.str d]) Q:=by
 have h1:(⟨#[107,46]⟩:Str).length+t.length<=4096:=by show 2+t.length<=4096;lia
 have h2:x.length+g.length<=4096:=by lia
 have h3:x.length+(⟨#[46]⟩:Str).length<=4096:=by show x.length+1<=4096;(refine Nat.lt_of_not_le λh=>?_;lia)
 refine Cd h1 ?_;refine Cd h2 ?_;refine Cd h3 ?_;refine And.intro (show 5<=1000 by decide) ?_;exact hQ
theorem r21{a17 a21:T}(hxg:x.length+g.length<=4000)(hdg:d.length+g.length<=4000)(he:e.length<=4000)(hd:Bh (.str d) (.slc (some 1) none none)=some (.str e))
  (u1:(Txt.upper d).length<=4096) (u2:(Txt.upper x).length<=4096) (u3:(Txt.upper (x++g)).length<=4096) (hr:Ba x ⟨#[46]⟩ ⟨#[46,46]⟩=r) (hrl:r.length<=4096)
  (hQ:Q (.nxt (params vs [a1,a2,a3,a4,a5,a6,a7,a8,a9,a10,a11,a12,a13,a14,a15,a16,a17,.str x,.str g,.str d,a21,W9 x g d e r]))):
  Ay G q21 (params vs [a1,a2,a3,a4,a5,a6,a7,a8,a9,a10,a11,a12,a13,a14,a15,a16,a17,.str x,.str g,.str d,a21]) Q:=by
 subst hr;have h1:x.length+(⟨#[46,122]⟩:Str).length<=4096:=by show x.length+2<=4096;lia
 have h2:x.length+g.length<=4096:=by lia
 have h3:x.length+(⟨#[46]⟩:Str).length<=4096:=by show x.length+1<=4096;(refine Nat.lt_of_not_le λh=>?_;lia)
 have h4:(⟨#[46]⟩:Str).length+x.length<=4096:=by show 1+x.length<=4096;(exact Nat.one_add_le_iff.mpr h3)
 have h5:(⟨#[120]⟩:Str).length+e.length<=4096:=by show 1+e.length<=4096;lia
 have h6:d.length+g.length<=4096:=by lia
 have h7:(⟨#[46]⟩:Str).length+d.length<=4096:=by show 1+d.length<=4096;lia
 have p2:2<=1000:=by decide
 have up:∀{y:Str},(Txt.upper y).length<=4096->Met.run .upper y []=some (.str (Txt.upper y)):=λh=>if_pos h
 refine Cd h1 ?_;refine Ab (up u1) ?_;refine And.intro p2 ?_;refine Ab (up u2) ?_;refine And.intro p2 ?_;refine Cd h2 ?_;refine Ab (up u3) ?_;refine Cd h2 ?_;refine And.intro p2 ?_;refine Cd h4 ?_;refine And.intro p2 ?_;refine Cd h3 ?_;refine And.intro p2 ?_;refine Ab hd ?_;refine And.intro p2 ?_;refine Ab hd ?_;refine Cd h5 ?_;refine And.intro p2 ?_;refine Ab hd ?_;refine And.intro p2 ?_;refine And.intro p2 ?_;refine Cd h2 ?_;refine Cd h6 ?_;refine And.intro p2 ?_;refine And.intro (by decide) ?_;refine And.intro (show x.length<=4096 by(exact Nat.le_of_add_left_le h4)) ?_;refine And.intro (by decide) ?_;refine And.intro hrl ?_;refine Cd h7 ?_;refine And.intro p2 ?_;refine And.intro (show 11<=1000 by decide) ?_;exact hQ
end
theorem G8:∀l:List Str,PyData.eqvAll (l.map .str) (l.map .str)=true
 |[]=>rfl
 |x::l=>by
  show(PyData.eqv (.str x) (.str x)&&PyData.eqvAll (l.map .str) (l.map .str))=true;refine rwl (G8 l) ?_;simp [PyData.eqv]
theorem Rq{xs ys:List T}{v:Bool}{k:Bool->Prop}(e:BS .NotEq (.list xs) (.list ys)=some v)(h:k v):J0 .NotEq (.list xs) (.list ys) k:=Ab e h
theorem Yq{a b c d e:Str}(h:∀x∈[a,b,c,d,e],PyData.canLay0 (.str x)=true):BS .NotEq (.list [.str a,.str b,.str c,.str d,.str e]) (.list [.str a,.str b,.str c,.str d,.str e])=some false:=by
 have sh:SeqAt.shaped (.list ([a,b,c,d,e].map .str))=true:=by
  unfold SeqAt.shaped;have h1:PyData.canLay0 (.list ([a,b,c,d,e].map .str))=true:=by
   have:=h a (by simp);have:=h b (by simp);have:=h c (by simp);have:=h d (by simp);have:=h e (by simp);simp [PyData.canLay0,PyData.canLayAll0, *] at*;simp [*]
  refine rwl h1 ?_;rfl
 have ee:eqX (.list [.str a,.str b,.str c,.str d,.str e]) (.list [.str a,.str b,.str c,.str d,.str e])=if(SeqAt.shaped (.list ([a,b,c,d,e].map .str))&&SeqAt.shaped (.list ([a,b,c,d,e].map .str)))=true then some (PyData.eqv (.list ([a,b,c,d,e].map .str)) (.list ([a,b,c,d,e].map .str))) else none:=rfl
 unfold BS;dsimp only
 (simp only [ee,sh,PyData.eqv,G8])
 rfl
noncomputable def Dm(G:Tab)(A B:Str)(v:Bool):Prop:=∀k:T->Prop,k (.bool v)->G Am [.str A,.str B] k
noncomputable def Rea(G:Tab)(A B:Str):Prop:=∀k:T->Prop,k (.str B)->G Br [.str A] k
noncomputable def VZ:T:=.list [.bool true,.bool true,.bool true,.bool false,.bool false,.bool false,.bool false,.bool false,.bool false,.bool false,.bool false]
section
variable{G:Tab}{a1 a2 a3 a4 a5 a6 a7 a8 a9 a10 a11 a12 a13 a14 a15 a16 a17 a18 a19 a20 a21:T}{t x g d e r:Str}{Q:Ou->Prop}
theorem r22(c1:Dm G (x++⟨#[46,122]⟩) (Txt.upper d) true)(c2:Dm G (Txt.upper x) x true)(c3:Dm G (Txt.upper (x++g)) (x++g) true)(c4:Dm G (⟨#[46]⟩++x) d false)(c5:Dm G (x++⟨#[46]⟩) d false)(c6:Dm G e d false)(c7:Dm G (⟨#[120]⟩++e) d false)(c8:Dm G x e false)(c9:Dm G x ⟨#[46]⟩ false)(c10:Dm G (x++g) (d++g) false)(c11:Dm G r (⟨#[46]⟩++d) false)
  (hQ:Q (.nxt (params vs [a1,a2,a3,a4,a5,a6,a7,a8,a9,a10,a11,a12,a13,a14,a15,a16,a17,a18,a19,a20,a21,W9 x g d e r,VZ]))):
  Ay G q22 (params vs [a1,a2,a3,a4,a5,a6,a7,a8,a9,a10,a11,a12,a13,a14,a15,a16,a17,a18,a19,a20,a21,W9 x g d e r]) Q:=by
 refine c1 _ ?_;refine c2 _ ?_;refine c3 _ ?_;refine c4 _ ?_;refine c5 _ ?_;refine c6 _ ?_;refine c7 _ ?_;refine c8 _ ?_;refine c9 _ ?_;refine c10 _ ?_;refine c11 _ ?_;refine And.intro (show 11<=4000 by decide) ?_;exact hQ
theorem r23{a22:T}(hQ:Q (.nxt (params vs [a1,a2,a3,a4,a5,a6,a7,a8,a9,a10,a11,a12,a13,a14,a15,a16,a17,a18,a19,a20,a21,a22,VZ]))):
  Ay G q23 (params vs [a1,a2,a3,a4,a5,a6,a7,a8,a9,a10,a11,a12,a13,a14,a15,a16,a17,a18,a19,a20,a21,a22,VZ]) Q:=by
 refine And.intro (show 11<=4000 by decide) ?_;refine And.intro (show 1<=1000 by decide) ?_;refine And.intro (show 1<=1000 by decide) ?_;refine And.intro (show 11<=4000 by decide) ?_;refine And.intro (show 1<=1000 by decide) ?_;refine And.intro (show 1<=1000 by decide) ?_;exact hQ
theorem r24{a22 a23:T}(hs:∀z∈[d,⟨#[46]⟩++t,x++g,x++⟨#[46]⟩,t],PyData.canLay0 (.str z)=true)(ht:t.length<=4000)(c1:Rea G x d)(c2:Rea G (⟨#[107,46]⟩++t) (⟨#[46]⟩++t))(c3:Rea G (x++g) (x++g))(c4:Rea G (x++⟨#[46]⟩) (x++⟨#[46]⟩))(c5:Rea G t t)
  (hQ:Q (.nxt (params vs [a1,a2,a3,a4,a5,a6,a7,a8,a9,a10,a11,a12,a13,a14,a15,a16,.str t,.str x,.str g,.str d,H8 t x g,a22,a23]))):
  Ay G q24 (params vs [a1,a2,a3,a4,a5,a6,a7,a8,a9,a10,a11,a12,a13,a14,a15,a16,.str t,.str x,.str g,.str d,H8 t x g,a22,a23]) Q:=by
 have h1:(⟨#[46]⟩:Str).length+t.length<=4096:=by show 1+t.length<=4096;lia
 refine c1 _ ?_;refine c2 _ ?_;refine c3 _ ?_;refine c4 _ ?_;refine c5 _ ?_;refine And.intro (show 5<=4000 by decide) ?_;refine Cd h1 ?_;refine And.intro (show 2<=1000 by decide) ?_;refine cast (?_:(W (BS .NotEq (.list [.str d,.str (⟨#[46]⟩++t),.str (x++g),.str (x++⟨#[46]⟩),.str t]) (.list [.str d,.str (⟨#[46]⟩++t),.str (x++g),.str (x++⟨#[46]⟩),.str t])) λc=>br c (Aq G (Ss.cons (St.ret (Mine.Internal.X.k (Const.bool false))) Ss.nil) (params vs [a1,a2,a3,a4,a5,a6,a7,a8,a9,a10,a11,a12,a13,a14,a15,a16,.str t,.str x,.str g,.str d,H8 t x g,a22,a23]) Q)
  (Q (.nxt (params vs [a1,a2,a3,a4,a5,a6,a7,a8,a9,a10,a11,a12,a13,a14,a15,a16,.str t,.str x,.str g,.str d,H8 t x g,a22,a23]))))=_) ?_
 ·kernel_rfl
 ·exact Ab (Yq hs) hQ
end
theorem Er{G:Tab}(X:LawG G){a b:List Nat}{c:Nat}{A B:Str}{v:Bool}(hA:Txt.lower A=S a)(hB:Txt.lower B=S (c::b))(ha:a.all okC=true)(hb:(c::b).all okC=true)(la:a.length<=4000)(lb:(c::b).length<=4000)(hv:dmB (S a) (S (c::b))=v):Dm G A B v:=λk hk=>by
 subst hv;rw [List.length_cons] at lb;refine X.dm _ _ _ ?_ ?_ ?_ ?_ ?_ ?_
 ·(simp only [hA,Al]);lia
 ·refine rwl hA ?_;exact Kn ha
 ·(simp only [hB,Al,List.length_cons]);(refine Nat.lt_of_not_le λh=>?_;lia)
 ·(simp only [hB,IE,Al]);lia
 ·(simp only [hB,IE]);exact Kn (FG hb)
 ·(refine rwl hA ?_;refine rwl hB ?_);exact hk
theorem Rf(x:Str):dmB x x=true:=by unfold dmB;simp
theorem Rd{a b:Str}(e:(a==b)=false)(h:hdn a=false):dmB a b=false:=by unfold dmB;(refine rwl e ?_;refine rwl h ?_);rfl
theorem U6{a b:Str}(e:(a==b)=false)(h:Txt.rfind a b= -1):dmB a b=false:=by unfold dmB;(refine rwl e ?_;refine rwl h ?_);simp
theorem XN{a b:Str}(e:(a==b)=false)(h:Txt.startswith b ⟨#[46]⟩=false):dmB a b=false:=by unfold dmB;(refine rwl e ?_;refine rwl h ?_);simp
theorem U5{a b:Str}(e:(a==b)=false)(h:hdn (tl b)=false):dmB a b=false:=by unfold dmB;(refine rwl e ?_;refine rwl h ?_);simp
theorem XM{a b:Str}(e:(a==b)=false)(h:hdn a=true)(r:(Txt.rfind a b== -1)=false/\(Txt.rfind a b==0)=false)(s:Txt.startswith b ⟨#[46]⟩=true)(t:hdn (tl b)=true):dmB a b=true:=by
 unfold dmB;(refine rwl e ?_;refine rwl h ?_;refine rwl r.1 ?_;refine rwl r.2 ?_;refine rwl s ?_;refine rwl t ?_);rfl
theorem LB{a b:List Nat}(h:a.length≠b.length):(S a==S b)=false:=by
 (simp only [E0,beq_eq_false_iff_ne])
 exactλq=>h (congrArg List.length q)
theorem Il{a b:List Nat}{c d:Nat}(h:c≠d):(S (c::a)==S (d::b))=false:=by
 (simp only [E0,beq_eq_false_iff_ne])
 exactλq=>h (List.cons.inj q).1
structure Nms(G:Tab)(t x g d e r:Str):Prop where
 lt:t.length<=4000
 lxg:x.length+g.length<=4000
 ldg:d.length+g.length<=4000
 le:e.length<=4000
 sx:Bh (.str x) (.slc (some 1) none none)=some (.str d)
 sd:Bh (.str d) (.slc (some 1) none none)=some (.str e)
 u1:(Txt.upper d).length<=4096
 u2:(Txt.upper x).length<=4096
 u3:(Txt.upper (x++g)).length<=4096
 hr:Ba x ⟨#[46]⟩ ⟨#[46,46]⟩=r
 hrl:r.length<=4096
 c1:Dm G (x++⟨#[46,122]⟩) (Txt.upper d) true
 c2:Dm G (Txt.upper x) x true
 c3:Dm G (Txt.upper (x++g)) (x++g) true
 c4:Dm G (⟨#[46]⟩++x) d false
 c5:Dm G (x++⟨#[46]⟩) d false
 c6:Dm G e d false
 c7:Dm G (⟨#[120]⟩++e) d false
 c8:Dm G x e false
 c9:Dm G x ⟨#[46]⟩ false
 c10:Dm G (x++g) (d++g) false
 c11:Dm G r (⟨#[46]⟩++d) false
 hs:∀z∈[d,⟨#[46]⟩++t,x++g,x++⟨#[46]⟩,t],PyData.canLay0 (.str z)=true
 e1:Rea G x d
 e2:Rea G (⟨#[107,46]⟩++t) (⟨#[46]⟩++t)
 e3:Rea G (x++g) (x++g)
 e4:Rea G (x++⟨#[46]⟩) (x++⟨#[46]⟩)
 e5:Rea G t t
theorem GU{G:Tab}(X:LawG G){a b:List Nat}(ha:a.all okC=true)(la:a.length<=4000)(h:Bv (S a)=S b):Rea G (S a) (S b):=λk hk=>Pi X.re ha la (by refine rwl h ?_;exact hk)
theorem GD{a:List Nat}(h:a.all okC=true):PyData.canLay0 (.str (S a))=true:=by
 show((S a).cps.all λc=>decide (c<0x110000))=true;unfold S
 (simp only [List.all_toArray,List.all_eq_true])
 intro c m;have:=Ea (List.all_eq_true.mp h c m);exact decide_eq_true (by(refine Nat.lt_of_not_le λh=>?_;lia))
theorem nms{G:Tab}(X:LawG G){top:List Nat}(T:TopOk top){l:Lab}{ls:List Lab}{h:Nat}(hh:h<48)(hl:(l::ls).all AD=true)(h100:(l::ls).length<=100){r:List Nat}
  (hr:Ba (S (Au 107 (l::ls) top)) ⟨#[46]⟩ ⟨#[46,46]⟩=S (107::46::dom (l::ls) top)):
  Nms G (S top) (S (Au 107 (l::ls) top)) (S (fig h)) (S (dom (l::ls) top)) (S (l.1::l.2::dom ls top)) (S (107::46::dom (l::ls) top)):=by
 have fg:=Ai MX h hh;simp only [Bool.and_eq_true,decide_eq_true_eq] at fg;refine lid λgg kk=>?_
 obtain⟨_,⟨fd1,fd2⟩,fok⟩:=fg;have hy:EE 107=true:=by decide
 have okF:=Jq T hy hl;have okD:=LV T hl;have okT:=T.sign;have hD:dom (l::ls) top=46::(l.1::l.2::dom ls top):=rfl;have hF:Au 107 (l::ls) top=107::dom (l::ls) top:=rfl;have okE:(l.1::l.2::dom ls top).all okC=true:=FG (hD▸okD);have sm:=T.small;have lD:=FD (l::ls) top;have lF:(Au 107 (l::ls) top).length=(dom (l::ls) top).length+1:=rfl;have lE:(l.1::l.2::dom ls top).length+1=(dom (l::ls) top).length:=rfl;have lg:(fig h).length=3:=rfl;have l46:l.1≠46:=by
  rw [List.all_cons,Bool.and_eq_true] at hl;have hh:=hl.1;unfold AD at hh;simp only [Bool.and_eq_true,decide_eq_true_eq,bne_iff_ne] at hh;omega
 obtain⟨z,gz,gz1,gz2⟩:=F7 (ls:=ls) T;refine kk ?_;have hne:dom ls top≠[]:=λq=>by rw [q] at gz;cases gz
 have hdE:hdn (S (l.1::l.2::dom ls top))=true:=Hq l46 (by(refine rwl (List.getLast?_cons_of_ne_nil (by simp)) ?_;refine rwl (List.getLast?_cons_of_ne_nil hne) ?_);exact gz) gz1 gz2;have hdF:=Em (y:=107) (ls:=l::ls) T hy;have sS:∀(a b:List Nat),S a++S b=S (a++b):=λa b=>DO a b
 have okFg:(Au 107 (l::ls) top++fig h).all okC=true:=by(refine rwl List.all_append ?_;refine rwl okF ?_;refine rwl fok ?_);rfl
 have okDg:(dom (l::ls) top++fig h).all okC=true:=by(refine rwl List.all_append ?_;refine rwl okD ?_;refine rwl fok ?_);rfl
 have okFd:(Au 107 (l::ls) top++[46]).all okC=true:=by(refine rwl List.all_append ?_;refine rwl okF ?_);rfl
 have okFz:(Au 107 (l::ls) top++[46,122]).all okC=true:=by(refine rwl List.all_append ?_;refine rwl okF ?_);rfl
 have okdF:(46::Au 107 (l::ls) top).all okC=true:=by(simp only [List.all_cons,okF]);rfl
 have okdD:(46::dom (l::ls) top).all okC=true:=by(simp only [List.all_cons,okD]);rfl
 have okxE:(120::l.1::l.2::dom ls top).all okC=true:=by(simp only [List.all_cons,okE]);rfl
 have okR:(107::46::dom (l::ls) top).all okC=true:=by(simp only [List.all_cons,okdD]);rfl
 have okdT:(46::top).all okC=true:=by(simp only [List.all_cons,okT]);rfl
 have okkT:(107::46::top).all okC=true:=by(simp only [List.all_cons,okdT]);rfl
 have eFg:S (Au 107 (l::ls) top)++S (fig h)=S (Au 107 (l::ls) top++fig h):=sS _ _;have eDg:S (dom (l::ls) top)++S (fig h)=S (dom (l::ls) top++fig h):=sS _ _;have eFz:S (Au 107 (l::ls) top)++⟨#[46,122]⟩=S (Au 107 (l::ls) top++[46,122]):=sS _ [46,122];have eFd:S (Au 107 (l::ls) top)++⟨#[46]⟩=S (Au 107 (l::ls) top++[46]):=sS _ [46];have edF:⟨#[46]⟩++S (Au 107 (l::ls) top)=S (46::Au 107 (l::ls) top):=sS [46] _;have edD:⟨#[46]⟩++S (dom (l::ls) top)=S (46::dom (l::ls) top):=sS [46] _;have exE:⟨#[120]⟩++S (l.1::l.2::dom ls top)=S (120::l.1::l.2::dom ls top):=sS [120] _;have edT:⟨#[46]⟩++S top=S (46::top):=sS [46] _;have ekT:⟨#[107,46]⟩++S top=S (107::46::top):=sS [107,46] _;have hl3:(l::ls).length=ls.length+1:=rfl;have bD:(dom (l::ls) top).length<=3000:=by refine rwl lD ?_;lia
 have bF:(Au 107 (l::ls) top).length<=4000:=by(refine Nat.lt_of_not_le λh=>?_;lia)
 have bD':(dom (l::ls) top).length<=4000:=by(exact Nat.le_of_succ_le bF)
 have bE:(l.1::l.2::dom ls top).length<=4000:=by(exact Nat.le_of_succ_le bD')
 have bFg:(Au 107 (l::ls) top++fig h).length<=4000:=by refine rwl List.length_append ?_;lia
 have bDg:(dom (l::ls) top++fig h).length<=4000:=by refine rwl List.length_append ?_;lia
 have bdD:(46::dom (l::ls) top).length<=4000:=by(simp only [List.length_cons]);assumption
 have nF:hdn (S (Au 107 (l::ls) top++fig h))=false:=Tq fd1 fd2;have nFd:hdn (S (Au 107 (l::ls) top++[46]))=false:=Q7 (by simp);exact {
  lt:=by rw [Al];lia
  lxg:=by(simp only [Al,Al]);lia
  ldg:=by(simp only [Al,Al]);lia
  le:=by rw [Al];omega
  sx:=sub1 107 _ (by lia)
  sd:=sub1 46 (l.1::l.2::dom ls top) (Nat.le_trans bE (by decide))
  u1:=by refine rwl (E1 okD) ?_;exact Nat.le_trans bD' (by decide)
  u2:=by refine rwl (E1 okF) ?_;(refine Nat.lt_of_not_le λh=>?_;lia)
  u3:=by(refine rwl eFg ?_;refine rwl (E1 okFg) ?_;refine rwl List.length_append ?_);lia
  hr:=hr
  hrl:=by(simp only [Al,List.length_cons,List.length_cons]);lia
  c1:=by
   refine rwl eFz ?_;refine Er X (Ar okFz) (B7 okD) okFz okD (by(rw [List.length_append,List.length_cons];refine rwl List.length_singleton ?_);lia) bD' (XM (Il (by decide)) ?_ (GR (p:=[107]) (q:=[46,122]) rfl (by simp)) (GM _) ?_)
   ·exact Hq (c:=107) (d:=122) (l:=dom (l::ls) top++[46,122]) (by decide) (by(simp only [←List.cons_append,List.getLast?_append]);rfl) (by decide) (by decide)
   ·rw [IE];exact hdE
  c2:=Er X (B7 okF) (Ar okF) okF okF bF bF (Rf _)
  c3:=by refine rwl eFg ?_;exact Er X (B7 okFg) (Ar okFg) okFg okFg bFg bFg (Rf _)
  c4:=by refine rwl edF ?_;exact Er X (Ar okdF) (Ar okD) okdF okD (by(simp only [List.length_cons]);(refine Nat.lt_of_not_le λh=>?_;lia)) bD' (Rd (LB (show(46::Au 107 (l::ls) top).length≠(dom (l::ls) top).length by(simp only [List.length_cons]);lia)) (K6 _))
  c5:=by refine rwl eFd ?_;exact Er X (Ar okFd) (Ar okD) okFd okD (by(refine rwl List.length_append ?_;refine rwl List.length_singleton ?_);(refine Nat.lt_of_not_le λh=>?_;lia)) bD' (Rd (Il (by decide)) nFd)
  c6:=Er X (Ar okE) (Ar okD) okE okD bE bD' (U6 (LB (show(l.1::l.2::dom ls top).length≠(dom (l::ls) top).length by(exact Nat.ne_add_one (l.fst::l.snd::dom ls top).length))) (EU λp q e=>by
   have:=congrArg List.length (show l.1::l.2::dom ls top=p++dom (l::ls) top++q from e);rw [List.length_append,List.length_append] at this;lia))
  c7:=by
   refine rwl exE ?_;exact Er X (Ar okxE) (Ar okD) okxE okD (by refine rwl List.length_cons ?_;assumption) bD' (U6 (Il (by decide)) (EU λp q e=>by
    have:=congrArg List.length (show 120::l.1::l.2::dom ls top=p++dom (l::ls) top++q from e);rw [List.length_append,List.length_append,List.length_cons] at this;have hp:p=[]:=List.eq_nil_of_length_eq_zero (by lia);subst hp
    injection e with e1 e2
    cases e1))
  c8:=Er X (Ar okF) (Ar okE) okF okE bF bE (XN (LB (by lia)) (Lg l46))
  c9:=Er X (b:=[]) (c:=46) (Ar okF) (Ar (l:=[46]) rfl) okF rfl (by omega) (by simp) (U5 (Il (by decide)) (by(simp only [IE]);exact Tn))
  c10:=by(refine rwl eFg ?_;refine rwl eDg ?_);exact Er X (Ar okFg) (Ar okDg) okFg okDg bFg bDg (Rd (Il (by decide)) nF)
  c11:=by refine rwl edD ?_;exact Er X (Ar okR) (Ar okdD) okR okdD (by(simp only [List.length_cons,List.length_cons]);lia) bdD (U5 (Il (by decide)) (by rw [IE];exact K6 _))
  hs:=by
   intro z m;rw [edT,eFg,eFd] at m;simp only [List.mem_cons,List.not_mem_nil,or_false] at m
   rcases m with rfl|rfl|rfl|rfl|rfl
   ·exact GD okD
   ·exact GD okdT
   ·exact GD okFg
   ·exact GD okFd
   ·exact GD okT
  e1:=GU X okF (by omega) (GT T hy)
  e2:=by
   (refine rwl ekT ?_;refine rwl edT ?_)
   refine GU X okkT (by(simp only [List.length_cons,List.length_cons]);(refine Nat.lt_of_not_le λh=>?_;lia)) ?_;exact GS (a:=[107]) (b:=top) (by decide) (Em (y:=107) (ls:=[]) T hy) T.next
  e3:=by refine rwl eFg ?_;exact GU X okFg (by refine rwl List.length_append ?_;lia) (Ia nF)
  e4:=by refine rwl eFd ?_;exact GU X okFd (by(refine rwl List.length_append ?_;refine rwl List.length_singleton ?_);(refine Nat.lt_of_not_le λh=>?_;lia)) (Ia nFd)
  e5:=GU X okT (by lia) T.stays}
noncomputable abbrev kT:T:=.list [.int 0,.int 1,.int 2]
noncomputable def g25:Gs:=.last (.v Be) .nil (.tup (.cons (.v Be) (.cons (.sub (.v D4) (.sub (.v Ac) (.v Be))) .nil)))
noncomputable def o25(f:Str->Option Int)(k:Str):T:=.tup [.str k,.int ((f k).getD 0)]
theorem MN{v:Int}(h:0<=v/\v<=2):Bh kT (.int v)=some (.int v):=by
 have:v=0\/v=1\/v=2:=by lia
 rcases this with rfl|rfl|rfl<;>rfl
theorem QS{f:Str->Option Int}(g:Good f){k:Str}(h:(f k).isSome=true):Bh (.dI f) (.str k)=some (.int ((f k).getD 0))/\0<=(f k).getD 0/\(f k).getD 0<=2:=by
 cases e:f k with
 |none=>rw [e] at h;cases h
 |some v=>
  refine⟨?_,g.val k v e⟩;show(f k).map T.int=_;refine rwl e ?_;rfl
noncomputable abbrev N0(f:Str->Option Int):NS:=[(D4,.fz kT),(Ac,.fz (.dI f))]
theorem Yp{G:Tab}{f:Str->Option Int}(g:Good f){k:Str}(h:(f k).isSome=true){Q:List T->NS->Prop}(hQ:Q [o25 f k] (N0 f++[(Be,.fz (.str k))])):Gv G g25 (.str k) (N0 f) Q:=by
 obtain⟨e,b⟩:=QS g h;refine Ab e ?_;refine Ab (MN b) ?_;refine And.intro (show 2<=1000 by decide) ?_;exact hQ
theorem Yo{G:Tab}{f:Str->Option Int}(g:Good f){k:Str}{t:T}(h:(f k).isSome=true){Q:List T->NS->Prop}(hQ:Q [o25 f k] (N0 f++[(Be,.fz (.str k))])):Gv G g25 (.str k) (N0 f++[(Be,.fz t)]) Q:=by
 obtain⟨e,b⟩:=QS g h;refine Ab e ?_;refine Ab (MN b) ?_;refine And.intro (show 2<=1000 by decide) ?_;exact hQ
theorem VP{one:T->NS->(List T->NS->Prop)->Prop}{N:Str->NS}{o:Str->T}{p:Str->Prop}(h1:∀k t (Q:List T->NS->Prop),p k->Q [o k] (N k)->one (.str k) (N t) Q)(ks:List Str):∀(t:Str) (P:List T->Prop),(∀k∈ks,p k)->P (ks.map o)->Eh one (ks.map T.str) (N t) λout _=>P out:=by
 induction ks with
 |nil=>exactλt P _ hP=>hP
 |cons k ks ih=>exactλt P h hP=>h1 k t _ (h k (.head _)) (ih k (λo'=>P ([o k]++o')) (λz m=>h z (.tail _ m)) hP)
theorem MK{one:T->NS->(List T->NS->Prop)->Prop}{N:Str->NS}{N0:NS}{o:Str->T}{p:Str->Prop}(h0:∀k (Q:List T->NS->Prop),p k->Q [o k] (N k)->one (.str k) N0 Q)(h1:∀k t (Q:List T->NS->Prop),p k->Q [o k] (N k)->one (.str k) (N t) Q)(ks:List Str)(P:List T->Prop)(h:∀k∈ks,p k)(hP:P (ks.map o)):Eh one (ks.map T.str) N0 λout _=>P out:=by
 cases ks with
 |nil=>exact hP
 |cons k ks=>exact h0 k _ (h k (.head _)) (VP h1 ks k (λo'=>P ([o k]++o')) (λz m=>h z (.tail _ m)) hP)
theorem M4(f:Str->Option Int):∀ks:List Str,CD (ks.map (o25 f))=some (ks.map λk=>(k,.int ((f k).getD 0)))
 |[]=>rfl
 |k::ks=>by
  show((M5 (o25 f k)).bind λp=>(CD (ks.map (o25 f))).map λps=>p::ps)=_;refine rwl (M4 f ks) ?_;rfl
theorem Wv{f:Str->Option Int}{ks:List Str}(mem:∀k,k∈ks<->(f k).isSome=true):EL (ks.map λk=>(k,.int ((f k).getD 0)))=some (.dI f):=by
 unfold EL;rw [if_pos]
 ·refine congrArg (λx=>some (T.dI x)) (funext λk=>?_)
  cases e:(ks.map λk=>(k,T.int ((f k).getD 0))).reverse.lookup k with
  |none=>
   rw [List.lookup_eq_none_iff] at e
   cases q:f k with
   |none=>rfl
   |some v=>
    have m:=(mem k).mpr (by refine rwl q ?_;rfl);have:=e (k,.int ((f k).getD 0)) (List.mem_reverse.mpr (List.mem_map.mpr ⟨k,m,rfl⟩));simp at this
  |some v=>
   have m:=BY e;rw [List.mem_reverse,List.mem_map] at m;obtain⟨k',m,q⟩:=m
   injection q with q1 q2
   subst q1 q2;have:=(mem k').mp m
   cases q:f k' with
   |none=>rw [q] at this;cases this
   |some v=>rfl
 ·(simp only [List.all_eq_true])
  intro p m;rw [List.mem_map] at m;obtain⟨k,_,rfl⟩:=m;rfl
noncomputable def Y8:List Str:=Lt.flatMap λa=>Lt.map λb=>pr a b
theorem VR{f:Str->Option Int}(g:Good f){ks:List Str}(nd:ks.Nodup)(mem:∀k,k∈ks<->(f k).isSome=true):ks.length<=25:=by
 have:=List.Nodup.length_le_of_subset nd (l₂:=Y8) λk m=>by
  obtain⟨a,ha,b,hb,_,rfl⟩:=(g.dom k).mp ((mem k).mp m);exact List.mem_flatMap.mpr ⟨a,ha,List.mem_map.mpr ⟨b,hb,rfl⟩⟩
 exact this
noncomputable def T1(f:Str->Option Int)(top:List Nat):T:=match Df f with
 |some hs=>.list (hs.map (B2 top))
 |none=>.none
section
variable{G:Tab}(X:LawG G){a1 a2 a3 a4 a5 a6 a7 a8 a9 a10 a11 a12 a13 a14 a15 a16 a17 a18 a19 a20 a21 a22 a23:T}{top:List Nat}{Q:Ou->Prop}
include X
theorem r25{f:Str->Option Int}(g:Good f)(ht:top.length<=100)(hQ:Q (.nxt (params vs [a1,a2,.dI f,a4,a5,a6,a7,a8,a9,a10,a11,a12,kT,a14,a15,a16,.str (S top),a18,a19,a20,a21,a22,a23,T1 f top]))):Ay G q25 (params vs [a1,a2,.dI f,a4,a5,a6,a7,a8,a9,a10,a11,a12,kT,a14,a15,a16,.str (S top),a18,a19,a20,a21,a22,a23]) Q:=by
 refine⟨.dI f,λks nd mem=>?_,?_⟩
 ·exact MK (N:=λt=>N0 f++[(Be,.fz (.str t))]) (p:=λk=>(f k).isSome=true) (o:=o25 f) (λk Q h hQ=>Yp g h hQ) (λk t Q h hQ=>Yo g h hQ) ks (λout=>out.length<=4000/\∃ps,CD out=some ps/\EL ps=some (T.dI f)) (λk m=>(mem k).mp m) ⟨by rw [List.length_map];exact Nat.le_trans (VR g nd mem) (by decide),_,M4 f ks,Wv mem⟩
 ·refine X.hosts f top _ (λa ha b hb ne=>(g.dom _).mpr ⟨a,ha,b,hb,ne,rfl⟩) ht ?_;exact hQ
end
noncomputable abbrev tr3(p:Int×Int×Int):T:=.list [.int p.1,.int p.2.1,.int p.2.2]
noncomputable abbrev UN(p:Int×Int×Int):PyData:=.list [.int p.1,.int p.2.1,.int p.2.2]
theorem Y0(F:Nat×Nat×Nat->Int×Int×Int):BS .In kT (.list (threesL.map λt=>tr3 (F t)))=some (threesL.any λt=>PyData.eqv (UN (F t)) (.list [.int 0,.int 1,.int 2])):=by kernel_rfl
noncomputable def Np(l:List Int):Int×Int×Int:=match l with
 |[x,y,z]=>(x,y,z)
 |_=>(0,0,0)
noncomputable def so3(a b c:Nat):Bool:=let l:=sortI [(a:Int),(b:Int),(c:Int)]
 decide (l=[(Np l).1,(Np l).2.1,(Np l).2.2])&&(PyData.eqv (UN (Np l)) (.list [.int 0,.int 1,.int 2])==(!(a==b)&&(!(a==c)&& !(b==c))))
theorem Sh:(Bp 3 λa=>Bp 3 λb=>Bp 3 λc=>so3 a b c)=true:=by decide+kernel
noncomputable def Sc(f:Str->Option Int)(t:Nat×Nat×Nat):T:=.list ((sortI [vAt f t.1 t.2.1,vAt f t.1 t.2.2,vAt f t.2.1 t.2.2]).map T.int)
theorem OW{f:Str->Option Int}(g:Good f){t:Nat×Nat×Nat}(ht:Tri t):Sc f t=tr3 (Np (sortI [vAt f t.1 t.2.1,vAt f t.1 t.2.2,vAt f t.2.1 t.2.2]))/\PyData.eqv (UN (Np (sortI [vAt f t.1 t.2.1,vAt f t.1 t.2.2,vAt f t.2.1 t.2.2]))) (.list [.int 0,.int 1,.int 2])=rbB f t:=by
 refine lid λgg kk=>?_
 obtain⟨h1,h2,h3,n1,n2,n3⟩:=of_decide_eq_true ht;refine kk ?_;unfold Sc rbB;refine lid λgg kk=>?_
 obtain⟨e1,l1⟩:=GA g h1 h2 n1;obtain⟨e2,l2⟩:=GA g h1 h3 n2;obtain⟨e3,l3⟩:=GA g h2 h3 n3;refine kk ?_
 (refine rwl e1 ?_;refine rwl e2 ?_;refine rwl e3 ?_)
 generalize vQ f t.1 t.2.1=a at*;generalize vQ f t.1 t.2.2=b at*;generalize vQ f t.2.1 t.2.2=c at*;have:=Ai (Ai (Ai Sh a l1) b l2) c l3;unfold so3 at this;simp only [Bool.and_eq_true,decide_eq_true_eq,beq_iff_eq] at this;refine lid λgg kk=>?_
 obtain⟨q1,q2⟩:=this;refine kk ?_;have c1:∀x y:Nat,((x:Int)==(y:Int))=(x==y):=λx y=>by
  rw [Bool.eq_iff_iff,beq_iff_eq,beq_iff_eq];(exact Int.ofNat_inj)
 refine⟨congrArg (λl=>T.list (l.map T.int)) q1,?_⟩
 (simp only [c1,c1,c1])
 exact q2
theorem Xz{f:Str->Option Int}(g:Good f):BS .In kT (.list (threesL.map (Sc f)))=some (threesL.any (rbB f)):=by
 rw [List.map_congr_left λt m=>(OW g (Dw t m)).1,Y0];refine congrArg some ?_;rw [Bool.eq_iff_iff,List.any_eq_true,List.any_eq_true]
 constructor
 ·rintro ⟨t,m,h⟩;exact⟨t,m,by rw [←(OW g (Dw t m)).2];exact h⟩
 ·rintro ⟨t,m,h⟩;exact⟨t,m,by rw [(OW g (Dw t m)).2];exact h⟩
theorem Om:∀l:List (Nat×Nat×Nat×Nat),∃ds:List Str,l.map J3=ds.map T.str/\ds=l.map λq=>S [q.1,q.2.1,q.2.2.1,q.2.2.2]
 |l=>⟨_,by refine rwl List.map_map ?_;rfl,rfl⟩
theorem toPy_strs:∀l:List Str,CN (l.map T.str)=some (l.map PyData.str)
 |[]=>rfl
 |x::l=>by
  show(Mk (T.toPy (.str x)) (CN (l.map T.str))).map (λp=>p.1::p.2)=_;refine rwl (toPy_strs l) ?_;rfl
theorem H2:∀l:List Str,PyData.depthAll (l.map PyData.str)=0
 |[]=>by simp [PyData.depthAll]
 |x::l=>by(simp only [List.map_cons,PyData.depthAll,H2 l]);simp [PyData.depth]
theorem K1:∀{l:List Str},(∀x∈l,PyData.canLay0 (.str x)=true)->PyData.canLayAll0 (l.map PyData.str)=true
 |[]=>λ_=>by simp [PyData.canLayAll0]
 |x::l=>λh=>by(simp only [List.map_cons,PyData.canLayAll0,h x (.head _),K1 λy m=>h y (.tail _ m)]);rfl
theorem Ge{l:List Str}(h:∀x∈l,PyData.canLay0 (.str x)=true):SeqAt.shaped (.list (l.map PyData.str))=true:=by
 unfold SeqAt.shaped
 (simp only [PyData.canLay0,K1 h,PyData.depth,H2])
 rfl
theorem Jx{a b:List Str}(ha:∀x∈a,PyData.canLay0 (.str x)=true)(hb:∀x∈b,PyData.canLay0 (.str x)=true):eqX (.list (a.map T.str)) (.list (b.map T.str))=some (PyData.eqv (.list (a.map .str)) (.list (b.map .str))):=by
 show(match (CN (a.map T.str)).map PyData.list with|some da=>(match (CN (b.map T.str)).map PyData.list with|some db=>if SeqAt.shaped da&&SeqAt.shaped db then some (PyData.eqv da db) else none|none=>none)|none=>none)=_;rw [toPy_strs,toPy_strs];show(if _ then _ else _)=_
 (refine rwl (Ge ha) ?_;refine rwl (Ge hb) ?_)
 rfl
theorem Ok:(foursL.all λq=>PyData.canLay0 (.str (S [q.1,q.2.1,q.2.2.1,q.2.2.2])))=true:=by decide+kernel
theorem Qe(l:List (Nat×Nat×Nat×Nat))(h:∀q∈l,q∈foursL):BS .NotEq (.list (l.map J3)) (.list [])=some (!l.isEmpty):=by
 obtain⟨ds,e,e'⟩:=Om l;refine rwl e ?_;show(eqX (.list (ds.map T.str)) (.list (([]:List Str).map T.str))).map _=_;rw [Jx (λx m=>by
  rw [e',List.mem_map] at m;obtain⟨q,hq,rfl⟩:=m;exact List.all_eq_true.mp Ok q (h q hq)) (λx m=>by cases m)]
 subst e'
 cases l with
 |nil=>rfl
 |cons q l=>simp [PyData.eqv,PyData.eqvAll]
theorem Wy{xs ys:List T}{v:Bool}{k:Bool->Prop}(e:BS .In (.list xs) (.list ys)=some v)(h:k v):J0 .In (.list xs) (.list ys) k:=Ab e h
section
variable{G:Tab}(X:LawG G){a1 a2 a4 a5 a6 a7 a8 a9 a10 a11 a12 a13 a14 a15 a17 a18 a19 a20 a21 a22 a23 fnd:T}{Q:Ou->Prop}
include X
theorem r26{f:Str->Option Int}(g:Good f)(hbad:threesL.any (rbB f)=true\/foursL.filter (DN f)≠[]->fnd=.none/\Q (.ret (.bool true)))
  (hQ:threesL.any (rbB f)=false->foursL.filter (DN f)=[]->Q (.nxt (params vs [a1,a2,.dI f,a4,a5,a6,a7,a8,a9,a10,a11,a12,a13,a14,a15,OK f,a17,a18,a19,a20,a21,a22,a23,fnd]))):
  Ay G q26 (params vs [a1,a2,.dI f,a4,a5,a6,a7,a8,a9,a10,a11,a12,a13,a14,a15,OK f,a17,a18,a19,a20,a21,a22,a23,fnd]) Q:=by
 refine And.intro (show 3<=1000 by decide) ?_;refine Az (l:=threesL) (f:=RT f) (g:=Sc f) rfl (λ_ _ q=>q) (λ_ _ _ q=>q) (λt m Q hQ=>X.bi CF _ _ (And.intro (show 3<64 by decide) hQ)) λν=>And.intro (show 10<=4000 by decide) (Wy (Xz g) ?_)
 cases e:threesL.any (rbB f) with
 |true=>
  obtain⟨rfl,h⟩:=hbad (.inl e);exact h
 |false=>
  refine X.fours f _ (λa ha b hb ne=>(g.dom _).mpr ⟨a,ha,b,hb,ne,rfl⟩) ?_;refine And.intro (show 0<=1000 by decide) ?_;refine Rq (Qe _ λq m=>(mF m).1) ?_
  cases e2:foursL.filter (DN f) with
  |nil=>exact hQ e e2
  |cons q l=>
   obtain⟨rfl,h⟩:=hbad (.inr (by refine rwl e2 ?_;simp));exact h
end
open StrLaws Builtin.Str in
theorem L9(x sub:Str)(hi limit:Nat)(h1:sub.length=1):∀(n i free:Nat) (acc:Array Nat),free<=i->acc.size+n<=limit->
  (forIn (List.range' i n) (acc,free) (occBody x sub hi limit)).run.fst.toList=acc.toList++(List.range' i n).filter λj=>decide (j+sub.length<=hi)&&subAt x sub j
 |0=>λi free acc _ _=>by simp
 |n+1=>λi free acc hf hl=>by
  rw [List.range'_succ,List.forIn_cons];unfold occBody
  by_cases q:i+sub.length<=hi/\subAt x sub i=true
  ·have c1:((acc.size<limit/\free<=i)/\i+sub.length<=hi)/\subAt x sub i=true:=⟨⟨⟨by(exact Nat.lt_of_add_right_lt hl),hf⟩,q.1⟩,q.2⟩;refine rwl (if_pos c1) ?_;have:=L9 x sub hi limit h1 n (i+1) (i+sub.length) (acc.push i) (by exact Nat.le_of_eq (congrArg (HAdd.hAdd i) h1)) (by rw [Array.size_push];lia);show(forIn (List.range' (i+1) n) (acc.push i,i+sub.length) (occBody x sub hi limit)).run.fst.toList=_;rw [this,Array.toList_push,List.filter_cons,if_pos (by refine rwl q.2 ?_;simp [q.1])];simp
  ·have c1:¬(((acc.size<limit/\free<=i)/\i+sub.length<=hi)/\subAt x sub i=true):=λz=>q ⟨z.1.2,z.2⟩
   refine rwl (if_neg c1) ?_;have:=L9 x sub hi limit h1 n (i+1) free acc (by exact Nat.le_add_right_of_le hf) (by exact Nat.le_of_succ_le hl);show(forIn (List.range' (i+1) n) (acc,free) (occBody x sub hi limit)).run.fst.toList=_;rw [this,List.filter_cons,if_neg (by
    intro z;rw [Bool.and_eq_true,decide_eq_true_eq] at z;exact q z)]
noncomputable def DY:List Nat->Nat->List Nat
 |[],_=>[]
 |c::r,k=>if c=46 then k::DY r (k+1) else DY r (k+1)
theorem GX:∀(l pre:List Nat),((List.range' pre.length l.length).filter λj=>(pre++l)[j]? ==some 46)=DY l pre.length
 |[]=>λpre=>rfl
 |c::l=>λpre=>by
  (simp only [List.length_cons,List.range'_succ,List.filter_cons])
  have h0:(pre++c::l)[pre.length]? =some c:=by refine rwl (List.getElem?_append_right (Nat.le_refl _)) ?_;simp
  have ih:=GX l (pre++[c]);rw [List.append_assoc,List.length_append] at ih;have ih:((List.range' (pre.length+1) l.length).filter λj=>(pre++c::l)[j]? ==some 46)=DY l (pre.length+1):=ih
  (refine rwl h0 ?_;refine rwl ih ?_)
  show _=if c=46 then pre.length::DY l (pre.length+1) else DY l (pre.length+1)
  by_cases q:c=46
  ·subst q;rfl
  ·(refine rwl (if_neg q) ?_;refine rwl (if_neg (by simpa using q)) ?_;rfl)
theorem Xg(l:List Nat):Builtin.Str.occurrences (S l) ⟨#[46]⟩ 0 (S l).length ((S l).length+1)=DY l 0:=by
 (simp only [StrLaws.occ_eq,Al])
 have:=L9 (S l) ⟨#[46]⟩ l.length (l.length+1) rfl (l.length+1-0) 0 0 #[] (Nat.le_refl _) (by simp)
 (refine rwl this ?_;refine rwl (show DY l 0=_ from(GX l []).symm) ?_)
 show []++_=_;rw [List.nil_append,Nat.sub_zero,List.range'_concat,List.filter_append];have e2:[0+1*l.length].filter (λj=>decide (j+(⟨#[46]⟩:Str).length<=l.length)&&Builtin.Str.subAt (S l) ⟨#[46]⟩ j)=[]:=by
  have:decide (0+1*l.length+(⟨#[46]⟩:Str).length<=l.length)=false:=by
   (simp only [decide_eq_false_iff_not])
   show¬(0+1*l.length+1<=l.length)
   (simp;done)
  (refine rwl List.filter_cons ?_;refine rwl this ?_);rfl
 (simp only [e2,List.append_nil])
 refine List.filter_congr λj m=>?_
 have hj:j<l.length:=by
  have:=(List.mem_range'_1.mp m).2
  (refine Nat.lt_of_not_le λh=>?_;lia)
 have at':=sub_at (a:=l) (b:=[46]) (i:=j);have e3:(j+(S [46]).length<=(S l).length)<->j+1<=l.length:=by(simp only [Al,Al]);rfl
 rw [Bool.eq_iff_iff,Bool.and_eq_true,decide_eq_true_eq,beq_iff_eq];show(j+(S [46]).length<=l.length/\Builtin.Str.subAt (S l) (S [46]) j=true)<->_;rw [show(j+(S [46]).length<=l.length)=(j+(S [46]).length<=(S l).length) by rw [Al l],at']
 constructor
 ·rintro ⟨p,q,rfl,rfl⟩
  simp
 ·intro h;have hh:=List.getElem?_eq_some_iff.mp h;refine⟨l.take j,l.drop (j+1),?_,by rw [List.length_take];omega⟩;have h1:=hh.2;have h2:=List.take_append_drop j l;rw [List.drop_eq_getElem_cons hj] at h2;simp only [List.nil_append] at h1;rw [h1] at h2;rw [List.append_assoc];exact h2.symm
noncomputable def cutsL:List Lab->Nat->List Nat
 |[],_=>[]
 |_::r,k=>k::cutsL r (k+3)
theorem Mx:∀(ls:List Lab) (k:Nat),(∀l∈ls,l.1≠46/\l.2≠46)->DY (blk ls) k=cutsL ls k
 |[]=>λk _=>rfl
 |(p,q)::r=>λk h=>by
  obtain⟨h1,h2⟩:=h _ (.head _);show(if 46=46 then k::(if p=46 then _ else(if q=46 then _ else DY (blk r) (k+3))) else _)=_
  (refine rwl (if_pos rfl) ?_;refine rwl (if_neg h1) ?_;refine rwl (if_neg h2) ?_;refine rwl (Mx r _ λl m=>h l (.tail _ m)) ?_)
  rfl
theorem Ua(pre seg post:List Nat):Builtin.Str.strSub (S (pre++seg++post)) pre.length (pre.length+seg.length)=S seg:=by
 unfold Builtin.Str.strSub S
 congr 1
 apply Array.toList_inj.mp;simp
theorem Ig:∀(ls:List Lab) (pre seg:List Nat),StrLaws.partsFrom (S (pre++seg++blk ls)) 1 pre.length (cutsL ls (pre.length+seg.length))=S seg::ls.map λl=>S [l.1,l.2]
 |[]=>λpre seg=>by
  show [Builtin.Str.strSub _ pre.length _]=_;have:=Ua pre seg [];rw [List.append_nil] at this;show [Builtin.Str.strSub (S (pre++seg++[])) pre.length (S (pre++seg++[])).length]=_
  (simp only [List.append_nil,Al,List.length_append,this])
  rfl
 |(p,q)::r=>λpre seg=>by
  show Builtin.Str.strSub _ pre.length (pre.length+seg.length)::StrLaws.partsFrom _ 1 (pre.length+seg.length+1) (cutsL r (pre.length+seg.length+3))=_;rw [Ua];have ih:=Ig r (pre++seg++[46]) [p,q];have e1:pre++seg++[46]++[p,q]++blk r=pre++seg++blk ((p,q)::r):=by simp [blk]
  have e2:(pre++seg++[46]).length=pre.length+seg.length+1:=by simp;rfl
  rw [e1,e2] at ih;exact congrArg (S seg:: ·) ih
theorem Xv{l:Lab}(h:AD l=true):l.1≠46/\l.2≠46:=by
 unfold AD at h;simp only [Bool.and_eq_true,decide_eq_true_eq,bne_iff_ne] at h;omega
theorem Nx{c:Nat}{ls:List Lab}(hc:c≠46)(h:ls.all AD=true)(hl:ls.length<=1000):
  Met.run .split (S (c::blk ls)) [.str ⟨#[46]⟩]=some (.list ((B4 (c,ls)).map T.str)):=by
 have h':∀l∈ls,l.1≠46/\l.2≠46:=λl m=>Xv (List.all_eq_true.mp h l m)
 have eo:Builtin.Str.occurrences (S (c::blk ls)) ⟨#[46]⟩ 0 (S (c::blk ls)).length ((S (c::blk ls)).length+1)=cutsL ls 1:=by
  rw [Xg];show(if c=46 then _ else DY (blk ls) 1)=_
  (exact(if_neg hc).trans (Mx ls 1 h'))
 have ep:Builtin.Str.partsBetween (S (c::blk ls)) (cutsL ls 1) 1=B4 (c,ls):=by
  rw [StrLaws.partsBetween_eq];exact Ig ls [] [c]
 have es:Txt.split (S (c::blk ls)) ⟨#[46]⟩=B4 (c,ls):=by
  unfold Txt.split;refine rwl eo ?_;have k:(decide ((S (c::blk ls)).length<(⟨#[46]⟩:Str).length)||decide (Builtin.Str.strKind (S (c::blk ls))<Builtin.Str.strKind ⟨#[46]⟩))=false:=by
   have k1:decide ((S (c::blk ls)).length<(⟨#[46]⟩:Str).length)=false:=by
    rw [decide_eq_false_iff_not,Al];show¬(_<1);simp
   have k2:decide (Builtin.Str.strKind (S (c::blk ls))<Builtin.Str.strKind ⟨#[46]⟩)=false:=by
    (simp only [decide_eq_false_iff_not])
    have:Builtin.Str.strKind ⟨#[46]⟩=1:=by decide+kernel
    refine rwl this ?_;unfold Builtin.Str.strKind
    split
    ·decide
    ·split<;>decide
   (refine rwl k1 ?_;refine rwl k2 ?_);rfl
  (refine rwl k ?_;refine rwl (if_neg (by decide)) ?_)
  cases ls with
  |nil=>rfl
  |cons l ls=>exact ep
 have lr:(B4 (c,ls)).length=ls.length+1:=by unfold B4;simp
 show(if _ then _ else none)=_;rw [if_pos]
 ·(refine rwl es ?_;rfl)
 ·refine⟨by decide,?_,?_,?_⟩
  ·(simp only [Al,List.length_cons,C4]);(refine Nat.lt_of_not_le λh=>?_;lia)
  ·(refine rwl es ?_;refine rwl lr ?_);(refine Nat.lt_of_not_le λh=>?_;lia)
  ·refine rwl eo ?_;show(Builtin.Str.partsBetween (S (c::blk ls)) (cutsL ls 1) 1).length<=_
   (refine rwl ep ?_;refine rwl lr ?_);(refine Nat.lt_of_not_le λh=>?_;lia)
theorem TF(c:Nat)(ls:List Lab)(top:List Nat):pickS (S (Au c ls top)) none (some (-(top.length:Int)-1)) none=S (c::blk ls):=by
 have e:pickS (S (Au c ls top)) none (some (-(top.length:Int)-1)) none=StrLaws.sliceText (S (Au c ls top)) none (some (-(top.length:Int)-1)):=rfl;have hl:(Au c ls top)=(c::blk ls)++(46::top):=rfl;have len:(S (Au c ls top)).length=(c::blk ls).length+(top.length+1):=by(simp only [Al,hl,List.length_append,List.length_cons (a:=46)])
 rw [e,StrLaws.sliceText_neg_hi _ _ (by(simp+arith)) (by refine rwl len ?_;lia)];have e2:(-(top.length:Int)-1+((S (Au c ls top)).length:Int))=((c::blk ls).length:Int):=by refine rwl len ?_;(simp+arith)
 rw [e2,StrLaws.sliceText_to ⟨by(exact Int.natCast_nonneg (c::blk ls).length),by(rw [AB,hl];refine rwl List.length_append ?_);(exact Int.le.intro (46::top).length rfl)⟩,AB,hl];unfold S
 congr 2
 simp
noncomputable def Su(hs:C5)(top:List Nat):List (Str×T):=hs.map λh=>(S [h.1],T.str (S (Au h.1 h.2 top)))
noncomputable def Da(hs:C5)(top:List Nat):Str->Option Str:=λk=>((Su hs top).reverse.lookup k).bind T.str?
theorem M3(top:List Nat):∀hs:C5,CD (hs.map (B2 top))=some (Su hs top)
 |[]=>rfl
 |h::hs=>by
  show((M5 (B2 top h)).bind λp=>(CD (hs.map (B2 top))).map λps=>p::ps)=_;refine rwl (M3 top hs) ?_;rfl
theorem Wu{hs:C5}{top:List Nat}(h:hs≠[]):EL (Su hs top)=some (.dS (Da hs top)):=by
 unfold EL;rw [if_neg,if_pos]
 ·rfl
 ·(simp only [List.all_eq_true])
  intro p m;obtain⟨a,_,rfl⟩:=mM m;rfl
 ·cases hs with
  |nil=>exact absurd rfl h
  |cons a hs=>exactλq=>nomatch q
theorem MS{f:Str->Option Int}{hs:C5}{top:List Nat}(P:PJ f ([],Lt) hs){c:Nat}(hc:c∈Lt):Da hs top (S [c])=some (S (Au c (BI hs c) top)):=by
 have nd:(hs.map (·.1)).Nodup:=P.perm.nodup_iff.mpr (by decide);obtain⟨a,ha,e⟩:=mM (P.perm.mem_iff.mpr hc);unfold Da
 cases q:(Su hs top).reverse.lookup (S [c]) with
 |none=>
  rw [List.lookup_eq_none_iff] at q;have:=q (S [a.1],T.str (S (Au a.1 a.2 top))) (List.mem_reverse.mpr (List.mem_map.mpr ⟨a,ha,rfl⟩));have e:a.1=c:=e;rw [e] at this;simp at this
 |some v=>
  have m:=BY q;rw [List.mem_reverse] at m;obtain⟨b,hb,q2⟩:=mM m
  injection q2 with q3 q4
  have q5:b.1=c:=by
   have:[b.1]=[c]:=by
    have:=congrArg (λs:Str=>s.cps.toList) q3;rw [AB,AB] at this;exact this
   exact(List.cons.inj this).1
  subst q4;have:=ls_at nd hb;rw [q5] at this
  (refine rwl this ?_;refine rwl q5 ?_)
  rfl
theorem Q2{f:Str->Option Int}{hs:C5}(P:PJ f ([],Lt) hs):hs.length=5:=by
 have:=P.perm.length_eq;rw [List.length_map] at this;exact this
theorem MJ{f:Str->Option Int}{hs:C5}(P:PJ f ([],Lt) hs){c:Nat}(hc:c∈Lt):(c,BI hs c)∈hs/\(BI hs c).all AD=true/\(BI hs c).length<=4:=by
 have nd:(hs.map (·.1)).Nodup:=P.perm.nodup_iff.mpr (by decide);obtain⟨a,ha,e⟩:=mM (P.perm.mem_iff.mpr hc);have e:a.1=c:=e;subst e;refine rwl (ls_at nd ha) ?_;refine⟨ha,P.lab rfl a ha,?_⟩;have:=P.len a ha;have:a.2.length+1<=0+5:=this;lia
theorem Ww(c:Nat){ls:List Lab}{top:List Nat}(hl:ls.length<=4):Bh (.str (S (Au c ls top))) (.slc none (some (-((S top).length:Int)-1)) none)=some (.str (S (c::blk ls))):=by
 rw [Al];show(if _ then _ else _)=_;rw [TF,if_pos];exact⟨by decide,by(simp only [Al,List.length_cons,C4]);(refine Nat.lt_of_not_le λh=>?_;lia)⟩
section
variable{G:Tab}(X:LawG G){a1 a2 a3 a4 a5 a6 a7 a8 a9 a10 a11 a12 a13 a14 a15 a16 a17 a18 a19 a20 a21 a22 a23 a24:T}{Q:Ou->Prop}{hs:C5}{top:List Nat}
include X
theorem r27{xs:List T}(hQ:Q (.nxt (params vs [a1,a2,a3,a4,a5,a6,a7,a8,a9,a10,a11,a12,a13,a14,a15,a16,a17,a18,a19,a20,a21,a22,a23,.list xs]))):
  Ay G q27 (params vs [a1,a2,a3,a4,a5,a6,a7,a8,a9,a10,a11,a12,a13,a14,a15,a16,a17,a18,a19,a20,a21,a22,a23,.list xs]) Q:=by
 exact hQ
theorem r28{f:Str->Option Int}(P:PJ f ([],Lt) hs)(hQ:Q (.nxt (params vs [a1,a2,a3,a4,a5,a6,a7,a8,a9,a10,a11,a12,a13,a14,a15,a16,a17,a18,a19,a20,a21,a22,a23,.list (hs.map (B2 top)),.dS (Da hs top)]))):
  Ay G q28 (params vs [a1,a2,a3,a4,a5,a6,a7,a8,a9,a10,a11,a12,a13,a14,a15,a16,a17,a18,a19,a20,a21,a22,a23,.list (hs.map (B2 top))]) Q:=by
 have hl:=Q2 P;refine X.bi Qg _ _ ?_;refine Ab (M3 top hs) ?_;refine Ab (Wu λq=>by rw [q] at hl;cases hl) ?_;refine And.intro (by(simp only [List.length_map,hl]);decide) ?_;exact hQ
theorem r29{f:Str->Option Int}(ht:(S top).length<=4096)(P:PJ f ([],Lt) hs)(hQ:Q (.nxt (params vs [a1,a2,a3,a4,a5,a6,a7,a8,a9,a10,a11,a12,a13,a14,a15,a16,.str (S top),a18,a19,a20,a21,a22,a23,a24,.dS (Da hs top),.list (Lt.map λx=>.list ((B4 (x,BI hs x)).map T.str))]))):
  Ay G q29 (params vs [a1,a2,a3,a4,a5,a6,a7,a8,a9,a10,a11,a12,a13,a14,a15,a16,.str (S top),a18,a19,a20,a21,a22,a23,a24,.dS (Da hs top)]) Q:=by
 have hF:∀c∈Lt,Bh (.dS (Da hs top)) (.str ⟨#[c]⟩)=some (.str (S (Au c (BI hs c) top))):=λc hc=>by
  show(Da hs top (S [c])).map T.str=_;refine rwl (MS P hc) ?_;rfl
 refine Az (l:=Lt) (f:=chT) (g:=λc=>BA (B4 (c,BI hs c))) rfl (λ_ _ q=>q) (λ_ _ _ q=>q) (λc m Q hQ=>?_) λν=>And.intro (show 5<=4000 by decide) hQ
 obtain⟨_,lab,len⟩:=MJ P m;refine Ab (hF c m) ?_;refine X.bi BU _ _ ?_;refine And.intro ht ?_;refine Ab (c:=.int (-((S top).length:Int))) rfl ?_;refine Ab (c:=.int 1) rfl ?_;refine Ab (Ww (top:=top) c len) ?_;refine Ab (Nx ((show∀c∈Lt,c≠46 by decide) c m) lab (Nat.le_trans len (by decide))) ?_;exact hQ
end
theorem Nu(x:T)(l:List T):Bh (.list (x::l)) (.int 0)=some x:=by
 show(if Ca 0=true then(seqIndex? 0 (l.length+1)).bind ((x::l)[·]?) else none)=_;refine rwl (if_pos (by decide)) ?_;have:seqIndex? 0 (l.length+1)=some 0:=by
  unfold seqIndex?;simp
 refine rwl this ?_;rfl
theorem SP{l:List Str}(h:∀x∈l,PyData.canLay0 (.str x)=true):BS .NotEq (.list (l.map T.str)) (.list (l.map T.str))=some false:=by
 show(eqX _ _).map _=_
 (simp only [Jx h h,PyData.eqv,G8]);rfl
theorem QW{l:List Str}(h:∀x∈l,PyData.canLay0 (.str x)=true):BS .Eq (.list (l.map T.str)) (.list (l.map T.str))=some true:=by
 show eqX (.list (l.map T.str)) (.list (l.map T.str))=_
 (simp only [Jx h h,PyData.eqv,G8])
theorem PM{c:Nat}(h:c<0x110000):PyData.canLay0 (.str (S [c]))=true:=by
 show((S [c]).cps.all λc=>decide (c<0x110000))=true;unfold S;simp [h]
theorem Sn(i:Nat):AZ i<0x110000:=by
 unfold AZ
 split
 ·decide
 ·split<;>decide
theorem So{f:Str->Option Int}(g:Good f){a b:Nat}(ha:a∈Lt)(hb:b∈Lt)(ne:a≠b):Bh (.str ⟨#[114,103,98]⟩) (.int (vAt f a b))=some (.str (S [AZ (vAt f a b).toNat])):=by
 obtain⟨e,l⟩:=GA g ha hb ne;have:=Lm l;refine rwl e ?_;rw [show(vQ f a b)=(vAt f a b).toNat from rfl] at this⊢;exact this
noncomputable def P8(hs:C5):T:=.list ((hs.map B4).map BA)
section
variable{G:Tab}(X:LawG G){a1 a2 a3 a4 a5 a6 a7 a8 a9 a10 a11 a12 a13 a14 a15 a16 a17 a18 a19 a20 a21 a22 a23 a24 a25 a26:T}{Q:Ou->Prop}{hs:C5}{top:List Nat}
theorem r31{f:Str->Option Int}(P:PJ f ([],Lt) hs)
  (hQ:Q (.nxt (params vs [a1,a2,a3,a4,a5,a6,a7,a8,a9,a10,a11,a12,a13,a14,a15,a16,a17,a18,a19,a20,a21,a22,a23,.list (hs.map (B2 top)),a25,a26,P8 hs]))):
  Ay G q31 (params vs [a1,a2,a3,a4,a5,a6,a7,a8,a9,a10,a11,a12,a13,a14,a15,a16,a17,a18,a19,a20,a21,a22,a23,.list (hs.map (B2 top)),a25,a26,P8 hs]) Q:=by
 have hl:=Q2 P;have hm:∀h∈hs,PyData.canLay0 (.str (S [h.1]))=true:=λh m=>by
  have:h.1∈Lt:=P.perm.mem_iff.mp (List.mem_map_of_mem m);exact PM (Nat.lt_of_lt_of_le (of_decide_eq_true (List.all_eq_true.mp (show Lt.all (λc=>decide (c<128))=true by decide) _ this)) (by decide))
 have l5:∀g:Nat×List Lab->T,(hs.map g).length<=4000:=λg=>by rw [List.length_map,hl];decide
 refine Az (l:=hs) (f:=B2 top) (g:=λh=>.str (S [h.1])) rfl (λ_ _ q=>q) (λ_ _ _ q=>q) (λh m Q hQ=>hQ) λν=>And.intro (l5 _) ?_
 refine Az (l:=hs) (f:=λh=>BA (B4 h)) (g:=λh=>.str (S [h.1])) List.map_map (λ_ _ q=>q) (λ_ _ _ q=>q) (λh m Q hQ=>Ab (Nu (.str (S [h.1])) _) hQ) λν=>And.intro (l5 _) ?_
 have e:hs.map (λh=>T.str (S [h.1]))=(hs.map λh=>S [h.1]).map T.str:=by rw [List.map_map];rfl
 refine rwl (P:=λl=>J0 .NotEq (.list l) (.list l) _) e (Rq (SP λx m=>?_) hQ);obtain⟨h,m2,rfl⟩:=mM m;exact hm h m2
include X
theorem O5{f:Str->Option Int}(P:PJ f ([],Lt) hs)(To:TopOk top){a b:Nat}(ha:a∈Lt)(hb:b∈Lt)(ne:a≠b){k:T->Prop}(hk:k (.str (S [AZ (vAt f a b).toNat]))):
  G A8 [.str (S (Au a (BI hs a) top)),.str (S (Au b (BI hs b) top))] k:=by
 refine lid λgg kk=>?_
 obtain⟨ma,la,na⟩:=MJ P ha;obtain⟨mb,lb,nb⟩:=MJ P hb;refine kk ?_;have c:=P.com _ ma _ mb ne;have pl:∀{z},z∈Lt->EE z=true:=λ{z} m=>List.all_eq_true.mp (show Lt.all EE=true by decide) z m
 cases e:BI hs a with
 |nil=>rw [e] at c;cases c
 |cons l ls=>
  rw [e] at c la na;exact X.common a b l ls _ top _ k To (pl ha) (pl hb) la lb (by exact Nat.le_succ_of_le na) (by lia) c hk
theorem r32{f:Str->Option Int}(g:Good f)(P:PJ f ([],Lt) hs)(To:TopOk top)(hQ:Q (.ret (.bool true))):
  Ay G q32 (params vs [a1,a2,.dI f,a4,a5,a6,a7,a8,a9,a10,a11,a12,a13,a14,Gb,a16,a17,a18,a19,a20,a21,a22,a23,a24,.dS (Da hs top),a26,P8 hs]) Q:=by
 have hF:∀c∈Lt,Bh (.dS (Da hs top)) (.str ⟨#[c]⟩)=some (.str (S (Au c (BI hs c) top))):=λc hc=>by
  show(Da hs top (S [c])).map T.str=_;refine rwl (MS P hc) ?_;rfl
 have hT:∀q∈tiesL,q.1∈Lt/\q.2∈Lt/\q.1≠q.2:=by decide
 refine Az (l:=tiesL) (f:=λq=>.str (pr q.1 q.2)) (g:=λq=>.str (S [AZ (vAt f q.1 q.2).toNat])) rfl (λ_ _ q=>q) (λ_ _ _ q=>q) (λq m Q hQ=>?_) λν=>And.intro (show 10<=4000 by decide) ?_
 ·obtain⟨h1,h2,ne⟩:=hT q m;refine Ab (hF q.1 h1) ?_;refine Ab (hF q.2 h2) ?_;exact O5 X P To h1 h2 ne hQ
 ·refine Az (l:=tiesL) (f:=λq=>.str (pr q.1 q.2)) (g:=λq=>.str (S [AZ (vAt f q.1 q.2).toNat])) rfl (λ_ _ q=>q) (λ_ _ _ q=>q) (λq m Q hQ=>?_) λν=>And.intro (show 10<=4000 by decide) ?_
  ·obtain⟨h1,h2,ne⟩:=hT q m;refine Ab (XF g h1 h2 ne) ?_;refine Ab (So g h1 h2 ne) ?_;exact hQ
  ·have e:tiesL.map (λq=>T.str (S [AZ (vAt f q.1 q.2).toNat]))=(tiesL.map λq=>S [AZ (vAt f q.1 q.2).toNat]).map T.str:=by rw [List.map_map];rfl
   refine rwl (P:=λl=>J0 .Eq (.list l) (.list l) _) e (Rr (QW λx m=>?_) hQ);obtain⟨q,_,rfl⟩:=mM m;exact PM (Sn _)
end
inductive RQ(G:Tab)(r:Ss)(ν:NS)(Q:Ou->Prop):Prop
 |mk (h:Aq G r ν Q)
theorem RQ.go{G:Tab}{r:Ss}{ν:NS}{Q:Ou->Prop}(x:RQ G r ν Q):Aq G r ν Q:=by cases x;assumption
theorem sN{G:Tab}{q:St}{r:Ss}{ν:NS}{Q:Ou->Prop}(h:Ay G q ν λo=>match o with|.nxt ν₁=>RQ G r ν₁ Q|.ret t=>Q (.ret t)):RQ G (.cons q r) ν Q:=by
 have e:(λo:Ou=>match o with|.nxt ν₁=>RQ G r ν₁ Q|.ret t=>Q (.ret t))=λo=>match o with|.nxt ν₁=>Aq G r ν₁ Q|.ret t=>Q (.ret t):=funext λo=>by
  cases o with
  |nxt ν₁=>exact propext ⟨RQ.go,.mk⟩
  |ret t=>rfl
 rw [e] at h;exact .mk h
theorem sZ{G:Tab}{ν:NS}{Q:Ou->Prop}(h:Q (.nxt ν)):RQ G .nil ν Q:=.mk h
noncomputable def Pg(hs:C5):T:=.list (Lt.map λx=>.list ((B4 (x,BI hs x)).map T.str))
noncomputable def Mid(Q:Ou->Prop):Prop:=∀(f:Str->Option Int) (hs:C5) (top:List Nat) (a1 a2 a4 a5 a6 a7 a8 a9 a10 a11 a12 a13 a14 a16 a18 a19 a20 a21 a22 a23:T),Good f->PJ f ([],Lt) hs->TopOk top->
 Q (.nxt (params vs [a1,a2,.dI f,a4,a5,a6,a7,a8,a9,a10,a11,a12,a13,a14,Gb,a16,.str (S top),a18,a19,a20,a21,a22,a23,.list (hs.map (B2 top)),.dS (Da hs top),Pg hs]))
theorem QN(n:Int)(m:Nat)(h:0<m):∃k:Nat,n.fmod m=k/\k<m:=by
 refine rwl (Int.fmod_eq_emod_of_nonneg n (by exact Int.natCast_nonneg m)) ?_;refine⟨(n%m).toNat,?_,?_⟩
 ·have:=Int.emod_nonneg n (b:=m) (by exact Int.natCast_ne_zero_iff_pos.mpr h);(exact Eq.symm (Int.toNat_of_nonneg this))
 ·have:=Int.emod_lt_of_pos n (b:=m) (by exact Int.natCast_pos.mpr h);(refine Nat.lt_of_not_le λh=>?_;lia)
theorem Wl(f:Str->Option Int){top:List Nat}(T:Tp top):Ba (S (Au 107 (fL f) top)) ⟨#[46]⟩ ⟨#[46,46]⟩=S (107::46::dom (fL f) top):=by
 exact WW T _ _ _ _
theorem Yu{G:Tab}(X:LawG G){ns:List Int}(hl:ns.length<=63){Q:Ou->Prop}(hret:Q (.ret (.bool true)))(hm:Mid Q):Aq G FZ (params vs [.list (ns.map .int)]) Q:=by
 refine RQ.go ?_;refine sN (r1 X hl λa b c=>?_);show RQ G _ _ Q;refine sN (r2 X λf g=>?_);show RQ G _ _ Q;refine lid λgg kk=>?_
 obtain⟨h,e1,hh⟩:=QN c 48 (by decide);obtain⟨z0,e2,hz⟩:=QN (c.fdiv 48) 3 (by decide);obtain⟨w,e3,hw⟩:=QN (c.fdiv 144) 100 (by decide);obtain⟨z,ez⟩:∃z,z=1+z0:=⟨_,rfl⟩;refine kk ?_;have z1:1<=z:=by(exact Nat.le.intro (id (Eq.symm ez)))
 have z3:z<=3:=by(refine Nat.le_of_not_lt λh=>?_;omega)
 have e2:1+(c.fdiv 48).fmod 3=(z:Int):=by
  have e2:(c.fdiv 48).fmod 3=(z0:Int):=e2;refine rwl e2 ?_;omega
 refine sN (r3 X e1 e2 e3 ?_);show RQ G _ _ Q;refine sN (r4 X z1 z3 hw ?_);show RQ G _ _ Q;refine sN (r5 X z1 z3 hw ?_);show RQ G _ _ Q;refine sN (r6 X hh ?_);show RQ G _ _ Q;refine sN (r7 X hh (by(refine Nat.lt_of_not_le λh=>?_;omega)) ?_);show RQ G _ _ Q;refine sN (r8 X hh ?_);show RQ G _ _ Q;refine sN (r9 X hh z1 z3 hw ?_);show RQ G _ _ Q;refine sN (r10 X hh z1 z3 hw ?_);show RQ G _ _ Q;refine sN (r11 X hh z3 hw ?_);show RQ G _ _ Q;refine sN (r12 X hh z3 hw ?_);show RQ G _ _ Q;refine sN (r13 X (QB hh z3 hw) ?_);show RQ G _ _ Q;refine sN (r14 ?_);show RQ G _ _ Q;refine sN (r15 g ?_);show RQ G _ _ Q;refine sN (r16 X g hh z1 z3 hw ?_);show RQ G _ _ Q;refine sN (r17 λtop T=>?_);show RQ G _ _ Q;have N:=nms X T.ok hh (XG f) (show 4<=100 by decide) (r:=[]) (Wl f T);refine sN (r18 g T ?_);show RQ G _ _ Q;refine sN (r19 N.sx (T3 hh) ?_);show RQ G _ _ Q;refine sN (r20 N.lt N.lxg ?_);show RQ G _ _ Q;refine sN (r21 N.lxg N.ldg N.le N.sd N.u1 N.u2 N.u3 N.hr N.hrl ?_);show RQ G _ _ Q;refine sN (r22 N.c1 N.c2 N.c3 N.c4 N.c5 N.c6 N.c7 N.c8 N.c9 N.c10 N.c11 ?_);show RQ G _ _ Q;refine sN (r23 ?_);show RQ G _ _ Q;refine sN (r24 N.hs N.lt N.e1 N.e2 N.e3 N.e4 N.e5 ?_);show RQ G _ _ Q;refine sN (r25 X g (Nat.le_trans T.ok.small (by decide)) ?_);show RQ G _ _ Q;refine sN (r26 X g (λhb=>⟨?_,?_⟩) λn1 n2=>?_)
 ·unfold T1
  (refine rwl (LM g (W6 g hb)) ?_;rfl)
 ·exact hret
 show RQ G _ _ Q;refine lid λgg kk=>?_
 obtain⟨hs,eh,P⟩:=LL g (PV g n1 n2);refine kk ?_;have ef:T1 f top=.list (hs.map (B2 top)):=by
  unfold T1
  (refine rwl eh ?_;rfl)
 refine rwl ef ?_;refine sN (r27 X ?_);show RQ G _ _ Q;refine sN (r28 X P ?_);show RQ G _ _ Q;refine sN (r29 X (by rw [Al];exact Nat.le_trans T.ok.small (by decide)) P ?_);show RQ G _ _ Q;refine sZ ?_;exact hm f hs top _ _ _ _ _ _ _ _ _ _ _ _ _ _ _ _ _ _ _ _ g P T.ok
theorem Yt{G:Tab}(X:LawG G){f:Str->Option Int}{hs:C5}{top:List Nat}{a1 a2 a4 a5 a6 a7 a8 a9 a10 a11 a12 a13 a14 a16 a18 a19 a20 a21 a22 a23:T}(g:Good f)(P:PJ f ([],Lt) hs)(To:TopOk top){Q:Ou->Prop}(hret:Q (.ret (.bool true))):
  Aq G HC (params vs [a1,a2,.dI f,a4,a5,a6,a7,a8,a9,a10,a11,a12,a13,a14,Gb,a16,.str (S top),a18,a19,a20,a21,a22,a23,.list (hs.map (B2 top)),.dS (Da hs top),Pg hs,P8 hs]) Q:=by
 refine RQ.go ?_;refine sN (r31 P ?_);show RQ G _ _ Q;exact sN (r32 X g P To hret)
theorem KG{M:Model}{env:Env}{b:List Stmt}(Γ){Q:Flow->_->Shared->Prop}{E:Value->_->Shared->Prop}:∀(a:List Stmt) (p) (s:Shared),
  Sem.wp M Γ (execs a env) (λf p' s'=>match f with|.next=>Sem.wp M Γ (execs b env) Q E p' s'|f=>Q f p' s') E p s->Sem.wp M Γ (execs (a++b) env) Q E p s
 |[]=>λp s h=>h
 |st::a=>λp s h=>by
  (simp only [List.cons_append,execs_cons,Sem.wp_bind'])
  rw [execs_cons,Sem.wp_bind'] at h;refine Sem.wp_mono M Γ _ (λf p' s' h'=>?_) (λ_ _ _ h'=>h') _ _ h
  cases f<;>first|exact KG Γ a _ _ h'|exact h'
theorem Oq{M:Model}{A:Around}{env:Env}{E:Value->Shared->Prop}{a b:List Stmt}{s:Shared}{Q:Flow->Shared->Prop}(h:wpAny M A (execs a env) (λfl s'=>match fl with|.next=>wpAny M A (execs b env) Q E s'|f=>Q f s') E s):wpAny M A (execs (a++b) env) Q E s:=λΓ p hΓ=>by
 refine KG Γ a _ _ (Sem.wp_mono M Γ _ (λf p' s' h'=>?_) (λ_ _ _ h'=>h') _ _ (h Γ p hΓ))
 cases f<;>first|exact h' Γ p' hΓ|exact h'
noncomputable abbrev E6:Nat:=465557414252
noncomputable def QK:Gs:=.last (.v E6) .nil (.sub (.v E6) (.un .USub (.k (.int 1))))
noncomputable def Qs:X:=.comp (.sub (.v DI) (.slc .no .no (.x (.un .USub (.k (.int 1)))))) QK []
noncomputable def Fb(l:Str):Prop:=Bh (.str l) (.int (-1))=some (.str (Txt.item l (-1)))
theorem Xt(c:Nat):Fb (S [c]):=rfl
theorem Xs(p q:Nat):Fb (S [p,q]):=rfl
theorem Yw{G:Tab}{l:Str}{Q:List T->NS->Prop}(h:Fb l)(hQ:Q [.str (Txt.item l (-1))] [(E6,.fz (.str l))]):Gv G QK (.str l) [] Q:=by
 refine Ab h ?_;exact hQ
theorem Yv{G:Tab}{l m:Str}{Q:List T->NS->Prop}(h:Fb l)(hQ:Q [.str (Txt.item l (-1))] [(E6,.fz (.str l))]):Gv G QK (.str l) [(E6,.fz (.str m))] Q:=by
 refine Ab h ?_;exact hQ
theorem Vj(x:Nat)(ls:List Lab):∀l∈B4 (x,ls),Fb l:=λl m=>by
 unfold B4 at m
 rcases mC m with rfl|m
 ·exact Xt _
 ·obtain⟨y,_,rfl⟩:=mM m;exact Xs _ _
theorem Tb{G:Tab}{t:List Str}{Q:T->NS->Prop}(hp:Bh (BA t) (.slc none none (some (-1)))=some (.list (t.reverse.map T.str)))(hl:t.length<=100)(h:∀l∈t,Fb l)(hQ:∀ν,Q (BA (krS t)) ν):AC G Qs [(DI,.fz (BA t))] Q:=by
 refine Ab hp ?_;refine MK (N:=λl=>[(E6,.fz (.str l))]) (p:=Fb) (o:=λl=>.str (Txt.item l (-1))) (λk Q h hQ=>Yw h hQ) (λk t Q h hQ=>Yv h hQ) t.reverse (λout=>out.length<=4000/\Q (.list out) _) (λl m=>h l (List.mem_reverse.mp m)) ⟨by(simp only [List.length_map,List.length_reverse]);lia,?_⟩;have:=hQ [(DI,.fz (BA t))];unfold BA krS at this;rw [List.map_map] at this;exact this
theorem Pn{t:List Str}(hl:t.length<=5):Bh (BA t) (.slc none none (some (-1)))=some (.list (t.reverse.map T.str)):=by
 obtain _|⟨a,_|⟨b,_|⟨c,_|⟨d,_|⟨e,_|⟨f,r⟩⟩⟩⟩⟩⟩:=t
 ·kernel_rfl
 ·kernel_rfl
 ·kernel_rfl
 ·kernel_rfl
 ·kernel_rfl
 ·kernel_rfl
 ·exact absurd (Nat.le_of_add_le_add_right (b:=5) hl:r.length+1<=0) (Nat.not_succ_le_zero _)
noncomputable def Yd(o:Ou):Prop:=∀Q:Ou->Prop,Q (.ret (.bool true))->Mid Q->Q o
theorem Ys{G:Tab}(X:LawG G){ns:List Int}(hl:ns.length<=63):Aq G FZ (params vs [.list (ns.map .int)]) Yd:=
 Yu X hl (λQ h _=>h) λf hs top a1 a2 a4 a5 a6 a7 a8 a9 a10 a11 a12 a13 a14 a16 a18 a19 a20 a21 a22 a23 g P To Q _ h2=>h2 f hs top a1 a2 a4 a5 a6 a7 a8 a9 a10 a11 a12 a13 a14 a16 a18 a19 a20 a21 a22 a23 g P To
noncomputable def UD(f:Fs)(st:Stmt):Prop:=∃params body scope p1 p2 p3 p4 lp kp kp2 cp q k0,
 st=.Assign [.Name (nm D3) p1] (.Call (.Name "sorted" p2) [.Name (nm Je) p3] [⟨some (Str.ofString "key"),.Lambda params body scope lp,kp⟩,⟨some (Str.ofString "reverse"),.Constant (.bool true) k0 q,kp2⟩] cp) p4/\
 JL f (nm D3)=true/\glo f "sorted"=true/\params.posonlyargs=[]/\params.vararg=none/\params.kwonlyargs=[]/\params.kwarg=none/\params.args.map (·.arg)=[nm DI]/\params.defaults=[]/\params.kw_defaults=[]/\
 scope.kind=.function/\scope.names=[(nm DI,.local)]/\scope.isCoroutine=false/\scope.isGenerator=false/\okE (En scope) Qs body
section
variable{prog:Program}{w:World}{B:Heap}{cls:Addr}{p:Program}{loose:List Str}{mean:ExcName->Option Value}{mg mb:Str->Option Value}
theorem Qm(hB:BaseOk prog B cls)(hb:BiOk B)(AF:AllFn B)(T:Top p loose mean mg mb B){c P:Addr}(C0:CodeHd B c P)(hPB:B.get? P=none){f:Fs}{tk1:Bool}{st1 st2:List Stmt}{sst:Stmt}
  (ok1:PQ f tk1 FZ st1) (ok2:PQ f tk1 HC st2) (oks:UD f sst) {ns:List Int} (hl:ns.length<=63)
  {A:Around} {C:Cx} {env:Env} (hA:AOk A 5) (lk:Lk C env f) (hcl:C.cls=cls) (ht:tk1=true->1<=C.tk) (hcode:env.code=.ref c)
  {H0 Mu:List Addr} {ad:Str->Addr} {s:Shared} {Q:Flow->Shared->Prop} {E:Value->Shared->Prop} (htk:C.tk<=s.toks) (hPH:P∈H0) (hP:s.heap.get? P=some (tabObj #[]))
  (F:Fm prog w C B H0 Mu env (den (params vs [.list (ns.map .int)])) ad s.heap)
  (hQ:∀h' k,Sub B h'->(∃ps,h'.get? P=some (tabObj ps))->Q (.ret (.bool true)) {s with heap:=h',toks:=k}):
  wpAny (model prog w) A (execs (st1++sst::st2) env) Q E s:=by
 have hG:=Yf (w:=w) hB hb AF;refine lid λgg kk=>?_
 obtain⟨o,mo,rs⟩:=sSs hB hG (by decide) FZ f tk1 st1 _ Yd ok1 (Ys Xr hl);refine kk ?_;refine Oq (wpAny_with_toks (n:=C.tk) htk (rs ⟨A,C,env,hA,lk,hcl⟩ ht H0 Mu ad s _ _ htk F λfl h₁ k₁ nw ad₁ hn kp ok=>λht₁=>?_));have sub1:Sub B h₁:=λb o e=>kp b o (λm=>by rw [F.off b m] at e;cases e) (F.base b o e)
 have hP1:h₁.get? P=some (tabObj #[]):=kp P _ (λm=>F.apart P m hPH) hP;revert ok;refine mo (λo=>R8 prog w C B H0 (nw++Mu) env (Kk o) fl ad₁ h₁->(match fl with|.next=>wpAny (model prog w) A (execs (sst::st2) env) Q E {s with heap:=h₁,toks:=k₁}|f=>Q f {s with heap:=h₁,toks:=k₁})) ?_ ?_
 ·rintro ⟨v,rfl,hv⟩
  have hv:v=.bool true:=hv;subst hv;exact hQ h₁ k₁ sub1 ⟨_,hP1⟩
 ·intro g hs top a1 a2 a4 a5 a6 a7 a8 a9 a10 a11 a12 a13 a14 a16 a18 a19 a20 a21 a22 a23 gd PP To
  rintro ⟨rfl,F₁⟩
  show wpAny (model prog w) A (execs (sst::st2) env) Q E {s with heap:=h₁,toks:=k₁};refine lid λgg kk=>?_
  obtain⟨par,body,scope,p1,p2,p3,p4,lp,kp',kp2,cp,q,k0,rfl,o1,o2,o3,o4,o5,o6,o7,o8,o9,o10,o11,o12,o13,o14⟩:=oks;refine kk ?_;have g0:GOk prog w B cls 2 G0:=UE (n:=0) hB hb;refine wpAny_execs_cons (wpAny_with_toks (n:=C.tk) ht₁ (Vn (n:=2) (rows:=Lt.map λx=>B4 (x,BI hs x)) (outs:=hs.map B4) (kr:=krS) hA lk T C0 hcode hPB hb.sorted (Fd lk o2) (Fl lk o1) (by decide+kernel) (by rw [Ch];rfl) o3 o4 o5 o6 o7 ⟨o8,o9⟩ o10 o11 o12 o13
   (λt m=>?_) (show 2<=5 by decide) (show 5<64 by decide) (Sf PP) F₁ hPH hP1 λh₂ k₂ hP2 F₂=>λht₂=>?_))
  ·refine lid λgg kk=>?_
   obtain⟨x,hx,rfl⟩:=mM m;obtain⟨_,lab,len⟩:=MJ PP hx;have hlen:(B4 (x,BI hs x)).length<=5:=by unfold B4;simp;omega
   obtain⟨t',ν',et,re⟩:=sE (w:=w) hB g0 (by decide) Qs (En scope) body [(DI,.fz (BA (B4 (x,BI hs x))))] (λt' _=>t'=BA (krS (B4 (x,BI hs x)))) o14 (Tb (Pn hlen) (by lia) (Vj x _) λν=>rfl);refine kk ?_;subst et;exact⟨den ν',λA' C' env' a l h=>re ⟨A',C',env',a,l,h.trans hcl⟩⟩
  ·show wpAny (model prog w) A (execs st2 env) Q E {s with heap:=h₂,toks:=k₂};refine lid λgg kk=>?_
   obtain⟨o,eo,rs2⟩:=sSs hB hG (by decide) HC f tk1 st2 _ (λo=>o=.ret (.bool true)) ok2 (Yt Xr (a1:=a1) (a2:=a2) (a4:=a4) (a5:=a5) (a6:=a6) (a7:=a7) (a8:=a8) (a9:=a9) (a10:=a10) (a11:=a11) (a12:=a12) (a13:=a13) (a14:=a14) (a16:=a16) (a18:=a18) (a19:=a19) (a20:=a20) (a21:=a21) (a22:=a22) (a23:=a23) gd PP To rfl);refine kk ?_;subst eo;have le:=Le.put (ν:=params vs [a1,a2,.dI g,a4,a5,a6,a7,a8,a9,a10,a11,a12,a13,a14,Gb,a16,.str (S top),a18,a19,a20,a21,a22,a23,.list (hs.map (B2 top)),.dS (Da hs top),Pg hs]) (n:=D3) (s:=.fz (P8 hs));refine rs2 ⟨A,C,env,hA,lk,hcl⟩ ht H0 (nw++Mu) ad₁ _ _ _ ht₂ (F₂.fewer le) λfl h₃ k₃ nw₂ ad₃ hn₂ kp₂ ok₂=>?_
   refine lid λgg kk=>?_
   obtain⟨v,rfl,hv⟩:=ok₂;have hv:v=.bool true:=hv;subst hv;obtain⟨ps,hP2⟩:=hP2;refine kk ?_;exact hQ h₃ k₃ (λb o e=>kp₂ b o (λm=>by rw [F₂.off b m] at e;cases e) (F₂.base b o e)) ⟨ps,kp₂ P _ (λm=>F₂.apart P m hPH) hP2⟩
end
noncomputable def Yx:Expr->List Keyword
 |.Call _ _ ks _=>ks
 |_=>[]
noncomputable def dK:Keyword:=⟨none,dE,p0⟩
noncomputable def kwE(e:Expr)(i:Nat):Keyword:=(Yx e).getD i dK
noncomputable def WZ:Expr->Arguments
 |.Lambda a _ _ _=>a
 |_=>default
noncomputable def bdE(e:Expr):Expr:=kid e 0
noncomputable def U4(s:Stmt):Stmt:=
 .Assign [.Name (nm D3) (Ah (tgS s))] (.Call (.Name "sorted" (Ah (kid (Ad s) 0))) [.Name (nm Je) (Ah (kid (Ad s) 1))]
  [⟨some (Str.ofString "key"),.Lambda (WZ (kwE (Ad s) 0).value) (exE Qs (bdE (kwE (Ad s) 0).value)) (EQ (kwE (Ad s) 0).value) (Ah (kwE (Ad s) 0).value),(kwE (Ad s) 0).pos⟩,
   ⟨some (Str.ofString "reverse"),.Constant (.bool true) (knE (kwE (Ad s) 1).value) (Ah (kwE (Ad s) 1).value),(kwE (Ad s) 1).pos⟩] (Ah (Ad s))) (BV s)
noncomputable def XS(a:Arguments)(sc:Scope):Bool:=
 a.posonlyargs.isEmpty&&(a.vararg.isNone&&(a.kwonlyargs.isEmpty&&(a.kwarg.isNone&&(decide (a.args.map (·.arg)=[nm DI])&&(a.defaults.isEmpty&&(a.kw_defaults.isEmpty&&(decide (sc.kind=.function)&&(decide (sc.names=[(nm DI,.local)])&&(!sc.isCoroutine&& !sc.isGenerator)))))))))
noncomputable def U7(f:Fs)(s:Stmt):Bool:=
 JL f (nm D3)&&(glo f "sorted"&&(XS (WZ (kwE (Ad s) 0).value) (EQ (kwE (Ad s) 0).value)&&ckE (En (EQ (kwE (Ad s) 0).value)) Qs (bdE (kwE (Ad s) 0).value)))
theorem UZ{f:Fs}{s:Stmt}(h:U7 f s=true):UD f (U4 s):=by
 refine lid λgg kk=>?_
 obtain⟨h1,h⟩:=Af h;obtain⟨h2,h⟩:=Af h;obtain⟨h3,h4⟩:=Af h;obtain⟨a1,h⟩:=Af h3;obtain⟨a2,h⟩:=Af h;obtain⟨a3,h⟩:=Af h;obtain⟨a4,h⟩:=Af h;obtain⟨a5,h⟩:=Af h;obtain⟨a6,h⟩:=Af h;obtain⟨a7,h⟩:=Af h;obtain⟨a8,h⟩:=Af h;obtain⟨a9,h⟩:=Af h;obtain⟨b1,b2⟩:=Af h;refine kk ?_;exact⟨_,_,_,_,_,_,_,_,_,_,_,_,_,rfl,h1,h2,List.isEmpty_iff.mp a1,Option.isNone_iff_eq_none.mp a2,List.isEmpty_iff.mp a3,Option.isNone_iff_eq_none.mp a4,of_decide_eq_true a5,List.isEmpty_iff.mp a6,List.isEmpty_iff.mp a7,of_decide_eq_true a8,of_decide_eq_true a9,Gw b1,Gw b2,⟨_,h4,rfl⟩⟩
noncomputable def Qn(b:List Stmt):List Stmt:=BM FZ (b.take 29)++U4 (b.getD 29 (.Pass p0))::BM HC (b.drop 30)
noncomputable def Qq(d:DefRec):Bool:=L8 d Fy [Cj] true&&(HR (En d.scope) true FZ (d.body.take 29)&&(U7 (En d.scope) (d.body.getD 29 (.Pass p0))&&HR (En d.scope) true HC (d.body.drop 30)))
section
variable{prog:Program}{w:World}{B:Heap}{cls:Addr}{p:Program}{loose:List Str}{mean:ExcName->Option Value}{mg mb:Str->Option Value}
theorem Ql(hB:BaseOk prog B cls)(hb:BiOk B)(AF:AllFn B)(T:Top p loose mean mg mb B){c P:Addr}(C0:CodeHd B c P)(hPB:B.get? P=none){d:DefRec}(hck:Qq d=true)(hbody:d.body=Qn d.body)
  {a:Addr} {o:Obj} {pm code doc:Value} (q2:B.get? a=some o) (q3:o.data=.func (docDef d.name d.params d.body d.scope pm code doc)) (q4:B.CodeRec code d.name) (hcode:code=.ref c)
  {A:Around} (hA:AOk A 6) {s:Shared} {ns:List Int} (hl:ns.length<=63) (base:Sub B s.heap) (hP:s.heap.get? P=some (tabObj #[])) {v:Value} (hv:Holds prog w [P] s.heap (.list (ns.map .int)) v)
  {Q:Value->Shared->Prop} {E:Value->Shared->Prop} (hQ:∀h' k,Sub B h'->(∃ps,h'.get? P=some (tabObj ps))->Q (.bool true) {s with heap:=h',toks:=k}):wpAny (model prog w) A (call (.ref a) [v] []) Q E s:=by
 refine lid λgg kk=>?_
 obtain⟨h,k⟩:=Af hck;obtain⟨k1,k⟩:=Af k;obtain⟨k2,k3⟩:=Af k;refine kk ?_;have e6:FU ([Cj].map nm) d.scope=true:=y1 (y2 (y2 h));have e8:1<=HF ([Cj].map nm) d.scope:=of_decide_eq_true (y2 (y2 (y2 h)));have live:Live [P] s.heap:=λb m=>by refine rwl (mS m) ?_;exact⟨_,hP⟩
 have hvs:HoldsL prog w [P] s.heap [.list (ns.map .int)] [v]:=⟨v,[],rfl,hv,rfl⟩;refine KO (Hd:=[P]) (C:=⟨cls,[],0⟩) (ts:=[.list (ns.map .int)]) (ps:=[Cj].map nm) (R:=λv h'=>v=.bool true/\Sub B h'/\∃ps,h'.get? P=some (tabObj ps)) hA hB.lim q2 q3 rfl rfl rfl rfl rfl q4 (Ih (y1 (y2 h)) (Fe e6)) e6 rfl
  (λC' env' Mu ad h₁ k₁ Q' E' lk hc ht hco htk keep F _ hQ'=>?_) base live hvs (λv h' k r=>by obtain⟨rfl,r1,r2⟩:=r;exact hQ h' k r1 r2)
 rw [hbody];refine Qm (H0:=[P]) (Mu:=Mu) (ad:=ad) hB hb AF T C0 hPB ⟨_,k1,rfl⟩ ⟨_,k3,rfl⟩ (UZ k2) hl (hA.deeper env') lk hc (λ_=>by rw [ht];exact e8) (hco.trans hcode) htk (.head _) (keep _ _ hP) ?_ λh' k r1 r2=>hQ' _ h' k ⟨rfl,r1,r2⟩
 exact F.fewer λx t e=>e
end
section
variable{h:Heap}{tabs:List (Addr×Addr)}(hT:TabsAt tabs h)
include hT
theorem EB{x:Str}{v:Value}(g:GlobAt h x v):GlobAt (ghostOf h tabs) x v:=by
 obtain⟨m,n,r⟩:=g;refine⟨m,ghost_ns hT n,?_⟩
 rcases r with r|⟨r1,mb,n2,r2⟩
 ·exact .inl r
 ·exact .inr ⟨r1,mb,ghost_ns hT n2,r2⟩
theorem MT{c:Value}{q:Str}(r:h.CodeRec c q):(ghostOf h tabs).CodeRec c q:=by
 refine lid λgg kk=>?_
 obtain⟨c,o,vs,t,e1,e2,e3,e4⟩:=r;refine kk ?_;exact⟨c,o,vs,t,e1,ghost_get hT e2 (λq=>by rw [q] at e3;cases e3;cases e4),e3,e4⟩
theorem U1{a:Addr}{ps:List Str}{b:List Stmt}{sc:Scope}(f:FdAt h a ps b sc):FdAt (ghostOf h tabs) a ps b sc:=by
 obtain⟨o,fd,e1,e2,e3,e4,e5,e6,e7,e8,e9⟩:=f;exact⟨o,fd,ghost_get hT e1 (λq=>by rw [q] at e2;cases e2),e2,e3,e4,e5,e6,e7,MT hT e8,e9⟩
theorem Cl{fn:Nat}{ps:List Nat}{tk:Bool}{b:Ss}(f:FnFact h fn ps tk b):FnFact (ghostOf h tabs) fn ps tk b:=by
 obtain⟨a,ss,sc,e1,e2,e3,e4,e5⟩:=f;exact⟨a,ss,sc,EB hT e1,U1 hT e2,e3,e4,e5⟩
end
noncomputable def Vl(p:Program)(n:Nat):Option DefRec:=(recsOf p).find? λd=>decide (d.name=nm n)
noncomputable def D7(p:Program)(n:Nat)(ps:List Nat)(tk:Bool)(b:Ss):Bool:=match Vl p n with
 |some d=>L8 d n ps tk&&HR (En d.scope) tk b d.body
 |none=>false
noncomputable def A0(p:Program)(n:Nat):List Stmt:=match Vl p n with
 |some d=>d.body
 |none=>[]
theorem AJ{p:Program}{loose:List Str}{mean:ExcName->Option Value}{mg mb:Str->Option Value}{h:Heap}(T:Top p loose mean mg mb h){n:Nat}{ps:List Nat}{tk:Bool}{b:Ss}(c:D7 p n ps tk b=true)(e:A0 p n=BM b (A0 p n)):FnFact h n ps tk b:=by
 unfold D7 at c;unfold A0 at e
 cases q:Vl p n with
 |none=>rw [q] at c;cases c
 |some d=>
  rw [q] at c e;obtain⟨c1,c2⟩:=Af c;exact On T (List.mem_of_find?_eq_some q) c1 (⟨_,c2,e⟩)
noncomputable def Nl(p:Program):Bool:=
 D7 p Ks S5 false R2&&(D7 p Ax E3 true Ds&&(D7 p AI Fv false Ex&&(D7 p Bl D2 false CK&&(D7 p BG Fu false Ew&&(D7 p Jd p_v false b_v&&(D7 p AL Cy false BQ&&(D7 p A6 Cw true BP&&(D7 p AX CT false Cs&&(D7 p Am BD false Bn&&(D7 p Br G4 false FE&&(D7 p A7 BC false Bt&&(D7 p AR D1 false CJ&&(D7 p Ap Bq false AQ&&(D7 p AG CR true Cp&&(D7 p AW CS false Cq&&(D7 p A8 Cz false BR))))))))))))))))
structure Bodies(p:Program):Prop where
 ne:A0 p Ks=BM R2 (A0 p Ks)
 td:A0 p Ax=BM Ds (A0 p Ax)
 cc:A0 p AI=BM Ex (A0 p AI)
 co:A0 p Bl=BM CK (A0 p Bl)
 hd:A0 p BG=BM Ew (A0 p BG)
 v:A0 p Jd=BM b_v (A0 p Jd)
 pa:A0 p AL=BM BQ (A0 p AL)
 rg:A0 p A6=BM BP (A0 p A6)
 fo:A0 p AX=BM Cs (A0 p AX)
 dm:A0 p Am=BM Bn (A0 p Am)
 re:A0 p Br=BM FE (A0 p Br)
 hl:A0 p A7=BM Bt (A0 p A7)
 to:A0 p AR=BM CJ (A0 p AR)
 sa:A0 p Ap=BM AQ (A0 p Ap)
 pt:A0 p AG=BM Cp (A0 p AG)
 ho:A0 p AW=BM Cq (A0 p AW)
 cm:A0 p A8=BM BR (A0 p A8)
theorem WC{p:Program}{loose:List Str}{mean:ExcName->Option Value}{mg mb:Str->Option Value}{h:Heap}(T:Top p loose mean mg mb h){tabs:List (Addr×Addr)}(hT:TabsAt tabs h)(c:Nl p=true)(b:Bodies p):AllFn (ghostOf h tabs):=by
 unfold Nl at c;refine lid λgg kk=>?_
 obtain⟨c0,c⟩:=Af c;obtain⟨c1,c⟩:=Af c;obtain⟨c2,c⟩:=Af c;obtain⟨c3,c⟩:=Af c;obtain⟨c4,c⟩:=Af c;obtain⟨c5,c⟩:=Af c;obtain⟨c6,c⟩:=Af c;obtain⟨c7,c⟩:=Af c;obtain⟨c8,c⟩:=Af c;obtain⟨c9,c⟩:=Af c;obtain⟨c10,c⟩:=Af c;obtain⟨c11,c⟩:=Af c;obtain⟨c12,c⟩:=Af c;obtain⟨c13,c⟩:=Af c;obtain⟨c14,c⟩:=Af c;obtain⟨c15,c⟩:=Af c;refine kk ?_;exact {
  ne:=Cl hT (AJ T c0 b.ne)
  td:=Cl hT (AJ T c1 b.td)
  cc:=Cl hT (AJ T c2 b.cc)
  co:=Cl hT (AJ T c3 b.co)
  hd:=Cl hT (AJ T c4 b.hd)
  v:=Cl hT (AJ T c5 b.v)
  pa:=Cl hT (AJ T c6 b.pa)
  rg:=Cl hT (AJ T c7 b.rg)
  fo:=Cl hT (AJ T c8 b.fo)
  dm:=Cl hT (AJ T c9 b.dm)
  re:=Cl hT (AJ T c10 b.re)
  hl:=Cl hT (AJ T c11 b.hl)
  to:=Cl hT (AJ T c12 b.to)
  sa:=Cl hT (AJ T c13 b.sa)
  pt:=Cl hT (AJ T c14 b.pt)
  ho:=Cl hT (AJ T c15 b.ho)
  cm:=Cl hT (AJ T c b.cm)}
noncomputable def Y3(r:Option (Option Value)):Tok:=match r with
 |some (some (.float _ t))=>t
 |_=>0
noncomputable def T2(K:Frag):Bool:=gtab.all λx=>decide (nsIn K mainGlobals (nm x.1)=some (some (.float x.2 (Y3 (nsIn K mainGlobals (nm x.1))))))
section
variable{p:Program}{loose loose':List Str}{mean:ExcName->Option Value}{mg mb:Str->Option Value}{h:Heap}{K:Frag}{tabs:List (Addr×Addr)}
theorem Wk(hT:TabsAt tabs h)(X:K.In h)(T:Top p loose mean mg mb h)(c:T2 K=true):∀x∈gtab,∃t,GlobAt (ghostOf h tabs) (nm x.1) (.float x.2 t):=λx m=>by
 have:=List.all_eq_true.mp c x m;exact⟨_,EB hT (QD X T (of_decide_eq_true this))⟩
noncomputable def biB(p:Program)(loose:List Str)(x:Str):Bool:= !(startupNames.contains x||loose.contains x||((recsOf p).map (·.name)).contains x||((litsOf p).map (·.1)).contains x||((clssOf p loose).map (·.name)).contains x)
theorem UA(hT:TabsAt tabs h)(T:Top p loose mean mg mb h){x:Str}{v:Value}(c:biB p loose x=true)(hv:bootBuiltins x=some v):GlobAt (ghostOf h tabs) x v:=EB hT (O9 T (Gw c) hv)
noncomputable def Ni(p:Program)(loose:List Str):Bool:=(["sum","len","range","min","max","abs","int","sorted","hasattr","dict","super"]:List Str).all (biB p loose)
theorem Nh(hT:TabsAt tabs h)(T:Top p loose mean mg mb h)(c:Ni p loose=true):BiOk (ghostOf h tabs)/\GlobAt (ghostOf h tabs) "super" (.type "super"):=by
 have k:∀x∈(["sum","len","range","min","max","abs","int","sorted","hasattr","dict","super"]:List Str),biB p loose x=true:=λx m=>List.all_eq_true.mp c x m
 refine⟨⟨?_,?_,?_,?_,?_,?_,?_,?_,?_,?_⟩,?_⟩
 all_goals first|exact UA hT T (k _ (by simp)) (by decide+kernel)|exact UA hT T (k _ (by simp)) rfl
end
noncomputable def OY(p:Program):Option DefRec:=(recsOf p).find? λd=>decide (d.name="setitem")
noncomputable def GO(p:Program):Bool:=match OY p with
 |some d=>Uc d
 |none=>false
noncomputable def Dz(p:Program):List Stmt:=match OY p with
 |some d=>d.body
 |none=>[]
theorem N7{p:Program}{loose:List Str}{mean:ExcName->Option Value}{mg mb:Str->Option Value}{h:Heap}{tabs:List (Addr×Addr)}(hT:TabsAt tabs h)(T:Top p loose mean mg mb h)(c:GO p=true)(e:Dz p=JQ (JR (Dz p))):
  ∃fa p1 p2 p3 p4 p5 scope,GlobAt (ghostOf h tabs) "setitem" (.ref fa)/\FdAt (ghostOf h tabs) fa ["a","b","c"] [.Assign [.Subscript (.Name "a" p1) (.Name "b" p2) p3] (.Name "c" p4) p5] scope/\FU ["a","b","c"] scope=true/\
  scope.names.lookup ("a":Str)=some NameKind.local/\scope.names.lookup ("b":Str)=some NameKind.local/\scope.names.lookup ("c":Str)=some NameKind.local:=by
 unfold GO at c;unfold Dz at e
 cases q:OY p with
 |none=>rw [q] at c;cases c
 |some d=>
  rw [q] at c e;refine lid λgg kk=>?_
  obtain⟨fa,p1,p2,p3,p4,p5,sc,g,f,r⟩:=JP T (List.mem_of_find?_eq_some q) c e;refine kk ?_;exact⟨fa,p1,p2,p3,p4,p5,sc,EB hT g,U1 hT f,r⟩
theorem Fa{K:Frag}{P a:Addr}{o:Obj}(e:(K.filter λq=>q.1 !=P).lookup a=some o):a≠P/\K.lookup a=some o:=by
 induction K with
 |nil=>cases e
 |cons q r ih=>
  obtain⟨b,x⟩:=q;rw [List.filter_cons] at e
  by_cases hb:b=P
  ·subst hb;rw [if_neg (by simp)] at e;obtain⟨n,e⟩:=ih e;exact⟨n,by(simp only [List.lookup_cons,beq_eq_false_iff_ne.mpr n]);exact e⟩
  ·rw [if_pos (bne_iff_ne.mpr hb),List.lookup_cons] at e
   (simp only [List.lookup_cons])
   cases ha:a==b with
   |true=>
    rw [ha] at e;exact⟨λq=>hb (by(refine rwr q ?_;refine rwl (eq_of_beq ha) ?_;rfl)),e⟩
   |false=>
    rw [ha] at e;exact ih e
theorem U0{K:Frag}{h:Heap}(P:Addr)(X:K.In h):Frag.In (K.filter λq=>q.1 !=P) h:=λ_ _ e=>X _ _ (Fa e).2
theorem Tl{K:Frag}{h:Heap}{c P:Addr}(X:K.In h):Frag.In (K.filter λq=>q.1 !=P) (ghostOf h [(c,P)]):=λ_ _ e=>ghost_ne (X _ _ (Fa e).2) (by simpa using (Fa e).1)
section
variable{p:Program}{loose:List Str}{mean:ExcName->Option Value}{mg mb:Str->Option Value}{h:Heap}{K:Frag}{tabs:List (Addr×Addr)}
theorem TN{prog:Program}{C pa:Addr}{cd:ClassData}{fc fp fi fu Tp:Addr}{dc dp di du:FuncData}{dv:Value}(hT:TabsAt tabs h)(X:K.In h)(X':K.In (ghostOf h tabs))(T:Top p loose mean mg mb h)(H:AccHyp prog K C cd fc fp fi fu Tp dc dp di du dv)
  (n1:nsIn K mainGlobals "_Accumulator"=some (some (.ref C))) (n2:nsIn K mainGlobals "IPV4_RE"=some (some (.ref pa))) (n3:nsIn K cStatics sharingNotToldKey=some none) (n4:(K.lookup sysModules).isSome=true) (top:(prog.main.scope.names.lookup ("super":Str)).isSome=false)
  (t1:K.lookup pa=some (S2 K pa)) (t2:TJ K (Cv (Cu K pa 5))=some (.type "tuple",.seq (itK K (Cv (Cu K pa 5))) (vD K (Cv (Cu K pa 5))).2.2)) (t3:((itK K (Cv (Cu K pa 5))).map Builtin.Re.reRawOf).map (·.toNat)=Rx.code)
  (c1:T2 K=true) (c2:Ni p loose=true) (c3:GO p=true) (c4:Dz p=JQ (JR (Dz p))):BaseOk prog (ghostOf h tabs) C:=by
 have lim:(ghostOf h tabs).NoLimit:=(ghost_top hT T).nolimit;obtain⟨bi,sup⟩:=Nh hT T c2;obtain⟨mc,ns,r⟩:=T.nolimit;obtain⟨o,ho⟩:=Option.isSome_iff_exists.mp n4;exact {
  lim:=lim
  nb:=⟨mc,ghost_ns hT ns,ns_none_of X ns n3⟩
  sysm:=⟨o,X' _ _ ho⟩
  acc:=⟨K,TS X' lim (EB hT (QD X T n1)) sup top H⟩
  pat:=⟨pa,EB hT (QD X T n2),S3 X' t1 t2 t3⟩
  dict:=bi.dict
  glb:=Wk hT X T c1
  seti:=N7 hT T c3 c4}
end
theorem Og{cw:ClaimW}{cl:Str->Option Addr}{mean:ExcName->Option Value}{args:List WData}{s₁:Shared}{h':Heap}{k:Nat}{c P:Addr}{d:WData}(hT:TabsAt [(c,P)] s₁.heap)(sub:Sub (ghostOf s₁.heap [(c,P)]) h')(g:∃ps,h'.get? P=some (tabObj ps))
  (hr:∀x,cw.raises args x=false) (post:cw.post args d args=true) (rd:ReadsW cw.records cl h' (.bool true) d []) (gens:AllBare s₁.gens):GoodWG cw cl mean args s₁ (.ok (.ret (.bool true))) {s₁ with heap:=h',toks:=k}:=by
 obtain⟨ps,hP⟩:=g;obtain⟨hc,e2⟩:=hT _ (.head _);have e2:s₁.heap.get? P=some (tabObj #[]):=e2;have keep:∀b o,b≠P->s₁.heap.get? b=some o->h'.get? b=some o:=λb o hb e=>sub b o (ghost_ne e (by simpa using hb))
 refine⟨.inl ⟨.bool true,d,[],rfl,hr,rd,post,λ_=>⟨.nil,λa m=>nomatch m⟩⟩,⟨λb o e=>?_,λb o e=>?_⟩,rfl,gens⟩
 ·by_cases hb:b=P
  ·subst hb;rw [e2] at e
   cases e
   exact .inr (.inl ⟨(hc.tab e2).isCodeTable,rfl,#[],ps,rfl,by refine rwl Array.empty_append ?_;exact hP⟩)
  ·exact .inl (keep b o hb e)
 ·by_cases hb:b=P
  ·subst hb;exact⟨_,hP⟩
  ·exact⟨o,keep b o hb e⟩
theorem Uz{prog:Program}{w:World}{X:List Addr}{h:Heap}:∀{vs:List Value} {ns:List Int},IntsAre vs ns->HoldsL prog w X h (ns.map T.int) vs
 |_,_,.nil=>rfl
 |_,_,.cons n t r=>⟨_,_,rfl,⟨t,rfl⟩,Uz r⟩
theorem IJ{prog:Program}{R:WRecords}{w:World}{s₀ s₁:Shared}{ns:List Int}{a P:Addr}{as:List Addr}{vs:List Value}(L:Laid R w s₀ s₁ [ofPy (PyData.list (ns.map PyData.int))] [.ref a] as)(hL:s₁.heap.IsList a vs.toArray)(hI:IntsAre vs ns)(hP:s₁.heap.get? P=some (tabObj #[])):
  Holds prog w [P] s₁.heap (.list (ns.map .int)) (.ref a):=by
 have g:=PySem.W.X.script_obj L hL;refine⟨a,vs,rfl,λm=>?_,⟨_,g,rfl,_,rfl,rfl,rfl⟩,?_⟩
 ·rw [mS m,hP] at g
  cases g
 ·exact Uz hI
theorem O6:AOk callerA 6:=⟨rfl,by decide+kernel,by decide+kernel,_,rfl⟩
theorem LO{h:Heap}{c P:Addr}:(ghostOf h [(c,P)]).get? P=none:=hideAll_none _ (.head _)
theorem Q5{p prog:Program}{lawD:DefRec}{loose:List Str}{mean mean':ExcName->Option Value}{mg mb:Str->Option Value}{s₀ s₁:Shared}{w:World}{K K':Frag}{C pa:Addr}{cd:ClassData}{fc fp fi fu Tp:Addr}{dc dp di du:FuncData}{dv:Value}
  (T:Top p loose mean mg mb s₁.heap) (H:AccHyp prog K C cd fc fp fi fu Tp dc dp di du dv)
  (n1:nsIn K mainGlobals "_Accumulator"=some (some (.ref C))) (n2:nsIn K mainGlobals "IPV4_RE"=some (some (.ref pa))) (n3:nsIn K cStatics sharingNotToldKey=some none) (n4:(K.lookup sysModules).isSome=true) (top:(prog.main.scope.names.lookup ("super":Str)).isSome=false)
  (t1:K.lookup pa=some (S2 K pa)) (t2:TJ K (Cv (Cu K pa 5))=some (.type "tuple",.seq (itK K (Cv (Cu K pa 5))) (vD K (Cv (Cu K pa 5))).2.2)) (t3:((itK K (Cv (Cu K pa 5))).map Builtin.Re.reRawOf).map (·.toNat)=Rx.code)
  (c1:T2 K=true) (c2:Ni p loose=true) (c3:GO p=true) (c4:Dz p=JQ (JR (Dz p)))
  (hfind:(recsOf p).find? (λe=>e.name==nm Fy)=some lawD) (hck:Qq lawD=true) (hbd:lawD.body=Qn lawD.body) (hall:Nl p=true) (hbs:Bodies p) {c P:Addr} (X:K'.In s₁.heap) (hKK:K=K'.filter λq=>q.1 !=P) (ht:tabIn K' (nm Fy)=some (c,P)) {fa:Addr} (hmg:mg (nm Fy)=some (.ref fa))
  {R:WRecords} {ns:List Int} {a:Addr} {as:List Addr} {vs:List Value} (L:Laid R w s₀ s₁ [ofPy (PyData.list (ns.map PyData.int))] [.ref a] as) (hL:s₁.heap.IsList a vs.toArray) (hI:IntsAre vs ns) (hlen:ns.length<=63)
  {cw:ClaimW} {cl:Str->Option Addr} {args:List WData} {d:WData} (hr:∀x,cw.raises args x=false) (post:cw.post args d args=true) (rd:∀h',ReadsW cw.records cl h' (.bool true) d []) (gens:AllBare s₁.gens) {E:Value->Shared->Prop}:
  wpAny (model prog w) callerA (call (.ref fa) [.ref a] []) (λv s'=>GoodWG cw cl mean' args s₁ (.ok (.ret v)) s') E s₁:=by
 refine lid λgg kk=>?_
 obtain⟨hc,hP⟩:=tab_of T X hfind ht;have hT:TabsAt [(c,P)] s₁.heap:=λq m=>by refine rwl (mS m) ?_;exact⟨hc,hP⟩
 subst hKK;have hB:=TN hT (U0 P X) (Tl X) T H n1 n2 n3 n4 top t1 t2 t3 c1 c2 c3 c4;obtain⟨bi,_⟩:=Nh hT T c2;obtain⟨a',o,pm,code,doc,q1,q2,q3,q4⟩:=T.fn lawD (List.mem_of_find?_eq_some hfind);refine kk ?_;have hname:lawD.name=nm Fy:=beq_iff_eq.mp (List.find?_some (p:=λe:DefRec=>e.name==nm Fy) hfind);rw [hname,hmg] at q1
 injection q1 with q1
 injection q1 with q1
 subst q1;exact Ql hB bi (WC T hT hall hbs) (ghost_top hT T) (ghost_code hT).1 LO hck hbd (ghost_get hT q2 (λq=>by rw [q] at q3;cases q3)) q3 (MT hT q4) (law_code X T.g ht hmg q2 q3) O6 hlen (λb o e=>of_hideAll _ e) hP (IJ L hL hI hP)
  λh' k s1 g=>Og hT s1 g hr post (rd h') gens
noncomputable def Qo(p:Program):Option DefRec:=(recsOf p).find? λe=>e.name==nm Fy
noncomputable def Qp(p:Program):Bool:=match Qo p with
 |some d=>Qq d
 |none=>false
noncomputable def Qr(p:Program):List Stmt:=match Qo p with
 |some d=>d.body
 |none=>[]
theorem Q4{p prog:Program}{loose:List Str}{mean mean':ExcName->Option Value}{mg mb:Str->Option Value}{s₀ s₁:Shared}{w:World}{K:Frag}{C pa c P:Addr}{cd:ClassData}{fc fp fi fu Tp:Addr}{dc dp di du:FuncData}{dv:Value}
  (T:Top p loose mean mg mb s₁.heap) (X:K.In s₁.heap) (H:AccHyp prog (K.filter λq=>q.1 !=P) C cd fc fp fi fu Tp dc dp di du dv) (ht:tabIn K (nm Fy)=some (c,P))
  (n1:nsIn (K.filter λq=>q.1 !=P) mainGlobals "_Accumulator"=some (some (.ref C))) (n2:nsIn (K.filter λq=>q.1 !=P) mainGlobals "IPV4_RE"=some (some (.ref pa))) (n3:nsIn (K.filter λq=>q.1 !=P) cStatics sharingNotToldKey=some none) (n4:((K.filter λq=>q.1 !=P).lookup sysModules).isSome=true) (top:(prog.main.scope.names.lookup ("super":Str)).isSome=false)
  (t1:(K.filter λq=>q.1 !=P).lookup pa=some (S2 (K.filter λq=>q.1 !=P) pa)) (t2:TJ (K.filter λq=>q.1 !=P) (Cv (Cu (K.filter λq=>q.1 !=P) pa 5))=some (.type "tuple",.seq (itK (K.filter λq=>q.1 !=P) (Cv (Cu (K.filter λq=>q.1 !=P) pa 5))) (vD (K.filter λq=>q.1 !=P) (Cv (Cu (K.filter λq=>q.1 !=P) pa 5))).2.2)) (t3:((itK (K.filter λq=>q.1 !=P) (Cv (Cu (K.filter λq=>q.1 !=P) pa 5))).map Builtin.Re.reRawOf).map (·.toNat)=Rx.code)
  (c1:T2 (K.filter λq=>q.1 !=P)=true) (c2:Ni p loose=true) (c3:GO p=true) (c4:Dz p=JQ (JR (Dz p)))
  (hck:Qp p=true) (hbd:Qr p=Qn (Qr p)) (hall:Nl p=true) (hbs:Bodies p) {fa:Addr} {nl:Str} (hnl:nm Fy=nl) (hmg:mg nl=some (.ref fa))
  {R:WRecords} {ns:List Int} {a:Addr} {as:List Addr} {vs:List Value} (L:Laid R w s₀ s₁ [ofPy (PyData.list (ns.map PyData.int))] [.ref a] as) (hL:s₁.heap.IsList a vs.toArray) (hI:IntsAre vs ns) (hlen:¬((63:Nat):Int)<(ns.length:Int))
  {cw:ClaimW} {cl:Str->Option Addr} {args:List WData} (hr:∀x,cw.raises args x=false) (post:cw.post args (.bool true) args=true) (gens:s₁.gens= #[]) {E:Value->Shared->Prop}:
  wpAny (model prog w) callerA (call (.ref fa) [.ref a] []) (λv s'=>GoodWG cw cl mean' args s₁ (.ok (.ret v)) s') E s₁:=by
 subst hnl;unfold Qp at hck;unfold Qr at hbd
 cases q:Qo p with
 |none=>rw [q] at hck;cases hck
 |some d=>
  rw [q] at hck hbd;exact Q5 T H n1 n2 n3 n4 top t1 t2 t3 c1 c2 c3 c4 q hck hbd hall hbs X rfl ht hmg L hL hI (by(refine Nat.le_of_not_lt λh=>?_;omega)) hr post (λ_=>.bool true) (.of_eq gens)
end Mine.Internal
open PySem PySem.W PyProof.Rows PySem.W.X PySem.W.ZRun Mine.Internal
theorem Mine.Internal.hyp_go{K:Frag}{B:Heap}{P:Prop}(X:K.In B)(A:AccHyp PySem.Challenge.rw_xr0009_01.row.prog K 165 ((clsIn K 165).getD default) 162 125 102 109 94 (fdK K 162) (fdK K 125) (fdK K 102) (fdK K 109) (.int 0 415))(k:AccHyp PySem.Challenge.rw_xr0009_01.row.prog K 165 ((clsIn K 165).getD default) 162 125 102 109 94 (fdK K 162) (fdK K 125) (fdK K 102) (fdK K 109) (.int 0 415)->P):P:=k A
set_option maxRecDepth 100000 in
theorem Mine.Internal.wsaid:PySem.Challenge.rw_xr0009_01.wellSaid=true:=by kernel_rfl
set_option maxRecDepth 100000 in
set_option maxHeartbeats 0 in
theorem PySem.Challenge.cw_xr0009_01_holds : PySem.Challenge.rw_xr0009_01.Holds := by
 w_on;refine holds_law Mine.Internal.wsaid λsaid=>?_;z_head;(case hw=>w_witness2)
 k_fill
 intro w s₀ s₁ mg mb G y fa o pm cd doc dV kV ho hd hcd hD hmg hg args vals as L hpre hlay hrd hwl hlo
 z_open y L KX ZH ZN ZT
 refine Ground.open G ?_;intro T B D TE TW
 wrow_args hpre hlay hrd hwl hlo
 obtain⟨hat,hsz⟩:=script_at L;have htk:=script_toks L ZT;refine hyp_go (U0 249 KX) ?_ ?_;refine {
   cls:=by kernel_rfl
   cls':=by kernel_rfl
   mro:=by kernel_rfl
   hD:=by kernel_rfl
   hab:=by kernel_rfl
   hde:=by kernel_rfl
   hq:=by kernel_rfl
   ga:=by kernel_rfl
   gt:=by kernel_rfl
   app:=by kernel_rfl
   sub:=by kernel_rfl
   self_:=by kernel_rfl
   nomod:=by kernel_rfl
   meta_:=by kernel_rfl
   opq:=by kernel_rfl
   len:=by kernel_rfl
   pop:=by kernel_rfl
   init:=by kernel_rfl
   sa:=by kernel_rfl
   noat:=by kernel_rfl
   callC:=by kernel_rfl
   made:=λS=>by kernel_rfl
   madeL:=λS=>by kernel_rfl
   base:=λS=>by kernel_rfl
   typ:=λS=>by kernel_rfl
   f1:=by kernel_rfl
   f2:=by kernel_rfl
   f3:=by kernel_rfl
   f4:=by kernel_rfl
   t1:=by kernel_rfl
   t2:=by kernel_rfl
   t3:=by kernel_rfl
   t4:=by kernel_rfl
   d1:=⟨⟨by kernel_rfl,by kernel_rfl,by kernel_rfl,by kernel_rfl,by kernel_rfl,by kernel_rfl,by kernel_rfl⟩,by kernel_rfl,by kernel_rfl,by kernel_rfl,by kernel_rfl⟩
   d2:=⟨⟨by kernel_rfl,by kernel_rfl,by kernel_rfl,by kernel_rfl,by kernel_rfl,by kernel_rfl,by kernel_rfl⟩,by kernel_rfl,by kernel_rfl,by kernel_rfl,by kernel_rfl⟩
   d3:=⟨⟨by kernel_rfl,by kernel_rfl,by kernel_rfl,by kernel_rfl,by kernel_rfl,by kernel_rfl,by kernel_rfl⟩,by kernel_rfl,by kernel_rfl,by kernel_rfl,by kernel_rfl⟩
   d4:=⟨by kernel_rfl,by kernel_rfl,by kernel_rfl,by kernel_rfl,by kernel_rfl,by kernel_rfl,by kernel_rfl⟩
   b1:=by kernel_rfl
   b2:=by kernel_rfl
   b3:=by kernel_rfl
   b4:=by kernel_rfl
   n1:=by kernel_rfl
   n2:=by kernel_rfl
   n3:=by kernel_rfl
   n4:=by kernel_rfl
   cl:=by kernel_rfl
   iT:=by kernel_rfl
   s1:=by kernel_rfl
   s2:=by kernel_rfl
   s3:=by kernel_rfl
   s4:=by kernel_rfl
   s5:=by kernel_rfl
   e1:=by kernel_rfl
   e2:=by kernel_rfl
   e3:=by kernel_rfl
   e4:=by kernel_rfl
   l1:=by kernel_rfl
   l2:=by kernel_rfl
   l3:=by kernel_rfl
   l4:=by kernel_rfl
   l5:=by kernel_rfl}
 intro A;refine Q4 (c:=251) (P:=249) (pa:=43) T KX A (by kernel_rfl) (by kernel_rfl) (by kernel_rfl) (by kernel_rfl) (by kernel_rfl) (by kernel_rfl) (by kernel_rfl) (by kernel_rfl) (by kernel_rfl) (by kernel_rfl) (by kernel_rfl) (by kernel_rfl) (by kernel_rfl) (by kernel_rfl) (by kernel_rfl) (by kernel_rfl) ⟨by kernel_rfl,by kernel_rfl,by kernel_rfl,by kernel_rfl,by kernel_rfl,by kernel_rfl,by kernel_rfl,by kernel_rfl,by kernel_rfl,by kernel_rfl,by kernel_rfl,by kernel_rfl,by kernel_rfl,by kernel_rfl,by kernel_rfl,by kernel_rfl,by kernel_rfl⟩ (by kernel_rfl) hmg L (by assumption) (by assumption) (by assumption) ?hr ?post hg
 case hr=>exactλ_=>by kernel_rfl
 case post=>kernel_rfl
