import PyProof.Rows.All
import Wide.All
import OpenK.AllK
import Wide.FinOn
import PySem.Challenge.RW_nb0350_01
set_option maxRecDepth 100000
set_option linter.unusedVariables false
set_option genSizeOf false
set_option genInjectivity false
set_option backward.match.sparseCases false
open _root_.Nat renaming le_of_ble_eq_true → PT, ble_eq_true_of_le → PU, eq_of_beq_eq_true → PV, le_trans → PW, le_refl → PX, ne_of_lt → PY
open _root_.List renaming range → PZ, prefix_refl → P5, prefix_append → P6, getElem?_eq_some_iff → P7, mem_of_getElem? → P8, getElem?_eq_getElem → P9, getElem?_append_right → Qa, mem_cons → Qb, mem_singleton → Qc, mem_append → Qd, mem_map → Qe, length_append → Qf, length_cons → Qg, length_map → Qh, not_mem_nil → Qi, mem_cons_self → Qj, map_inj_left → Qk, nodup_cons → Ql
open _root_.Option renaming map_eq_some_iff → Qm, bind_eq_some_iff → Qn
open _root_.Bool renaming and_eq_true_iff → Qo, and_eq_true → Qp
open _root_.Exists renaming elim → Qq
open _root_.PySem.Heap renaming get?_push_of_some → Qr, lt_size → Qs, get?_update_self → Qt, get?_push_size → Qu
open _root_.PySem renaming wpAny_bind → Qv, wpAny_mono → Qw, wpAny_pure → Qx, wpAny_holding → Qy, wpAny_of_eq → Qz, wpAny_execs_cons → QA, wpAny_standAt → QB
open _root_.PySem.Str renaming ofString → QC
open _root_.Option renaming none → QD, some → QE
open _root_.Bool renaming true → QF, false → QG
open _root_.Option.some renaming inj → QH
open _root_.True renaming intro → QI
namespace Mine
noncomputable section
open PySem PySem.W PySem.Calls PyProof.Rows
theorem QJ.{u,v}{A:Sort u}{B:Sort v}{a b:A}(f:A->B)(h:a=b):f a=f b:=congrArg f h
theorem QK.{u,v}{A:Sort u}{B:A->Sort v}{f g:(x:A)->B x}(h:f=g)(a:A):f a=g a:=congrFun h a
inductive SV where
 |none
 |bool (b:Bool)
 |int (i:Int)
 |str (x:Str)
 |ref (k:Nat)
 |top (v:Value)
inductive SO where
 |list (xs:List SV)
 |tup (xs:List SV)
 |inst (C:Addr) (d:Nat)
 |ns (fs:List (Str×SV))
 |slots (C:Addr) (d:Nat) (vs:List (Option SV))
 |cell (v:Option SV)
 |obj (o:Obj)
 |fields (T:String) (vs:List SV)
 |words (ys:List Str)
 |loose (T:String) (vs:List SV)
 |vars (loc:List (Str×SV))
 |ints (ns:List Int)
 |intsX (vs:List Value) (ns:List Int)
 |sset (ys:List Str)
 |nsE (fs:List (Str×SV)) (ep:Nat)
 |dkeys (ks:List Str)
 |wtup (ys:List Str)
 |tab (A:Addr) (k:Nat)
 |any
structure St where
 loc:List (Str×SV)
 led:List SO
def aA(O:List Addr):SV->Value->Prop
 |.none,v=>v= .none
 |.bool b,v=>v= .bool b
 |.int i,v=>∃t,v= .int i t
 |.str x,v=>∃t,v= .str x t
 |.ref k,v=>∃a,O[k]?=QE a/\v= .ref a
 |.top u,v=>v=u
def cD(O:List Addr):Option SV->Option Value->Prop
 |none,v=>v=QD
 |some x,v=>∃u,v=QE u/\aA O x u
noncomputable def LR{α β:Type}(R:α->β->Prop):List α->List β->Prop
 |[],vs=>vs=[]
 |x::xs,vs=>∃v r,vs=v::r/\R x v/\LR R xs r
def au(O:List Addr):List SV->List Value->Prop:=LR (aA O)
def ck(O:List Addr):List (Option SV)->List (Option Value)->Prop:=LR (cD O)
noncomputable def bC(P:Params)(O:List Addr):List (Str×SV)->List DictEntry->Prop
 |[],es=>es=[]
 |f::fs,es=>∃t v r,es=⟨PyData.keyHash P f.1, .str f.1 t,v⟩::r/\aA O f.2 v/\bC P O fs r
def eQ(O:List Addr):Option SV->Option Value->Prop
 |none,_=>True
 |some x,v=>∃u,v=QE u/\aA O x u
def gu(O:List Addr)(loc:List (Str×SV))(m:Str->Option Value):Prop:=∀x,eQ O (loc.lookup x) (m x)
noncomputable def G5(P:Params):List Str->List DictEntry->Prop
 |[],es=>es=[]
 |k::ks,es=>∃t v r,es=⟨PyData.keyHash P k, .str k t,v⟩::r/\G5 P ks r
def Jc(P:Params)(ys:List Str)(o:Obj):Prop:=∃(prog:Program)(w:World)(n:Nat),w.params=P/\n<=ys.length/\o.SetObjOf (strKind prog w) (λk=>ys.any (·==k)) n
def aP(P:Params)(O:List Addr):SO->Obj->Prop
 |.list xs,o=>∃vs n,o=listOf vs.toArray n/\au O xs vs
 |.tup xs,o=>∃vs n,o={ cls:= .type "tuple",data:= .seq vs.toArray n }/\au O xs vs
 |.inst C d,o=>∃a,O[d]?=QE a/\o=instObj C a
 |.ns fs,o=>∃es n,o=dictOf es n/\bC P O fs es
 |.slots C d vs,o=>∃a sl,O[d]?=QE a/\o={ cls:= .ref C,dict:=QE a,data:= .plain,slots:=sl.toArray }/\ck O vs sl
 |.cell v,o=>∃u,o.data= .cell u/\cD O v u
 |.obj o',o=>o=o'
 |.fields T vs,o=>∃us,o={ cls:= .type T,data:= .fields us.toArray }/\au O vs us
 |.words ys,o=>∃vs n,o=listOf vs.toArray n/\StrsAre vs ys
 |.loose T vs,o=>∃us,o.cls= .type T/\o.data= .fields us.toArray/\au O vs us
 |.vars loc,o=>∃m es ep,o.data= .dict es ep/\StrKeys es/\(∀name,nsFind es name=m name)/\gu O loc m
 |.ints ns,o=>∃vs n,o=listOf vs.toArray n/\IntsAre vs ns
 |.intsX vs ns,o=>o=listOf vs.toArray 0/\IntsAre vs ns
 |.sset ys,o=>Jc P ys o
 |.nsE fs ep,o=>∃es,o=dictOf es ep/\bC P O fs es
 |.dkeys ks,o=>∃es n,o=dictOf es n/\G5 P ks es
 |.wtup ys,o=>∃vs n,o={ cls:= .type "tuple",data:= .seq vs.toArray n }/\StrsAre vs ys
 |.tab A k,o=>O[k]?=QE A/\∃ps:Array Value,o={ cls:= .none,data:= .fields ps }/\TriplesOk ps.toList
 |.any,_=>True
def cy(P:Params)(O:List Addr):List SO->List (Addr×Obj)->Prop:=LR λx p=>aP P O x p.2
structure Wh (p:Prop):Prop where
 h:p
theorem nn{α:Type}{a:α}{p:Prop}(h:QD=QE a):p:=nomatch h
theorem ff{p:Prop}(h:QG=QF):p:=nomatch h
section
variable{α β:Type}{R R':α->β->Prop}
@[elab_as_elim] theorem LR.elim{x:α}{xs:List α}{G:List β->Prop}{vs:List β}(h:LR R (x::xs) vs)(k:∀v r,R x v->LR R xs r->G (v::r)):G vs:=
 Qq h λv h=>Qq h λr h=>h.1▸k v r h.2.1 h.2.2
theorem LR.mono(h:∀x v,R x v->R' x v){xs:List α}:∀{vs:List β},LR R xs vs->LR R' xs vs:=by
 induction xs with
 |nil=>exactλr=>r
 |cons x xs ih=>exactλz=>z.elim λv r a b=>⟨v,r,rfl,h _ _ a,ih b⟩
theorem LR.length{xs:List α}:∀{vs:List β},LR R xs vs->vs.length=xs.length:=by
 induction xs with
 |nil=>exactλr=>QJ List.length r
 |cons x xs ih=>exactλz=>z.elim λv r a b=>QJ (·+1) (ih b)
theorem LR.append{xs ys:List α}{us:List β}(hb:LR R ys us):∀{vs:List β},LR R xs vs->LR R (xs++ys) (vs++us):=by
 induction xs with
 |nil=>exactλr=>Eq.symm r▸hb
 |cons x xs ih=>exactλz=>z.elim λv r a b=>⟨v,r++us,rfl,a,ih b⟩
theorem LR.get{xs:List α}:∀{vs:List β},LR R xs vs->∀{i:Nat}{x:α},xs[i]?=QE x->∃v,vs[i]?=QE v/\R x v:=by
 induction xs with
 |nil=>exactλ_ _ _ e=>nn e
 |cons y ys ih=>
  refineλz i x=>z.elim λv r a b e=>?_
  cases i with
  |zero=>exact⟨v,rfl,QH (show QE y=QE x from e)▸a⟩
  |succ i=>exact ih b e
theorem LR.set{y:α}{o:β}(hy:R y o){xs:List α}:∀{vs:List β},LR R xs vs->∀{k:Nat},LR R (xs.set k y) (vs.set k o):=by
 induction xs with
 |nil=>exactλr k=>QJ (λv=>List.set v k o) r
 |cons x xs ih=>
  refineλz k=>z.elim λv r a b=>?_
  cases k with
  |zero=>exact⟨o,r,rfl,hy,b⟩
  |succ k=>exact⟨v,r.set k o,rfl,a,ih b⟩
theorem LR.drop{xs:List α}:∀{vs:List β},LR R xs vs->∀k:Nat,LR R (xs.drop k) (vs.drop k):=by
 induction xs with
 |nil=>exactλr k=>by cases(show _=[]from r);cases k<;>rfl
 |cons x xs ih=>
  refineλz k=>z.elim λv r a b=>?_
  cases k with
  |zero=>exact⟨v,r,rfl,a,b⟩
  |succ k=>exact ih b k
theorem LR.take{xs:List α}:∀{vs:List β},LR R xs vs->∀k:Nat,LR R (xs.take k) (vs.take k):=by
 induction xs with
 |nil=>exactλr k=>by cases(show _=[]from r);cases k<;>rfl
 |cons x xs ih=>
  refineλz k=>z.elim λv r a b=>?_
  cases k with
  |zero=>exact rfl
  |succ k=>exact⟨v,r.take k,rfl,a,ih b k⟩
theorem LR.map{γ:Type}{S:γ->β->Prop}{g:α->γ}(h:∀x v,R x v->S (g x) v){xs:List α}:∀{vs:List β},LR R xs vs->LR S (xs.map g) vs:=by
 induction xs with
 |nil=>exactλr=>r
 |cons x xs ih=>exactλz=>LR.elim z λv r a b=>⟨v,r,rfl,h _ _ a,ih b⟩
theorem LR.unmap{γ:Type}{S:γ->β->Prop}{g:α->γ}(h:∀x v,S (g x) v->R x v){xs:List α}:∀{vs:List β},LR S (xs.map g) vs->LR R xs vs:=by
 induction xs with
 |nil=>exactλr=>r
 |cons x xs ih=>exactλz=>LR.elim (show LR S (g x::xs.map g) _ from z) λv r a b=>⟨v,r,rfl,h _ _ a,ih b⟩
theorem LR.unsnoc{z:α}{xs:List α}:∀{vs:List β},LR R (xs++[z]) vs->∃us u,vs=us++[u]/\LR R xs us/\R z u:=by
 induction xs with
 |nil=>exactλh=>LR.elim h λv r a b=>⟨[],v,QJ (v:: ·) b,rfl,a⟩
 |cons x xs ih=>exactλh=>LR.elim h λv r a b=>Qq (ih b) λus q=>Qq q λu q=>⟨v::us,u,QJ (v:: ·) q.1,⟨v,us,rfl,a,q.2.1⟩,q.2.2⟩
noncomputable def vt(f:α->Option β):List α->Option (List β)
 |[]=>QE []
 |x::r=>(f x).bind λy=>(vt f r).bind λl=>QE (y::l)
theorem ex1{p q q':α->Prop}(h:∃a,p a/\q a)(k:∀a,q a->q' a):∃a,p a/\q' a:=Qq h λa h=>⟨a,h.1,k a h.2⟩
theorem ex2{p q q':α->β->Prop}(h:∃a b,p a b/\q a b)(k:∀a b,q a b->q' a b):∃a b,p a b/\q' a b:=Qq h λa h=>⟨a,ex1 h (k a)⟩
end
section
variable{P:Params}{O O':List Addr}
theorem aY(h:O <+:O'){k:Nat}{a:Addr}(e:O[k]?=QE a):O'[k]?=QE a:=
 Qq h λt q=>q▸(List.getElem?_append_left (P7.mp e).1).trans e
theorem aA.mono(h:O <+:O'){x:SV}{v:Value}(r:aA O x v):aA O' x v:=by
 cases x with
 |ref k=>exact Qq r λa q=>⟨a,aY h q.1,q.2⟩
 |_=>exact r
theorem cD.mono(h:O <+:O'){x:Option SV}{v:Option Value}(r:cD O x v):cD O' x v:=by
 cases x with
 |none=>exact r
 |some x=>exact ex1 r λ_=>aA.mono h
theorem eQ.mono(h:O <+:O'){x:Option SV}{v:Option Value}(r:eQ O x v):eQ O' x v:=by
 cases x with
 |none=>exact r
 |some x=>exact ex1 r λ_=>aA.mono h
theorem au.mono(h:O <+:O'){xs:List SV}{vs:List Value}(r:au O xs vs):au O' xs vs:=LR.mono (λ_ _=>aA.mono h) r
theorem ck.mono(h:O <+:O'){xs:List (Option SV)}{vs:List (Option Value)}(r:ck O xs vs):ck O' xs vs:=LR.mono (λ_ _=>cD.mono h) r
@[elab_as_elim] theorem bC.elim{f:Str×SV}{fs:List (Str×SV)}{G:List DictEntry->Prop}{es:List DictEntry}(h:bC P O (f::fs) es)(k:∀t v r,aA O f.2 v->bC P O fs r->G (⟨PyData.keyHash P f.1, .str f.1 t,v⟩::r)):G es:=
 Qq h λt h=>Qq h λv h=>Qq h λr h=>h.1▸k t v r h.2.1 h.2.2
theorem bC.mono(h:O <+:O'){fs:List (Str×SV)}:∀{es:List DictEntry},bC P O fs es->bC P O' fs es:=by
 induction fs with
 |nil=>exactλr=>r
 |cons f fs ih=>exactλr=>r.elim λt v r a b=>⟨t,v,r,rfl,a.mono h,ih b⟩
theorem aP.mono(h:O <+:O'){x:SO}{o:Obj}(r:aP P O x o):aP P O' x o:=by
 cases x with
 |list _=>exact ex2 r λ_ _=>au.mono h
 |tup _=>exact ex2 r λ_ _=>au.mono h
 |inst _ _=>exact Qq r λa q=>⟨a,aY h q.1,q.2⟩
 |ns _=>exact ex2 r λ_ _=>bC.mono h
 |slots _ _ _=>exact Qq r λa r=>Qq r λsl q=>⟨a,sl,aY h q.1,q.2.1,q.2.2.mono h⟩
 |cell _=>exact ex1 r λ_=>cD.mono h
 |fields _ _=>exact ex1 r λ_=>au.mono h
 |loose _ _=>exact ex1 r λ_ q=>⟨q.1,q.2.mono h⟩
 |vars _=>exact Qq r λm r=>Qq r λes r=>Qq r λep q=>⟨m,es,ep,q.1,q.2.1,q.2.2.1,λx=>(q.2.2.2 x).mono h⟩
 |nsE _ _=>exact ex1 r λ_=>bC.mono h
 |tab _ _=>exact⟨aY h r.1,r.2⟩
 |_=>exact r
theorem cy.mono(h:O <+:O'){xs:List SO}{ns:List (Addr×Obj)}(r:cy P O xs ns):cy P O' xs ns:=LR.mono (λ_ _=>aP.mono h) r
theorem gu.mono(h:O <+:O'){loc:List (Str×SV)}{m:Str->Option Value}(r:gu O loc m):gu O' loc m:=λx=>(r x).mono h
noncomputable def Nu:SV->Option Str
 |.str x=>QE x
 |_=>QD
theorem Cv{a:SV}{y:Str}(e:Nu a=QE y):a= .str y:=by cases a<;>first|exact nn e|exact QJ SV.str (QH e)
theorem m9{α β:Type}{f:α->Option β}{g:β->α}(h:∀a y,f a=QE y->a=g y){xs:List α}:∀{ys:List β},vt f xs=QE ys->xs=ys.map g:=by
 induction xs with
 |nil=>exactλe=>QH e▸rfl
 |cons x xs ih=>exactλe=>Qq (Qn.mp e) λy e=>Qq (Qn.mp e.2) λl e2=>QH e2.2▸(h x y e.1▸ih e2.1▸rfl)
theorem cb{vs:List Value}{ys:List Str}(h:StrsAre vs ys):au O (ys.map SV.str) vs:=by
 induction h with
 |nil=>rfl
 |cons y t _ ih=>exact⟨_,_,rfl,⟨t,rfl⟩,ih⟩
theorem dX{ys:List Str}:∀{vs:List Value},au O (ys.map SV.str) vs->StrsAre vs ys:=by
 induction ys with
 |nil=>exactλh=>Eq.symm h▸ .nil
 |cons y ys ih=>exactλh=>LR.elim h λv r a b=>Qq a λt q=>q.symm▸ .cons y t (ih b)
theorem p7{vs:List Value}{ys:List Int}(h:IntsAre vs ys):au O (ys.map SV.int) vs:=by
 induction h with
 |nil=>rfl
 |cons y t _ ih=>exact⟨_,_,rfl,⟨t,rfl⟩,ih⟩
theorem s8{ys:List Int}:∀{vs:List Value},au O (ys.map SV.int) vs->IntsAre vs ys:=by
 induction ys with
 |nil=>exactλh=>Eq.symm h▸ .nil
 |cons y ys ih=>exactλh=>LR.elim h λv r a b=>Qq a λt q=>q.symm▸ .cons y t (ih b)
theorem au.length{xs:List SV}{vs:List Value}(r:au O xs vs):vs.length=xs.length:=LR.length r
theorem au.append{xs ys:List SV}{vs us:List Value}(a:au O xs vs)(b:au O ys us):au O (xs++ys) (vs++us):=LR.append b a
theorem au.one{x:SV}{v:Value}(h:aA O x v):au O [x] [v]:=⟨v,[],rfl,h,rfl⟩
theorem au.drop{xs:List SV}{vs:List Value}(r:au O xs vs)(k:Nat):au O (xs.drop k) (vs.drop k):=LR.drop r k
theorem au.take{xs:List SV}{vs:List Value}(r:au O xs vs)(k:Nat):au O (xs.take k) (vs.take k):=LR.take r k
theorem au.get{xs:List SV}{vs:List Value}(r:au O xs vs){i:Nat}{x:SV}(e:xs[i]?=QE x):∃v,vs[i]?=QE v/\aA O x v:=LR.get r e
theorem cy.length{xs:List SO}{ns:List (Addr×Obj)}(r:cy P O xs ns):ns.length=xs.length:=LR.length r
theorem cy.append{xs ys:List SO}{ns ms:List (Addr×Obj)}(a:cy P O xs ns)(b:cy P O ys ms):cy P O (xs++ys) (ns++ms):=LR.append b a
theorem cy.get{xs:List SO}{ns:List (Addr×Obj)}(r:cy P O xs ns){k:Nat}{x:SO}(e:xs[k]?=QE x):∃p,ns[k]?=QE p/\aP P O x p.2:=LR.get r e
theorem cy.set{y:SO}{d:Addr}{o:Obj}(hy:aP P O y o){xs:List SO}{ns:List (Addr×Obj)}(r:cy P O xs ns){k:Nat}:cy P O (xs.set k y) (ns.set k (d,o)):=LR.set (o:=(d,o)) hy r
end
theorem JI{d:Addr}{o o':Obj}{ns:List (Addr×Obj)}:(ns.map (·.1)).Nodup->∀{k:Nat},ns[k]?=QE (d,o)->Upd d o o' ns (ns.set k (d,o')):=by
 induction ns with
 |nil=>exactλ_ _ e=>nn e
 |cons p r ih=>
  intro hn k e
  have hn:=Ql.mp hn
  cases k with
  |zero=>
   cases QH (show QE p=QE (d,o)from e)
   exact Upd.head λq hq e=>hn.1 (Qe.mpr ⟨q,hq,e⟩)
  |succ k=>exact Upd.tail (λq=>hn.1 (Qe.mpr ⟨_,P8 e,q.symm⟩)) (ih hn.2 e)
structure Rep (P:Params) (h₀:Heap) (L:Addr) (O:List Addr) (S:St) (h:Heap) (m:Str->Option Value) (news:List (Addr×Obj)):Prop where
 fr:Fr h₀ L h m
 nw:News h₀ L h news
 at_:news.map (·.1)=O
 nd:O.Nodup
 ob:cy P O S.led news
 lc:gu O S.loc m
section
variable{P:Params}{h₀ h h':Heap}{L:Addr}{O:List Addr}{S:St}{m:Str->Option Value}{news:List (Addr×Obj)}
theorem Rep.get(R:Rep P h₀ L O S h m news){k:Nat}{x:SO}(e:S.led[k]?=QE x):∃a o,news[k]?=QE (a,o)/\O[k]?=QE a/\h.get? a=QE o/\aP P O x o:=by
 obtain⟨⟨a,o⟩,h1,h2⟩:=R.ob.get e
 refine⟨a,o,h1,?_,(R.nw (a,o) (P8 h1)).1,h2⟩
 rw[<-R.at_,List.getElem?_map,h1];rfl
theorem Rep.mem(R:Rep P h₀ L O S h m news){k:Nat}{p:Addr×Obj}(e:news[k]?=QE p):p∈news:=P8 e
theorem Rep.alloc(R:Rep P h₀ L O S h m news){a:Addr}{o:Obj}{x:SO}(F':Fr h₀ L h' m)(N':News h₀ L h' ((a,o)::news))(hl:∀p∈news,p.1<a)(hx:aP P (O++[a]) x o):
  Rep P h₀ L (O++[a]) { S with led:=S.led++[x] } h' m (news++[(a,o)]):=by
 have pre:O <+:O++[a]:=P6 _ _
 refine⟨F',λp hp=>N' p ?_,by rw[List.map_append,R.at_];rfl,?_,(R.ob.mono pre).append ⟨(a,o),[],rfl,hx,rfl⟩,R.lc.mono pre⟩
 .rcases Qd.mp hp with q|q
  .exact .tail _ q
  .rw[Qc.mp q];exact .head _
 .rw[List.nodup_append]
  refine⟨R.nd,by simp,λb hb c hc=>?_⟩
  rw[Qc.mp hc]
  rw[<-R.at_]at hb
  obtain⟨p,hp,rfl⟩:=Qe.mp hb
  exact PY (hl p hp)
theorem Rep.upd(R:Rep P h₀ L O S h m news){k:Nat}{a:Addr}{o o':Obj}{y:SO}(e:news[k]?=QE (a,o))(F':Fr h₀ L h' m)(N':News h₀ L h' (news.set k (a,o')))(hy:aP P O y o'):
  Rep P h₀ L O { S with led:=S.led.set k y } h' m (news.set k (a,o')):=by
 refine⟨F',N',?_,R.nd,R.ob.set hy,R.lc⟩
 rw[<-R.at_,List.map_set]
 refine List.ext_getElem? λi=>?_
 rw[List.getElem?_set]
 by_cases q:k=i
 .subst q
  have:k<(news.map (·.1)).length:=by rw[Qh];exact(P7.mp e).1
  rw[if_pos rfl,if_pos this,List.getElem?_map,e];rfl
 .rw[if_neg q]
theorem Rep.updAt(R:Rep P h₀ L O S h m news){k:Nat}{a:Addr}{o:Obj}(o':Obj)(e:news[k]?=QE (a,o)):Upd a o o' news (news.set k (a,o')):=JI (by rw[R.at_];exact R.nd) e
theorem Rep.grown(R:Rep P h₀ L O S h m news)(F':Fr h₀ L h' m)(N':News h₀ L h' news):Rep P h₀ L O S h' m news:=⟨F',N',R.at_,R.nd,R.ob,R.lc⟩
theorem cA{β:Type}{y:Str}{p:Str×β}{r:List (Str×β)}(q:(y==p.1)=QF):(p::r).lookup y=QE p.2:=by
 rw[List.lookup_cons,q]
theorem bS{β:Type}{y:Str}{p:Str×β}{r:List (Str×β)}(q:(y==p.1)=QG):(p::r).lookup y=r.lookup y:=by
 rw[List.lookup_cons,q]
noncomputable def nS(x:Str)(v:SV):List (Str×SV)->List (Str×SV)
 |[]=>[(x,v)]
 |p::r=>if p.1==x then(x,v)::r else p::nS x v r
theorem rk(x:Str)(v:SV)(l:List (Str×SV))(y:Str):(nS x v l).lookup y=if y=x then QE v else l.lookup y:=by
 induction l with
 |nil=>
  cases q:(y==x)with
  |true=>exact(cA q).trans (if_pos (eq_of_beq q)).symm
  |false=>exact(bS q).trans (if_neg (ne_of_beq_false q)).symm
 |cons p r ih=>
  cases h:(p.1==x)with
  |true=>
   rw[show nS x v (p::r)=(x,v)::r from if_pos h]
   cases q:(y==x)with
   |true=>exact(cA q).trans (if_pos (eq_of_beq q)).symm
   |false=>exact(bS q).trans ((bS (eq_of_beq h▸q)).symm.trans (if_neg (ne_of_beq_false q)).symm)
  |false=>
   rw[show nS x v (p::r)=p::nS x v r from if_neg (h▸Bool.noConfusion)]
   cases q:(y==p.1)with
   |true=>exact(cA q).trans ((cA q).symm.trans (if_neg λz=>ne_of_beq_false h ((eq_of_beq q).symm.trans z)).symm)
   |false=>exact(bS q).trans (ih.trans (by rw[bS q]))
theorem gu.set{O:List Addr}{loc:List (Str×SV)}{m:Str->Option Value}{x:Str}{sv:SV}{v:Value}(r:gu O loc m)(hv:aA O sv v):gu O (nS x sv loc) (λy=>if y=x then QE v else m y):=λy=>by
 rw[rk]
 by_cases q:y=x
 .simp only[q,if_true];exact⟨v,rfl,hv⟩
 .simp only[q,if_false];exact r y
end
section
variable{P:Params}{h₀ h h':Heap}{L:Addr}{O:List Addr}{S:St}{m:Str->Option Value}{news:List (Addr×Obj)}
theorem Rep.same(R:Rep P h₀ L O S h m news){k:Nat}{a:Addr}{o o':Obj}{y:SO}(e:news[k]?=QE (a,o))(hs:Heap.SameBut a h h')(ho:h'.get? a=QE o')(hy:aP P O y o'):
  Rep P h₀ L O { S with led:=S.led.set k y } h' m (news.set k (a,o')):=by
 have z:=R.nw (a,o) (R.mem e)
 refine R.upd e (R.fr.change hs z.2.1 z.2.2) ?_ hy
 obtain⟨pre,post,h1,h2,h3,h4⟩:=(R.updAt o' e).split
 rw[h2]
 have N:=R.nw
 rw[h1]at N
 exact news_set N h3 h4 hs ho
end
inductive XF where
 |next|brk|cont
 |ret (v:SV)
inductive Orc where
 |call (f:Addr) (pk:List Nat) (Sin:List SO) (args:List SV) (Sout:List SO) (ret:SV)
 |stmt (line:Nat) (S':St) (fl:XF)
 |expr (line:Nat) (S':St) (v:SV)
 |merge (line:Nat)
structure XS where
 st:St
 hs:List (Nat×Bool)
 n:Nat
 cs:List Prop
 orc:List Orc
abbrev XM(α:Type):=XS->Option (α×XS)
noncomputable def aH{α:Type}(a:α):XM α:=λx=>QE (a,x)
noncomputable def ag{α β:Type}(m:XM α)(f:α->XM β):XM β:=λx=>match m x with
 |some (a,x')=>f a x'
 |none=>QD
noncomputable def ar{α:Type}:XM α:=λ_=>QD
noncomputable def iL(b:Bool):XM Bool:=λx=>match x.hs with
 |[]=>QE (b,{ x with n:=x.n+1 })
 |(k,h)::r=>match Nat.beq k x.n with
  |true=>QE (h,{ x with hs:=r,n:=x.n+1,cs:=(b=h)::x.cs })
  |false=>QE (b,{ x with n:=x.n+1 })
noncomputable def C6(k:Nat):XM SO:=λx=>match x.st.led[k]? with
 |some o=>QE (o,x)
 |none=>QD
noncomputable def HS(y:Str):XM SV:=λx=>match x.st.loc.lookup y with
 |some v=>QE (v,x)
 |none=>QD
def PS(y:Str)(v:SV):XM Unit:=λx=>QE ((),{ x with st:={ x.st with loc:=nS y v x.st.loc } })
noncomputable def eF(o:SO):XM SV:=λx=>QE (.ref x.st.led.length,⟨⟨x.st.loc,x.st.led++[o]⟩,x.hs,x.n,x.cs,x.orc⟩)
noncomputable def Jl(k:Nat)(o:SO):XM Unit:=λx=>QE ((),{ x with st:={ x.st with led:=x.st.led.set k o } })
noncomputable def Bv{α:Type}(o:Option α):XM α:=λx=>match o with
 |some a=>QE (a,x)
 |none=>QD
theorem dk{α β:Type}{m:XM α}{f:α->XM β}{x:XS}{r:β×XS}(h:ag m f x=QE r):∃a x',m x=QE (a,x')/\f a x'=QE r:=by
 unfold ag at h
 cases e:m x with
 |none=>rw[e]at h;cases h
 |some p=>obtain⟨a,x'⟩:=p;rw[e]at h;exact⟨a,x',rfl,h⟩
theorem bf{α:Type}{a:α}{x:XS}{r:α×XS}(h:aH a x=QE r):r=(a,x):=(QH h).symm
theorem yt{α:Type}{o:Option α}{x:XS}{r:α×XS}(h:Bv o x=QE r):∃a,o=QE a/\r=(a,x):=by
 cases o with
 |none=>cases h
 |some a=>exact⟨a,rfl,(QH h).symm⟩
theorem mK{k:Nat}{x:XS}{r:SO×XS}(h:C6 k x=QE r):x.st.led[k]?=QE r.1/\r.2=x:=by
 unfold C6 at h
 cases e:x.st.led[k]? with
 |none=>rw[e]at h;cases h
 |some o=>rw[e]at h;cases h;exact⟨rfl,rfl⟩
theorem wR{y:Str}{x:XS}{r:SV×XS}(h:HS y x=QE r):x.st.loc.lookup y=QE r.1/\r.2=x:=by
 unfold HS at h
 cases e:x.st.loc.lookup y with
 |none=>rw[e]at h;cases h
 |some o=>rw[e]at h;cases h;exact⟨rfl,rfl⟩
noncomputable def bh:List Prop->Prop
 |[]=>True
 |p::r=>p/\bh r
theorem bh.tail{p:Prop}{cs:List Prop}(h:bh (p::cs)):bh cs:=h.2
theorem dO{b:Bool}{x:XS}{r:Bool×XS}(h:iL b x=QE r)(hc:bh r.2.cs):r.1=b/\r.2.st=x.st/\bh x.cs:=by
 unfold iL at h
 cases e:x.hs with
 |nil=>rw[e]at h;cases h;exact⟨rfl,rfl,hc⟩
 |cons p t=>
  obtain⟨k,q⟩:=p
  rw[e]at h
  dsimp only at h
  cases z:Nat.beq k x.n with
  |true=>rw[z]at h;cases h;exact⟨hc.1.symm,rfl,hc.tail⟩
  |false=>rw[z]at h;cases h;exact⟨rfl,rfl,hc⟩
noncomputable abbrev PM:Program->World->Model:=λp w=>model p w
structure Cx where
 pr:Program
 w:World
 A:Around
 A₀:Around
 base:Heap
 h₀:Heap
 outer:List Env
 L:Addr
 qual:Str
 sc:Scope
 fa:Addr
 cd:Value
 cl:List (Str×Addr)
 K:Frag
 p:Program
 loose:List Str
 mg:Str->Option Value
 mb:Str->Option Value
 os:OsState
 cp:Option (Scope×Addr×List (Str×Addr))
noncomputable abbrev Cx.fenv(c:Cx):Env:=envX c.qual c.sc c.L c.fa c.cd c.cl
def Cx.env(c:Cx):Env:=match c.cp with
 |none=>c.fenv
 |some (sc,C,cl)=>{ c.fenv with scope:=sc,locals:=C,cells:=cl,func:=QD }
theorem Cx.globals(c:Cx):c.env.globals=mainGlobals:=by unfold Cx.env;split<;>rfl
theorem Cx.builtins(c:Cx):c.env.builtins=builtinsNs:=by unfold Cx.env;split<;>rfl
noncomputable abbrev Cx.P(c:Cx):Params:=c.w.params
noncomputable abbrev Cx.M(c:Cx):Model:=model c.pr c.w
structure Fs where
 sc:Scope
 cells:List (Str×Nat)
 lvl:Nat
 cp:Option Nat
noncomputable def Cx.fs(c:Cx):List Addr:=c.outer.filterMap (·.frame)
structure CxW (c:Cx) (F:Fs):Prop where
 sc:c.env.scope=F.sc
 kin:c.K.In c.base
 top:TopRead c.p c.loose c.mg c.mb c.base
 frames:c.A.frames=QE (c.fenv::c.outer)
 fn:c.env.scope.kind= .function
 ffn:c.sc.kind= .function
 cpn:F.cp=QD->c.cp=QD
 depth:c.A.depth+F.lvl<recursionLimit
 units:c.A.units+16*F.lvl+16<cLine
 sysm:∃o,c.base.get? sysModules=QE o
 dicts:KtsDicts c.fs c.h₀
structure aD (c:Cx) (F:Fs):Prop extends CxW c F where
 handled:c.A.handled=QD
def mU(O:List Addr)(cells:List (Str×Nat))(cl:List (Str×Addr)):Prop:=∀x k,cells.lookup x=QE k->∃a,cl.lookup x=QE a/\O[k]?=QE a
theorem mU.mono{O O':List Addr}(h:O <+:O'){cells:List (Str×Nat)}{cl:List (Str×Addr)}(r:mU O cells cl):mU O' cells cl:=λx k e=>let⟨a,q,z⟩:=r x k e;⟨a,q,aY h z⟩
structure E2 (c:Cx) (s:Shared):Prop where
 os:s.os=c.os
 gens:AllBare s.gens
 tk:1<=s.toks
structure Fm where
 g:Heap
 m:Str->Option Value
structure Pre (c:Cx) (F:Fs) (O:List Addr) (S:St) (s:Shared) (m:Fm) (news:List (Addr×Obj)):Prop where
 rep:Rep c.P m.g c.L O S s.heap m.m news
 below:Below c.A₀ c.base c.outer m.g
 turn:KtsTurn c.fs c.h₀ m.g
 cell:mU O F.cells c.env.cells
 vars:∀k,F.cp=QE k->O[k]?=QE c.env.locals
 side:E2 c s
def aG{β:Type}(c:Cx)(F:Fs)(O:List Addr)(S:St)(R:List Addr->β->Prop)(v:β)(s:Shared):Prop:=
 ∃O' m' news',O <+:O'/\Pre c F O' S s m' news'/\R O' v
noncomputable abbrev NoE:Value->Shared->Prop:=λ_ _=>False
def Snd{α β:Type}(c:Cx)(F:Fs)(m:XM α)(t:Sem β)(R:α->List Addr->β->Prop):Prop:=
 ∀x a x',m x=QE (a,x')->bh x'.cs->bh x.cs/\∀O s mm news,Pre c F O x.st s mm news->wpAny c.M c.A t (aG c F O x'.st (R a)) NoE s
def aj{α β γ:Type}(c:Cx)(F:Fs)(I:List Addr->γ->Prop)(m:XM α)(t:γ->Sem β)(R:α->List Addr->β->Prop):Prop:=
 ∀x a x',m x=QE (a,x')->bh x'.cs->bh x.cs/\∀O s mm news g,Pre c F O x.st s mm news->I O g->wpAny c.M c.A (t g) (aG c F O x'.st (R a)) NoE s
def rV(a:SV)(O:List Addr)(v:Value):Prop:=aA O a v
def rVs(a:List SV)(O:List Addr)(v:List Value):Prop:=au O a v
def rB{β:Type}(a:β)(_:List Addr)(v:β):Prop:=v=a
def rF:XF->List Addr->Flow->Prop
 |.next,_,f=>f= .next
 |.brk,_,f=>f= .brk
 |.cont,_,f=>f= .cont
 |.ret v,O,f=>∃u,f= .ret u/\aA O v u
theorem aG.mono{β:Type}{c:Cx}{F:Fs}{O O₁:List Addr}{S:St}{R:List Addr->β->Prop}{v:β}{s:Shared}(h:O <+:O₁)(p:aG c F O₁ S R v s):aG c F O S R v s:=
 let⟨O',m',n',a,b,d⟩:=p;⟨O',m',n',h.trans a,b,d⟩
theorem aG.el{β:Type}{c:Cx}{F:Fs}{O:List Addr}{S:St}{R:List Addr->β->Prop}{v:β}{s:Shared}(z:aG c F O S R v s){G:Prop}(k:∀O' m' n',O <+:O'->Pre c F O' S s m' n'->R O' v->G):G:=
 Qq z λO' z=>Qq z λm' z=>Qq z λn' z=>k O' m' n' z.1 z.2.1 z.2.2
theorem Pre.now{β:Type}{c:Cx}{F:Fs}{O:List Addr}{S:St}{R:List Addr->β->Prop}{v:β}{s:Shared}{m:Fm}{news:List (Addr×Obj)}(p:Pre c F O S s m news)(r:R O v):aG c F O S R v s:=
 ⟨O,m,news,P5 _,p,r⟩
theorem Pre.toks{c:Cx}{F:Fs}{O:List Addr}{S:St}{s:Shared}{m:Fm}{news:List (Addr×Obj)}(p:Pre c F O S s m news)(t:Nat)(ht:s.toks<=t:=by lia):Pre c F O S { s with toks:=t } m news:=⟨p.rep,p.below,p.turn,p.cell,p.vars,⟨p.side.os,p.side.gens,PW p.side.tk ht⟩⟩
theorem Pre.heap{c:Cx}{F:Fs}{O O':List Addr}{S S':St}{s:Shared}{m:Fm}{m':Str->Option Value}{news news':List (Addr×Obj)}(p:Pre c F O S s m news){h':Heap}{t:Nat}(hp:O <+:O')(r:Rep c.P m.g c.L O' S' h' m' news')(ht:s.toks<=t:=by lia):Pre c F O' S' { s with heap:=h',toks:=t } ⟨m.g,m'⟩ news':=
 ⟨r,p.below,p.turn,p.cell.mono hp,λk e=>aY hp (p.vars k e),⟨p.side.os,p.side.gens,PW p.side.tk ht⟩⟩
theorem Pre.heap'{c:Cx}{F:Fs}{O O':List Addr}{S S':St}{s:Shared}{m:Fm}{m':Str->Option Value}{news news':List (Addr×Obj)}(p:Pre c F O S s m news){h':Heap}(hp:O <+:O')(r:Rep c.P m.g c.L O' S' h' m' news'):Pre c F O' S' { s with heap:=h' } ⟨m.g,m'⟩ news':=
 ⟨r,p.below,p.turn,p.cell.mono hp,λk e=>aY hp (p.vars k e),⟨p.side.os,p.side.gens,p.side.tk⟩⟩
theorem Pre.kin{c:Cx}{F F':Fs}{O:List Addr}{S:St}{s:Shared}{m:Fm}{news:List (Addr×Obj)}(p:Pre c F O S s m news)(H:CxW c F'):c.K.In m.g:=H.kin.keeps p.below.stays
theorem Pre.top{c:Cx}{F F':Fs}{O:List Addr}{S:St}{s:Shared}{m:Fm}{news:List (Addr×Obj)}(p:Pre c F O S s m news)(H:CxW c F'):TopRead c.p c.loose c.mg c.mb m.g:=H.top.keeps p.below.stays
theorem Pre.sysm{c:Cx}{F F':Fs}{O:List Addr}{S:St}{s:Shared}{m:Fm}{news:List (Addr×Obj)}(p:Pre c F O S s m news)(H:CxW c F'):∃o,m.g.get? sysModules=QE o:=let⟨o,h⟩:=H.sysm;⟨o,p.below.stays _ _ h⟩
section
variable{c:Cx}{F:Fs}{α β γ δ:Type}
theorem PI{t:Sem β}{O:List Addr}{S S':St}{s:Shared}{R:List Addr->β->Prop}{Q:γ->Shared->Prop}{k:β->Sem γ}(h:wpAny c.M c.A t (aG c F O S R) NoE s)
  (g:∀O' m' news' v s',O <+:O'->Pre c F O' S s' m' news'->R O' v->wpAny c.M c.A (k v) Q NoE s'):wpAny c.M c.A (t >>=k) Q NoE s:=
 Qv (Qw h (λv s'⟨O',m',n',a,b,d⟩=>g O' m' n' v s' a b d) λ_ _ e=>e)
theorem go_{t:Sem β}{O:List Addr}{S:St}{s:Shared}{R:List Addr->β->Prop}{Q:β->Shared->Prop}{E:Value->Shared->Prop}(h:wpAny c.M c.A t (aG c F O S R) NoE s)
  (g:∀O' m' news' v s',O <+:O'->Pre c F O' S s' m' news'->R O' v->Q v s'):wpAny c.M c.A t Q E s:=
 Qw h (λv s'⟨O',m',n',a,b,d⟩=>g O' m' n' v s' a b d) λ_ _ e=>e.elim
end
@[reducible] noncomputable def St.put(S:St)(l:Nat)(o:SO):St:=⟨S.loc,S.led.set l o⟩
@[reducible] noncomputable def St.add(S:St)(o:SO):St:=⟨S.loc,S.led++[o]⟩
theorem fL{α:Type}{b:Bool}{o:Option α}{a:α}(h:cond b o QD=QE a):b=QF/\o=QE a:=by
 cases b with
 |true=>exact⟨rfl,h⟩
 |false=>cases h
noncomputable def xrd{α β:Type}(l:Nat)(rd:SO->Option β)(f:β->XM α):XM α:=λx=>(x.st.led[l]?.bind rd).elim QD λb=>f b x
noncomputable def xif{α:Type}(b:Bool)(m:XM α):XM α:=λx=>cond b (m x) QD
noncomputable def xob{α β:Type}(o:Option β)(f:β->XM α):XM α:=λx=>o.elim QD λb=>f b x
def xwr{α:Type}(bs:List Prop)(l:Nat)(o:SO)(v:α):XM α:=λx=>QE (v,⟨x.st.put l o,x.hs,x.n,bs++x.cs,x.orc⟩)
noncomputable def cI{α:Type}(bs:List Prop)(v:α):XM α:=λx=>QE (v,⟨x.st,x.hs,x.n,bs++x.cs,x.orc⟩)
def Bj(o:SO):XM Nat:=λx=>QE (x.st.led.length,⟨x.st.add o,x.hs,x.n,x.cs,x.orc⟩)
def lM(bs:List Prop)(o:SO):XM SV:=λx=>QE (.ref x.st.led.length,⟨x.st.add o,x.hs,x.n,bs++x.cs,x.orc⟩)
noncomputable def xst{α:Type}(g:St->St)(v:St->α):XM α:=λx=>QE (v x.st,⟨g x.st,x.hs,x.n,x.cs,x.orc⟩)
def cE{α:Type}(a:SV)(f:Nat->XM α):XM α:=match a with
 |.ref l=>f l
 |_=>ar
theorem dA{α β:Type}{o:Option α}{f:α->Option β}{r:β}(h:o.elim QD f=QE r):∃a,o=QE a/\f a=QE r:=by
 cases o with
 |none=>cases h
 |some a=>exact⟨a,rfl,h⟩
theorem bK{α β:Type}{o:Option α}{f:α->Option β}{b:β}(e:o.bind f=QE b){G:Prop}(k:∀a,o=QE a->f a=QE b->G):G:=
 Qq (Qn.mp e) λa h=>k a h.1 h.2
theorem aZ{α β:Type}{m:XM α}{f:α->XM β}{x:XS}{r:β×XS}(h:ag m f x=QE r){G:Prop}(k:∀a x',m x=QE (a,x')->f a x'=QE r->G):G:=
 let⟨a,x',h1,h2⟩:=dk h;k a x' h1 h2
theorem l9{α β:Type}{l:Nat}{rd:SO->Option β}{f:β->XM α}{x:XS}{r:α×XS}(h:xrd l rd f x=QE r){G:Prop}(k:∀o b,x.st.led[l]?=QE o->rd o=QE b->f b x=QE r->G):G:=
 let⟨b,e1,e2⟩:=dA h
 let⟨o,e3,e4⟩:=Qn.mp e1
 k o b e3 e4 e2
theorem pU{α:Type}{a:SV}{f:Nat->XM α}{x:XS}{r:α×XS}(h:cE a f x=QE r){G:Prop}(k:∀l,a= .ref l->f l x=QE r->G):G:=by
 cases a with
 |ref l=>exact k l rfl h
 |_=>exact nn h
theorem bh.two{bs cs:List Prop}:bh (bs++cs)->bh bs/\bh cs:=by
 induction bs with
 |nil=>exactλh=>⟨QI,h⟩
 |cons b bs ih=>exactλh=>⟨⟨h.1,(ih h.2).1⟩,(ih h.2).2⟩
section
variable{c:Cx}{F:Fs}{α β γ δ:Type}{x:XS}{I:List Addr->γ->Prop}{t:γ->Sem β}{R:α->List Addr->β->Prop}
def At(c:Cx)(F:Fs)(x:XS)(I:List Addr->γ->Prop)(m:XM α)(t:γ->Sem β)(R:α->List Addr->β->Prop):Prop:=
 ∀a x',m x=QE (a,x')->bh x'.cs->bh x.cs/\∀O s mm news g,Pre c F O x.st s mm news->I O g->wpAny c.M c.A (t g) (aG c F O x'.st (R a)) NoE s
theorem At.fail:At c F x I ar t R:=λ_ _ e=>nomatch e
theorem At.rd{l:Nat}{rd:SO->Option δ}{f:δ->XM α}(h:∀o b,x.st.led[l]?=QE o->rd o=QE b->At c F x I (f b) t R):At c F x I (xrd l rd f) t R:=λa x' e=>
 let⟨b,e1,e2⟩:=dA e
 let⟨o,e3,e4⟩:=Qn.mp e1
 h o b e3 e4 a x' e2
theorem At.led{l:Nat}{f:SO->XM α}(h:∀o,x.st.led[l]?=QE o->At c F x I (f o) t R):At c F x I (ag (C6 l) f) t R:=λa x' e hc=>by
 obtain⟨o,x1,h1,h2⟩:=dk e
 obtain⟨h3,h4⟩:=mK h1
 exact h o h3 a x' (h4▸h2) hc
theorem At.bif{b:Bool}{m:XM α}(h:b=QF->At c F x I m t R):At c F x I (xif b m) t R:=λa x' e=>by
 cases b with
 |true=>exact h rfl a x' e
 |false=>cases e
theorem At.ob{o:Option δ}{f:δ->XM α}(h:∀b,o=QE b->At c F x I (f b) t R):At c F x I (xob o f) t R:=λa x' e=>
 let⟨b,e1,e2⟩:=dA e
 h b e1 a x' e2
theorem At.wr{bs:List Prop}{l:Nat}{o:SO}{v:α}(h:bh bs->∀O s mm news g,Pre c F O x.st s mm news->I O g->wpAny c.M c.A (t g) (aG c F O (x.st.put l o) (R v)) NoE s):At c F x I (xwr bs l o v) t R:=λa x' e hc=>by
 cases e;exact⟨(bh.two hc).2,h (bh.two hc).1⟩
theorem At.say{bs:List Prop}{v:α}(h:bh bs->∀O s mm news g,Pre c F O x.st s mm news->I O g->wpAny c.M c.A (t g) (aG c F O x.st (R v)) NoE s):At c F x I (cI bs v) t R:=λa x' e hc=>by
 cases e;exact⟨(bh.two hc).2,h (bh.two hc).1⟩
theorem At.add{o:SO}{R:Nat->List Addr->β->Prop}(h:∀O s mm news g,Pre c F O x.st s mm news->I O g->wpAny c.M c.A (t g) (aG c F O (x.st.add o) (R x.st.led.length)) NoE s):At c F x I (Bj o) t R:=λa x' e hc=>by
 cases e;exact⟨hc,h⟩
theorem At.new{bs:List Prop}{o:SO}{R:SV->List Addr->β->Prop}(h:bh bs->∀O s mm news g,Pre c F O x.st s mm news->I O g->wpAny c.M c.A (t g) (aG c F O (x.st.add o) (R (.ref x.st.led.length))) NoE s):At c F x I (lM bs o) t R:=λa x' e hc=>by
 cases e;exact⟨(bh.two hc).2,h (bh.two hc).1⟩
theorem At.alloc{o:SO}{R:SV->List Addr->β->Prop}(h:∀O s mm news g,Pre c F O x.st s mm news->I O g->wpAny c.M c.A (t g) (aG c F O (x.st.add o) (R (.ref x.st.led.length))) NoE s):At c F x I (eF o) t R:=λa x' e hc=>by
 cases e;exact⟨hc,h⟩
theorem At.st{g:St->St}{v:St->α}(h:∀O s mm news g',Pre c F O x.st s mm news->I O g'->wpAny c.M c.A (t g') (aG c F O (g x.st) (R (v x.st))) NoE s):At c F x I (xst g v) t R:=λa x' e hc=>by
 cases e;exact⟨hc,h⟩
theorem At.tell{bs:List Prop}{v:α}(h:bh bs->∀O s mm news g,Pre c F O x.st s mm news->I O g->∀Q:β->Shared->Prop,(∀u tk,R v O u->Q u { s with toks:=tk })->wpAny c.M c.A (t g) Q NoE s):At c F x I (cI bs v) t R:=
 At.say λhb O s mm news g p hi=>wpAny_with_toks (PX _) (Qw (h hb O s mm news g p hi (λu s'=>s.toks<=s'.toks->aG c F O x.st (R v) u s') λu tk r ht=>(p.toks tk ht).now r) (λ_ _ z=>z) λ_ _ z=>z.elim)
theorem aj.at{m:XM α}(h:∀x,At c F x I m t R):aj c F I m t R:=h
theorem aj.ref(a:SV){J:SV->List Addr->γ->Prop}{f:Nat->XM α}(h:∀l,aj c F (J (.ref l)) (f l) t R):aj c F (J a) (cE a f) t R:=by
 cases a with
 |ref l=>exact h l
 |_=>exactλ_ _ _ e=>nn e
theorem Pre.obj{O:List Addr}{S:St}{s:Shared}{m:Fm}{news:List (Addr×Obj)}(p:Pre c F O S s m news){l:Nat}{o:SO}(ho:S.led[l]?=QE o){G:Prop}(k:∀ad ob,O[l]?=QE ad->news[l]?=QE (ad,ob)->s.heap.get? ad=QE ob->aP c.P O o ob->G):G:=
 let⟨a,ob,f1,f2,f3,f4⟩:=p.rep.get ho
 k a ob f2 f1 f3 f4
theorem Pre.objAt{O:List Addr}{S:St}{s:Shared}{m:Fm}{news:List (Addr×Obj)}(p:Pre c F O S s m news){l:Nat}{o:SO}{ad:Addr}(ho:S.led[l]?=QE o)(hσ:O[l]?=QE ad){G:Prop}(k:∀ob,news[l]?=QE (ad,ob)->s.heap.get? ad=QE ob->aP c.P O o ob->G):G:=by
 obtain⟨a,ob,f1,f2,f3,f4⟩:=p.rep.get ho
 rw[hσ]at f2;cases f2
 exact k ob f1 f3 f4
theorem cc{l:Nat}{o:SO}(ho:x.st.led[l]?=QE o){t:Value->Sem β}{Q:List Addr->Shared->β->Shared->Prop}
  (h:∀O s mm news ad ob,Pre c F O x.st s mm news->O[l]?=QE ad->news[l]?=QE (ad,ob)->s.heap.get? ad=QE ob->aP c.P O o ob->wpAny c.M c.A (t (.ref ad)) (Q O s) NoE s):
  ∀O s mm news g,Pre c F O x.st s mm news->aA O (.ref l) g->wpAny c.M c.A (t g) (Q O s) NoE s:=λO s mm news g p⟨ad,hσ,hg⟩=>by
 obtain⟨a,ob,f1,f2,f3,f4⟩:=p.rep.get ho
 rw[hσ]at f2;cases f2
 exact hg▸h O s mm news ad ob p hσ f1 f3 f4
end
section
variable{c:Cx}{F:Fs}
theorem Pre.len{O:List Addr}{S:St}{s:Shared}{m:Fm}{news:List (Addr×Obj)}(p:Pre c F O S s m news):O.length=S.led.length:=p.rep.at_▸(Qh _).trans p.rep.ob.length
theorem Pre.pushed{O:List Addr}{x:XS}{s:Shared}{m:Fm}{news:List (Addr×Obj)}(p:Pre c F O x.st s m news){o:SO}{ob:Obj}{h':Heap}{tk:Nat}(F':Fr m.g c.L h' m.m)(N':News m.g c.L h' ((s.heap.objs.size,ob)::news))
  (hx:aP c.P (O++[s.heap.objs.size]) o ob)(ht:s.toks<=tk:=by lia):
  aG c F O { x.st with led:=x.st.led++[o] } (rV (.ref x.st.led.length)) (.ref s.heap.objs.size) { s with heap:=h',toks:=tk }:=by
 have pre:O <+:O++[s.heap.objs.size]:=P6 _ _
 refine⟨_,m,_,pre,p.heap pre (p.rep.alloc F' N' (λq hq=>Qs (p.rep.nw q hq).1) hx) ht,s.heap.objs.size,?_,rfl⟩
 rw[<-p.len,List.getElem?_concat_length]
theorem Pre.pushed'{O:List Addr}{x:XS}{s:Shared}{m:Fm}{news:List (Addr×Obj)}(p:Pre c F O x.st s m news){o:SO}{ob:Obj}{h':Heap}(F':Fr m.g c.L h' m.m)(N':News m.g c.L h' ((s.heap.objs.size,ob)::news))
  (hx:aP c.P (O++[s.heap.objs.size]) o ob):
  aG c F O { x.st with led:=x.st.led++[o] } (rV (.ref x.st.led.length)) (.ref s.heap.objs.size) { s with heap:=h' }:=p.pushed (tk:=s.toks) F' N' hx
end
theorem uD{a:Nat}(h:a<=1000):(a:Int)<2^63:=by lia
theorem cX{a:Nat}(h:a<=1000):a<=sizeLine:=by rw[sizeLine_eq];lia
noncomputable def vth(i:Nat)(vs:List Value):Value:=vs.getD i .none
theorem au.th{O:List Addr}{as:List SV}{vs:List Value}(h:au O as vs)(i:Nat){a:SV}(e:as[i]?=QE a):aA O a (vth i vs):=
 Qq (h.get e) λv q=>(show vth i vs=v from(List.getD_eq_getElem?_getD ..).trans (QJ (Option.getD · Value.none) q.1))▸q.2
section
variable{c:Cx}{F:Fs}{α β γ δ ε:Type}{as:List SV}{R:α->List Addr->β->Prop}{K:List Value->(β->Shared->Prop)->Shared->Prop}
def bA(c:Cx)(F:Fs)(as:List SV)(m:XM α)(K:List Value->(β->Shared->Prop)->Shared->Prop)(R:α->List Addr->β->Prop):Prop:=
 ∀x a x',m x=QE (a,x')->bh x'.cs->bh x.cs/\∀O s mm news vs,Pre c F O x.st s mm news->au O as vs->∀Q:β->Shared->Prop,(∀O' mm' n' v s',O <+:O'->Pre c F O' x'.st s' mm' n'->R a O' v->Q v s')->K vs Q s
theorem Snd.bd{m:XM SV}{f:SV->XM α}{t:Sem Value}(h1:Snd c F m t rV)(h2:∀a,bA c F (a::as) (f a) K R):bA c F as (ag m f) (λvs Q s=>wpAny c.M c.A t (λv s1=>K (v::vs) Q s1) NoE s) R:=λx b x' h hc=>aZ h λa x1 e1 e2=>
 have z:=h2 a x1 b x' e2 hc
 have y:=h1 x a x1 e1 z.1
 ⟨y.1,λO s mm n vs p hv Q k=>go_ (y.2 O s mm n p) λO1 m1 n1 v s1 p1 q1 r1=>z.2 O1 s1 m1 n1 (v::vs) q1 ⟨v,vs,rfl,r1,hv.mono p1⟩ Q λO2 m2 n2 u s2 p2=>k O2 m2 n2 u s2 (p1.trans p2)⟩
theorem Snd.bdB{K:δ->List Value->(β->Shared->Prop)->Shared->Prop}{m:XM δ}{f:δ->XM α}{t:Sem δ}(h1:Snd c F m t rB)(h2:∀a,bA c F as (f a) (K a) R):bA c F as (ag m f) (λvs Q s=>wpAny c.M c.A t (λv s1=>K v vs Q s1) NoE s) R:=λx b x' h hc=>aZ h λa x1 e1 e2=>
 have z:=h2 a x1 b x' e2 hc
 have y:=h1 x a x1 e1 z.1
 ⟨y.1,λO s mm n vs p hv Q k=>go_ (y.2 O s mm n p) λO1 m1 n1 v s1 p1 q1 r1=>Eq.symm r1▸z.2 O1 s1 m1 n1 vs q1 (hv.mono p1) Q λO2 m2 n2 u s2 p2=>k O2 m2 n2 u s2 (p1.trans p2)⟩
section
variable{I:List Addr->γ->Prop}{t:γ->Sem ε}{π:List Value->γ}
theorem aj.bd{t:γ->Sem Value}{m:XM SV}{f:SV->XM α}(h1:aj c F I m t rV)(hi:∀O vs,au O as vs->I O (π vs))(h2:∀a,bA c F (a::as) (f a) K R):bA c F as (ag m f) (λvs Q s=>wpAny c.M c.A (t (π vs)) (λv s1=>K (v::vs) Q s1) NoE s) R:=λx b x' h hc=>aZ h λa x1 e1 e2=>
 have z:=h2 a x1 b x' e2 hc
 have y:=h1 x a x1 e1 z.1
 ⟨y.1,λO s mm n vs p hv Q k=>go_ (y.2 O s mm n (π vs) p (hi O vs hv)) λO1 m1 n1 v s1 p1 q1 r1=>z.2 O1 s1 m1 n1 (v::vs) q1 ⟨v,vs,rfl,r1,hv.mono p1⟩ Q λO2 m2 n2 u s2 p2=>k O2 m2 n2 u s2 (p1.trans p2)⟩
theorem aj.bdU{m:XM δ}{f:δ->XM α}{R1:δ->List Addr->ε->Prop}(h1:aj c F I m t R1)(hi:∀O vs,au O as vs->I O (π vs))(h2:∀a,bA c F as (f a) K R):bA c F as (ag m f) (λvs Q s=>wpAny c.M c.A (t (π vs)) (λ_ s1=>K vs Q s1) NoE s) R:=λx b x' h hc=>aZ h λa x1 e1 e2=>
 have z:=h2 a x1 b x' e2 hc
 have y:=h1 x a x1 e1 z.1
 ⟨y.1,λO s mm n vs p hv Q k=>go_ (y.2 O s mm n (π vs) p (hi O vs hv)) λO1 m1 n1 v s1 p1 q1 r1=>z.2 O1 s1 m1 n1 vs q1 (hv.mono p1) Q λO2 m2 n2 u s2 p2=>k O2 m2 n2 u s2 (p1.trans p2)⟩
theorem aj.fin{t:γ->Sem β}{m:XM α}(h:aj c F I m t R)(hi:∀O vs,au O as vs->I O (π vs)):bA c F as m (λvs Q s=>wpAny c.M c.A (t (π vs)) Q NoE s) R:=λx b x' e hc=>
 have y:=h x b x' e hc
 ⟨y.1,λO s mm n vs p hv Q k=>go_ (y.2 O s mm n (π vs) p (hi O vs hv)) k⟩
theorem aj.thn{m:XM δ}{f:δ->XM α}{R1:δ->List Addr->ε->Prop}{t2:ε->Sem β}(h1:aj c F I m t R1)(hi:∀O vs,au O as vs->I O (π vs))(h2:∀a,aj c F (R1 a) (f a) t2 R):bA c F as (ag m f) (λvs Q s=>wpAny c.M c.A (t (π vs)) (λv s1=>wpAny c.M c.A (t2 v) Q NoE s1) NoE s) R:=λx b x' h hc=>aZ h λa x1 e1 e2=>
 have z:=h2 a x1 b x' e2 hc
 have y:=h1 x a x1 e1 z.1
 ⟨y.1,λO s mm n vs p hv Q k=>go_ (y.2 O s mm n (π vs) p (hi O vs hv)) λO1 m1 n1 v s1 p1 q1 r1=>go_ (z.2 O1 s1 m1 n1 v q1 r1) λO2 m2 n2 u s2 p2=>k O2 m2 n2 u s2 (p1.trans p2)⟩
theorem bA.sndv{a:SV}{t:Value->Sem β}{m:XM α}(h:bA c F [a] m K R)(k:∀v s Q,K [v] Q s->wpAny c.M c.A (t v) Q NoE s):aj c F (rV a) m t R:=λx b x' e hc=>
 have y:=h x b x' e hc
 ⟨y.1,λO s mm n v p hv=>k v s _ (y.2 O s mm n [v] p ⟨v,[],rfl,hv,rfl⟩ _ λO1 m1 n1 u s1 p1 q1 r1=>⟨O1,m1,n1,p1,q1,r1⟩)⟩
end
theorem Snd.fin{t:Sem β}{m:XM α}(h:Snd c F m t R):bA c F as m (λ_ Q s=>wpAny c.M c.A t Q NoE s) R:=λx b x' e hc=>
 have y:=h x b x' e hc
 ⟨y.1,λO s mm n vs p hv Q k=>go_ (y.2 O s mm n p) k⟩
theorem Snd.thn{m:XM δ}{f:δ->XM α}{R1:δ->List Addr->ε->Prop}{t:Sem ε}{t2:ε->Sem β}(h1:Snd c F m t R1)(h2:∀a,aj c F (R1 a) (f a) t2 R):bA c F as (ag m f) (λ_ Q s=>wpAny c.M c.A t (λv s1=>wpAny c.M c.A (t2 v) Q NoE s1) NoE s) R:=λx b x' h hc=>aZ h λa x1 e1 e2=>
 have z:=h2 a x1 b x' e2 hc
 have y:=h1 x a x1 e1 z.1
 ⟨y.1,λO s mm n vs p hv Q k=>go_ (y.2 O s mm n p) λO1 m1 n1 v s1 p1 q1 r1=>go_ (z.2 O1 s1 m1 n1 v q1 r1) λO2 m2 n2 u s2 p2=>k O2 m2 n2 u s2 (p1.trans p2)⟩
theorem Snd.mp{m:XM δ}{R1:δ->List Addr->ε->Prop}{t:Sem ε}(h1:Snd c F m t R1)(g:δ->α)(w:List Value->ε->β)(hr:∀O vs a u,au O as vs->R1 a O u->R (g a) O (w vs u)):bA c F as (ag m λa=>aH (g a)) (λvs Q s=>wpAny c.M c.A t (λu s1=>Q (w vs u) s1) NoE s) R:=λx b x' h hc=>aZ h λa x1 e1 e2=>by
 cases bf e2
 exact⟨(h1 x a x' e1 hc).1,λO s mm n vs p hv Q k=>go_ ((h1 x a x' e1 hc).2 O s mm n p) λO1 m1 n1 v s1 p1 q1 r1=>k O1 m1 n1 _ s1 p1 q1 (hr O1 vs a v (hv.mono p1) r1)⟩
theorem bA.ret{a:α}{w:List Value->β}(h:∀O vs,au O as vs->R a O (w vs)):bA c F as (aH a) (λvs Q s=>Q (w vs) s) R:=λx b x' e hc=>by
 cases bf e
 exact⟨hc,λO s mm n vs p hv Q k=>k O mm n _ s (P5 _) p (h O vs hv)⟩
theorem bA.bif{b:Bool}{m:XM α}(h:b=QF->bA c F as m K R):bA c F as (xif b m) K R:=λx a x' e=>h (fL e).1 x a x' (fL e).2
theorem aj.bif{I:List Addr->γ->Prop}{t:γ->Sem β}{b:Bool}{m:XM α}(h:b=QF->aj c F I m t R):aj c F I (xif b m) t R:=λx a x' e=>h (fL e).1 x a x' (fL e).2
theorem bA.to{K':List Value->(β->Shared->Prop)->Shared->Prop}{m:XM α}(h:bA c F as m K R)(k:∀vs Q s,K vs Q s->K' vs Q s):bA c F as m K' R:=λx a x' e hc=>⟨(h x a x' e hc).1,λO s mm n vs p hv Q q=>k vs Q s ((h x a x' e hc).2 O s mm n vs p hv Q q)⟩
theorem bA.fail:bA c F as ar K R:=λ_ _ _ e=>nn e
theorem bA.snd{t:Sem β}{m:XM α}(h:bA c F [] m K R)(k:∀s Q,K [] Q s->wpAny c.M c.A t Q NoE s):Snd c F m t R:=λx b x' e hc=>
 have y:=h x b x' e hc
 ⟨y.1,λO s mm n p=>k s _ (y.2 O s mm n [] p rfl _ λO1 m1 n1 u s1 p1 q1 r1=>⟨O1,m1,n1,p1,q1,r1⟩)⟩
theorem Snd.at{m:XM α}{t:Sem β}(h:∀x,At c F x (λ_(_:Unit)=>True) m (λ_=>t) R):Snd c F m t R:=λx a x' e hc=>
 have y:=h x a x' e hc
 ⟨y.1,λO s mm n p=>y.2 O s mm n () p QI⟩
theorem Snd.opt{o:Option α}{t:Sem β}(h:∀a,o=QE a->∀O S s mm n,Pre c F O S s mm n->wpAny c.M c.A t (aG c F O S (R a)) NoE s):Snd c F (Bv o) t R:=λx a x' e hc=>
 Qq (yt e) λb z=>by cases z.2;exact⟨hc,λO s mm n p=>h a z.1 O x.st s mm n p⟩
theorem bA.cnd{K2:List Value->(β->Shared->Prop)->Shared->Prop}{b:Bool}{m1 m2:XM α}(h1:b=QF->bA c F as m1 K R)(h2:b=QG->bA c F as m2 K2 R):bA c F as (cond b m1 m2) (λvs Q s=>cond b (K vs Q s) (K2 vs Q s)) R:=by
 cases b with
 |true=>exact h1 rfl
 |false=>exact h2 rfl
theorem oa{P:XM α->Prop}{o:Option δ}{m:XM α}{f:δ->XM α}(h1:o=QD->P m)(h2:∀k,o=QE k->P (f k)):P (o.elim m f):=by
 cases o with
 |none=>exact h1 rfl
 |some k=>exact h2 k rfl
theorem Es{P:XM α->Prop}{b:Bool}{m1 m2:XM α}(h1:b=QF->P m1)(h2:b=QG->P m2):P (cond b m1 m2):=by
 cases b with
 |true=>exact h1 rfl
 |false=>exact h2 rfl
end
structure Tab where
 glob:Str->Option SV
 cmp:CmpOp->SV->SV->XM SV
 bin:Operator->SV->SV->XM SV
 inp:Operator->SV->SV->XM SV
 truth:SV->XM Bool
 attr:SV->Str->XM SV
 setattr:SV->Str->SV->XM Unit
 meth:SV->Str->XM (SV×List SV)
 callee:SV->Bool
 call:Nat->SV->List SV->List (Str×SV)->XM SV
 item:SV->SV->XM SV
 setitem:SV->SV->SV->XM Unit
 spec:Expr->XM SV
 specS:Stmt->XM XF
def HI(c:Cx)(x:Str)(sv:SV):Prop:=∃v,aA [] sv v/\(x==("__debug__":Str))=QG/\
 (nsIn c.K mainGlobals x=QE (QE v)\/(nsIn c.K mainGlobals x=QE QD/\bootBuiltins x=QE v/\x≠"__name__"))
def rb(c:Cx)(f:Value):Prop:=∀h,c.K.In h->∃k,(k=Keeper.frame\/k=Keeper.machine\/k=Keeper.boundFrame)/\Looks c.M h (keeperOf f) k
def P2(a b:SV)(O:List Addr)(v:Value×Value):Prop:=aA O a v.1/\aA O b v.2
def P3(a b d:SV)(O:List Addr)(v:Value×Value×Value):Prop:=aA O a v.1/\aA O b v.2.1/\aA O d v.2.2
def KwR(O:List Addr)(a:List (Str×SV))(v:List (Str×Value)):Prop:=a.map (·.1)=v.map (·.1)/\au O (a.map (·.2)) (v.map (·.2))
structure Ia where
 f:Value
 vs:List Value
 kw:List (Str×Value)
def PC(f:SV)(vs:List SV)(kw:List (Str×SV))(O:List Addr)(v:Ia):Prop:=aA O f v.f/\au O vs v.vs/\KwR O kw v.kw
def rM(r:SV×List SV)(O:List Addr)(v:Value×List Value):Prop:=aA O r.1 v.1/\au O r.2 v.2
def rU(_:Unit)(_:List Addr)(_:Unit):Prop:=True
variable{c:Cx}{F:Fs}{T:Tab}{α β γ:Type}{O:List Addr}{S:St}{s:Shared}{m:Fm}{news:List (Addr×Obj)}
structure bM(T:Tab)(c:Cx)(F:Fs):Prop where
 glob:∀x sv,T.glob x=QE sv->HI c x sv
 cmp:∀op a b,aj c F (P2 a b) (T.cmp op a b) (λv=>compareOp op v.1 v.2) rV
 bin:∀op a b,aj c F (P2 a b) (T.bin op a b) (λv=>binaryOp op v.1 v.2) rV
 inp:∀op a b,aj c F (P2 a b) (T.inp op a b) (λv=>inplaceOp op v.1 v.2) rV
 truth:∀a,aj c F (rV a) (T.truth a) (λv=>truthy v) rB
 attr:∀a n,aj c F (rV a) (T.attr a n) (λv=>getAttr v n QF) rV
 setattr:∀a n b,aj c F (P2 a b) (T.setattr a n b) (λv=>setAttr v.1 n v.2) rU
 meth:∀a n pl,aj c F (rV a) (T.meth a n) (λv=>getMethod v n pl) rM
 callee:∀a,T.callee a=QF->∃f,a= .top f/\rb c f
 call:∀f vs kw,aj c F (PC f vs kw) (T.call F.lvl f vs kw) (λv=>PySem.call v.f v.vs v.kw) rV
 item:∀sl a b,aj c F (P2 a b) (T.item a b) (λv=>getitemInPython v.1 >>=λp=>subscripted sl p v.1 v.2) rV
 spec:∀e,Snd c F (T.spec e) (eval e c.env) rV
 specS:∀st,Snd c F (T.specS st) (exec st c.env) rF
 setitem:∀a b d,aj c F (P3 a b d) (T.setitem a b d) (λv=>setItem v.1 v.2.1 v.2.2) rU
def pr(i j:Nat)(vs:List Value):Value×Value:=(vth i vs,vth j vs)
theorem jK{as:List SV}{a b:SV}(i j:Nat)(hi:as[i]?=QE a)(hj:as[j]?=QE b):∀O vs,au O as vs->P2 a b O (pr i j vs):=λ_ _ h=>⟨h.th i hi,h.th j hj⟩
theorem jr{as:List SV}{a:SV}(i:Nat)(hi:as[i]?=QE a):∀O vs,au O as vs->rV a O (vth i vs):=λ_ _ h=>h.th i hi
noncomputable def Af:Const->Option SV
 |.none=>QE .none
 |.bool b=>QE (.bool b)
 |.int i=>QE (.int i)
 |.str x=>QE (.str x)
 |_=>QD
theorem w7(k:Const)(kk:Nat->Nat){j:_}{pos:Pos}:Snd c F (Bv (Af k)) (eval (.Constant k j pos) c.env) rV:=Snd.opt λa e O S s m n p=>by
 cases k with
 |none=>exact QH e▸wpAny_Constant_none (p.now rfl)
 |bool b=>exact QH e▸wpAny_Constant_bool (p.now rfl)
 |int i=>exact QH e▸wpAny_Constant_int ((p.toks _).now ⟨_,rfl⟩)
 |str y=>exact QH e▸wpAny_Constant_str ((p.toks _).now ⟨_,rfl⟩)
 |_=>exact nn e
noncomputable def tr:SO->Option (List (Str×SV))
 |.vars loc=>QE loc
 |_=>QD
theorem nx{o:SO}{l:List (Str×SV)}(e:tr o=QE l):o= .vars l:=by cases o<;>first|exact nn e|exact QJ SO.vars (QH e)
noncomputable def Ck:SO->Option (Option SV)
 |.cell v=>QE v
 |_=>QD
theorem pA{o:SO}{v:Option SV}(e:Ck o=QE v):o= .cell v:=by cases o<;>first|exact nn e|exact QJ SO.cell (QH e)
def H1(F:Fs)(x:Str):XM SV:=F.cp.elim (HS x) λk=>xrd k tr λloc=>xob (loc.lookup x) (cI [])
def yO{α:Type}(k:Option NameKind)(l d g:XM α):XM α:=match k with
 |some .local=>l
 |some .cell=>d
 |some .globalImplicit=>g
 |_=>ar
theorem qJ{P:XM α->Prop}{k:Option NameKind}{l d g:XM α}(h0:P ar)(h1:k=QE .local->P l)(h2:k=QE .cell->P d)(h3:k=QE .globalImplicit->P g):P (yO k l d g):=by
 cases k with
 |none=>exact h0
 |some k=>
  cases k with
  |«local»=>exact h1 rfl
  |cell=>exact h2 rfl
  |globalImplicit=>exact h3 rfl
  |_=>exact h0
def Gi(T:Tab)(F:Fs)(x:Str):XM SV:=yO (F.sc.names.lookup x) (H1 F x) (xob (F.cells.lookup x) λk=>xrd k Ck λv=>xob v (cI [])) (Bv (T.glob x))
theorem kE{sv:SV}{v:Value}(h:aA [] sv v):aA O sv v:=h.mono (List.nil_prefix)
theorem CxW.kind(H:CxW c F){x:Str}{k:NameKind}(e:F.sc.names.lookup x=QE k):c.env.kindOf x=QE k:=(QJ (λsc:Scope=>sc.names.lookup x) H.sc).trans e
theorem CxW.loc(H:CxW c F)(e:F.cp=QD):c.env.locals=c.L:=by unfold Cx.env;rw[H.cpn e]
theorem qw(H:CxW c F)(x:Str)(hx:F.sc.names.lookup x=QE .local):Snd c F (H1 F x) (loadName c.env x) rV:=
 oa (P:=λm=>Snd c F m (loadName c.env x) rV)
  (λe y a y' h hc=>by
   have z:=wR h
   cases(show y'=y from z.2)
   refine⟨hc,λO s m news p=>Qq (show eQ O (QE a) (m.m x)from z.1▸p.rep.lc x) λu q=>?_⟩
   exact wpAny_loadName_local H.fn (H.kind hx) (H.loc e▸p.rep.fr.ns) q.1 (p.now q.2))
  λk e=>Snd.at λy=>At.rd λo loc ho hv=>At.ob λa hl=>At.say λ_ O s m news _ p _=>p.objAt ho (p.vars k e) λob g1 g3 g4=>
   Qq (nx hv▸g4:aP c.P O (.vars loc) ob) λmm z=>Qq z λes z=>Qq z λep z=>
    Qq (show eQ O (QE a) (mm x)from hl▸z.2.2.2 x) λu q=>wpAny_loadName_local H.fn (H.kind hx) ⟨ob,es,ep,g3,z.1,z.2.1,z.2.2.1⟩ q.1 (p.now q.2)
theorem Bn(H:CxW c F)(HT:bM T c F)(x:Str){pos:Pos}(hd:(x==("__debug__":Str))=QG):Snd c F (Gi T F x) (eval (.Name x pos) c.env) rV:=
 qJ (P:=λm=>Snd c F m (eval (.Name x pos) c.env) rV) (λ_ _ _ e=>nn e) (λe=>(qw H x e).fin.snd λs Q h=>wpAny_Name h hd)
  (λe=>Snd.at λy=>At.ob λk hk=>At.rd λo w ho hv=>At.ob λv hw=>At.say λ_ O s m news _ p _=>Qq (p.cell x k hk) λad q=>p.objAt ho q.2 λob g1 g3 g4=>
   Qq ((pA hv).trans (QJ SO.cell hw)▸g4:aP c.P O (.cell (QE v)) ob) λu z=>Qq z.2 λu' r=>wpAny_Name (wpAny_loadName_cell H.fn (H.kind e) q.1 ⟨ob,g3,r.1▸z.1⟩ (p.now r.2)) hd)
  λe=>Snd.opt λsv h1 O S s m news p=>Qq (HT.glob x _ h1) λv z=>Name_function_global H.fn (H.kind e) (z.2.2.elim
   (λq=>loadGlobal_global (c.globals.symm▸(p.top H).g.keeps p.rep.fr.keep) (mg_of (p.kin H) (p.top H).g q) (p.now (kE z.1)))
   λq=>loadGlobal_builtin (c.globals.symm▸(p.top H).g.keeps p.rep.fr.keep) (mg_none_of (p.kin H) (p.top H).g q.1) (c.builtins.symm▸(p.top H).b.keeps p.rep.fr.keep) ((H.top.builtins x q.2.2).trans q.2.1) (p.now (kE z.1))) hd
def Li(F:Fs)(x:Str)(a:SV):XM Unit:=F.cp.elim (xst (λS=>⟨nS x a S.loc,S.led⟩) λ_=>()) λk=>xrd k tr λloc=>xwr [] k (.vars (nS x a loc)) ()
theorem w9(H:CxW c F)(x:Str)(a:SV)(hx:F.sc.names.lookup x=QE .local):aj c F (rV a) (Li F x a) (λv=>storeName c.env x v) rU:=
 have hp:(c.env.scope.kind== .class||(c.env.scope.kind== .module&&c.env.locals !=c.env.globals))=QG:=by rw[H.fn];rfl
 oa (P:=λm=>aj c F (rV a) m (λv=>storeName c.env x v) rU)
  (λe y=>At.st λO s m news v p r=>by
   refine wpAny_storeName_local (H.kind hx) (H.loc e▸p.rep.fr.ns) (λh' hns hs=>?_) hp
   rw[H.loc e]at hns hs
   exact⟨O,_,news,P5 _,p.heap (P5 _) ⟨p.rep.fr.set hns hs,p.rep.nw.set hs,p.rep.at_,p.rep.nd,p.rep.ob,p.rep.lc.set r⟩,QI⟩)
  λk e y=>At.rd λo loc ho hv=>At.wr λ_ O s m news v p r=>p.objAt ho (p.vars k e) λob g1 g3 g4=>
   Qq (nx hv▸g4:aP c.P O (.vars loc) ob) λmm z=>Qq z λes z=>Qq z λep z=>
    wpAny_storeName_local (H.kind hx) ⟨ob,es,ep,g3,z.1,z.2.1,z.2.2.1⟩ (λh' hns hs=>Qq hns λob' q=>Qq q λes' q=>Qq q λep' q=>
     ⟨O,m,_,P5 _,p.heap (P5 _) (p.rep.same g1 hs q.1 ⟨_,es',ep',q.2.1,q.2.2.1,q.2.2.2,z.2.2.2.set r⟩),QI⟩) hp
theorem De(HT:bM T c F){l r:Expr}{op:CmpOp}{pos:Pos}{ml mr:XM SV}(hl:Snd c F ml (eval l c.env) rV)(hr:Snd c F mr (eval r c.env) rV)(hm:behindInMarks op r=QG):
  Snd c F (ag ml λa=>ag mr λb=>T.cmp op a b) (eval (.Compare l [op] [r] pos) c.env) rV:=
 (hl.bd λva=>hr.bd λvb=>(HT.cmp op va vb).fin (jK 1 0 rfl rfl)).snd λs Q h=>wpAny_Compare1 h hm
theorem DW(HT:bM T c F){l r:Expr}{op:Operator}{pos:Pos}{ml mr:XM SV}(hl:Snd c F ml (eval l c.env) rV)(hr:Snd c F mr (eval r c.env) rV):
  Snd c F (ag ml λa=>ag mr λb=>T.bin op a b) (eval (.BinOp l op r pos) c.env) rV:=
 (hl.bd λva=>hr.bd λvb=>(HT.bin op va vb).fin (jK 1 0 rfl rfl)).snd λs Q h=>wpAny_BinOp h
noncomputable def cx:Expr->Bool
 |.Call (.Name id _) [] [] _=>id !="super"
 |_=>QF
theorem oG{o:Expr}{attr:Str}{env:Env}{whole:Sem Value}(h:cx o=QF):attributeBase o attr env whole=whole:=by
 cases o with
 |Call f args kws pos=>
  cases f with
  |Name id p=>
   cases args with
   |nil=>
    cases kws with
    |nil=>exact if_pos (Bool.or_eq_true_iff.mpr (.inl (Bool.or_eq_true_iff.mpr (.inl (Bool.or_eq_true_iff.mpr (.inl h))))))
    |cons=>rfl
   |cons=>rfl
  |_=>rfl
 |_=>rfl
theorem z9(HT:bM T c F){o:Expr}{n:Str}{pos:Pos}{mo:XM SV}(ho:Snd c F mo (eval o c.env) rV)(hs:cx o=QF):
  Snd c F (ag mo λa=>T.attr a n) (eval (.Attribute o n pos) c.env) rV:=
 (ho.bd λva=>(HT.attr va n).fin (jr 0 rfl)).snd λs Q h=>Attribute_any_ h (QJ (λb:Sem Value=>(do let o'<-b;standAt pos.atName;let r<-holding [o'] (getAttr o' n QF);letTemporaryGo o o' r;pure r)) (oG hs))
noncomputable def bq:Expr->Bool
 |.Starred ..=>QF
 |_=>QG
theorem bu{e:Expr}{rest:List Expr}{env:Env}(h:bq e=QG):starEach (e::rest) env=(QG,eval e env)::starEach rest env:=by
 cases e with
 |Starred=>exact Bool.noConfusion h
 |_=>rfl
noncomputable def pD(ev:Expr->XM SV):List Expr->XM (List SV)
 |[]=>aH []
 |e::r=>ag (ev e) λa=>ag (pD ev r) λas=>aH (a::as)
theorem k7{ev:Expr->XM SV}{pos:Pos}(args:List Expr)(he:∀e∈args,Snd c F (ev e) (eval e c.env) rV)(hs:args.any bq=QG):Snd c F (pD ev args) (spliced (backTo pos (starEach args c.env))) rVs:=by
 induction args with
 |nil=>exact(bA.ret (w:=λ_=>[]) λ_ _ _=>rfl).snd λs Q h=>wpAny_items_nil h
 |cons e r ih=>
  have hs:=Bool.or_eq_false_iff.mp hs
  exact((he e (.head _)).bd λva=>(ih (λe h=>he e (.tail _ h)) hs.2).mp (va:: ·) (λvs u=>vth 0 vs::u) λO vs a u h r=>⟨_,_,rfl,h.th 0 rfl,r⟩).snd λs Q h=>wpAny_items_cons h (bu hs.1)
theorem ij{pos:Pos}{env:Env}{args:List Expr}(h:args.any bq=QG):(backTo pos (starEach args env)).any (·.1)=QG:=by
 induction args with
 |nil=>rfl
 |cons e r ih=>
  have h:=Bool.or_eq_false_iff.mp h
  rw[bu h.1]
  exact ih h.2
noncomputable def JO(ev:Expr->XM SV):List Keyword->XM (List (Str×SV))
 |[]=>aH []
 |k::r=>xob k.arg λn=>ag (ev k.value) λa=>ag (JO ev r) λas=>aH ((n,a)::as)
def rKw(ns:List Str)(a:List (Str×SV))(O:List Addr)(v:List Value):Prop:=a.map (·.1)=ns/\au O (a.map (·.2)) v
theorem Ff{ev:Expr->XM SV}{pos:Pos}(kws:List Keyword)(he:∀k∈kws,Snd c F (ev k.value) (eval k.value c.env) rV):
  Snd c F (JO ev kws) (evalAll ((backToKw pos (keywordEach kws c.env)).map (·.2))) (rKw ((backToKw pos (keywordEach kws c.env)).filterMap (·.1))):=by
 induction kws with
 |nil=>exact(bA.ret (w:=λ_=>[]) λ_ _ _=>⟨rfl,rfl⟩).snd λs Q h=>kwAll_nil h
 |cons k r ih=>
  cases k with
  |mk arg e kp=>
   cases arg with
   |none=>exactλ_ _ _ h=>nn h
   |some n=>exact((he _ (.head _)).bd λva=>(ih λe h=>he e (.tail _ h)).mp (λas=>(n,va)::as) (λvs u=>vth 0 vs::u) λO vs a u h r=>⟨QJ (n:: ·) r.1,_,_,rfl,h.th 0 rfl,r.2⟩).snd λs Q h=>kwAll_cons h
theorem ei{pos:Pos}{env:Env}{kws:List Keyword}(h:(kws.all λk=>k.arg.isSome)=QF):(backToKw pos (keywordEach kws env)).all (·.1.isSome)=QF:=by
 induction kws with
 |nil=>rfl
 |cons k r ih=>
  have h:=Qo.mp h
  cases k
  exact Qo.mpr ⟨h.1,ih h.2⟩
theorem tn{l:List (Option Str×Sem Value)}(h:l.all (·.1.isSome)=QF):l.any (·.1.isNone)=QG:=by
 induction l with
 |nil=>rfl
 |cons a l ih=>
  have h:=Qo.mp h
  exact Bool.or_eq_false_iff.mpr ⟨(Option.not_isSome ..).symm.trans (QJ (!·) h.1),ih h.2⟩
theorem IB{a:List (Str×SV)}{ns:List Str}{vs:List Value}(h:rKw ns a O vs):KwR O a (ns.zip vs):=by
 obtain⟨rfl,h2⟩:=h
 have hl:(a.map (·.1)).length=vs.length:=(Qh _).trans ((Qh _).symm.trans h2.length.symm)
 exact⟨(List.map_fst_zip (Nat.le_of_eq hl)).symm,(List.map_snd_zip (Nat.le_of_eq hl.symm)).symm▸h2⟩
def fy(T:Tab)(F:Fs)(ev:Expr->XM SV)(f:SV)(first:List SV)(args:List Expr)(kws:List Keyword):XM SV:=
 ag (pD ev args) λas=>ag (JO ev kws) λks=>T.call F.lvl f (first++as) ks
section
variable{ev:Expr->XM SV}{args:List Expr}{kws:List Keyword}{pos:Pos}
theorem pO{M:Model}{A:Around}{env:Env}{f:Value}{Q:Args->Shared->Prop}(hs:args.any bq=QG)(hn:(kws.all λk=>k.arg.isSome)=QF)
  (h:wpAny M A (spliced (backTo pos (starEach args env))) (λvs s₁=>wpAny M A (evalAll ((backToKw pos (keywordEach kws env)).map (·.2))) (λks s₂=>Q { pos:=vs,kw:=((backToKw pos (keywordEach kws env)).filterMap (·.1)).zip ks } s₂) NoE s₁) NoE s):wpAny M A (evalArgs f QF (backTo pos (starEach args env)) (backToKw pos (keywordEach kws env))) Q NoE s:=by
 cases args with
 |nil=>exact evalArgs_kw2_nil (ei hn) λΓ p hΓ=>h Γ p hΓ Γ p hΓ
 |cons e r=>exact evalArgs_kw2 (ei hn) h (bu (Bool.or_eq_false_iff.mp hs).1)
theorem iY(H:CxW c F)(HT:bM T c F){f:SV}{first:List SV}
  (he:∀e∈args,Snd c F (ev e) (eval e c.env) rV)(hk:∀k∈kws,Snd c F (ev k.value) (eval k.value c.env) rV)(hs:args.any bq=QG)(hn:(kws.all λk=>k.arg.isSome)=QF)(hf:T.callee f=QF):
  aj c F (rM (f,first)) (fy T F ev f first args kws) (λv=>callWith pos v.1 v.2 (backTo pos (starEach args c.env)) (backToKw pos (keywordEach kws c.env))) rV:=λx a x' h hc=>aZ h λas x1 h1 h=>aZ h λks x2 h3 h=>by
 have g4:=HT.call f (first++as) ks _ _ _ h hc
 have g3:=Ff (pos:=pos) kws hk _ _ _ h3 g4.1
 have g1:=k7 (pos:=pos) args he hs _ _ _ h1 g3.1
 refine⟨g1.1,λO s m news v p hv=>Qq (HT.callee f hf) λfv q=>?_⟩
 cases q.1
 have e1:fv=v.1:=hv.1.symm
 cases e1
 exact callWith_of (P:=c.K.In) (Bool.or_eq_false_iff.mpr ⟨ij hs,tn (ei hn)⟩) q.2 (pO hs hn (go_ (g1.2 O s m news p) λO1 m1 n1 vs s1 p1 q1 r1=>go_ (g3.2 O1 s1 m1 n1 q1) λO2 m2 n2 v2 s2 p2 q2 r2=>⟨(q2.kin H).keeps q2.rep.fr.keep,
  go_ (g4.2 O2 s2 m2 n2 ⟨v.1,v.2++vs,_⟩ q2 ⟨rfl,(hv.2.mono (p1.trans p2)).append (r1.mono p2),IB r2⟩) λO3 m3 n3 v3 s3 p3 q3 r3=>⟨O3,m3,n3,p1.trans (p2.trans p3),q3,r3⟩⟩))
theorem oN(H:CxW c F)(HT:bM T c F){f:Str}{fp:Pos}(hf:Snd c F (ev (.Name f fp)) (eval (.Name f fp) c.env) rV)
  (he:∀e∈args,Snd c F (ev e) (eval e c.env) rV)(hk:∀k∈kws,Snd c F (ev k.value) (eval k.value c.env) rV)(hs:args.any bq=QG)(hn:(kws.all λk=>k.arg.isSome)=QF):
  Snd c F (ag (ev (.Name f fp)) λg=>xif (T.callee g) (fy T F ev g [] args kws)) (eval (.Call (.Name f fp) args kws pos) c.env) rV:=
 (hf.bd λg=>bA.bif λhcal=>(iY (pos:=pos) (first:=[]) H HT he hk hs hn hcal).fin (π:=λvs=>(vth 0 vs,[])) λO vs h=>⟨h.th 0 rfl,rfl⟩).snd λs Q h=>Qv h
theorem E4{b:Bool}:(if b=QF then 0 else 1)<=1:=by cases b<;>decide
theorem sj{env:Env}(hs:args.any bq=QG)(hn:(kws.all λk=>k.arg.isSome)=QF)(hl:args.length+kws.length<29):
  methodCallForm (args.length+kws.length) (backTo pos (starEach args env)) (backToKw pos (keywordEach kws env))=QF:=
 have h1:(backTo pos (starEach args env)).all (!·.1)=QF:=by
  rw[List.all_eq_not_any_not,show(λx:Bool×Sem Value=>!!x.1)=(·.1)from funext λx=>Bool.not_not x.1,ij hs]
  rfl
 Qo.mpr ⟨Qo.mpr ⟨h1,ei hn⟩,decide_eq_true (Nat.lt_of_le_of_lt (Nat.add_le_add_left E4 _) (Nat.succ_lt_succ hl))⟩
theorem df{M:Model}{A:Around}{env:Env}{o:Expr}{n:Str}{apos:Pos}{Q:Value->Shared->Prop}{E:Value->Shared->Prop}(hs:args.any bq=QG)(hn:(kws.all λk=>k.arg.isSome)=QF)(hl:args.length+kws.length<29)(hsup:cx o=QF)(hp:(apos.endLine==pos.line)=QF)
  (h:wpAny M A (eval o env) (λv s1=>wpAny M A (getMethod v n (do return(<-importBound o env).getD QF)) (λu s2=>wpAny M A (callWith pos u.1 u.2 (backTo pos (starEach args env)) (backToKw pos (keywordEach kws env))) Q E s2) E s1) E s):wpAny M A (eval (.Call (.Attribute o n apos) args kws pos) env) Q E s:=by
 show wpAny M A (attributeBase o n env (eval o env) >>=λov=>standAt apos.atName >>=λ_=>methodCall o n apos pos env ov (args.length+kws.length) (backTo pos (starEach args env)) (backToKw pos (keywordEach kws env))) Q E s
 rw[oG hsup]
 refine Qv (Qw h (λv s1 h=>Qv (QB ?_)) λ_ _ e=>e)
 unfold methodCall
 rw[sj hs hn hl,show methodCallPos QF o env apos pos=pure pos from if_pos hp]
 exact Qv (Qy (Qw h (λu s2 h=>Qv (Qx h)) λ_ _ e=>e))
theorem oU(H:CxW c F)(HT:bM T c F){o:Expr}{n:Str}{apos:Pos}(ho:Snd c F (ev o) (eval o c.env) rV)
  (he:∀e∈args,Snd c F (ev e) (eval e c.env) rV)(hk:∀k∈kws,Snd c F (ev k.value) (eval k.value c.env) rV)(hs:args.any bq=QG)(hn:(kws.all λk=>k.arg.isSome)=QF)(hl:args.length+kws.length<29)
  (hsup:cx o=QF)(hp:(apos.endLine==pos.line)=QF):
  Snd c F (ag (ev o) λa=>ag (T.meth a n) λg=>xif (T.callee g.1) (fy T F ev g.1 g.2 args kws)) (eval (.Call (.Attribute o n apos) args kws pos) c.env) rV:=
 (ho.bd λva=>(HT.meth va n _).thn (jr 0 rfl) λg=>aj.bif λhcal=>iY (pos:=pos) H HT he hk hs hn hcal).snd λs Q h=>df hs hn hl hsup hp h
end
theorem kF(vs:List SV)(hz:vs.length<=1000):aj c F (rVs vs) (eF (.list vs)) (λu=>newList u) rV:=λx=>At.alloc λO s m n u p hu=>
 newList_N p.rep.fr p.rep.nw (λh' F' N'=>p.pushed' (x:=x) F' N' ⟨u,0,rfl,au.mono (P6 _ _) hu⟩) (cX (au.length hu▸hz))
theorem yr(vs:List SV)(hz:vs.length<=1000):aj c F (rVs vs) (eF (.tup vs)) (λu=>newTuple u) rV:=λx=>At.alloc λO s m n u p hu=>
 newTuple_N p.rep.fr p.rep.nw (λh' F' N'=>p.pushed' (x:=x) F' N' ⟨u,0,rfl,au.mono (P6 _ _) hu⟩) (cX (au.length hu▸hz))
def F7(ev:Expr->XM SV)(elts:List Expr):XM SV:=ag (pD ev elts) λvs=>xif (Nat.ble vs.length 1000) (eF (.list vs))
def Md(ev:Expr->XM SV)(elts:List Expr):XM SV:=ag (pD ev elts) λvs=>xif (Nat.ble vs.length 1000) (eF (.tup vs))
theorem zt{ev:Expr->XM SV}{elts:List Expr}{pos:Pos}(he:∀e∈elts,Snd c F (ev e) (eval e c.env) rV)(hs:elts.any bq=QG):Snd c F (F7 ev elts) (eval (.List elts pos) c.env) rV:=
 ((k7 (pos:=pos) elts he hs).thn λvs=>aj.bif λhb=>kF vs (PT hb)).snd λs Q h=>List_ h
theorem C1{ev:Expr->XM SV}{elts:List Expr}{k:Nat}{pos:Pos}(he:∀e∈elts,Snd c F (ev e) (eval e c.env) rV)(hs:elts.any bq=QG):Snd c F (Md ev elts) (eval (.Tuple elts k pos) c.env) rV:=
 ((k7 (pos:=pos) elts he hs).thn λvs=>aj.bif λhb=>yr vs (PT hb)).snd λs Q h=>Tuple_ h
theorem vQ{M:Program}{w:World}{A:Around}{o i:Expr}{pos:Pos}{env:Env}{Q:Value->Shared->Prop}
  (h:wpAny (model M w) A (eval o env) (λov s1=>wpAny (model M w) A (eval i env) (λiv s2=>wpAny (model M w) A (getitemInPython ov >>=λp=>subscripted i p ov iv) Q NoE s2) NoE s1) NoE s):wpAny (model M w) A (eval (.Subscript o i pos) env) Q NoE s:=
 Qv (Qw h (λov s1 h=>Qv (Qy (Qw h (λiv s2 h=>Qv (QB
  ((QJ (λm:Sem Value=>wpAny (model M w) A m Q NoE s2) (Sem.bind_assoc (getitemInPython ov) (λp=>subscripted i p ov iv) (λr=>letTemporaryGo o ov r >>=λ_=>pure r))).mp (Qv (Qw h (λr s3 z=>Qv (wpAny_letTemporaryGo (Qx z))) λ_ _ e=>e))))) λ_ _ e=>e))) λ_ _ e=>e)
theorem zF(HT:bM T c F){o i:Expr}{pos:Pos}{mo mi:XM SV}(ho:Snd c F mo (eval o c.env) rV)(hi:Snd c F mi (eval i c.env) rV):
  Snd c F (ag mo λa=>ag mi λb=>T.item a b) (eval (.Subscript o i pos) c.env) rV:=
 (ho.bd λva=>hi.bd λvb=>(HT.item i va vb).fin (jK 1 0 rfl rfl)).snd λs Q h=>vQ h
theorem yi{e:Expr}{pos:Pos}{w:Sem Value}{mt:XM Bool}(ht:Snd c F mt (isTrue e c.env (eval e c.env)) rB):
  Snd c F (ag mt λb=>aH (!b)) (isTrue (.UnaryOp .Not e pos) c.env w) rB:=
 (ht.mp (!·) (λ_ v=>!v) λO vs a u _ r=>QJ (!·) r).snd λs Q h=>wpAny_isTrue_Not h
noncomputable def pT:BoolOp->Bool
 |.And=>QF
 |.Or=>QG
noncomputable def IG(ts:Expr->XM Bool)(op:BoolOp):List Expr->XM Bool
 |[]=>aH (pT op)
 |e::r=>ag (ts e) λb=>cond (b==pT op) (IG ts op r) (aH b)
theorem Am{M:Model}{A:Around}{op:BoolOp}{e:Expr}{r:List Expr}{env:Env}{Q:Bool->Shared->Prop}(h:wpAny M A (isTrue e env (eval e env)) (λb s1=>cond (b==pT op) (wpAny M A (allTrue op r env) Q NoE s1) (Q b s1)) NoE s):wpAny M A (allTrue op (e::r) env) Q NoE s:=by
 cases op with
 |And=>exact wpAny_allTrue_And_cons (Qw h (λb s1 z=>by cases b<;>exact z) λ_ _ e=>e)
 |Or=>exact wpAny_allTrue_Or_cons (Qw h (λb s1 z=>by cases b<;>exact z) λ_ _ e=>e)
theorem Fg{M:Model}{A:Around}{op:BoolOp}{env:Env}{Q:Bool->Shared->Prop}(h:Q (pT op) s):wpAny M A (allTrue op [] env) Q NoE s:=by
 cases op with
 |And=>exact wpAny_allTrue_And_nil h
 |Or=>exact wpAny_allTrue_Or_nil h
theorem EY{ts:Expr->XM Bool}(op:BoolOp)(es:List Expr)(he:∀e∈es,Snd c F (ts e) (isTrue e c.env (eval e c.env)) rB):Snd c F (IG ts op es) (allTrue op es c.env) rB:=by
 induction es with
 |nil=>exact(bA.ret (w:=λ_=>pT op) λ_ _ _=>rfl).snd λs Q h=>Fg h
 |cons e r ih=>exact((he e (.head _)).bdB λb=>bA.cnd (λ_=>(ih λe h=>he e (.tail _ h)).fin) λ_=>bA.ret (w:=λ_=>b) λ_ _ _=>rfl).snd λs Q h=>Am h
def xZ(T:Tab)(a:SV):XM Bool:=ag (T.truth a) iL
theorem vn(HT:bM T c F)(a:SV):aj c F (rV a) (xZ T a) (λv=>truthy v) rB:=λx b x' h hc=>aZ h λt x1 h1 h2=>
 have z:=dO h2 hc
 have y:=HT.truth a _ _ _ h1 z.2.2
 ⟨y.1,λO s m news v p r=>(show b=t from z.1)▸(show x'.st=x1.st from z.2.1)▸y.2 O s m news v p r⟩
theorem vF(HT:bM T c F){l r:Expr}{op:CmpOp}{pos:Pos}{w:Sem Value}{ml mr:XM SV}(hl:Snd c F ml (eval l c.env) rV)(hr:Snd c F mr (eval r c.env) rV)(hm:behindInMarks op r=QG):
  Snd c F (ag ml λa=>ag mr λb=>ag (T.cmp op a b) (xZ T)) (isTrue (.Compare l [op] [r] pos) c.env w) rB:=
 (hl.bd λva=>hr.bd λvb=>(HT.cmp op va vb).bd (jK 1 0 rfl rfl) λvc=>(vn HT vc).fin (jr 0 rfl)).snd λs Q h=>wpAny_isTrue_Compare1 h hm
theorem my(HT:bM T c F){e:Expr}{me:XM SV}(he:Snd c F me (eval e c.env) rV)(hp:isTrue e c.env (eval e c.env)=(do let v<-eval e c.env;standAt e.pos;holding [v] (truthy v))):
  Snd c F (ag me (xZ T)) (isTrue e c.env (eval e c.env)) rB:=
 (he.bd λva=>(vn HT va).fin (jr 0 rfl)).snd λs Q h=>isTrue_plain h hp
def cO(F:Fs)(x:Str)(a:SV):XM Unit:=yO (F.sc.names.lookup x) (Li F x a) (xob (F.cells.lookup x) λk=>xrd k Ck λ_=>xwr [] k (.cell (QE a)) ()) ar
theorem cB(H:CxW c F)(x:Str)(a:SV):aj c F (rV a) (cO F x a) (λv=>storeName c.env x v) rU:=
 qJ (P:=λm=>aj c F (rV a) m (λv=>storeName c.env x v) rU) (λ_ _ _ e=>nn e) (w9 H x a)
  (λe y=>At.ob λk hk=>At.rd λo v ho hv=>At.wr λ_ O s m news w p r=>Qq (p.cell x k hk) λad q=>p.objAt ho q.2 λob g1 g3 g4=>
   Qq (pA hv▸g4:aP c.P O (.cell v) ob) λu z=>wpAny_storeName_cell H.fn (H.kind e) q.1 ⟨ob,g3,z.1⟩ λh' hv hs=>Qq hv λo' q=>
    ⟨O,m,_,P5 _,p.heap' (P5 _) (p.rep.same g1 hs q.1 ⟨QE w,q.2,w,rfl,r⟩),QI⟩)
  λ_ _ _ _ e=>nn e
noncomputable def iA:Expr->Bool
 |.ListComp ..=>QG
 |.SetComp ..=>QG
 |.DictComp ..=>QG
 |_=>QF
theorem fX{v:Expr}{t:Option Expr}{n:Nat}{env:Env}(h:iA v=QF):swapsWith v t n env=pure QG:=by
 cases v with
 |ListComp=>exact ff h
 |SetComp=>exact ff h
 |DictComp=>exact ff h
 |_=>rfl
theorem AX{as:List SV}{a b d:SV}(i j k:Nat)(hi:as[i]?=QE a)(hj:as[j]?=QE b)(hk:as[k]?=QE d):∀O vs,au O as vs->P3 a b d O (vth i vs,vth j vs,vth k vs):=λ_ _ h=>⟨h.th i hi,h.th j hj,h.th k hk⟩
theorem eg{as:List SV}:bA c F as (aH XF.next) (λ_ Q s=>Q Flow.next s) rF:=bA.ret (w:=λ_=>Flow.next) λ_ _ _=>rfl
section
variable{x:Str}{xp ap:Pos}{n:Str}{o i v:Expr}{pos:Pos}{mv mo mi:XM SV}
theorem km(H:CxW c F)(hv:Snd c F mv (eval v c.env) rV)(hn:iA v=QF):
  Snd c F (ag mv λa=>ag (cO F x a) λ_=>aH XF.next) (exec (.Assign [.Name x xp] v pos) c.env) rF:=
 (hv.bd λva=>(cB H x va).bdU (jr 0 rfl) λ_=>eg).snd λs Q h=>wpAny_Assign_Name h (fX hn)
theorem lH(HT:bM T c F)(hv:Snd c F mv (eval v c.env) rV)(ho:Snd c F mo (eval o c.env) rV):
  Snd c F (ag mv λa=>ag mo λb=>ag (T.setattr b n a) λ_=>aH XF.next) (exec (.Assign [.Attribute o n ap] v pos) c.env) rF:=
 (hv.bd λva=>ho.bd λvb=>(HT.setattr vb n va).bdU (jK 0 1 rfl rfl) λ_=>eg).snd λs Q h=>plainObj_wpAny_Assign_Attribute h (by cases v<;>rfl)
theorem kh(HT:bM T c F)(hv:Snd c F mv (eval v c.env) rV)(ho:Snd c F mo (eval o c.env) rV)(hi:Snd c F mi (eval i c.env) rV)(hn:iA v=QF):
  Snd c F (ag mv λa=>ag mo λb=>ag mi λd=>ag (T.setitem b d a) λ_=>aH XF.next) (exec (.Assign [.Subscript o i ap] v pos) c.env) rF:=
 (hv.bd λva=>ho.bd λvb=>hi.bd λvd=>(HT.setitem vb vd va).bdU (AX 1 0 2 rfl rfl rfl) λ_=>eg).snd λs Q h=>wpAny_Assign_Subscript h (fX hn)
theorem zJ{M:Program}{w:World}{A:Around}{env:Env}{Q:Flow->Shared->Prop}
  (h:wpAny (model M w) A (eval v env) (λa s1=>wpAny (model M w) A (eval o env) (λov s2=>wpAny (model M w) A (eval i env) (λiv s3=>wpAny (model M w) A (setItem ov iv a) (λ_ s4=>wpAny (model M w) A (storeName env x a) (λ_=>Q Flow.next) NoE s4) NoE s3) NoE s2) NoE s1) NoE s):wpAny (model M w) A (exec (.Assign [.Subscript o i ap, .Name x xp] v pos) env) Q NoE s:=
 wpAny_Assign_two (Qw h (λa s1 h=>assign_Subscript o i ap a▸Qv (Qy (Qw h (λov s2 h=>Qv (Qy (Qw h (λiv s3 h=>Qv (QB (Qv (Qy (Qw h (λ_ s4 h=>by
  intro Γ pp hΓ
  rw[Sem.wp_release]
  exact Qv (QB (wpAny_bindName h))) λ_ _ e=>e))))) λ_ _ e=>e))) λ_ _ e=>e))) λ_ _ e=>e)
theorem l6(H:CxW c F)(HT:bM T c F)(hv:Snd c F mv (eval v c.env) rV)(ho:Snd c F mo (eval o c.env) rV)(hi:Snd c F mi (eval i c.env) rV):
  Snd c F (ag mv λa=>ag mo λb=>ag mi λd=>ag (T.setitem b d a) λ_=>ag (cO F x a) λ_=>aH XF.next) (exec (.Assign [.Subscript o i ap, .Name x xp] v pos) c.env) rF:=
 (hv.bd λva=>ho.bd λvb=>hi.bd λvd=>(HT.setitem vb vd va).bdU (AX 1 0 2 rfl rfl rfl) λ_=>(cB H x va).bdU (jr 2 rfl) λ_=>eg).snd λs Q h=>zJ h
end
theorem qy{M:Program}{w:World}{A:Around}{E:Value->Shared->Prop}{e:Expr}{pos:Pos}{v:Value}{Q:Flow->Shared->Prop}(h:Q .next s):wpAny (model M w) A (dropValue e pos v) Q E s:=by
 have h1:wpAny (model M w) A (standAt pos >>=λ_=>runValue (.builtin "proto.let_go" {}) >>=λ_=>pure Flow.next) Q E s:=Qv (QB (Qv (wpAny_runValue (codeAny_builtin entry_let_go (show wpAny _ _ (ret .none) _ _ s from Qx (Qx h))))))
 cases v with
 |ref a=>
  cases e with
  |Name=>exact Qx h
  |_=>exact h1
 |_=>cases e<;>exact Qx h
theorem Bg(H:CxW c F){e:Expr}{pos:Pos}{me:XM SV}(he:Snd c F me (eval e c.env) rV)(hn:iA e=QF):Snd c F (ag me λ_=>aH XF.next) (exec (.Expr e pos) c.env) rF:=
 (he.mp (λ_=>XF.next) (λ_ _=>Flow.next) λ_ _ _ _ _ _=>rfl).snd λs Q h=>exec_Expr c.env e pos (by unfold interactive;rw[H.fn];rfl) (fX hn)▸Qv (QB (Qv (Qw h (λ_ _ z=>qy z) λ_ _ e=>e)))
theorem qI(H:CxW c F)(HT:bM T c F){x:Str}{xp:Pos}{op:Operator}{v:Expr}{pos:Pos}{mx mv:XM SV}(hx:Snd c F mx (loadName c.env x) rV)(hv:Snd c F mv (eval v c.env) rV):
  Snd c F (ag mx λa=>ag mv λb=>ag (T.inp op a b) λr=>ag (cO F x r) λ_=>aH XF.next) (exec (.AugAssign (.Name x xp) op v pos) c.env) rF:=
 (hx.bd λva=>hv.bd λvb=>(HT.inp op va vb).bd (jK 1 0 rfl rfl) λvr=>(cB H x vr).bdU (jr 0 rfl) λ_=>eg).snd λs Q h=>wpAny_AugAssign_Name h
theorem qc(HT:bM T c F){o:Expr}{n:Str}{tp:Pos}{op:Operator}{v:Expr}{pos:Pos}{mo mv:XM SV}(ho:Snd c F mo (eval o c.env) rV)(hv:Snd c F mv (eval v c.env) rV):
  Snd c F (ag mo λa=>ag (T.attr a n) λb=>ag mv λd=>ag (T.inp op b d) λr=>ag (T.setattr a n r) λ_=>aH XF.next) (exec (.AugAssign (.Attribute o n tp) op v pos) c.env) rF:=
 (ho.bd λva=>(HT.attr va n).bd (jr 0 rfl) λvb=>hv.bd λvd=>(HT.inp op vb vd).bd (jK 1 0 rfl rfl) λvr=>(HT.setattr va n vr).bdU (jK 3 0 rfl rfl) λ_=>eg).snd λs Q h=>wpAny_AugAssign_AttributeAny h
noncomputable def rY:XF->Bool
 |.next=>QF
 |_=>QG
noncomputable def fj(ex:Stmt->XM XF):List Stmt->XM XF
 |[]=>aH .next
 |s::r=>ag (ex s) λf=>cond (rY f) (fj ex r) (aH f)
set_option backward.match.sparseCases true in
noncomputable def Cj(r:List Stmt)(env:Env)(f:Flow):Sem Flow:=match f with
 |.next=>execs r env
 |f=>pure f
theorem pN{r:List Stmt}{env:Env}{f:XF}{v:Flow}(h:rY f=QG)(hf:rF f O v):Cj r env v=pure v:=by
 cases f with
 |next=>exact Bool.noConfusion h
 |brk=>exact Eq.symm hf▸rfl
 |cont=>exact Eq.symm hf▸rfl
 |ret u=>exact Qq hf λw z=>z.1.symm▸rfl
theorem tG{r:List Stmt}{env:Env}{f:XF}{v:Flow}(h:rY f=QF)(hf:rF f O v):Cj r env v=execs r env:=by
 cases f with
 |next=>exact Eq.symm hf▸rfl
 |_=>exact ff h
theorem dB{ex:Stmt->XM XF}(l:List Stmt)(he:∀st∈l,Snd c F (ex st) (exec st c.env) rF):Snd c F (fj ex l) (execs l c.env) rF:=by
 induction l with
 |nil=>exact eg.snd λs Q h=>wpAny_execs_nil h
 |cons st r ih=>
  exact((he st (.head _)).thn λf=>Es (P:=λm=>aj c F (rF f) m (Cj r c.env) rF)
   (λhf x a x' e hc=>⟨(ih (λe h=>he e (.tail _ h)) x a x' e hc).1,λO s m n v p hv=>tG hf hv▸(ih (λe h=>he e (.tail _ h)) x a x' e hc).2 O s m n p⟩)
   λhf x a x' e hc=>by cases bf e;exact⟨hc,λO s m n v p hv=>pN hf hv▸Qx (p.now hv)⟩).snd λs Q h=>Qv h
theorem Eg{M:Model}{A:Around}{t:Expr}{b e:List Stmt}{pos:Pos}{env:Env}{Q:Flow->Shared->Prop}(h:wpAny M A (isTrue t env (eval t env)) (λz s1=>cond z (wpAny M A (execs b env) Q NoE s1) (wpAny M A (execs e env) Q NoE s1)) NoE s):wpAny M A (exec (.If t b e pos) env) Q NoE s:=
 wpAny_If (Qw h (λz s1 h=>by cases z<;>exact h) λ_ _ e=>e)
theorem Hv{t:Expr}{b e:List Stmt}{pos:Pos}{mt:XM Bool}{mb me:XM XF}(ht:Snd c F mt (isTrue t c.env (eval t c.env)) rB)(hb:Snd c F mb (execs b c.env) rF)(he:Snd c F me (execs e c.env) rF):
  Snd c F (ag mt λz=>cond z mb me) (exec (.If t b e pos) c.env) rF:=
 (ht.bdB λz=>bA.cnd (λ_=>hb.fin) λ_=>he.fin).snd λs Q h=>Eg h
theorem DF{e:Expr}{pos:Pos}{me:XM SV}(he:Snd c F me (eval e c.env) rV):Snd c F (ag me λa=>aH (XF.ret a)) (exec (.Return (QE e) pos) c.env) rF:=
 (he.mp XF.ret (λ_ v=>Flow.ret v) λO vs a u _ r=>⟨u,rfl,r⟩).snd λs Q h=>wpAny_Return_some h
theorem Cf{pos:Pos}:Snd c F (aH (XF.ret .none)) (exec (.Return QD pos) c.env) rF:=
 (bA.ret (w:=λ_=>Flow.ret .none) λ_ _ _=>⟨_,rfl,rfl⟩).snd λs Q h=>wpAny_Return_none h
theorem y4{pos:Pos}:Snd c F (aH XF.next) (exec (.Pass pos) c.env) rF:=eg.snd λs Q h=>wpAny_Pass h
theorem yh{pos:Pos}:Snd c F (aH XF.brk) (exec (.Break pos) c.env) rF:=(bA.ret (w:=λ_=>Flow.brk) λ_ _ _=>rfl).snd λs Q h=>wpAny_Break h
theorem y7{pos:Pos}:Snd c F (aH XF.cont) (exec (.Continue pos) c.env) rF:=(bA.ret (w:=λ_=>Flow.cont) λ_ _ _=>rfl).snd λs Q h=>wpAny_Continue h
theorem vN(H:CxW c F){x:Str}{xp:Pos}{v:Expr}{pos:Pos}{mv:XM SV}(hv:Snd c F mv (eval v c.env) rV):Snd c F (ag mv λa=>ag (cO F x a) λ_=>aH a) (eval (.NamedExpr (.Name x xp) v pos) c.env) rV:=
 (hv.bd λva=>(cB H x va).bdU (jr 0 rfl) λ_=>bA.ret (w:=λvs=>vth 0 vs) λ_ _ h=>h.th 0 rfl).snd λs Q h=>
  Qv (Qw h (λv s1 h=>Qv (Qy (Qv (QB (wpAny_bindName (Qw h (λ_ _ z=>Qx z) λ_ _ e=>e)))))) λ_ _ e=>e)
theorem oz(ty:String)(vs:List SV)(hz:vs.length<=1000):aj c F (rVs vs) (eF (.fields ty vs)) (λu=>newFields ty u) rV:=λx=>At.alloc λO s m n u p hu=>
 wpAny_newObj_type (p.pushed' (x:=x) (p.rep.fr.push _) (p.rep.nw.push p.rep.fr _) ⟨u,rfl,au.mono (P6 _ _) hu⟩) (PW (cX (show u.length<=1000 from(au.length hu).symm▸hz)) (Nat.le_add_right _ 2))
def FQ(ev:Expr->XM SV):Option Expr->XM SV
 |none=>aH .none
 |some e=>ev e
theorem oF{ev:Expr->XM SV}{o:Option Expr}(he:∀e,o=QE e->Snd c F (ev e) (eval e c.env) rV):Snd c F (FQ ev o) (valueOrNone (evalOpt o c.env)) rV:=by
 cases o with
 |none=>exact(bA.ret (w:=λ_=>Value.none) λ_ _ _=>rfl).snd λs Q h=>Qx h
 |some e=>exact he e rfl
def yK(ev:Expr->XM SV)(l u s:Option Expr):XM SV:=ag (FQ ev l) λa=>ag (FQ ev u) λb=>ag (FQ ev s) λd=>eF (.fields "slice" [a,b,d])
theorem tj{M:Model}{A:Around}{l u r:Option Expr}{pos:Pos}{env:Env}{Q:Value->Shared->Prop}(h:wpAny M A (valueOrNone (evalOpt l env)) (λa s1=>wpAny M A (valueOrNone (evalOpt u env)) (λb s2=>wpAny M A (valueOrNone (evalOpt r env)) (λd s3=>wpAny M A (newFields "slice" [a,b,d]) Q NoE s3) NoE s2) NoE s1) NoE s):wpAny M A (eval (.Slice l u r pos) env) Q NoE s:=
 Qv (Qw h (λa s1 h=>Qv (Qy (Qw h (λb s2 h=>Qv (Qy h)) λ_ _ e=>e))) λ_ _ e=>e)
theorem xo{ev:Expr->XM SV}{l u s:Option Expr}{pos:Pos}(he:∀e,Snd c F (ev e) (eval e c.env) rV):Snd c F (yK ev l u s) (eval (.Slice l u s pos) c.env) rV:=
 ((oF λe _=>he e).bd λva=>(oF λe _=>he e).bd λvb=>(oF λe _=>he e).bd λvd=>(oz "slice" [va,vb,vd] (by show 3<=1000;decide)).fin (π:=λvs=>[vth 2 vs,vth 1 vs,vth 0 vs]) λO vs h=>⟨_,_,rfl,h.th 2 rfl,_,_,rfl,h.th 1 rfl,_,_,rfl,h.th 0 rfl,rfl⟩).snd λ_ Q h=>tj h
theorem b4{b:Bool}{m1 m2:XM α}{t:Sem β}{R:α->List Addr->β->Prop}(h1:b=QF->Snd c F m1 t R)(h2:b=QG->Snd c F m2 t R):Snd c F (cond b m1 m2) t R:=by
 cases b with
 |true=>exact h1 rfl
 |false=>exact h2 rfl
theorem aB{t:Sem β}{R:α->List Addr->β->Prop}:Snd c F ar t R:=λ_ _ _ h=>nn h
noncomputable def tI{α:Type}(ops:List CmpOp)(rs:List Expr)(d:XM α)(f:CmpOp->Expr->XM α):XM α:=match ops with
 |[op]=>(match rs with
  |[r]=>f op r
  |_=>d)
 |_=>d
theorem lb{l:Expr}{ops:List CmpOp}{rs:List Expr}{pos:Pos}{d:XM α}{f:CmpOp->Expr->XM α}{t:Expr->Sem β}{R:α->List Addr->β->Prop}(h1:∀op r,Snd c F (f op r) (t (.Compare l [op] [r] pos)) R)(h2:Snd c F d (t (.Compare l ops rs pos)) R):Snd c F (tI ops rs d f) (t (.Compare l ops rs pos)) R:=by
 rcases ops with _|⟨op,_|⟨op2,ops⟩⟩
 .exact h2
 .rcases rs with _|⟨r,_|⟨r2,rs⟩⟩
  .exact h2
  .exact h1 op r
  .exact h2
 .exact h2
def kT(args:List Expr)(kws:List Keyword):Bool:=!(args.any bq)&&(kws.all λk=>k.arg.isSome)&&Nat.blt (args.length+kws.length) 29
def GZ(T:Tab)(F:Fs)(ev:Expr->XM SV)(e:Expr):XM SV:=match e with
 |.Constant k _ _=>Bv (Af k)
 |.Name x _=>cond (x==("__debug__":Str)) ar (Gi T F x)
 |.Compare l ops rs p=>tI ops rs (T.spec e) λop r=>cond (behindInMarks op r) (T.spec (.Compare l [op] [r] p)) (ag (ev l) λa=>ag (ev r) λb=>T.cmp op a b)
 |.BinOp l op r _=>ag (ev l) λa=>ag (ev r) λb=>T.bin op a b
 |.Attribute o n _=>cond (cx o) (ag (ev o) λa=>T.attr a n) (T.spec e)
 |.Call f args kws pos=>cond (kT args kws) (match f with
   |.Attribute o n apos=>cond (cx o&&(apos.endLine==pos.line)) (ag (ev o) λa=>ag (T.meth a n) λg=>xif (T.callee g.1) (fy T F ev g.1 g.2 args kws)) (T.spec e)
   |.Name n np=>ag (ev (.Name n np)) λg=>xif (T.callee g) (fy T F ev g [] args kws)
   |_=>T.spec e) (T.spec e)
 |.List elts _=>cond (elts.any bq) (T.spec e) (F7 ev elts)
 |.Tuple elts _ _=>cond (elts.any bq) (T.spec e) (Md ev elts)
 |.Subscript o i _=>ag (ev o) λa=>ag (ev i) λb=>T.item a b
 |.NamedExpr t v _=>match t with
  |.Name x _=>ag (ev v) λa=>ag (cO F x a) λ_=>aH a
  |_=>T.spec e
 |.Slice l u s _=>yK ev l u s
 |_=>T.spec e
theorem Mc{b:Bool}(h:(!b)=QF):b=QG:=by
 cases b with
 |false=>rfl
 |true=>exact ff h
theorem nP{args:List Expr}{kws:List Keyword}(h:kT args kws=QF):args.any bq=QG/\(kws.all λk=>k.arg.isSome)=QF/\args.length+kws.length<29:=by
 have h:=Qo.mp h
 have h1:=Qo.mp h.1
 exact⟨Mc h1.1,h1.2,PT h.2⟩
theorem wI(H:CxW c F)(HT:bM T c F){ev:Expr->XM SV}(ih:∀e,Snd c F (ev e) (eval e c.env) rV)(e:Expr):Snd c F (GZ T F ev e) (eval e c.env) rV:=by
 cases e with
 |Constant k j pos=>exact w7 k id
 |Name x pos=>
  exact b4 (λ_=>aB) λhd=>Bn H HT x hd
 |Compare l ops rs pos=>
  exact lb (t:=λe=>eval e c.env) (λop r=>b4 (λ_=>HT.spec _) λhm=>De HT (ih l) (ih r) hm) (HT.spec _)
 |BinOp l op r pos=>exact DW HT (ih l) (ih r)
 |Attribute o n pos=>exact b4 (λhs=>z9 HT (ih o) hs) λ_=>HT.spec _
 |Call f args kws pos=>
  exact b4 (λhp=>by
   have h:=nP hp
   cases f with
   |Attribute o n apos=>
    exact b4 (λhs=>have hs:=Qo.mp hs;oU H HT (ih o) (λe _=>ih e) (λk _=>ih _) h.1 h.2.1 h.2.2 hs.1 hs.2) λ_=>HT.spec _
   |Name n np=>exact oN H HT (ih _) (λe _=>ih e) (λk _=>ih _) h.1 h.2.1
   |_=>exact HT.spec _) λ_=>HT.spec _
 |List elts pos=>exact b4 (λ_=>HT.spec _) λhs=>zt (λe _=>ih e) hs
 |Tuple elts k pos=>exact b4 (λ_=>HT.spec _) λhs=>C1 (λe _=>ih e) hs
 |Subscript o i pos=>exact zF HT (ih o) (ih i)
 |NamedExpr t v pos=>
  cases t with
  |Name x xp=>exact vN H (ih v)
  |_=>exact HT.spec _
 |Slice l u s pos=>exact xo ih
 |_=>exact HT.spec _
def GC(T:Tab)(ev:Expr->XM SV)(ts:Expr->XM Bool)(e:Expr):XM Bool:=match e with
 |.UnaryOp op x _=>match op with
  |.Not=>ag (ts x) λb=>aH (!b)
  |_=>ag (ev e) (xZ T)
 |.BoolOp op es _=>IG ts op es
 |.Compare l ops rs _=>tI ops rs ar λop r=>cond (behindInMarks op r) ar (ag (ev l) λa=>ag (ev r) λb=>ag (T.cmp op a b) (xZ T))
 |.IfExp _ _ _ _=>ar
 |e=>ag (ev e) (xZ T)
theorem wJ(HT:bM T c F){ev:Expr->XM SV}{ts:Expr->XM Bool}(ih:∀e,Snd c F (ev e) (eval e c.env) rV)(it:∀e,Snd c F (ts e) (isTrue e c.env (eval e c.env)) rB)(e:Expr):
  Snd c F (GC T ev ts e) (isTrue e c.env (eval e c.env)) rB:=by
 cases e with
 |UnaryOp op x pos=>
  cases op with
  |Not=>exact yi (it x)
  |_=>exact my HT (ih _) rfl
 |BoolOp op es pos=>
  exact(EY op es λe _=>it e).fin.snd λs Q h=>wpAny_isTrue_BoolOp h
 |Compare l ops rs pos=>
  exact lb (t:=λe=>isTrue e c.env (eval e c.env)) (λop r=>b4 (λ_=>aB) λhm=>vF HT (ih l) (ih r) hm) aB
 |IfExp=>exact aB
 |_=>exact my HT (ih _) rfl
noncomputable def iq(e:Expr):Nat:=e.pos.line+10000*e.pos.col
noncomputable def N8(line:Nat)(l:List Orc):Bool:=match l with
 |[]=>QG
 |o::_=>match o with
  |.expr l _ _=>Nat.beq line l
  |_=>QG
noncomputable def PF(line:Nat)(l:List Orc):Bool:=match l with
 |[]=>QG
 |o::_=>match o with
  |.stmt l _ _=>Nat.beq line l
  |_=>QG
noncomputable def ED{α:Type}(f:List Orc->Bool)(a b:XM α):XM α:=λx=>cond (f x.orc) (a x) (b x)
theorem ro{α β:Type}{f:List Orc->Bool}{a b:XM α}{t:Sem β}{R:α->List Addr->β->Prop}(h1:Snd c F a t R)(h2:Snd c F b t R):Snd c F (ED f a b) t R:=λx r x' h hc=>by
 unfold ED at h
 cases e:f x.orc with
 |true=>rw[e]at h;exact h1 _ _ _ h hc
 |false=>rw[e]at h;exact h2 _ _ _ h hc
noncomputable def evN(T:Tab)(F:Fs):Nat->Expr->XM SV
 |0=>λ_=>ar
 |n+1=>λe=>ED (N8 (iq e)) (T.spec e) (GZ T F (evN T F n) e)
theorem gT(H:CxW c F)(HT:bM T c F)(n:Nat):∀(e:Expr),Snd c F (evN T F n e) (eval e c.env) rV:=by
 induction n with
 |zero=>exactλ_=>aB
 |succ n ih=>exactλe=>ro (HT.spec e) (wI H HT ih e)
noncomputable def tsN(T:Tab)(F:Fs):Nat->Expr->XM Bool
 |0=>λ_=>ar
 |n+1=>GC T (evN T F n) (tsN T F n)
theorem n8(H:CxW c F)(HT:bM T c F)(n:Nat):∀(e:Expr),Snd c F (tsN T F n e) (isTrue e c.env (eval e c.env)) rB:=by
 induction n with
 |zero=>exactλ_=>aB
 |succ n ih=>exact wJ HT (gT H HT n) ih
noncomputable def GB:Option NameKind->Bool
 |some .local=>QF
 |_=>QG
def DO(F:Fs)(x:Str):Bool:=GB (F.sc.names.lookup x)
theorem Ar{k:Option NameKind}(h:GB k=QF):k=QE .local:=by
 cases k with
 |none=>exact ff h
 |some k=>
  cases k with
  |«local»=>rfl
  |_=>exact ff h
def ux(T:Tab)(F:Fs)(ev:Expr->XM SV)(v:Expr)(ok:Bool)(d:XM XF)(tg:List Expr):XM XF:=match tg with
 |[]=>d
 |t::r=>(match r with
  |[]=>(match t with
   |.Name x _=>cond ok (ag (ev v) λa=>ag (cO F x a) λ_=>aH XF.next) d
   |.Attribute o n _=>ag (ev v) λa=>ag (ev o) λb=>ag (T.setattr b n a) λ_=>aH XF.next
   |.Subscript o i _=>cond ok (ag (ev v) λa=>ag (ev o) λb=>ag (ev i) λd=>ag (T.setitem b d a) λ_=>aH XF.next) d
   |_=>d)
  |t2::r2=>(match r2 with
   |[]=>(match t with
    |.Subscript o i _=>(match t2 with
     |.Name x _=>cond ok (ag (ev v) λa=>ag (ev o) λb=>ag (ev i) λd=>ag (T.setitem b d a) λ_=>ag (cO F x a) λ_=>aH XF.next) d
     |_=>d)
    |_=>d)
   |_::_=>d))
theorem si(H:CxW c F)(HT:bM T c F){ev:Expr->XM SV}(ih:∀e,Snd c F (ev e) (eval e c.env) rV){tg:List Expr}{v:Expr}{pos:Pos}{d:XM XF}(hd:Snd c F d (exec (.Assign tg v pos) c.env) rF):Snd c F (ux T F ev v (iA v) d tg) (exec (.Assign tg v pos) c.env) rF:=by
 rcases tg with _|⟨t,_|⟨t2,_|⟨t3,r⟩⟩⟩
 .exact hd
 .cases t with
  |Name x _=>exact b4 (λhn=>km H (ih v) hn) λ_=>hd
  |Attribute o n _=>exact lH HT (ih v) (ih _)
  |Subscript o i _=>exact b4 (λhn=>kh HT (ih v) (ih _) (ih _) hn) λ_=>hd
  |_=>exact hd
 .cases t with
  |Subscript o i _=>
   cases t2 with
   |Name x _=>exact b4 (λ_=>l6 H HT (ih v) (ih _) (ih _)) λ_=>hd
   |_=>exact hd
  |_=>exact hd
 .exact hd
def GF(T:Tab)(F:Fs)(ev:Expr->XM SV)(ts:Expr->XM Bool)(ex:Stmt->XM XF)(st:Stmt):XM XF:=match st with
 |.Expr e _=>cond (iA e) (ag (ev e) λ_=>aH XF.next) (T.specS st)
 |.Assign tg v _=>ux T F ev v (iA v) (T.specS st) tg
 |.AugAssign tg op v _=>match tg with
  |.Name x _=>cond (DO F x) (ag (H1 F x) λa=>ag (ev v) λb=>ag (T.inp op a b) λr=>ag (cO F x r) λ_=>aH XF.next) (T.specS st)
  |.Attribute o n _=>ag (ev o) λa=>ag (T.attr a n) λb=>ag (ev v) λd=>ag (T.inp op b d) λr=>ag (T.setattr a n r) λ_=>aH XF.next
  |_=>T.specS st
 |.If t b e _=>ag (ts t) λz=>cond z (fj ex b) (fj ex e)
 |.Return v _=>match v with
  |some e=>ag (ev e) λa=>aH (XF.ret a)
  |none=>aH (XF.ret .none)
 |.Pass _=>aH XF.next
 |.Break _=>aH XF.brk
 |.Continue _=>aH XF.cont
 |_=>T.specS st
theorem xl(H:CxW c F)(HT:bM T c F){ev:Expr->XM SV}{ts:Expr->XM Bool}{ex:Stmt->XM XF}(ih:∀e,Snd c F (ev e) (eval e c.env) rV)(it:∀e,Snd c F (ts e) (isTrue e c.env (eval e c.env)) rB)
  (ix:∀st,Snd c F (ex st) (exec st c.env) rF)(st:Stmt):Snd c F (GF T F ev ts ex st) (exec st c.env) rF:=by
 cases st with
 |Expr e pos=>exact b4 (λhn=>Bg H (ih e) hn) λ_=>HT.specS _
 |Assign tg v pos=>exact si H HT ih (HT.specS _)
 |AugAssign tg op v pos=>
  cases tg with
  |Name x xp=>exact b4 (λhl=>qI H HT (qw H x (Ar hl)) (ih v)) λ_=>HT.specS _
  |Attribute o n tp=>exact qc HT (ih o) (ih v)
  |_=>exact HT.specS _
 |If t b e pos=>exact Hv (it t) (dB b λst _=>ix st) (dB e λst _=>ix st)
 |Return v pos=>
  cases v with
  |some e=>exact DF (ih e)
  |none=>exact Cf
 |Pass pos=>exact y4
 |Break pos=>exact yh
 |Continue pos=>exact y7
 |_=>exact HT.specS _
noncomputable def exN(T:Tab)(F:Fs):Nat->Stmt->XM XF
 |0=>λ_=>ar
 |n+1=>λst=>ED (PF st.pos.line) (T.specS st) (GF T F (evN T F n) (tsN T F n) (exN T F n) st)
theorem om(H:CxW c F)(HT:bM T c F)(n:Nat):∀(st:Stmt),Snd c F (exN T F n st) (exec st c.env) rF:=by
 induction n with
 |zero=>exactλ_=>aB
 |succ n ih=>exactλst=>ro (HT.specS st) (xl H HT (gT H HT n) (n8 H HT n) ih st)
def c9(T:Tab)(F:Fs)(n:Nat)(l:List Stmt):XM XF:=fj (exN T F n) l
theorem kB(H:CxW c F)(HT:bM T c F)(n:Nat)(l:List Stmt):Snd c F (c9 T F n l) (execs l c.env) rF:=dB l λst _=>om H HT n st
noncomputable def jg{α:Type}(eq:α->α->Bool):List α->List α->Bool
 |[],r=>r.isEmpty
 |a::l,r=>match r with
  |[]=>QG
  |b::r=>cond (eq a b) (jg eq l r) QG
theorem lR{α:Type}{eq:α->α->Bool}(h:∀a b,eq a b=QF↔a=b){l:List α}:∀{r:List α},jg eq l r=QF↔l=r:=by
 induction l with
 |nil=>exactλ{r}=>List.isEmpty_iff.trans eq_comm
 |cons a l ih=>
  intro r
  cases r with
  |nil=>exact⟨λe=>ff e,λe=>nomatch e⟩
  |cons b r=>
   show cond (eq a b) (jg eq l r) QG=QF↔_
   cases q:eq a b with
   |true=>exact(h a b).mp q▸⟨λe=>QJ (a:: ·) (ih.mp e),λe=>ih.mpr (List.cons.inj e).2⟩
   |false=>exact⟨λe=>ff e,λe=>ff (q.symm.trans ((h a b).mpr (List.cons.inj e).1))⟩
def yP:List Nat->List Nat->Bool:=jg Nat.beq
theorem tV{l r:List Nat}:yP l r=QF↔l=r:=lR λ_ _=>Nat.beq_eq▸Iff.rfl
def aQ(x y:Str):Bool:=yP x.cps.toList y.cps.toList
theorem aM{x y:Str}:aQ x y=QF↔x=y:=tV.trans ⟨λe=>by cases x;cases y;exact QJ Str.mk (Array.toList_inj.mp e),λe=>e▸rfl⟩
theorem fz(x y:Str):aQ x y=(x==y):=Bool.eq_iff_iff.mpr (aM.trans beq_iff_eq.symm)
noncomputable def jS(a:Nat):List Nat->Bool
 |[]=>QG
 |b::r=>cond (Nat.beq a b) QF (jS a r)
theorem kK(a:Nat)(l:List Nat):jS a l=decide (a∈l):=by
 induction l with
 |nil=>rfl
 |cons b r ih=>
  show cond (Nat.beq a b) QF (jS a r)=_
  cases h:Nat.beq a b with
  |true=>exact(decide_eq_true (PV h▸ .head _)).symm
  |false=>exact ih.trans (decide_eq_decide.mpr ⟨.tail _,λz=>(Qb.mp z).resolve_left (Nat.ne_of_beq_eq_false h)⟩)
noncomputable def af(k:Str):List Str->Bool
 |[]=>QG
 |y::r=>cond (aQ y k) QF (af k r)
theorem dC(k:Str)(l:List Str):af k l=l.any (·==k):=by
 induction l with
 |nil=>rfl
 |cons y r ih=>
  show cond (aQ y k) QF (af k r)=_
  rw[List.any_cons,<-fz,<-ih]
  cases aQ y k<;>rfl
def fF:List SV->Option (List Str):=vt Nu
theorem vZ{xs:List SV}{ys:List Str}(e:fF xs=QE ys):xs=ys.map SV.str:=m9 (λ_ _=>Cv) e
theorem eC{xs:List SV}{ys:List Str}{vs:List Value}(e:fF xs=QE ys)(h:au O xs vs):StrsAre vs ys:=dX (vZ e▸h)
def iB:SO->Option (List Str)
 |.words ys=>QE ys
 |.list xs=>fF xs
 |_=>QD
theorem iZ{P:Params}{x:SO}{ys:List Str}{o:Obj}(e:iB x=QE ys)(r:aP P O x o){G:Prop}(k:∀(vs:List Value)n,o=listOf vs.toArray n->StrsAre vs ys->G):G:=by
 cases x with
 |words zs=>exact Qq r λvs r=>Qq r λn r=>k vs n r.1 (QH e▸r.2)
 |list xs=>exact Qq r λvs r=>Qq r λn r=>k vs n r.1 (eC e r.2)
 |_=>exact nn e
theorem az{vs:List Value}{ys:List Str}(h:StrsAre vs ys):vs.length=ys.length:=h.length
theorem yM{I:List Addr->γ->Prop}{t:γ->Sem β}{a:α}{R:α->List Addr->β->Prop}
  (h:∀O s g,I O g->∀Q:β->Shared->Prop,(∀v tk,R a O v->Q v { s with toks:=tk })->wpAny c.M c.A (t g) Q NoE s):aj c F I (aH a) t R:=by
 intro x b x' e hc
 cases bf e
 exact⟨hc,λO s m news g p hi=>wpAny_with_toks (PX _) (Qw (h O s g hi (λv s'=>s.toks<=s'.toks->aG c F O x.st (R a) v s') λv tk r ht=>(p.toks tk ht).now r) (λ_ _ z=>z) λ_ _ z=>z.elim)⟩
theorem aX{I:List Addr->γ->Prop}{t:γ->Sem β}{R:α->List Addr->β->Prop}:aj c F I ar t R:=λ_ _ _ e=>by cases e
theorem aj.led{I:List Addr->γ->Prop}{t:γ->Sem β}{k:Nat}{f:SO->XM α}{R:α->List Addr->β->Prop}
  (h:∀o x a x',x.st.led[k]?=QE o->f o x=QE (a,x')->bh x'.cs->bh x.cs/\∀O s mm news g,Pre c F O x.st s mm news->I O g->wpAny c.M c.A (t g) (aG c F O x'.st (R a)) NoE s):aj c F I (ag (C6 k) f) t R:=by
 intro x a x' e hc
 obtain⟨o,x1,h1,h2⟩:=dk e
 obtain⟨h3,h4⟩:=mK h1
 dsimp only at h3 h4
 subst h4
 exact h o _ _ _ h3 h2 hc
noncomputable def ou:SV->Option Bool
 |.none=>QE QF
 |.bool _=>QE QG
 |.int _=>QE QG
 |.str _=>QE QG
 |.ref _=>QE QG
 |.top v=>match v with
  |.none=>QE QF
  |_=>QE QG
theorem jH{a:SV}{v:Value}{b:Bool}(e:ou a=QE b)(r:aA O a v):(v==Value.none)=b:=by
 cases a with
 |none=>cases e;rw[show v=_ from r];rfl
 |bool b=>cases e;rw[show v=_ from r];rfl
 |int i=>cases e;obtain⟨t,rfl⟩:=r;rfl
 |str i=>cases e;obtain⟨t,rfl⟩:=r;rfl
 |ref k=>cases e;obtain⟨t,_,rfl⟩:=r;rfl
 |top u=>rw[show v=u from r];cases u<;>(cases e;rfl)
noncomputable def qU(y:Str):Option Nat:=match y.cps.toList with
 |[n]=>QE n
 |_=>QD
theorem zw{y:Str}{n:Nat}(e:qU y=QE n):y=⟨#[n]⟩:=by
 obtain⟨⟨l⟩⟩:=y
 unfold qU at e
 match l,e with
 |[_],e=>cases e;rfl
noncomputable def ciX(x y:Int):CmpOp->Option Bool
 |.Eq=>QE (x==y)
 |.NotEq=>QE (!(x==y))
 |.Lt=>QE (decide (x<y))
 |.Gt=>QE (decide (y<x))
 |.GtE=>QE (decide (y<=x))
 |_=>QD
def csX(x y:Str):CmpOp->Option Bool
 |.Eq=>QE (aQ x y)
 |.NotEq=>QE (!aQ x y)
 |.In=>(qU x).map λn=>jS n y.cps.toList
 |.NotIn=>(qU x).map λn=>!jS n y.cps.toList
 |_=>QD
noncomputable def sF:SV->Option Bool
 |.str _=>QE QG
 |.none=>QE QF
 |_=>QD
def cnX(a:SV):CmpOp->Option Bool
 |.Eq=>sF a
 |.NotEq=>(sF a).map not
 |.Is=>ou a
 |.IsNot=>(ou a).map not
 |_=>QD
def NM(op:CmpOp)(a b:SV):Option Bool:=match b with
 |.int y=>(match a with
  |.int x=>ciX x y op
  |_=>QD)
 |.str y=>(match a with
  |.str x=>csX x y op
  |_=>QD)
 |.none=>cnX a op
 |_=>QD
section
variable{prog:Program}{w:World}{A:Around}{Q:Value->Shared->Prop}{E:Value->Shared->Prop}{op:CmpOp}{b:Bool}{t u:Tok}
theorem Ij{x y:Int}(e:ciX x y op=QE b)(q:Q (.bool b) s):wpAny (model prog w) A (compareOp op (.int x t) (.int y u)) Q E s:=by
 cases op with
 |Eq=>cases e;exact eq_int q
 |NotEq=>cases e;exact ne_int q
 |Lt=>cases e;exact lt_int q
 |Gt=>cases e;exact gt_int q
 |GtE=>cases e;exact ge_int q
 |_=>exact nn e
theorem zm{x y:Str}{n:Nat}(h:qU x=QE n):jS n y.cps.toList=!(Builtin.Str.occurrences y x 0 y.length 1).isEmpty:=by rw[zw h,kK,StrLaws.found_one]
theorem Ie{x y:Str}(e:csX x y op=QE b)(q:Q (.bool b) s):wpAny (model prog w) A (compareOp op (.str x t) (.str y u)) Q E s:=by
 cases op with
 |Eq=>cases e;exact eq_str (fz x y▸q)
 |NotEq=>cases e;rw[fz]at q;exact ne_str q
 |In=>obtain⟨n,hn,rfl⟩:=Qm.mp e;exact in_str (zm hn▸q)
 |NotIn=>obtain⟨n,hn,rfl⟩:=Qm.mp e;exact notIn_str (zm hn▸q)
 |_=>exact nn e
theorem kM{a:SV}{v:Value}(e:sF a=QE b)(h:aA O a v):(Q (.bool b) s->wpAny (model prog w) A (compareOp .Eq v .none) Q E s)/\(Q (.bool (!b)) s->wpAny (model prog w) A (compareOp .NotEq v .none) Q E s):=by
 cases a with
 |str x=>cases e;exact Qq h λt h=>h▸⟨EqNone.eq_str_none,EqNone.ne_str_none⟩
 |none=>cases e;cases h;exact⟨EqNone.eq_none_none,EqNone.ne_none_none⟩
 |_=>exact nn e
theorem Ju{a:SV}{v:Value}(e:cnX a op=QE b)(h:aA O a v)(q:Q (.bool b) s):wpAny (model prog w) A (compareOp op v .none) Q E s:=by
 cases op with
 |Eq=>exact(kM e h).1 q
 |NotEq=>obtain⟨z,hz,rfl⟩:=Qm.mp e;exact(kM hz h).2 q
 |Is=>exact is_none (jH e h▸q)
 |IsNot=>obtain⟨z,hz,rfl⟩:=Qm.mp e;exact isNot_none (jH hz h▸q)
 |_=>exact nn e
theorem zY{a d:SV}{v z:Value}(e:NM op a d=QE b)(h1:aA O a v)(h2:aA O d z)(q:Q (.bool b) s):wpAny (model prog w) A (compareOp op v z) Q E s:=by
 cases d with
 |int y=>exact Qq h2 λu h2=>h2▸(by
  cases a with
  |int x=>exact Qq h1 λt h1=>h1▸Ij e q
  |_=>exact nn e)
 |str y=>exact Qq h2 λu h2=>h2▸(by
  cases a with
  |str x=>exact Qq h1 λt h1=>h1▸Ie e q
  |_=>exact nn e)
 |none=>cases h2;exact Ju e h1 q
 |_=>exact nn e
end
section
variable{α β γ δ:Type}{x:XS}{t:Value×Value->Sem β}
theorem iI{l:Nat}{o:SO}{b:SV}(ho:x.st.led[l]?=QE o){Q:List Addr->Shared->β->Shared->Prop}
  (h:∀O s mm news ad ob v,Pre c F O x.st s mm news->O[l]?=QE ad->news[l]?=QE (ad,ob)->s.heap.get? ad=QE ob->aP c.P O o ob->aA O b v->wpAny c.M c.A (t (.ref ad,v)) (Q O s) NoE s):
  ∀O s mm news g,Pre c F O x.st s mm news->P2 (.ref l) b O g->wpAny c.M c.A (t g) (Q O s) NoE s:=λO s mm news g p⟨⟨ad,hσ,hg⟩,hv⟩=>by
 obtain⟨a,ob,f1,f2,f3,f4⟩:=p.rep.get ho
 rw[hσ]at f2;cases f2
 obtain⟨g1,g2⟩:=g
 exact(show g1= .ref ad from hg)▸h O s mm news ad ob g2 p hσ f1 f3 f4 hv
end
def jz{α:Type}(a:SV)(f:Str->XM α):XM α:=match a with
 |.str y=>f y
 |_=>ar
theorem aj.str(a:SV){J:SV->List Addr->γ->Prop}{t:γ->Sem β}{R:α->List Addr->β->Prop}{f:Str->XM α}(h:∀l,aj c F (J (.str l)) (f l) t R):aj c F (J a) (jz a f) t R:=by
 cases a with
 |str l=>exact h l
 |_=>exactλ_ _ _ e=>nn e
section
variable{t:Value×Value->Sem β}{R:α->List Addr->β->Prop}{f:Nat->XM α}{g:Str->XM α}
theorem nN(a:SV){b:SV}(h:∀l,aj c F (P2 (.ref l) b) (f l) t R):aj c F (P2 a b) (cE a f) t R:=aj.ref (J:=λa=>P2 a b) a h
theorem w8{a:SV}(b:SV)(h:∀l,aj c F (P2 a (.ref l)) (f l) t R):aj c F (P2 a b) (cE b f) t R:=aj.ref (J:=P2 a) b h
theorem Ex(a:SV){b:SV}(h:∀l,aj c F (P2 (.str l) b) (g l) t R):aj c F (P2 a b) (jz a g) t R:=aj.str (J:=λa=>P2 a b) a h
theorem Jy{a:SV}(b:SV)(h:∀l,aj c F (P2 a (.str l)) (g l) t R):aj c F (P2 a b) (jz b g) t R:=aj.str (J:=P2 a) b h
theorem j0{t:Value->Sem β}(a:SV)(h:∀l,aj c F (rV (.ref l)) (f l) t R):aj c F (rV a) (cE a f) t R:=aj.ref (J:=rV) a h
end
theorem zO{x:XS}{t:Value×Value->Sem β}{l q:Nat}{Q:List Addr->Shared->β->Shared->Prop}(h:∀O s mm news ad a2,Pre c F O x.st s mm news->O[l]?=QE ad->O[q]?=QE a2->wpAny c.M c.A (t (.ref ad, .ref a2)) (Q O s) NoE s):
  ∀O s mm news g,Pre c F O x.st s mm news->P2 (.ref l) (.ref q) O g->wpAny c.M c.A (t g) (Q O s) NoE s:=λO s mm news g p⟨⟨ad,hσ,hg⟩,a2,h2,hv⟩=>by
 obtain⟨g1,g2⟩:=g
 cases hg;cases hv
 exact h O s mm news ad a2 p hσ h2
theorem uV{x:XS}{t:Value×Value->Sem β}{l:Nat}{y:Str}{Q:List Addr->Shared->β->Shared->Prop}(h:∀O s mm news ad u,Pre c F O x.st s mm news->O[l]?=QE ad->wpAny c.M c.A (t (.ref ad, .str y u)) (Q O s) NoE s):
  ∀O s mm news g,Pre c F O x.st s mm news->P2 (.ref l) (.str y) O g->wpAny c.M c.A (t g) (Q O s) NoE s:=λO s mm news g p⟨⟨ad,hσ,hg⟩,u,hv⟩=>by
 obtain⟨g1,g2⟩:=g
 cases hg;cases hv
 exact h O s mm news ad u p hσ
theorem qC{x:XS}{t:Value×Value->Sem β}{l:Nat}{y:Str}{Q:List Addr->Shared->β->Shared->Prop}(h:∀O s mm news ad u,Pre c F O x.st s mm news->O[l]?=QE ad->wpAny c.M c.A (t (.str y u, .ref ad)) (Q O s) NoE s):
  ∀O s mm news g,Pre c F O x.st s mm news->P2 (.str y) (.ref l) O g->wpAny c.M c.A (t g) (Q O s) NoE s:=λO s mm news g p⟨⟨u,hv⟩,ad,hσ,hg⟩=>by
 obtain⟨g1,g2⟩:=g
 cases hg;cases hv
 exact h O s mm news ad u p hσ
theorem wd{x:XS}{t:Value->Sem β}{l:Nat}{Q:List Addr->Shared->β->Shared->Prop}(h:∀O s mm news ad,Pre c F O x.st s mm news->O[l]?=QE ad->wpAny c.M c.A (t (.ref ad)) (Q O s) NoE s):
  ∀O s mm news g,Pre c F O x.st s mm news->aA O (.ref l) g->wpAny c.M c.A (t g) (Q O s) NoE s:=λO s mm news g p⟨ad,hσ,hg⟩=>hg▸h O s mm news ad p hσ
noncomputable def lY:SO->Option (List (Str×SV))
 |.ns fs=>QE fs
 |_=>QD
theorem tY{o:SO}{fs:List (Str×SV)}(e:lY o=QE fs):o= .ns fs:=by cases o<;>first|exact nn e|exact QJ SO.ns (QH e)
noncomputable def ja:SO->Option (List Str)
 |.words ys=>QE ys
 |_=>QD
theorem iz{o:SO}{ys:List Str}(e:ja o=QE ys):o= .words ys:=by cases o<;>first|exact nn e|exact QJ SO.words (QH e)
noncomputable def z4:SO->Option (List Str)
 |.wtup ys=>QE ys
 |_=>QD
theorem xr{o:SO}{ys:List Str}(e:z4 o=QE ys):o= .wtup ys:=by cases o<;>first|exact nn e|exact QJ SO.wtup (QH e)
noncomputable def lx:SO->Option (List (Str×SV)×Nat)
 |.nsE fs ep=>QE (fs,ep)
 |_=>QD
theorem iU{o:SO}{r:List (Str×SV)×Nat}(e:lx o=QE r):o= .nsE r.1 r.2:=by
 cases o<;>first|exact nn e|exact QH e▸rfl
noncomputable def t7:SO->Option (List (Str×SV))
 |.ns fs=>QE fs
 |.nsE fs _=>QE fs
 |_=>QD
theorem gy{P:Params}{o:SO}{ob:Obj}{fs:List (Str×SV)}(e:t7 o=QE fs)(h:aP P O o ob){G:Prop}(k:∀es n,ob=dictOf es n->bC P O fs es->G):G:=by
 cases o with
 |ns gs=>exact Qq h λes h=>Qq h λn h=>k es n h.1 (QH e▸h.2)
 |nsE gs n=>exact Qq h λes h=>k es n h.1 (QH e▸h.2)
 |_=>exact nn e
theorem eE{o:SO}{fs:List (Str×SV)}(e:lY o=QE fs):t7 o=QE fs:=by cases tY e;exact e
noncomputable def lA:SO->Bool
 |.list _=>QF
 |.words _=>QF
 |_=>QG
theorem nX{P:Params}{q:SO}{ob:Obj}(h:lA q=QF)(r:aP P O q ob){G:Prop}(k:∀(vs:List Value)(n:Nat),ob=listOf vs.toArray n->G):G:=by
 cases q with
 |list xs=>exact Qq r λvs r=>Qq r λn r=>k vs n r.1
 |words xs=>exact Qq r λvs r=>Qq r λn r=>k vs n r.1
 |_=>exact ff h
def JC(q:SO):Option Unit:=cond (lA q) (QE ()) QD
noncomputable def oA:SO->Option (List Str)
 |.sset ys=>QE ys
 |_=>QD
theorem yv{o:SO}{ys:List Str}(e:oA o=QE ys):o= .sset ys:=by cases o<;>first|exact nn e|exact QJ SO.sset (QH e)
theorem Pre.set(p:Pre c F O S s m news){k:Nat}{o:SO}{ys:List Str}{a:Addr}(hk:S.led[k]?=QE o)(hs:oA o=QE ys)(hσ:O[k]?=QE a){G:Prop}
  (g:∀ob n,news[k]?=QE (a,ob)->n<=ys.length->s.heap.get? a=QE ob->ob.SetObjOf (strKind c.pr c.w) (λk=>ys.any (·==k)) n->G):G:=p.objAt hk hσ λob g1 g3 g4=>by
 obtain⟨prog,w,n,hw,hn,z⟩:=yv hs▸g4
 exact g ob n g1 hn g3 (z.transport (knd':=strKind c.pr c.w) rfl (QJ PyData.keyHash (show c.w.params=w.params from hw.symm)))
noncomputable def sgn(z b:Bool):Bool:=cond z (!b) b
noncomputable def bQ{α:Type}(m k:XM α):XM α:=λx=>match m x with
 |some r=>QE r
 |none=>k x
theorem aO{I:List Addr->γ->Prop}{t:γ->Sem β}{R:α->List Addr->β->Prop}{m k:XM α}(h1:aj c F I m t R)(h2:aj c F I k t R):aj c F I (bQ m k) t R:=by
 intro x a x' e hc
 unfold bQ at e
 split at e
 .rename_i r hr;cases e;exact h1 x a x' hr hc
 .exact h2 x a x' e hc
theorem ai{α:Type}{b:Bool}{o:Option α}{a:α}(h:cond b o QD=QE a):b=QF/\o=QE a:=by
 cases b with
 |true=>exact⟨rfl,h⟩
 |false=>cases h
noncomputable def kI:SO->Option (List SV)
 |.words ys=>QE (ys.map SV.str)
 |.list xs=>QE xs
 |_=>QD
theorem iJ{P:Params}{x:SO}{xs:List SV}{o:Obj}(e:kI x=QE xs)(r:aP P O x o):∃vs n,o=listOf vs.toArray n/\au O xs vs:=by
 cases x with
 |words zs=>cases e;obtain⟨vs,n,q,z⟩:=r;exact⟨vs,n,q,cb z⟩
 |list xs=>cases e;exact r
 |_=>cases e
theorem aW{h:Heap}{a:Addr}{vs:List Value}{n:Nat}(e:h.get? a=QE (listOf vs.toArray n)):h.IsList a vs.toArray:=⟨_,e,rfl,n,rfl⟩
def ug:SO->Option (List Str)
 |.tup xs=>fF xs
 |.words ys=>QE ys
 |.list xs=>fF xs
 |_=>QD
def GI(h:Heap)(a:Addr)(vs:List Value):Prop:=h.IsList a vs.toArray\/IsTup h a vs.toArray
theorem q9{P:Params}{o:SO}{ob:Obj}{ys:List Str}(e:ug o=QE ys)(h:aP P O o ob){hp:Heap}{a:Addr}(hg:hp.get? a=QE ob){G:Prop}(k:∀vs,GI hp a vs->StrsAre vs ys->G):G:=by
 cases o with
 |tup xs=>exact Qq h λvs h=>Qq h λn h=>k vs (.inr ⟨_,h.1▸hg,rfl,n,rfl⟩) (eC e h.2)
 |words zs=>exact Qq h λvs h=>Qq h λn h=>k vs (.inl (aW (h.1▸hg))) (QH e▸h.2)
 |list xs=>exact Qq h λvs h=>Qq h λn h=>k vs (.inl (aW (h.1▸hg))) (eC e h.2)
 |_=>exact nn e
noncomputable def KG:CmpOp->Option Bool
 |.In=>QE QG
 |.NotIn=>QE QF
 |_=>QD
theorem JG{prog:Program}{w:World}{A:Around}{Q:Value->Shared->Prop}{E:Value->Shared->Prop}{op:CmpOp}{z:Bool}{a:Addr}{vs:List Value}{ys:List Str}{k:Str}{t:Tok}(e:KG op=QE z)(h:GI s.heap a vs)(hs:StrsAre vs ys)(q:Q (.bool (sgn z (af k ys))) s):
  wpAny (model prog w) A (compareOp op (.str k t) (.ref a)) Q E s:=by
 rw[dC]at q
 cases op with
 |In=>cases e;exact h.elim (λh=>in_list_strs h hs q) λh=>in_tuple_strs h hs q
 |NotIn=>cases e;exact h.elim (λh=>notin_list_strs h hs q) λh=>notin_tuple_strs h hs q
 |_=>exact nn e
def inX(op:CmpOp)(a b:SV):XM SV:=jz a λk=>cE b λl=>xrd l ug λys=>xob (KG op) λz=>cI [] (.bool (sgn z (af k ys)))
theorem EV(op:CmpOp)(a b:SV):aj c F (P2 a b) (inX op a b) (λv=>compareOp op v.1 v.2) rV:=Ex a λk=>w8 b λl x=>At.rd λo ys ho hy=>At.ob λz hz=>At.say λ_=>qC λO s m news ad t p hσ=>
 p.objAt ho hσ λob g1 g3 g4=>q9 hy g4 g3 λvs h hs=>JG hz h hs (p.now rfl)
theorem yE(x y:String):(Value.type x==Value.type y)=decide (x=y):=by
 by_cases h:x=y
 .subst h;simp
 .rw[decide_eq_false h]
  cases q:(Value.type x==Value.type y)with
  |false=>rfl
  |true=>exact absurd (by have:=eq_of_beq q;injection this) h
noncomputable def Hk:SV->Option String
 |.top v=>(match v with
  |.type x=>QE x
  |_=>QD)
 |_=>QD
theorem uy{a:SV}{x:String}(e:Hk a=QE x):a= .top (.type x):=by
 cases a with
 |top v=>cases v<;>first|exact nn e|exact QJ (SV.top∘Value.type) (QH e)
 |_=>exact nn e
noncomputable def KL:CmpOp->Option Bool
 |.Is=>QE QG
 |.IsNot=>QE QF
 |_=>QD
def isX(op:CmpOp)(a b:SV):XM SV:=xob (Hk a) λx=>xob (Hk b) λy=>xob (KL op) λz=>cI [] (.bool (sgn z (decide (x=y))))
theorem Jr{prog:Program}{w:World}{A:Around}{Q:Value->Shared->Prop}{E:Value->Shared->Prop}{op:CmpOp}{z:Bool}{x y:String}(e:KL op=QE z)(q:Q (.bool (sgn z (decide (x=y)))) s):wpAny (model prog w) A (compareOp op (.type x) (.type y)) Q E s:=by
 rw[<-yE]at q
 cases op with
 |Is=>cases e;exact wpAny_is_plain rfl q
 |IsNot=>cases e;exact wpAny_isNot_plain rfl q
 |_=>exact nn e
theorem D8(op:CmpOp)(a b:SV):aj c F (P2 a b) (isX op a b) (λv=>compareOp op v.1 v.2) rV:=λx=>At.ob λu hu=>At.ob λv hv=>At.ob λz hz=>At.say λ_ O s m news g p hg=>by
 obtain⟨g1,g2⟩:=g
 obtain⟨h1,h2⟩:=uy hu▸uy hv▸hg
 cases h1;cases h2
 exact Jr hz (p.now rfl)
def MD(op:CmpOp)(a b:SV):XM SV:=xob (NM op a b) λz=>cI [] (.bool z)
theorem zI(op:CmpOp)(a b:SV):aj c F (P2 a b) (MD op a b) (λv=>compareOp op v.1 v.2) rV:=λx=>At.ob λz hz=>At.say λ_ O s m news g p hg=>zY hz hg.1 hg.2 (p.now rfl)
noncomputable def MM(x y:Str):Bool:=Nat.ble (x.cps.toList.length+y.cps.toList.length) 1000000
theorem vg{x y:Str}(h:MM x y=QF):x.length+y.length<=sizeLine:=by
 have:=PT h
 have e1:x.length=x.cps.toList.length:=by simp[Str.length]
 have e2:y.length=y.cps.toList.length:=by simp[Str.length]
 rw[e1,e2,sizeLine_eq]
 lia
theorem xP(x y:Str):(⟨(x.cps.toList++y.cps.toList).toArray⟩:Str)=x++y:=by
 show _=Str.append x y
 cases x;cases y;simp[Str.append]
noncomputable def Bm:Int->Option Nat
 |.ofNat n=>(match n with
  |k+1=>QE k
  |0=>QD)
 |_=>QD
theorem qb{y:Int}{k:Nat}(e:Bm y=QE k):y= .ofNat (k+1):=by
 cases y with
 |ofNat n=>
  cases n with
  |succ n=>exact QJ (λk=>Int.ofNat (k+1)) (QH e)
  |zero=>exact nn e
 |_=>exact nn e
def biX(x y:Int):Operator->Option Int
 |.Add=>QE (x+y)
 |.Sub=>QE (x-y)
 |.Mod=>(Bm y).map λk=>x.fmod (.ofNat (k+1))
 |.FloorDiv=>(Bm y).bind λk=>cond (Nat.ble k 1000) (QE (x.fdiv (.ofNat (k+1)))) QD
 |_=>QD
def bsX(x y:Str):Operator->Option Str
 |.Add=>cond (MM x y) (QE ⟨(x.cps.toList++y.cps.toList).toArray⟩) QD
 |_=>QD
def Em(op:Operator)(a b:SV):Option SV:=match a with
 |.int x=>(match b with
  |.int y=>(biX x y op).map SV.int
  |_=>QD)
 |.str x=>(match b with
  |.str y=>(bsX x y op).map SV.str
  |_=>QD)
 |_=>QD
def CK(op:Operator)(a b:SV):Option SV:=match op with
 |.Add=>Em .Add a b
 |.Sub=>Em .Sub a b
 |_=>QD
section
variable{prog:Program}{w:World}{A:Around}{Q:Value->Shared->Prop}{E:Value->Shared->Prop}{op:Operator}{t u:Tok}
theorem IM{x y r:Int}(e:biX x y op=QE r)(q:∀t tk,Q (.int r t) { s with toks:=tk }):wpAny (model prog w) A (binaryOp op (.int x t) (.int y u)) Q E s:=by
 cases op with
 |Add=>cases e;exact add_int (q _ _)
 |Sub=>cases e;exact sub_int (q _ _)
 |Mod=>
  obtain⟨k,hk,rfl⟩:=Qm.mp e
  cases qb hk
  exact mod_int (λq=>nomatch q) (q _ _)
 |FloorDiv=>
  exact bK e λk hk e=>by
   cases qb hk
   have z:=ai e
   cases z.2
   refine floordiv_int (λq=>nomatch q) (q _ _) (Or.inl (PyProof.noPylong_small ?_))
   have:=PT z.1
   rw[Int.natAbs_ofNat']
   lia
 |_=>exact nn e
theorem AJ{x y r:Str}(e:bsX x y op=QE r)(q:∀t tk,Q (.str r t) { s with toks:=tk }):wpAny (model prog w) A (binaryOp op (.str x t) (.str y u)) Q E s/\wpAny (model prog w) A (inplaceOp op (.str x t) (.str y u)) Q E s:=by
 cases op with
 |Add=>
  have z:=ai e
  have q:=QH z.2▸q
  rw[xP]at q
  exact⟨add_str q (vg z.1),iadd_str q (vg z.1)⟩
 |_=>exact nn e
end
def L0(op:Operator)(a b:SV):XM SV:=xob (Em op a b) (cI [])
theorem Bc(op:Operator)(a b:SV):aj c F (P2 a b) (L0 op a b) (λv=>binaryOp op v.1 v.2) rV:=λx=>At.ob λr hr=>At.tell λ_ O s m news g p hg Q hq=>by
 obtain⟨g1,g2⟩:=g
 cases a with
 |int i=>
  cases b with
  |int j=>
   obtain⟨⟨t,h1⟩,u,h2⟩:=hg
   cases h1;cases h2
   obtain⟨z,hz,rfl⟩:=Qm.mp hr
   exact IM hz λt tk=>hq _ tk ⟨t,rfl⟩
  |_=>exact nn hr
 |str i=>
  cases b with
  |str j=>
   obtain⟨⟨t,h1⟩,u,h2⟩:=hg
   cases h1;cases h2
   obtain⟨z,hz,rfl⟩:=Qm.mp hr
   exact(AJ hz λt tk=>hq _ tk ⟨t,rfl⟩).1
  |_=>exact nn hr
 |_=>exact nn hr
def Lw(op:Operator)(a b:SV):XM SV:=xob (CK op a b) (cI [])
theorem Hr{prog:Program}{w:World}{A:Around}{Q:Value->Shared->Prop}{E:Value->Shared->Prop}{op:Operator}{t u:Tok}{x y:Int}{r:SV}(e:CK op (.int x) (.int y)=QE r)(q:∀v tk,aA O r v->Q v { s with toks:=tk }):wpAny (model prog w) A (inplaceOp op (.int x t) (.int y u)) Q E s:=by
 cases op with
 |Add=>cases e;exact iadd_int (q _ _ ⟨_,rfl⟩)
 |Sub=>cases e;exact isub_int (q _ _ ⟨_,rfl⟩)
 |_=>exact nn e
theorem IC{op:Operator}{x y:Str}{r:SV}(e:CK op (.str x) (.str y)=QE r):(bsX x y op).map SV.str=QE r:=by
 cases op with
 |Add=>exact e
 |Sub=>exact nn e
 |_=>exact nn e
theorem oq{op:Operator}{a b:SV}(h:∀op,Em op a b=QD):CK op a b=QD:=by cases op<;>first|rfl|exact h _
theorem yF{op:Operator}{a b:SV}:aj c F (P2 a b) (Lw op a b) (λv=>inplaceOp op v.1 v.2) rV:=λx=>At.ob λr hr=>At.tell λ_ O s m news g p hg Q hq=>by
 obtain⟨g1,g2⟩:=g
 cases a with
 |int i=>
  cases b with
  |int j=>
   obtain⟨⟨t,h1⟩,u,h2⟩:=hg
   cases h1;cases h2
   exact Hr hr hq
  |_=>exact nn ((oq λ_=>rfl).symm.trans hr)
 |str i=>
  cases b with
  |str j=>
   obtain⟨⟨t,h1⟩,u,h2⟩:=hg
   cases h1;cases h2
   obtain⟨z,hz,rfl⟩:=Qm.mp (IC hr)
   exact(AJ hz λt tk=>hq _ tk ⟨t,rfl⟩).2
  |_=>exact nn ((oq λ_=>rfl).symm.trans hr)
 |_=>exact nn ((oq λ_=>rfl).symm.trans hr)
def uk(P:Params)(O:List Addr)(o q z:SO):Prop:=∀ob ob',aP P O o ob->aP P O q ob'->∃(vs us:List Value)(n n':Nat),ob=listOf vs.toArray n/\ob'=listOf us.toArray n'/\vs.length+us.length<=1000/\∀a,aP P (O++[a]) z (listOf (vs++us).toArray 0)
def CH(f:SO->SO->Option (List Prop×SO))(a b:SV):XM SV:=cE a λi=>cE b λj=>xrd i QE λo=>xrd j (f o) λr=>lM r.1 r.2
theorem kb{f:SO->SO->Option (List Prop×SO)}(hf:∀o q r,f o q=QE r->bh r.1->∀P O,uk P O o q r.2)(a b:SV):aj c F (P2 a b) (CH f a b) (λv=>binaryOp .Add v.1 v.2) rV:=nN a λi=>w8 b λj x=>At.rd λo' o ho e=>At.rd λq r hq hr=>At.new λhb=>zO λO s m news ad a2 p hσ h2=>
 p.objAt (QH e▸ho) hσ λob g1 g3 g4=>p.objAt hq h2 λob' k1 k3 k4=>by
  obtain⟨vs,us,n,n',rfl,rfl,hz,h⟩:=hf o q r hr hb c.P O ob ob' g4 k4
  exact add_lists p.rep.fr p.rep.nw (aW g3) (aW k3) (λh' F' N'=>p.pushed' (x:=x) F' N' (h _)) (cX hz)
def Ky(o q:SO):Option (List Prop×SO):=(ja o).bind λxs=>(ja q).bind λys=>QE ([Nat.ble (xs.length+ys.length) 1000=QF], .words (xs++ys))
theorem E1(o q:SO)(r:List Prop×SO)(e:Ky o q=QE r)(hb:bh r.1)(P:Params)(O:List Addr):uk P O o q r.2:=bK e λxs h1 e=>bK e λys h2 e=>by
 cases iz h1;cases iz h2;cases e
 rintro _ _ ⟨vs,n,rfl,z⟩ ⟨us,n',rfl,z'⟩
 exact⟨vs,us,n,n',rfl,rfl,by rw[az z,az z'];exact PT hb.1,λa=>⟨_,0,rfl,strsAre_append z z'⟩⟩
def Ld(o q:SO):Option (List Prop×SO):=(kI o).bind λxs=>(kI q).bind λys=>cond (Nat.ble (xs.length+ys.length) 1000) (QE ([], .list (xs++ys))) QD
theorem Eu(o q:SO)(r:List Prop×SO)(e:Ld o q=QE r)(hb:bh r.1)(P:Params)(O:List Addr):uk P O o q r.2:=bK e λxs h1 e=>bK e λys h2 e=>λob ob' a b=>by
 have w:=ai e
 cases w.2
 obtain⟨vs,n,rfl,z⟩:=iJ h1 a
 obtain⟨us,n',rfl,z'⟩:=iJ h2 b
 exact⟨vs,us,n,n',rfl,rfl,by rw[z.length,z'.length];exact PT w.1,λa=>⟨_,0,rfl,(z.append z').mono (P6 _ _)⟩⟩
set_option backward.match.sparseCases true
section
variable{prog:Program}{w:World}{A₀ A:Around}{base h₀:Heap}{outer:List Env}{L:Addr}{m:Str->Option Value}{env:Env}{sub:List (Addr×Obj)}
 {R:Result->Shared->Prop}{qual:Str}{body:List Stmt}{scope:Scope}{cdv:Value}{f:Addr}{binds:List (Str×Value)}
theorem jj{E:Value->Shared->Prop}(B:Below A₀ base outer h₀)(F:Fr h₀ L s.heap m)(N:News h₀ L s.heap sub)(hlim:h₀.NoLimit)(hA:A.frames=QE (env::outer))(hf:env.frame=QE L)(hke:env.scope.kind= .function)
  (hloc:∀y∈binds,scope.names.lookup y.1=QE .local)
  (h:∀g L' h₁,Fr h₀ L g m->Fr g L' h₁ (λy=>binds.reverse.lookup y)->News g L' h₁ sub->Below A base (env::outer) g->(∀b o,s.heap.get? b=QE o->b∉sub.map (·.1)->g.get? b=QE o)->
   wpAny (model prog w) (A.deeper (envX qual scope L' f cdv [])) (execs body (envX qual scope L' f cdv []))
    (λfl s'=>R (.ok (.ret (match fl with | .ret v=>v|_=> .none))) s')
    (λe s'=>wpAny (model prog w) (A.deeper (envX qual scope L' f cdv [])) (leaving (envX qual scope L' f cdv []) e) (λ_ s''=>R (.error e) s'') (λe' s''=>R (.error e') s'') s')
    { s with heap:=h₁,toks:=s.toks+binds.length })
  (hcell:∀x∈scope.names,x.2≠ .cell)(hk:scope.kind= .function):
  wpAny (model prog w) A.in1 (newFunctionEnv scope mainGlobals [] binds (qual++".<locals>.") (QE f) cdv QD builtinsNs) (λenv' s₂=>s₂.heap.NoLimit/\codeAny (model prog w) A (.func body env') R s₂) E s:=by
 obtain⟨FG,BG,st,_⟩:=groundX (R:=R) B F N hA hf hke
 refine wpAny_newFunctionEnv hcell hloc (λh₁ hns hsb=>⟨(hlim.keeps F.keep).fresh _ hsb,codeAny_func ?_⟩) hk
 have hk₁:∀b o,s.heap.get? b=QE o->h₁.get? b=QE o:=λb o e=>hsb.extBut b o (PY (Qs e)) (Qr _ e)
 show wpAny (model prog w) (A.deeper (envX qual scope s.heap.objs.size f cdv [])) (execs body (envX qual scope s.heap.objs.size f cdv [])) _ _ _
 exact h _ s.heap.objs.size h₁ FG ⟨hns,λb o e=>hk₁ b o (of_hideAll _ e),Nat.le_of_eq (hideAll_size _ _)⟩
  (λp hp=>⟨hk₁ _ _ (N p hp).1,PY (Qs (N p hp).1),hideAll_none _ (List.mem_map_of_mem hp)⟩) BG λb o e q=>hideAll_get _ e q
end
def Cx.callee(c:Cx)(A:Around)(env:Env)(gh:Heap)(L:Addr)(qual:Str)(sc:Scope)(f:Addr)(cd:Value)(cl:List (Str×Addr)):Cx:=
 { c with A:=A.deeper env,A₀:=A,h₀:=gh,outer:=c.fenv::c.outer,L:=L,qual:=qual,sc:=sc,fa:=f,cd:=cd,cl:=cl,cp:=QD }
theorem mW(c:Cx):(c.fenv::c.outer).filterMap (·.frame)=c.L::c.fs:=rfl
theorem nW(p:Pre c F O S s m news)(H:CxW c F){gh:Heap}(FG:Fr m.g c.L gh m.m):KtsDicts ((c.fenv::c.outer).filterMap (·.frame)) gh:=λb hb=>by
 rw[mW]at hb
 rcases Qb.mp hb with rfl|hb
 .obtain⟨o,es,ep,h1,h2,_⟩:=FG.ns
  exact⟨o,es,ep,h1,h2⟩
 .obtain⟨o,es,n,h1,h2⟩:=(H.dicts.turn p.turn) b hb
  exact⟨o,es,n,FG.keep _ _ h1,h2⟩
theorem Pre.leave{O τ:List Addr}{S S':St}{s s':Shared}{m m':Fm}{news sub:List (Addr×Obj)}{c':Cx}{F':Fs}(p:Pre c F O S s m news){gh:Heap}(FG:Fr m.g c.L gh m.m)(h1:c'.outer=c.fenv::c.outer)(h2:c'.h₀=gh)(q:Pre c' F' τ S' s' m' sub):
  ∃g,Fr g c.L s'.heap m.m/\Below c.A₀ c.base c.outer g/\KtsTurn c.fs c.h₀ g/\News g c.L s'.heap sub/\(∀b o,gh.get? b=QE o->b∉c.L::c.fs->s'.heap.get? b=QE o)/\∀b,m.g.get? b=QD->g.get? b=QD:=by
 have T':KtsTurn (c.L::c.fs) gh m'.g:=by
  have:=q.turn
  unfold Cx.fs at this
  rw[h1,h2]at this
  exact this
 have keep':∀b o,gh.get? b=QE o->b∉c.L::c.fs->s'.heap.get? b=QE o:=λb o e hb=>q.rep.fr.keep _ _ (T'.other b o e hb)
 have hself:=kts_self p.rep.fr
 have neL:∀b o,m.g.get? b=QE o->b≠c.L:=λb o e z=>by rw[z,hself]at e;cases e
 obtain⟨T,Sx⟩:=kts_turn_at (h:=s'.heap) (fs:=c.fs) (g:=m.g)
  (λb hb=>let⟨_,o,ho,_⟩:=p.below.frames.mem hb;⟨o,ho⟩)
  (λb o e hb=>keep' b o (FG.keep _ _ e) (λz=>by
   rcases Qb.mp z with z|z
   .exact neL b o e z
   .exact hb z))
  (λb o e hb=>by
   obtain⟨sl,hs⟩:=T'.frame b o (FG.keep _ _ e) (.tail _ hb)
   exact⟨sl,q.rep.fr.keep _ _ hs⟩)
 refine⟨_,⟨?_,Sx,by rw[T.size];exact p.rep.fr.above⟩,⟨p.below.stack,λb o e=>T.other b o (p.below.stays b o e) (λhm=>by rw[(p.below.frames.mem hm).1]at e;cases e),p.below.frames.of_keeps λb o e _=>let⟨sl,hs⟩:=T.up e;⟨_,hs,rfl⟩⟩,p.turn.trans T,λz hz=>?_,keep',T.none_⟩
 .obtain⟨oL,es,ep,hL,hd,hk,hf⟩:=FG.ns
  obtain⟨sl,hs⟩:=T'.frame c.L oL hL (.head _)
  exact⟨_,es,ep,q.rep.fr.keep _ _ hs,hd,hk,hf⟩
 .have hn:=(q.rep.nw z hz).2.2
  refine⟨(q.rep.nw z hz).1,λe=>?_,?_⟩
  .obtain⟨oL,es,ep,hL,_⟩:=FG.ns
   obtain⟨sl,hs⟩:=T'.frame c.L oL hL (.head _)
   rw[e,hs]at hn;cases hn
  .cases hg:m.g.get? z.1 with
   |none=>exact T.none_ _ hg
   |some o=>
    obtain⟨sl,hs⟩:=T'.up (FG.keep _ _ hg)
    rw[hs]at hn;cases hn
theorem gF(p:Pre c F O S s m news)(H:CxW c F){gh:Heap}(FG:Fr m.g c.L gh m.m){A:Around}{env:Env}{L:Addr}{qual:Str}{sc:Scope}{f:Addr}{cd:Value}{cl:List (Str×Addr)}{lvl:Nat}{cells:List (Str×Nat)}
  (he:env=envX qual sc L f cd cl)(hk:sc.kind= .function)(h1:A.frames=c.A.frames)(h2:A.depth<=c.A.depth+1)(h3:A.units<=c.A.units+6)(h4:A.handled=QD)(hl:lvl+2<=F.lvl):aD (c.callee A env gh L qual sc f cd cl) ⟨sc,cells,lvl,QD⟩:=by
 subst he
 refine⟨⟨rfl,H.kin,H.top,?_,hk,hk,λ_=>rfl,?_,?_,H.sysm,nW p H FG⟩,h4⟩
 .exact Around.frames_deeper (by rw[h1];exact H.frames)
 .have:=H.depth
  show A.depth+1+lvl<recursionLimit
  lia
 .have:=H.units
  show A.units+3+16*lvl+16<cLine
  lia
structure Sub (c:Cx) (news:List (Addr×Obj)) (τ:List Addr) (Sin:List SO) (sub:List (Addr×Obj)):Prop where
 at_:sub.map (·.1)=τ
 nd:τ.Nodup
 ob:cy c.P τ Sin sub
 mem:∀q∈sub,q∈news
structure xG (c:Cx) (m:Fm) (O:List Addr) (news:List (Addr×Obj)) (τ τ':List Addr) (Sout:List SO) (g:Heap) (sub:List (Addr×Obj)) (s:Shared):Prop where
 pre:τ <+:τ'
 at_:sub.map (·.1)=τ'
 nd:τ'.Nodup
 ob:cy c.P τ' Sout sub
 fr:Fr g c.L s.heap m.m
 below:Below c.A₀ c.base c.outer g
 turn:KtsTurn c.fs c.h₀ g
 nw:News g c.L s.heap sub
 keep:∀q∈news,q.1∉τ->s.heap.get? q.1=QE q.2
 fresh:∀q∈sub,q.1∉τ->q.1∉O
 side:E2 c s
 none_:∀b,m.g.get? b=QD->g.get? b=QD
theorem Pre.home{O τ τ':List Addr}{S S':St}{s s':Shared}{m m':Fm}{news sub:List (Addr×Obj)}{F':Fs}{A:Around}{env:Env}{gh:Heap}{L:Addr}{qual:Str}{sc:Scope}{f:Addr}{cd:Value}{cl:List (Str×Addr)}(p:Pre c F O S s m news)(FG:Fr m.g c.L gh m.m)(hat:∀q∈news,q.1∉τ->gh.get? q.1=QE q.2)
  (pre:τ <+:τ')(q':Pre (c.callee A env gh L qual sc f cd cl) F' τ' S' s' m' sub):∃g,xG c m O news τ τ' S'.led g sub s':=by
 obtain⟨g1,F2,B2,T2,N2,keep,none1⟩:=p.leave FG rfl rfl q'
 have hnf:∀q∈news,q.1∉c.L::c.fs:=λq hq h=>by
  rcases Qb.mp h with h|h
  .exact(p.rep.nw q hq).2.1 h
  .exact Qq (p.below.frames.mem h).2 λo ho=>nn ((p.rep.nw q hq).2.2.symm.trans ho.1)
 exact⟨g1,pre,q'.rep.at_,q'.rep.nd,q'.rep.ob,F2,B2,T2,N2,λq hq hn=>keep _ _ (hat q hq hn) (hnf q hq),λq hq hn hin=>by
  rw[<-p.rep.at_]at hin
  obtain⟨r,hr,er⟩:=Qe.mp hin
  have h2:=(KtsTurn.other q'.turn) _ _ (hat r hr (er▸hn)) (hnf r hr)
  rw[er,(q'.rep.nw q hq).2.2]at h2;exact nn h2,⟨q'.side.os,q'.side.gens,q'.side.tk⟩,none1⟩
theorem Pre.all(p:Pre c F O S s m news):Sub c news O S.led news:=⟨p.rep.at_,p.rep.nd,p.rep.ob,λ_ h=>h⟩
theorem jf{O τ':List Addr}{s s':Shared}{news sub:List (Addr×Obj)}{Sout:List SO}{g:Heap}{β:Type}{R:List Addr->β->Prop}{v:β}(p:Pre c F O S s m news)(h:xG c m O news O τ' Sout g sub s')(r:R τ' v):aG c F O ⟨S.loc,Sout⟩ R v s':=
 ⟨τ',⟨g,m.m⟩,sub,h.pre,⟨⟨h.fr,h.nw,h.at_,h.nd,h.ob,p.rep.lc.mono h.pre⟩,h.below,h.turn,p.cell.mono h.pre,λk e=>aY h.pre (p.vars k e),h.side⟩,r⟩
def mH(fl:XF)(ret:SV):Prop:=fl= .ret ret\/(fl= .next/\ret= .none)
noncomputable def flV:Flow->Value
 |.ret v=>v
 |_=> .none
theorem dU{τ:List Addr}{fl:XF}{f:Flow}{ret:SV}(h:mH fl ret)(r:rF fl τ f):aA τ ret (flV f):=by
 rcases h with rfl|⟨rfl,rfl⟩
 .exact Qq r λu h=>h.1▸h.2
 .exact(show f= .next from r)▸rfl
noncomputable def j7(x:XS)(r:Option (XF×XS)):Option (SV×XS):=r.elim QD λp=>match p.1 with
 |.ret v=>QE (v,⟨⟨x.st.loc,p.2.st.led⟩,p.2.hs,p.2.n,p.2.cs++x.cs,p.2.orc⟩)
 |.next=>QE (.none,⟨⟨x.st.loc,p.2.st.led⟩,p.2.hs,p.2.n,p.2.cs++x.cs,p.2.orc⟩)
 |_=>QD
theorem fM{x x':XS}{r:Option (XF×XS)}{a:SV}(h:j7 x r=QE (a,x')){G:Prop}(k:∀fl x1,r=QE (fl,x1)->mH fl a->x'.st=⟨x.st.loc,x1.st.led⟩->x'.cs=x1.cs++x.cs->G):G:=
 Qq (dA h) λp e=>by
  obtain⟨fl,x1⟩:=p
  obtain⟨e1,e2⟩:=e
  cases fl with
  |ret v=>cases e2;exact k _ x1 e1 (.inl rfl) rfl rfl
  |next=>cases e2;exact k _ x1 e1 (.inr ⟨rfl,rfl⟩) rfl rfl
  |_=>exact nn e2
set_option backward.match.sparseCases false
inductive ic where
 |arg (i:Nat)
 |kw (n:Str)
 |dflt (v:SV)
structure FnE where
 f:Addr
 na:Nat
 kws:List Str
 binds:List (Str×ic)
 body:List Stmt
 sc:Scope
noncomputable def dE(n:Str):List (Str×SV)->Option SV
 |[]=>QD
 |p::r=>cond (aQ p.1 n) (QE p.2) (dE n r)
theorem qN(n:Str)(l:List (Str×SV)):dE n l=l.lookup n:=by
 induction l with
 |nil=>rfl
 |cons p r ih=>
  show cond (aQ p.1 n) (QE p.2) (dE n r)=_
  cases h:aQ p.1 n with
  |true=>exact(cA (beq_iff_eq.mpr (aM.mp h).symm)).symm
  |false=>exact ih.trans (bS (beq_eq_false_iff_ne.mpr λe=>ff (h.symm.trans (aM.mpr e.symm)))).symm
def Lv(vs:List SV)(kw:List (Str×SV)):ic->Option SV
 |.arg i=>vs[i]?
 |.kw n=>dE n kw
 |.dflt v=>QE v
noncomputable def eX(vs:List SV)(kw:List (Str×SV)):List (Str×ic)->Option (List (Str×SV))
 |[]=>QE []
 |p::r=>(Lv vs kw p.2).bind λv=>(eX vs kw r).bind λl=>QE ((p.1,v)::l)
def PL:SV->Value->Prop:=λsv v=>aA [] sv v
def K9(vs:List Value)(kw:List (Str×Value)):ic->Value->Prop
 |.arg i,v=>vs[i]?=QE v
 |.kw n,v=>kw.lookup n=QE v
 |.dflt sv,v=>aA [] sv v
noncomputable def jJ(vs:List Value)(kw:List (Str×Value)):List (Str×ic)->List (Str×Value)->Prop
 |[],b=>b=[]
 |p::r,b=>∃v l,b=(p.1,v)::l/\K9 vs kw p.2 v/\jJ vs kw r l
noncomputable def bP(O:List Addr):List (Str×SV)->List (Str×Value)->Prop
 |[],b=>b=[]
 |p::r,b=>∃v l,b=(p.1,v)::l/\aA O p.2 v/\bP O r l
@[elab_as_elim] theorem bP.elim{p:Str×SV}{r:List (Str×SV)}{G:List (Str×Value)->Prop}{b:List (Str×Value)}(h:bP O (p::r) b)(k:∀v l,aA O p.2 v->bP O r l->G ((p.1,v)::l)):G b:=
 Qq h λv h=>Qq h λl h=>h.1▸k v l h.2.1 h.2.2
theorem bP.look{b:List (Str×SV)}:∀{bv:List (Str×Value)},bP O b bv->gu O b (λy=>bv.lookup y):=by
 induction b with
 |nil=>exactλ_ _=>trivial
 |cons p r ih=>
  refineλh=>h.elim λv l h1 h2 x=>?_
  show eQ O (List.lookup x (p::r)) (List.lookup x ((p.1,v)::l))
  rw[List.lookup_cons,List.lookup_cons]
  cases(x==p.1)with
  |true=>exact⟨v,rfl,h1⟩
  |false=>exact ih h2 x
theorem bP.app_{b d:List (Str×SV)}{dv:List (Str×Value)}(h':bP O d dv):∀{bv:List (Str×Value)},bP O b bv->bP O (b++d) (bv++dv):=by
 induction b with
 |nil=>exactλh=>Eq.symm h▸h'
 |cons p r ih=>exactλh=>h.elim λv l h1 h2=>⟨v,l++dv,rfl,h1,ih h2⟩
theorem bP.append{b d:List (Str×SV)}{bv dv:List (Str×Value)}(h:bP O b bv)(h':bP O d dv):bP O (b++d) (bv++dv):=bP.app_ h' h
theorem bP.reverse{b:List (Str×SV)}:∀{bv:List (Str×Value)},bP O b bv->bP O b.reverse bv.reverse:=by
 induction b with
 |nil=>exactλh=>Eq.symm h▸rfl
 |cons p r ih=>
  refineλh=>h.elim λv l h1 h2=>?_
  rw[List.reverse_cons,List.reverse_cons]
  exact bP.append (ih h2) (show bP O [p] [(p.1,v)]from⟨v,[],rfl,h1,rfl⟩)
theorem KwR.brel{a:List (Str×SV)}:∀{v:List (Str×Value)},KwR O a v->bP O a v:=by
 induction a with
 |nil=>exactλh=>List.map_eq_nil_iff.mp h.1.symm
 |cons p r ih=>
  intro v h
  cases v with
  |nil=>exact nomatch h.1
  |cons q t=>exact Qq h.2 λu z=>Qq z λus z=>⟨q.2,t,QJ (λn=>(n,q.2)::t) (List.cons.inj h.1).1.symm,(show q.2=u from(List.cons.inj z.1).1)▸z.2.1,ih ⟨(List.cons.inj h.1).2,(show t.map (·.2)=us from(List.cons.inj z.1).2)▸z.2.2⟩⟩
theorem KwR.look{a:List (Str×SV)}{v:List (Str×Value)}(h:KwR O a v){n:Str}{sv:SV}(e:a.lookup n=QE sv):∃u,v.lookup n=QE u/\aA O sv u:=by
 have z:=h.brel.look n
 rw[e]at z
 exact z
section
variable{vs:List SV}{kw:List (Str×SV)}{us:List Value}{kv:List (Str×Value)}
theorem Fq(h1:au O vs us)(h2:KwR O kw kv){s:ic}{sv:SV}{v:Value}(e:Lv vs kw s=QE sv)(h:K9 us kv s v):aA O sv v:=by
 cases s with
 |arg i=>exact Qq (h1.get e) λu z=>QH (z.1.symm.trans h)▸z.2
 |kw n=>exact Qq (h2.look ((qN n kw).symm.trans e)) λu z=>QH (z.1.symm.trans h)▸z.2
 |dflt d=>exact QH e▸kE h
theorem i8(h1:au O vs us)(h2:KwR O kw kv){l:List (Str×ic)}:∀{b:List (Str×SV)}{bv:List (Str×Value)},eX vs kw l=QE b->jJ us kv l bv->bP O b bv:=by
 induction l with
 |nil=>exactλe h=>QH e▸h
 |cons p r ih=>exactλe h=>bK e λsv e1 e=>bK e λl' e2 e=>Qq h λv h=>Qq h λl h=>QH e▸⟨v,l,h.1,Fq h1 h2 e1 h.2.1,ih e2 h.2.2⟩
end
structure eT (K:Frag) (e:FnE):Prop where
 fn:∃name qual params dV kV doc pm cdv ct oc an od osl,K.lookup e.f=QE ⟨oc,od, .func (fnOf name qual params e.body e.sc dV kV doc pm an cdv ct),osl⟩/\codeIn K cdv qual=QF/\
  ∀s:Shared,K.In s.heap->∀vs kw,vs.length=e.na->kw.map (·.1)=e.kws->∃b,jJ vs kw e.binds b/\BindsTo s (fnOf name qual params e.body e.sc dV kV doc pm an cdv ct) ⟨vs,kw⟩ b
 loc:∀y∈e.binds,e.sc.names.lookup y.1=QE .local
 nocell:∀x∈e.sc.names,x.2≠ .cell
 co:e.sc.isCoroutine=QG
 gen:e.sc.isGenerator=QG
 kind:e.sc.kind= .function
theorem eW{vs:List Value}{kw:List (Str×Value)}{l:List (Str×ic)}:∀{b:List (Str×Value)},jJ vs kw l b->∀y∈b,∃z∈l,z.1=y.1:=by
 induction l with
 |nil=>exactλh y hy=>nomatch (List.eq_nil_iff_forall_not_mem.mp h y hy)
 |cons p r ih=>
  refineλh y hy=>Qq h λv h=>Qq h λl h=>?_
  rw[h.1]at hy
  exact(Qb.mp hy).elim (λe=>⟨p, .head _,e▸rfl⟩) λhy=>Qq (ih h.2.2 y hy) λz q=>⟨z, .tail _ q.1,q.2⟩
def Bs(c:Cx)(F:Fs)(O:List Addr)(S:St)(R:List Addr->Value->Prop)(r:Result)(s:Shared):Prop:=match r with
 |.ok (.ret v)=>aG c F O S R v s
 |_=>False
structure AOk (c:Cx) (F:Fs) (A:Around):Prop where
 frames:A.frames=c.A.frames
 depth:A.depth<=c.A.depth+1
 units:A.units<=c.A.units+6
 handled:A.handled=QD
def vA(c:Cx)(F:Fs)(A:Around)(I:List Addr->γ->Prop)(m:XM SV)(t:γ->Code):Prop:=
 ∀x a x',m x=QE (a,x')->bh x'.cs->bh x.cs/\∀O s mm news g,Pre c F O x.st s mm news->I O g->codeAny c.M A (t g) (Bs c F O x'.st (rV a)) s
def GA(run:Fs->List Stmt->XM XF)(lvl:Nat)(e:FnE)(vs:List SV)(kw:List (Str×SV)):XM SV:=λx=>(eX vs kw e.binds).elim QD λb=>j7 x (run ⟨e.sc,[],lvl,QD⟩ e.body ⟨⟨b.reverse,x.st.led⟩,x.hs,x.n,[],x.orc⟩)
theorem bh.app{a b:List Prop}(h:bh (a++b)):bh a/\bh b:=bh.two h
def PA(vs:List SV)(kw:List (Str×SV))(O:List Addr)(v:List Value×List (Str×Value)):Prop:=au O vs v.1/\KwR O kw v.2
structure ju (c c':Cx):Prop where
 K:c'.K=c.K
 pr:c'.pr=c.pr
 w:c'.w=c.w
 os:c'.os=c.os
noncomputable def BQ(o:Obj):Value:=match o.data with
 |.func f=>f.code
 |_=> .none
theorem gM{A:Around}{lvl:Nat}{e:FnE}{args:List SV}{kw:List (Str×SV)}{vs:List Value}{kv:List (Str×Value)}{b:List (Str×SV)}{O τ:List Addr}{Sin:List SO}{mm:Fm}{news sub:List (Addr×Obj)}{R:Result->Shared->Prop}(H:aD c F)(hl:lvl+2<=F.lvl)(HA:AOk c F A)(HE:eT c.K e)
  (p:Pre c F O S s mm news)(u:Sub c news τ Sin sub)(hna:args.length=e.na)(hkw:kw.map (·.1)=e.kws)(hv:au τ args vs)(hk:KwR τ kw kv)(hb:eX args kw e.binds=QE b)
  (k:∀c' s1 m1,ju c c'->aD c' ⟨e.sc,[],lvl,QD⟩->(c.K.lookup e.f).map BQ=QE c'.cd->Pre c' ⟨e.sc,[],lvl,QD⟩ τ ⟨b.reverse,Sin⟩ s1 m1 sub->(∀τ' S' s' m' sub',τ <+:τ'->Pre c' ⟨e.sc,[],lvl,QD⟩ τ' S' s' m' sub'->∃g,xG c mm O news τ τ' S'.led g sub' s')->
   wpAny c'.M c'.A (execs e.body c'.env) (λfl s'=>R (.ok (.ret (flV fl))) s') (λev s'=>wpAny c'.M c'.A (leaving c'.env ev) (λ_ s''=>R (.error ev) s'') (λe' s''=>R (.error e') s'') s') s1):
  codeAny c.M A (.call (.ref e.f) ⟨vs,kv⟩) R s:=by
 obtain⟨name,qual,params,dV,kV,doc,pm,cdv,ct,oc,an,od,osl,hlook,hcode,hbind⟩:=HE.fn
 have X:=(p.kin H.toCxW).keeps p.rep.fr.keep
 obtain⟨bv,hbv,hto⟩:=hbind s X vs kv (hv.length.trans hna) (hk.1.symm.trans hkw)
 refine codeAny_call_function (fd:=fnOf name qual params e.body e.sc dV kV doc pm an cdv ct) (body:=e.body) (by have:=H.depth;have:=HA.depth;lia) (X _ _ hlook) rfl HE.co HE.gen rfl (codeRec_of X hcode) (hto _ _ _ _ ?_)
 refine jj (sub:=sub) (env:=c.fenv) p.below p.rep.fr (λq hq=>p.rep.nw q (u.mem q hq)) (p.top H.toCxW).nolimit (by rw[HA.frames];exact H.frames) rfl H.ffn (λy hy=>Qq (eW hbv y hy) λz h=>h.2▸HE.loc z h.1) (λgh L' h₁ FG FL NG BG hg=>?_) HE.nocell HE.kind
 exact k (c.callee A (envX qual e.sc L' e.f cdv []) gh L' qual e.sc e.f cdv []) _ ⟨gh,λy=>bv.reverse.lookup y⟩ ⟨rfl,rfl,rfl,rfl⟩ (gF p H.toCxW FG rfl HE.kind HA.frames HA.depth HA.units HA.handled hl) (by rw[hlook];rfl)
  ⟨⟨FL,NG,u.at_,u.nd,u.ob,(i8 hv hk hb hbv).reverse.look⟩,BG,KtsTurn.refl,(λy k q=>nomatch q),(λk q=>nomatch q),⟨p.side.os,p.side.gens,PW p.side.tk (Nat.le_add_right _ _)⟩⟩
  λτ' S' s' m' sub' pre q'=>p.home FG (λq hq hn=>hg _ _ (p.rep.nw q hq).1 (u.at_▸hn)) pre q'
theorem wF{A:Around}{run:Fs->List Stmt->XM XF}{lvl:Nat}{e:FnE}{vs:List SV}{kw:List (Str×SV)}(H:aD c F)(hl:lvl+2<=F.lvl)(HA:AOk c F A)(HE:eT c.K e)(hna:vs.length=e.na)(hkw:kw.map (·.1)=e.kws)
  (hrun:∀c':Cx,ju c c'->aD c' ⟨e.sc,[],lvl,QD⟩->Snd c' ⟨e.sc,[],lvl,QD⟩ (run ⟨e.sc,[],lvl,QD⟩ e.body) (execs e.body c'.env) rF):
  vA c F A (PA vs kw) (GA run lvl e vs kw) (λg=> .call (.ref e.f) ⟨g.1,g.2⟩):=λx a x' q hc=>Qq (dA q) λb q=>fM q.2 λfl x1 hr hfl h1 h2=>
 have hc:=bh.app (h2▸hc)
 ⟨hc.2,λO s mm news g p hi=>h1▸gM H hl HA HE p p.all hna hkw hi.1 hi.2 q.1 λc' s1 m1 hs HC _ P' home=>Qw ((hrun c' hs HC _ _ _ hr hc.1).2 _ _ _ _ P') (λf s'⟨τ',m',sub',pre,q',r'⟩=>Qq (home _ _ _ _ _ pre q') λg h=>jf p h (dU hfl r')) λ_ _ z=>z.elim⟩
inductive AK where
 |own
 |slot (i:Nat)
 |prop (f:Addr)
 |fn (f:Addr)
def Ib(K:Frag)(C:Addr)(n:Str):AK->Prop
 |.own=>plainGet K C n=QF/\hasDictIn K C=QF/\∃attr,findIn K (.ref C) n=QE attr/\noGet K attr=QF
 |.slot i=>plainGet K C n=QF/\isClsIn K C=QF/\∃p,findIn K (.ref C) n=QE (QE (.ref p))/\specialIn K (.ref p) "__get__"=QE (QE (.builtin "member_descriptor.__get__"))/\takesIn K (.ref p)=QE QF/\slotIn K p C=QE i
 |.prop f=>plainGet K C n=QF/\hasDictIn K C=QF/\∃p rest,findIn K (.ref C) n=QE (QE (.ref p))/\specialIn K (.ref p) "__get__"=QE (QE (.builtin "property.__get__"))/\takesIn K (.ref p)=QE QF/\recIn K p "property"=QE (.ref f::rest)
 |.fn f=>plainGet K C n=QF/\findIn K (.ref C) n=QE (QE (.ref f))/\isFn K (.ref f)=QF
inductive SK where
 |own
 |slot (i:Nat)
def Mn(K:Frag)(C:Addr)(n:Str):SK->Prop
 |.own=>findIn K (.ref C) "__setattr__"=QE (QE (.builtin "object.__setattr__"))/\plainOver K C=QF/\takerIn K C n=QE QD/\hasDictIn K C=QF
 |.slot i=>findIn K (.ref C) "__setattr__"=QE (QE (.builtin "object.__setattr__"))/\plainOver K C=QF/\i<1000/\∃p,takerIn K C n=QE (QE (.ref p))/\typeIn K (.ref p)=QE (.type "member_descriptor")/\slotIn K p C=QE i
section
variable{P:Params}
theorem xb(x n:Str)(t:Tok):(Value.str x t).isStr n=(x==n):=rfl
theorem tO(n:Str)(f:Str×SV)(r:List (Str×SV)):dE n (f::r)=cond (aQ f.1 n) (QE f.2) (dE n r):=rfl
theorem vS{n x:Str}{i:Int}{t:Tok}{v:Value}{r:List DictEntry}:getL n (⟨i, .str x t,v⟩::r)=cond (aQ x n) (QE (QE v)) (getL n r):=by
 unfold getL
 rw[List.find?_cons,xb,<-fz]
 cases aQ x n<;>rfl
theorem bC.get{n:Str}{fs:List (Str×SV)}:∀{es:List DictEntry},bC P O fs es->(∀sv,dE n fs=QE sv->∃v,getL n es=QE (QE v)/\aA O sv v)/\(dE n fs=QD->getL n es=QE QD)/\es.any (·.refKey)=QG:=by
 induction fs with
 |nil=>exactλh=>Eq.symm h▸⟨λsv e=>nn e,λ_=>rfl,rfl⟩
 |cons f fs ih=>
  refineλh=>h.elim λt v r h1 h2=>?_
  rw[vS,tO]
  cases aQ f.1 n with
  |true=>exact⟨λsv e=>⟨v,rfl,QH e▸h1⟩,λe=>nn e.symm,(ih h2).2.2⟩
  |false=>exact ih h2
noncomputable def setF{β:Type}(n:Str)(v:β):List (Str×β)->List (Str×β)
 |[]=>[(n,v)]
 |p::r=>cond (aQ p.1 n) ((p.1,v)::r) (p::setF n v r)
theorem zE{α β:Type}{b c:Bool}(e:b=c){p:α->β->Prop}{x y:α}{u v:β}(h1:p x u)(h2:p y v):p (cond b x y) (if c=QF then u else v):=by
 cases e;cases b;exact h2;exact h1
theorem bC.put{n:Str}{sv:SV}{v:Value}{tk:Tok}(hv:aA O sv v){fs:List (Str×SV)}:∀{es:List DictEntry},bC P O fs es->bC P O (setF n sv fs) (putL n (PyData.keyHash P n) (.str n tk) v es):=by
 induction fs with
 |nil=>exactλh=>Eq.symm h▸⟨tk,v,[],rfl,hv,rfl⟩
 |cons f fs ih=>exactλh=>h.elim λt u r h1 h2=>zE (p:=bC P O) (fz f.1 n) ⟨t,v,r,rfl,hv,h2⟩ ⟨t,u,_,rfl,h1,ih h2⟩
theorem bC.length{fs:List (Str×SV)}:∀{es:List DictEntry},bC P O fs es->es.length=fs.length:=by
 induction fs with
 |nil=>exactλh=>QJ List.length h
 |cons f fs ih=>exactλh=>h.elim λt u r h1 h2=>QJ (·+1) (ih h2)
end
theorem jv{sv:SV}{v:Value}(h:aA O sv v)(hs:∀u,sv= .top u->handedIn u=QF):handedIn v=QF:=by
 cases sv with
 |none=>rw[show v=_ from h];rfl
 |bool b=>rw[show v=_ from h];rfl
 |int i=>obtain⟨t,rfl⟩:=h;rfl
 |str i=>obtain⟨t,rfl⟩:=h;rfl
 |ref k=>obtain⟨a,_,rfl⟩:=h;rfl
 |top u=>rw[show v=u from h];exact hs u rfl
noncomputable def u5:SV->Bool
 |.top (.builtin _)=>QG
 |_=>QF
theorem lr{sv:SV}(h:u5 sv=QF):∀u,sv= .top u->handedIn u=QF:=λu e=>by
 subst e
 cases u<;>first|rfl|cases h
noncomputable def iw:SO->Option (Addr×Nat×List (Option SV))
 |.inst C d=>QE (C,d,[])
 |.slots C d vs=>QE (C,d,vs)
 |_=>QD
theorem rZ{P:Params}{x:SO}{C:Addr}{d:Nat}{vs:List (Option SV)}{o:Obj}(e:iw x=QE (C,d,vs))(r:aP P O x o):∃a sl,O[d]?=QE a/\o={ cls:= .ref C,dict:=QE a,data:= .plain,slots:=sl.toArray }/\ck O vs sl:=by
 cases x with
 |inst C' d'=>cases e;obtain⟨a,h1,h2⟩:=r;exact⟨a,[],h1,h2,rfl⟩
 |slots C' d' vs'=>cases e;exact r
 |_=>cases e
theorem ck.get{xs:List (Option SV)}{vs:List (Option Value)}(h:ck O xs vs){i:Nat}{x:SV}(e:(xs[i]?).join=QE x):∃v,(vs[i]?).join=QE v/\aA O x v:=
 Qq (LR.get h (Option.join_eq_some_iff.mp e)) λv q=>Qq q.2 λu z=>⟨u,Option.join_eq_some_iff.mpr (z.1▸q.1),z.2⟩
theorem Dc(p:Pre c F O S s m news){k:Nat}{x:SO}{C:Addr}{d:Nat}{vs:List (Option SV)}{q:SO}(hk:S.led[k]?=QE x)(hi:iw x=QE (C,d,vs))(hd:S.led[d]?=QE q):
  ∃a dx sl od,O[k]?=QE a/\O[d]?=QE dx/\news[k]?=QE (a,{ cls:= .ref C,dict:=QE dx,data:= .plain,slots:=sl.toArray })/\news[d]?=QE (dx,od)/\ck O vs sl/\aP c.P O q od/\
   InstAt s.heap a { cls:= .ref C,dict:=QE dx,data:= .plain,slots:=sl.toArray } C (QE od):=by
 obtain⟨a,o,g1,g2,g3,g4⟩:=p.rep.get hk
 obtain⟨dx,sl,h1,rfl,h3⟩:=rZ hi g4
 obtain⟨dx',od,f1,f2,f3,f4⟩:=p.rep.get hd
 rw[h1]at f2;cases f2
 exact⟨a,dx,sl,od,g2,h1,g1,f1,h3,f4, .of_news p.rep.nw (p.rep.mem g1) (p.rep.mem f1)⟩
theorem Pre.inst(p:Pre c F O S s m news){k:Nat}{x q:SO}{t:Addr×Nat×List (Option SV)}{a:Addr}(hk:S.led[k]?=QE x)(hi:iw x=QE t)(hd:S.led[t.2.1]?=QE q)(hσ:O[k]?=QE a){G:Prop}
  (g:∀dx sl od,news[k]?=QE (a,{ cls:= .ref t.1,dict:=QE dx,data:= .plain,slots:=sl.toArray })->news[t.2.1]?=QE (dx,od)->O[t.2.1]?=QE dx->ck O t.2.2 sl->aP c.P O q od->InstAt s.heap a { cls:= .ref t.1,dict:=QE dx,data:= .plain,slots:=sl.toArray } t.1 (QE od)->G):G:=by
 obtain⟨a',dx,sl,od,g1,g2,g3,g4,g5,g6,I⟩:=Dc p hk hi hd
 rw[hσ]at g1;cases g1
 exact g dx sl od g3 g4 g2 g5 g6 I
structure gw where
 ak:Addr->Str->Option AK
 sk:Addr->Str->Option SK
structure gA (G:gw) (K:Frag):Prop where
 ak:∀C n k,G.ak C n=QE k->Ib K C n k
 sk:∀C n k,G.sk C n=QE k->Mn K C n k
def qo(c:Cx)(F:Fs)(cf:Addr->List SV->List (Str×SV)->XM SV):Prop:=∀A,AOk c F A->∀f vs kw,vA c F A (PA vs kw) (cf f vs kw) (λg=> .call (.ref f) ⟨g.1,g.2⟩)
def Gu(G:gw)(cf:Addr->List SV->List (Str×SV)->XM SV)(a:SV)(n:Str):XM SV:=cE a λk=>xrd k iw λt=>xob (G.ak t.1 n) λak=>match ak with
 |.own=>xrd t.2.1 lY λfs=>xob (dE n fs) λv=>xif (u5 v) (cI [] v)
 |.slot i=>xrd t.2.1 QE λ_=>xob (t.2.2[i]?).join λv=>xif (u5 v) (cI [] v)
 |.prop f=>xrd t.2.1 QE λ_=>ag (cf f [.ref k] []) λr=>xif (u5 r) (aH r)
 |.fn _=>ar
theorem iN(H:aD c F):AOk c F c.A.in1:=⟨rfl,by show c.A.depth<=_;lia,by show c.A.units+1<=_;lia,H.handled⟩
theorem wz{G:gw}{cf:Addr->List SV->List (Str×SV)->XM SV}(H:aD c F)(HG:gA G c.K)(HC:qo c F cf)(a:SV)(n:Str):aj c F (rV a) (Gu G cf a n) (λv=>getAttr v n QF) rV:=j0 a λk x=>At.rd λo t ho hi=>At.ob λak hk=>by
 have hak:=HG.ak t.1 n ak hk
 cases ak with
 |own=>
  obtain⟨k1,k2,attr,k3,k4⟩:=hak
  exact At.rd λq fs hq hf=>At.ob λv hl=>At.bif λhh=>At.say λ_=>wd λO s m news ad p hσ=>p.inst ho hi hq hσ λdx sl od g3 g4 g2 g5 g6 I=>gy (eE hf) g6 λes nn e hn=>
   Qq ((hn.get (n:=n)).1 _ hl) λv' z=>get_own p.rep.fr (p.kin H.toCxW) (e▸I) k1 k2 k3 k4 z.1 (jv z.2 (lr hh)) ((p.toks _).now z.2)
 |slot i=>
  obtain⟨k1,k2,pp,k3,k4,k5,k6⟩:=hak
  exact At.rd λq _ hq _=>At.ob λv hl=>At.bif λhh=>At.say λ_=>wd λO s m news ad p hσ=>p.inst ho hi hq hσ λdx sl od g3 g4 g2 g5 g6 I=>
   Qq (g5.get hl) λv' z=>get_slot p.rep.fr (p.kin H.toCxW) I k1 k2 k3 k4 k5 k6 (by simpa using z.1) (jv z.2 (lr hh)) ((p.toks _).now z.2)
 |prop f=>
  obtain⟨k1,k2,pp,rest,k3,k4,k5,k6⟩:=hak
  refine At.rd λq _ hq _=>λr x' e hc=>aZ e λr' x2 e3 e=>?_
  have z:=ai e
  cases bf z.2
  have g:=HC _ (iN H) f [.ref k] [] _ _ _ e3 hc
  exact⟨g.1,wd λO s m news ad p hσ=>p.inst ho hi hq hσ λdx sl od g3 g4 g2 g5 g6 I=>get_prop p.rep.fr (p.kin H.toCxW) I k1 k2 k3 k4 k5 k6 (codeAny_mono (g.2 O _ m news ([.ref ad],[]) (p.toks _) ⟨⟨_,_,rfl,⟨ad,hσ,rfl⟩,rfl⟩,rfl,rfl⟩) λres s' z'=>by
   rcases res with ee|fl
   .exact z'.elim
   .cases fl with
    |ret v=>
     refine aG.el z' λO' m' n' a1 a2 a3=>?_
     dsimp only
     rw[handedOut_of (jv a3 (lr z.1))]
     exact Qx ⟨O',m',n',a1,a2,a3⟩
    |_=>exact z'.elim)⟩
 |fn=>exact At.fail
noncomputable def Pa(i:Nat)(v:SV)(vs:List (Option SV)):List (Option SV):=(vs++List.replicate (i+1-vs.length) QD).set i (QE v)
theorem ck.length{xs:List (Option SV)}{vs:List (Option Value)}(h:ck O xs vs):vs.length=xs.length:=LR.length h
theorem ck.append{xs ys:List (Option SV)}{vs us:List (Option Value)}(a:ck O xs vs)(b:ck O ys us):ck O (xs++ys) (vs++us):=LR.append b a
theorem ck.none{O:List Addr}:∀n:Nat,ck O (List.replicate n QD) (List.replicate n QD)
 |0=>rfl
 |n+1=>⟨_,_,rfl,rfl,ck.none n⟩
theorem ck.set{y:SV}{u:Value}(hy:aA O y u){xs:List (Option SV)}{vs:List (Option Value)}(h:ck O xs vs){k:Nat}:ck O (xs.set k (QE y)) (vs.set k (QE u)):=LR.set (y:=QE y) (o:=QE u) ⟨u,rfl,hy⟩ h
def ru(G:gw)(a:SV)(n:Str)(v:SV):XM Unit:=cE a λk=>xrd k iw λt=>xob (G.sk t.1 n) λsk=>match sk with
 |.own=>xrd t.2.1 lY λfs=>xif (Nat.ble (setF n v fs).length 1000) (xwr [] t.2.1 (.ns (setF n v fs)) ())
 |.slot i=>xrd t.2.1 QE λ_=>xwr [] k (.slots t.1 t.2.1 (Pa i v t.2.2)) ()
theorem xi{P:Params}{n:Str}{fs:List (Str×SV)}{es:List DictEntry}(hn:bC P O fs es):(getL n es).isSome=QF:=by
 cases hl:dE n fs with
 |none=>rw[(hn.get (n:=n)).2.1 hl];rfl
 |some w=>exact Qq ((hn.get (n:=n)).1 w hl) λv' y=>y.1▸rfl
theorem ox{G:gw}(H:CxW c F)(HG:gA G c.K)(a:SV)(n:Str)(b:SV):aj c F (P2 a b) (ru G a n b) (λv=>setAttr v.1 n v.2) rU:=nN a λk x=>At.rd λo t ho hi=>At.ob λsk hk=>by
 have hsk:=HG.sk t.1 n sk hk
 cases sk with
 |own=>
  obtain⟨k1,k2,k3,k4⟩:=hsk
  exact At.rd λq fs hq hf=>At.bif λhb=>At.wr λ_=>iI ho λO s m news ad ob v p hσ _ _ _ hv=>p.inst ho hi hq hσ λdx sl od g3 g4 g2 g5 g6 I=>gy (eE hf) g6 λes nn e hn=>by
   subst e
   have hput:=hn.put (n:=n) (tk:=s.toks+1) hv
   exact set_dict p.rep.fr (p.kin H) p.rep.nw I rfl k1 k2 k3 k4 (xi hn) rfl (p.rep.updAt _ g4) (hput.length▸PT hb) λh' F' N'=>
    ⟨O,m,_,P5 _,p.heap (P5 _) (p.rep.upd g4 F' N' ⟨_,_,rfl,hput⟩),QI⟩
 |slot i=>
  obtain⟨k1,k2,k3,pp,k4,k5,k6⟩:=hsk
  exact At.rd λq _ hq _=>At.wr λ_=>iI ho λO s m news ad ob v p hσ _ _ _ hv=>p.inst ho hi hq hσ λdx sl od g3 g4 g2 g5 g6 I=>
   set_slot (ox':={ cls:= .ref t.1,dict:=QE dx,data:= .plain,slots:=((sl++List.replicate (i+1-sl.length) QD).set i (QE v)).toArray }) p.rep.fr (p.kin H) p.rep.nw I k1 k2 k4 k5 k6 k3 (by
    rw[List.size_toArray,show Array.replicate (i+1-sl.length) (QD:Option Value)=(List.replicate (i+1-sl.length) QD).toArray by simp,List.append_toArray,List.setIfInBounds_toArray]) rfl (p.rep.updAt _ g3) λh' F' N'=>
     ⟨O,m,_,P5 _,p.heap (P5 _) (p.rep.upd g3 F' N' ⟨dx,_,g2,rfl,by
      rw[show i+1-sl.length=i+1-t.2.2.length by rw[g5.length]]
      exact(g5.append (ck.none _)).set hv⟩),QI⟩
noncomputable def Lf:AK->Option Addr
 |.fn f=>QE f
 |_=>QD
theorem CY{k:AK}{f:Addr}(e:Lf k=QE f):k= .fn f:=by cases k<;>first|exact nn e|exact QJ AK.fn (QH e)
def GV(G:gw)(a:SV)(n:Str):XM (SV×List SV):=cE a λk=>xrd k iw λt=>xob ((G.ak t.1 n).bind Lf) λf=>xrd t.2.1 lY λfs=>xif (dE n fs).isNone (cI [] (.top (.ref f),[.ref k]))
theorem xY{G:gw}(H:CxW c F)(HG:gA G c.K)(a:SV)(n:Str)(pl:Sem Bool):aj c F (rV a) (GV G a n) (λv=>getMethod v n pl) rM:=j0 a λk x=>At.rd λo t ho hi=>At.ob λf hk=>At.rd λq fs hq hf=>At.bif λhl=>At.say λ_=>wd λO s m news ad p hσ=>p.inst ho hi hq hσ λdx sl od g3 g4 g2 g5 g6 I=>gy (eE hf) g6 λes nn e hn=>bK hk λak h1 h2=>
 have hak:Ib c.K t.1 n (.fn f):=CY h2▸HG.ak t.1 n ak h1
 method_inst p.rep.fr (p.kin H) (e▸I) hak.1 hak.2.1 hak.2.2 ((hn.get (n:=n)).2.1 (Option.isNone_iff_eq_none.mp hl)) (p.now ⟨rfl,⟨_,_,rfl,⟨ad,hσ,rfl⟩,rfl⟩⟩)
structure qA where
 C:Addr
 init:Addr
def nA(K:Frag)(e:qA):Prop:=makesIn K e.C=QF/\findIn K (.ref e.C) "__init__"=QE (QE (.ref e.init))/\isFn K (.ref e.init)=QF
noncomputable def ND:SV->Bool
 |.none=>QF
 |_=>QG
theorem DD{a:SV}(h:ND a=QF):a= .none:=by
 cases a with
 |none=>rfl
 |_=>exact ff h
def Gx(cf:Addr->List SV->List (Str×SV)->XM SV)(e:qA)(vs:List SV)(kw:List (Str×SV)):XM SV:=λx=>
 (cf e.init (.ref (x.st.led++[SO.ns []]).length::vs) kw ⟨⟨x.st.loc,x.st.led++[.ns []]++[.inst e.C x.st.led.length]⟩,x.hs,x.n,x.cs,x.orc⟩).bind λr=>cond (ND r.1) (QE (.ref (x.st.led++[SO.ns []]).length,r.2)) QD
theorem Pre.two(p:Pre c F O S s m news){a1 a2:Addr}{o1 o2:Obj}{x1 x2:SO}{h':Heap}(F':Fr m.g c.L h' m.m)(N':News m.g c.L h' ((a2,o2)::((a1,o1)::news)))(hlt:∀q∈news,q.1<a1)(h12:a1<a2)(r1:aP c.P (O++[a1]) x1 o1)(r2:aP c.P (O++[a1]++[a2]) x2 o2):
  Pre c F (O++[a1]++[a2]) ⟨S.loc,S.led++[x1]++[x2]⟩ { s with heap:=h' } m (news++[(a1,o1)]++[(a2,o2)]):=
 have N1:News m.g c.L h' ((a1,o1)::news):=λq hq=>N' q (.tail _ hq)
 have mem:∀q,q∈news++[(a1,o1)]->q∈(a1,o1)::news:=λq hq=>(Qd.mp hq).elim (.tail _) λhq=>Qc.mp hq▸ .head _
 have R1:Rep c.P m.g c.L (O++[a1]) ⟨S.loc,S.led++[x1]⟩ h' m.m (news++[(a1,o1)]):=p.rep.alloc F' N1 hlt r1
 p.heap' ((P6 _ _).trans (P6 _ _)) (R1.alloc F' (λq hq=>(Qb.mp hq).elim (λe=>e▸N' _ (.head _)) λhq=>N1 q (mem q hq)) (λq hq=>(Qb.mp (mem q hq)).elim (λe=>e▸h12) λhq=>Nat.lt_trans (hlt q hq) h12) r2)
theorem Pre.made2(p:Pre c F O S s m news){C dx xa:Addr}{h':Heap}(F':Fr m.g c.L h' m.m)(N':News m.g c.L h' ((xa,instObj C dx)::((dx,dictOf [] 0)::news)))(hlt:∀q∈news,q.1<dx)(hdx:dx<xa):
  Pre c F (O++[dx]++[xa]) ⟨S.loc,S.led++[.ns []]++[.inst C S.led.length]⟩ { s with heap:=h' } m (news++[(dx,dictOf [] 0)]++[(xa,instObj C dx)]):=
 p.two F' N' hlt hdx ⟨[],0,rfl,rfl⟩ ⟨dx,p.len▸(List.getElem?_append_left (by rw[Qf];exact Nat.lt_succ_self _)).trans List.getElem?_concat_length,rfl⟩
theorem Pre.len2(p:Pre c F O S s m news){o:SO}{dx xa:Addr}:(O++[dx]++[xa])[(S.led++[o]).length]?=QE xa:=
 (show(O++[dx]).length=(S.led++[o]).length by rw[Qf,Qf,p.len];rfl)▸List.getElem?_concat_length
theorem zN(H:aD c F)(C:Addr)(vals:List Value)(kw:List (Str×Value)):AOk c F (c.A.under (.builtin "type.__call__" ⟨.ref C::vals,kw⟩)):=by
 refine⟨?_,?_,?_,?_⟩
 .rfl
 .show c.A.depth+1<=_;lia
 .show c.A.units+1<=_;lia
 .exact H.handled
theorem wW{cf:Addr->List SV->List (Str×SV)->XM SV}(H:aD c F)(HC:qo c F cf)(e:qA)(he:nA c.K e)(vs:List SV)(kw:List (Str×SV)):aj c F (PA vs kw) (Gx cf e vs kw) (λv=>PySem.call (.ref e.C) v.1 v.2) rV:=λx a x' h hc=>bK h λr e5 h=>by
 have z:=ai h
 cases QH z.2
 have hcall:=λA hA=>HC A hA e.init (.ref (x.st.led++[SO.ns []]).length::vs) kw _ r.1 r.2 e5 hc
 refine⟨(hcall _ (iN H)).1,λO s m news g p hg=>call_cls p.rep.fr (p.kin H.toCxW) p.rep.nw he.1 he.2.1 he.2.2 λxa dx h' F' N' hlt hdx=>?_⟩
 have pre:=(P6 O [dx]).trans (P6 (O++[dx]) [xa])
 have hx:aA (O++[dx]++[xa]) (.ref (x.st.led++[SO.ns []]).length) (.ref xa):=⟨xa,p.len2,rfl⟩
 refine codeAny_mono ((hcall _ (zN H e.C g.1 g.2)).2 _ _ m _ (.ref xa::g.1,g.2) (p.made2 F' N' hlt hdx) ⟨⟨_,_,rfl,hx,hg.1.mono pre⟩,hg.2.1,hg.2.2.mono pre⟩) λres s' y=>?_
 rcases res with ee|fl
 .exact y.elim
 .cases fl with
  |ret v=>exact Qq y λO' y=>Qq y λm' y=>Qq y λn' y=>⟨(show aA O' .none v from DD z.1▸y.2.2),O',m',n',pre.trans y.1,y.2.1,aA.mono y.1 hx⟩
  |_=>exact y.elim
structure yQ (T:String) (n:Str) (id:String):Prop where
 slot:Slot T n id
 ty:typeOf (.builtin id)=pure (.type "method_descriptor")
noncomputable def Da:Str:="append"
noncomputable def Pw:Str:="pop"
noncomputable def HD:Str:="clear"
noncomputable def j6:Str:="remove"
noncomputable def Pm:Str:="get"
noncomputable def zv:Str:="replace"
noncomputable def M5:Str:="join"
noncomputable def Fh:Str:="values"
def eH(n:Str):Option String:=match aQ n Da with
 |true=>QE "list.append"
 |false=>match aQ n Pw with
  |true=>QE "list.pop"
  |false=>match aQ n HD with
   |true=>QE "list.clear"
   |false=>match aQ n j6 with
    |true=>QE "list.remove"
    |false=>QD
theorem qB{n:Str}{id:String}(e:eH n=QE id):yQ "list" n id:=by
 unfold eH at e
 split at e
 .rename_i h;cases e;rw[aM.mp h];exact⟨PySem.F.slot_list_append,PySem.F.type_list_append⟩
 .split at e
  .rename_i h;cases e;rw[aM.mp h];exact⟨PySem.F.slot_list_pop,PySem.F.type_list_pop⟩
  .split at e
   .rename_i h;cases e;rw[aM.mp h];exact⟨PySem.F.slot_list_clear,PySem.F.type_list_clear⟩
   .split at e
    .rename_i h;cases e;rw[aM.mp h];exact⟨PySem.F.slot_list_remove,PySem.F.type_list_remove⟩
    .cases e
def pg(n:Str):Option String:=match aQ n zv with
 |true=>QE "str.replace"
 |false=>match aQ n M5 with
  |true=>QE "str.join"
  |false=>QD
theorem kL{n:Str}{id:String}(e:pg n=QE id):yQ "str" n id:=by
 unfold pg at e
 split at e
 .rename_i h;cases e;rw[aM.mp h];exact⟨PySem.F.slot_str_replace,PySem.F.type_str_replace⟩
 .split at e
  .rename_i h;cases e;rw[aM.mp h];exact⟨PySem.F.slot_str_join,PySem.F.type_str_join⟩
  .cases e
def gn(n:Str):Option String:=match aQ n Pm with
 |true=>QE "dict.get"
 |false=>match aQ n Fh with
  |true=>QE "dict.values"
  |false=>QD
theorem qV{n:Str}{id:String}(e:gn n=QE id):yQ "dict" n id:=by
 unfold gn at e
 split at e
 .rename_i h;cases e;rw[aM.mp h];exact⟨PySem.F.slot_dict_get,PySem.F.type_dict_get⟩
 .split at e
  .rename_i h;cases e;rw[aM.mp h];exact⟨PySem.F.slot_dict_values,PySem.F.type_dict_values⟩
  .cases e
noncomputable def OJ:Str:="add"
def y9(n:Str):SO->Option String
 |.list _=>eH n
 |.words _=>eH n
 |.ns _=>gn n
 |.nsE _ _=>gn n
 |.sset _=>cond (aQ n OJ) (QE "set.add") QD
 |_=>QD
theorem xf{n:Str}{o:SO}{id:String}(h:lA o=QF)(hm:eH n=QE id):y9 n o=QE id:=by cases o<;>first|exact ff h|exact hm
theorem tZ(p:Pre c F O S s m news){k:Nat}{o:SO}(ho:S.led[k]?=QE o){n:Str}{id:String}(hm:y9 n o=QE id){v:Value}(hv:aA O (.ref k) v)(pl:Sem Bool){Q:Value×List Value->Shared->Prop}{E:Value->Shared->Prop}(q:Q (.builtin id,[v]) s):
  wpAny c.M c.A (getMethod v n pl) Q E s:=Qq hv λad hv=>hv.2▸(by
 have q:Q (.builtin id,[.ref ad]) s:=hv.2▸q
 have lst:∀vs nn,s.heap.get? ad=QE (listOf vs nn)->eH n=QE id->wpAny c.M c.A (getMethod (.ref ad) n pl) Q E s:=λvs nn g3 hm=>
  have B:=qB hm
  getMethod_builtin ⟨_,g3,rfl⟩ PySem.F.plainAttrs_list B.slot B.ty (λa e=>by cases e;exact⟨_,g3,rfl⟩) q
 have dct:∀es nn,s.heap.get? ad=QE (dictOf es nn)->gn n=QE id->wpAny c.M c.A (getMethod (.ref ad) n pl) Q E s:=λes nn g3 hm=>
  have B:=qV hm
  getMethod_builtin ⟨_,g3,rfl⟩ PySem.F.plainAttrs_dict B.slot B.ty (λa e=>by cases e;exact⟨_,g3,rfl⟩) q
 cases o with
 |list xs=>exact p.objAt ho hv.1 λob g1 g3 g4=>Qq g4 λvs z=>Qq z λnn z=>lst _ _ (z.1▸g3) hm
 |words xs=>exact p.objAt ho hv.1 λob g1 g3 g4=>Qq g4 λvs z=>Qq z λnn z=>lst _ _ (z.1▸g3) hm
 |ns fs=>exact p.objAt ho hv.1 λob g1 g3 g4=>Qq g4 λvs z=>Qq z λnn z=>dct _ _ (z.1▸g3) hm
 |nsE fs ep=>exact p.objAt ho hv.1 λob g1 g3 g4=>Qq g4 λvs z=>dct _ _ (z.1▸g3) hm
 |sset ys=>
  have z:=ai hm
  cases z.2
  cases aM.mp z.1
  exact p.set ho rfl hv.1 λob nn g2 g3 g4 g5=>getMethod_builtin ⟨ob,g4,g5.1.1⟩ PySem.F.plainAttrs_set PySem.F.slot_set_add PySem.F.type_set_add (λa e=>by cases e;exact⟨ob,g4,g5.1.2.1⟩) q
 |_=>exact nn hm)
def Aw(G:gw)(a:SV)(n:Str):XM (SV×List SV):=match a with
 |.str x=>xob (pg n) λid=>cI [] (.top (.builtin id),[.str x])
 |.ref k=>bQ (xrd k (y9 n) λid=>cI [] (.top (.builtin id),[.ref k])) (GV G (.ref k) n)
 |_=>ar
theorem jy{G:gw}(H:CxW c F)(HG:gA G c.K)(a:SV)(n:Str)(pl:Sem Bool):aj c F (rV a) (Aw G a n) (λv=>getMethod v n pl) rM:=by
 cases a with
 |str y=>exactλx=>At.ob λid hm=>At.say λ_ O s m news g p hg=>Qq hg λt ht=>ht▸getMethod_builtin (typeIs_str s y t) PySem.F.plainAttrs_str (kL hm).slot (kL hm).ty (λa e=>nomatch e) (p.now ⟨rfl,⟨_,_,rfl,⟨t,rfl⟩,rfl⟩⟩)
 |ref k=>exact aO (λx=>At.rd λo id ho hm=>At.say λ_ O s m news g p hg=>tZ p ho hm hg pl (p.now ⟨rfl,⟨_,_,rfl,hg,rfl⟩⟩)) (xY H HG (.ref k) n pl)
 |_=>exact aX
noncomputable def GH:SV->Option String
 |.none=>QE "NoneType"
 |.bool _=>QE "bool"
 |.int _=>QE "int"
 |.str _=>QE "str"
 |_=>QD
noncomputable def vx(b:Bool):XM Unit:=λx=>QE ((),{ x with cs:=(b=QF)::x.cs })
theorem iC{b:Bool}{x:XS}{r:Unit×XS}(h:vx b x=QE r)(hc:bh r.2.cs):b=QF/\r.2.st=x.st/\bh x.cs:=by
 cases h
 exact⟨hc.1,rfl,hc.tail⟩
theorem Pre.changed{x x':XS}(p:Pre c F O x.st s m news){k:Nat}{a:Addr}{o o':Obj}{y:SO}{R:List Addr->β->Prop}{v:β}{h':Heap}{tk:Nat}(e:news[k]?=QE (a,o))(F':Fr m.g c.L h' m.m)
  (N':News m.g c.L h' (news.set k (a,o')))(hy:aP c.P O y o')(hx:x'.st={ x.st with led:=x.st.led.set k y })(hv:R O v)(ht:s.toks<=tk:=by lia):aG c F O x'.st R v { s with heap:=h',toks:=tk }:=
 ⟨O,m,_,P5 _,hx▸p.heap (P5 _) (p.rep.upd e F' N' hy) ht,hv⟩
theorem Pre.changed'{x x':XS}(p:Pre c F O x.st s m news){k:Nat}{a:Addr}{o o':Obj}{y:SO}{R:List Addr->β->Prop}{v:β}{h':Heap}(e:news[k]?=QE (a,o))(F':Fr m.g c.L h' m.m)
  (N':News m.g c.L h' (news.set k (a,o')))(hy:aP c.P O y o')(hx:x'.st={ x.st with led:=x.st.led.set k y })(hv:R O v):aG c F O x'.st R v { s with heap:=h' }:=p.changed (tk:=s.toks) e F' N' hy hx hv
noncomputable def Gj(v:SV):SO->Option (List Prop×SO)
 |.list xs=>cond (Nat.ble xs.length 1000) (QE ([], .list (xs++[v]))) QD
 |.words ys=>match v with
  |.str y=>QE ([Nat.ble ys.length 1000=QF], .words (ys++[y]))
  |_=>QD
 |_=>QD
theorem vI{P:Params}{v:SV}{o:SO}{ob:Obj}{r:List Prop×SO}(e:Gj v o=QE r)(hb:bh r.1)(h:aP P O o ob){G:Prop}
  (k:∀its n,ob=listOf its n->its.size<=1000->(∀u,aA O v u->aP P O r.2 (listOf (its.push u) (n+1)))->G):G:=by
 cases o with
 |list xs=>
  obtain⟨b,q⟩:=ai e
  cases q
  obtain⟨vs,n,q,z⟩:=h
  exact k _ n q (z.length▸PT b:) λu hu=>⟨vs++[u],n+1,by rw[List.push_toArray],z.append (au.one hu)⟩
 |words ys=>
  cases v with
  |str y=>
   cases e
   obtain⟨vs,n,q,z⟩:=h
   exact k _ n q (az z▸PT hb.1:) λu⟨t,hu⟩=>⟨vs++[u],n+1,by rw[List.push_toArray],strsAre_append z (hu▸ .cons y t .nil)⟩
  |_=>cases e
 |_=>cases e
def cq(l:Nat)(v:SV):XM SV:=xrd l (Gj v) λr=>xwr r.1 l r.2 .none
theorem gx{l:Nat}{v:SV}:aj c F (P2 (.ref l) v) (cq l v) (λg=>PySem.call (.builtin "list.append") [g.1,g.2]) rV:=λx=>At.rd λo r ho hr=>At.wr λhb=>iI ho λO s m news ad ob u p hσ f1 f3 q hu=>
 vI hr hb q λits n e hz k=>append_K p.rep.fr p.rep.nw (p.rep.updAt _ (e▸f1)) (λh' F' N'=>p.changed' (x':={ x with st:=_ }) (e▸f1) F' N' (k u hu) rfl rfl) (cX hz)
noncomputable def Gq(xs:List SV):Option (List SV×SV):=xs.getLast?.map λz=>(xs.dropLast,z)
theorem BC{xs l:List SV}{z:SV}(e:Gq xs=QE (l,z)):xs=l++[z]:=
 Qq (Qm.mp e) λy q=>Qq (List.getLast?_eq_some_iff.mp q.1) λr w=>by
  cases q.2
  rw[w,List.dropLast_concat]
theorem kD{ys:List Str}{z:Str}{vs:List Value}(h:StrsAre vs (ys++[z])):∃us t,vs=us++[.str z t]/\StrsAre us ys:=
 Qq (LR.unsnoc (Eq.subst (motive:=λl=>au [] l vs) (List.map_append (f:=SV.str) (l₁:=ys) (l₂:=[z])) (cb h))) λus q=>Qq q λu q=>Qq q.2.2 λt w=>⟨us,t,w▸q.1,dX q.2.1⟩
def GL:SO->Option (List Prop×SO×SV)
 |.list xs=>cond (Nat.ble xs.length 1000) ((Gq xs).map λr=>([], .list r.1,r.2)) QD
 |.words ys=>QE ([(Nat.ble ys.length 1000&&!ys.isEmpty)=QF], .words ys.dropLast, .str (ys.getLast?.getD ⟨#[]⟩))
 |_=>QD
theorem xq{P:Params}{o:SO}{ob:Obj}{r:List Prop×SO×SV}(e:GL o=QE r)(hb:bh r.1)(h:aP P O o ob){G:Prop}
  (k:∀us u n,ob=listOf (us++[u]).toArray n->(us++[u]).length<=1000->(∀n,aP P O r.2.1 (listOf us.toArray n))->aA O r.2.2 u->G):G:=by
 cases o with
 |list xs=>
  obtain⟨b,q⟩:=ai e
  obtain⟨⟨l,z⟩,ql,rfl⟩:=Qm.mp q
  obtain⟨vs,n,hq,y⟩:=h
  have hz:vs.length<=1000:=y.length▸PT b
  rw[BC ql]at y
  obtain⟨us,u,rfl,y1,y2⟩:=LR.unsnoc y
  exact k us u n hq hz (λn=>⟨us,n,rfl,y1⟩) y2
 |words ys=>
  cases e
  obtain⟨vs,n,hq,y⟩:=h
  have hb:=(Qp _ _).mp hb.1
  have hz:vs.length<=1000:=az y▸PT hb.1
  have hne:ys≠[]:=λq=>by rw[q]at hb;cases hb.2
  have hys:ys=ys.dropLast++[ys.getLast?.getD ⟨#[]⟩]:=by
   rw[List.getLast?_eq_some_getLast hne]
   exact(List.dropLast_concat_getLast hne).symm
  rw[hys]at y
  obtain⟨us,t,rfl,y1⟩:=kD y
  exact k us _ n hq hz (λn=>⟨us,n,rfl,y1⟩) ⟨t,rfl⟩
 |_=>cases e
def HP(l:Nat):XM SV:=xrd l GL λr=>xwr r.1 l r.2.1 r.2.2
theorem qx{l:Nat}:aj c F (rV (.ref l)) (HP l) (λg=>PySem.call (.builtin "list.pop") [g]) rV:=λx=>At.rd λo r ho hr=>At.wr λhb=>cc ho λO s m news ad ob p hσ f1 f3 q=>
 xq hr hb q λus u n e hz k y=>kl_pop p.rep.fr p.rep.nw (kpa_last u us) (p.rep.updAt _ (e▸f1)) (cX hz) (λh' F' N'=>p.changed' (x':={ x with st:=_ }) (e▸f1) F' N' (k _) rfl y)
theorem Bh(p:Pre c F O S s m news){k:Nat}{a:Addr}{vs:List Value}{n:Nat}(e:news[k]?=QE (a,listOf vs.toArray n))(hz:vs.length<=1000){Q:Value->Shared->Prop}
  (h:∀h' n',Fr m.g c.L h' m.m->News m.g c.L h' (news.set k (a,listOf #[] n'))->Q .none { s with heap:=h' }):wpAny c.M c.A (PySem.call (.builtin "list.clear") [.ref a]) Q NoE s:=by
 have z:=p.rep.nw _ (p.rep.mem e)
 have U:=p.rep.updAt (listOf #[] (if(#[]:Array Value).size==vs.toArray.size then n else n+1)) e
 obtain⟨pre,post,e1,e2,ha,hb⟩:=U.split
 refine call_meets PySem.F.slot_list_clear ⟨_,z.1,rfl⟩ PySem.F.entry_list_clear (PySem.F.args_list_clear_1 _) (PySem.AutoSeq1.list_clear_list_0 a vs.toArray n (by rw[List.size_toArray,sizeLine_eq];lia)) ⟨z.1,?_⟩
 refine h _ (if(#[]:Array Value).size==vs.toArray.size then n else n+1) (p.rep.fr.change (Heap.SameBut.update ..) z.2.1 z.2.2) ?_
 rw[e2]
 exact news_set (e1▸p.rep.nw) ha hb (Heap.SameBut.update ..) (IsL.update z.1 λ_=>#[])
noncomputable def u7:SO->Option (List Prop×SO)
 |.list xs=>cond (Nat.ble xs.length 1000) (QE ([], .list [])) QD
 |.words ys=>QE ([Nat.ble ys.length 1000=QF], .words [])
 |_=>QD
theorem rN{P:Params}{o:SO}{ob:Obj}{r:List Prop×SO}(e:u7 o=QE r)(hb:bh r.1)(h:aP P O o ob){G:Prop}
  (k:∀(vs:List Value)n,ob=listOf vs.toArray n->vs.length<=1000->(∀n,aP P O r.2 (listOf #[] n))->G):G:=by
 cases o with
 |list xs=>
  obtain⟨b,q⟩:=ai e
  cases q
  obtain⟨vs,n,q,z⟩:=h
  exact k _ n q (z.length▸PT b:) λn=>⟨[],n,rfl,rfl⟩
 |words ys=>
  cases e
  obtain⟨vs,n,q,z⟩:=h
  exact k _ n q (az z▸PT hb.1:) λn=>⟨[],n,rfl, .nil⟩
 |_=>cases e
def yZ(l:Nat):XM SV:=xrd l u7 λr=>xwr r.1 l r.2 .none
theorem tM{l:Nat}:aj c F (rV (.ref l)) (yZ l) (λg=>PySem.call (.builtin "list.clear") [g]) rV:=λx=>At.rd λo r ho hr=>At.wr λhb=>cc ho λO s m news ad ob p hσ f1 f3 q=>
 rN hr hb q λvs n e hz k=>Bh p (e▸f1) hz λh' n' F' N'=>p.changed' (x':={ x with st:=_ }) (e▸f1) F' N' (k n') rfl rfl
noncomputable def BN:SO->Option (List Prop×Nat)
 |.list xs=>cond (Nat.ble xs.length 1000) (QE ([],xs.length)) QD
 |.tup xs=>cond (Nat.ble xs.length 1000) (QE ([],xs.length)) QD
 |.words ys=>QE ([Nat.ble ys.length 1000=QF],ys.length)
 |_=>QD
theorem xN{P:Params}{o:SO}{ob:Obj}{r:List Prop×Nat}(e:BN o=QE r)(hb:bh r.1)(h:aP P O o ob){G:Prop}
  (k:∀(vs:List Value)n,vs.toArray.size<=1000->vs.length=r.2->ob=listOf vs.toArray n\/ob={ cls:= .type "tuple",data:= .seq vs.toArray n }->G):G:=by
 cases o with
 |list xs=>
  obtain⟨b,q⟩:=ai e
  cases q
  obtain⟨vs,n,q,z⟩:=h
  exact k _ n (z.length▸PT b:) z.length (.inl q)
 |tup xs=>
  obtain⟨b,q⟩:=ai e
  cases q
  obtain⟨vs,n,q,z⟩:=h
  exact k _ n (z.length▸PT b:) z.length (.inr q)
 |words ys=>
  cases e
  obtain⟨vs,n,q,z⟩:=h
  exact k _ n (az z▸PT hb.1:) (az z) (.inl q)
 |_=>cases e
def JV(a:SV):XM SV:=match a with
 |.str x=>xif (Nat.ble x.cps.toList.length 1000000) (cI [] (.int x.cps.toList.length))
 |.ref l=>xrd l BN λr=>cI r.1 (.int r.2)
 |_=>ar
theorem rz{y:Str}:aj c F (rV (.str y)) (xif (Nat.ble y.cps.toList.length 1000000) (cI [] (.int y.cps.toList.length))) (λg=>PySem.call (.builtin "len") [g]) rV:=λx=>At.bif λhb=>At.tell λ_ O s m news g p⟨t,hg⟩Q hq=>by
 subst hg
 have e1:y.length=y.cps.toList.length:=by simp[Str.length]
 have:=PT hb
 exact len_str (by rw[e1];lia) (hq _ _ ⟨_,by rw[e1]⟩)
theorem pR{l:Nat}:aj c F (rV (.ref l)) (xrd l BN λr=>cI r.1 (.int r.2)) (λg=>PySem.call (.builtin "len") [g]) rV:=λx=>At.rd λo r ho hr=>At.say λhb=>cc ho λO s m news ad ob p hσ f1 f3 q=>
 xN hr hb q λvs n hz e1 k=>k.elim (λe=>len_list (aW (e▸f3)) (uD hz) ((p.toks _).now ⟨_,by rw[List.size_toArray,e1]⟩))
  λe=>len_tuple ⟨_,e▸f3,rfl,n,rfl⟩ (uD hz) ((p.toks _).now ⟨_,by rw[List.size_toArray,e1]⟩)
theorem rD{a:SV}:aj c F (rV a) (JV a) (λg=>PySem.call (.builtin "len") [g]) rV:=by
 cases a with
 |str y=>exact rz
 |ref l=>exact pR
 |_=>exactλ_=>At.fail
def B7(a:SV):XM SV:=match GH a with
 |some T=>aH (.top (.type T))
 |none=>ar
theorem xm{a:SV}:aj c F (rV a) (B7 a) (λg=>PySem.call (.type "type") [g]) rV:=by
 unfold B7
 cases h:GH a with
 |none=>exact aX
 |some T=>
  refine yM λO s g hi Q hq=>?_
  have k:∀T',s.TypeIs g T'->(Value.type T'==Value.type "builtin_function_or_method")=QG->T'=T->wpAny c.M c.A (PySem.call (.type "type") [g]) Q NoE s:=λT' h1 h2 h3=>by
   subst h3;exact call_type_of h1 h2 (hq _ s.toks rfl)
  cases a with
  |none=>cases h;rw[show g=_ from hi]at k ⊢;exact k _ rfl rfl rfl
  |bool b=>cases h;rw[show g=_ from hi]at k ⊢;exact k _ rfl rfl rfl
  |int b=>cases h;obtain⟨t,rfl⟩:=hi;exact k _ (typeIs_int s b t) rfl rfl
  |str b=>cases h;obtain⟨t,rfl⟩:=hi;exact k _ (typeIs_str s b t) rfl rfl
  |_=>cases h
def Kb(a:SV):XM SV:=match a with
 |.int i=>aH (.int i)
 |_=>ar
theorem Ao{a:SV}:aj c F (rV a) (Kb a) (λg=>PySem.call (.type "int") [g]) rV:=by
 unfold Kb
 split
 .refine yM λO s g hi Q hq=>?_
  obtain⟨t,rfl⟩:=hi
  exact call_int_int (hq _ s.toks ⟨t,rfl⟩)
 .exact aX
noncomputable def LJ:SV->Option String
 |.top v=>(match v with
  |.type T=>QE T
  |_=>QD)
 |_=>QD
theorem DX{a:SV}{T:String}(e:LJ a=QE T):a= .top (.type T):=by
 cases a with
 |top v=>cases v<;>first|exact nn e|exact QJ (λT=>SV.top (.type T)) (QH e)
 |_=>exact nn e
def KH(a b:SV):XM SV:=jz a λ_=>xob (LJ b) λT=>xif (decide (T="str")) (aH (.bool QF))
theorem B4{a b:SV}:aj c F (P2 a b) (KH a b) (λg=>PySem.call (.builtin "isinstance") [g.1,g.2]) rV:=Ex a λx y=>At.ob λT hT=>At.bif λh=>(yM λO s g hi Q hq=>by
 cases of_decide_eq_true h
 have e:=DX hT
 obtain⟨g1,g2⟩:=g
 obtain⟨⟨t,rfl⟩,hi2⟩:=hi
 cases e
 cases hi2
 exact IsiPair.str_str (hq _ s.toks rfl)) y
open Sem (wp)
namespace Dq
theorem yo:Slot "collections.deque" "__init__" "collections.deque.__init__":=
 .of (owner:="collections.deque") (n:="__init__") (by rw[typeLookup_type,builtinLookup_eq_fast];kernel_rfl) (by decide+kernel) (by decide+kernel) (by decide+kernel)
  (by first|exact .inl (by decide+kernel)|exact .inr (by decide+kernel)) (by rw[isSubtype_type];kernel_rfl)
theorem iS:Slot "collections.deque" "__len__" "collections.deque.__len__":=
 .of (owner:="collections.deque") (n:="__len__") (by rw[typeLookup_type,builtinLookup_eq_fast];kernel_rfl) (by decide+kernel) (by decide+kernel) (by decide+kernel)
  (by first|exact .inl (by decide+kernel)|exact .inr (by decide+kernel)) (by rw[isSubtype_type];kernel_rfl)
theorem r7:entryFor table "collections.deque.__init__"=QE Builtin.«collections.deque.__init__»:=entryFor_of_tree (by kernel_rfl)
theorem entry_len:entryFor table "collections.deque.__len__"=QE Builtin.«collections.deque.__len__»:=entryFor_of_tree (by kernel_rfl)
theorem we:entryFor table "collections.deque.__new__"=QE Builtin.«collections.deque.__new__»:=entryFor_of_tree (by kernel_rfl)
theorem mro:mroOf (.type "collections.deque")=pure [.type "collections.deque", .type "object"]:=by rw[mroOf_type];kernel_rfl
theorem tR:typeLookup (.type "collections.deque") "__new__"=pure (QE (.builtin "collections.deque.__new__")):=by rw[typeLookup_type,builtinLookup_eq_fast];kernel_rfl
theorem Jx:TypeCalled "collections.deque" "collections.deque.__new__" "collections.deque.__init__":=
 ⟨by decide+kernel,by decide+kernel,⟨_,_,mro⟩,madeBy_type mro tR (by decide+kernel),by decide+kernel,by rw[isSubtype_type];kernel_rfl,yo⟩
theorem B8:checkTypeCall "collections.deque" ⟨[],[]⟩=pure ():=by kernel_rfl
theorem DR:checkBuiltinCall "collections.deque.__new__" ⟨[.type "collections.deque"],[]⟩=pure ():=by kernel_rfl
theorem ni:plainId "collections.deque.__new__"=QF:=by decide+kernel
theorem sub_self:isSubtype (.type "collections.deque") (.type "collections.deque")=pure QF:=by rw[isSubtype_type];kernel_rfl
theorem zL:typeLookup (.type "collections.deque") "__bool__"=pure QD:=by rw[typeLookup_type,builtinLookup_eq_fast];kernel_rfl
theorem vX(a:Value):argsOk "collections.deque.__init__" ⟨[a],[]⟩:=by unfold argsOk;kernel_rfl
theorem yV(a:Value):argsOk "collections.deque.__len__" ⟨[a],[]⟩:=by unfold argsOk;kernel_rfl
noncomputable abbrev obj:Obj:={ cls:= .type "collections.deque",data:= .fields #[.none, .int 0 0] }
section
variable{prog:Program}{w:World}{A:Around}{E:Value->Shared->Prop}
theorem A9{Q₁:Value->Shared->Prop}(h:Q₁ (.ref s.heap.objs.size) { s with heap:=s.heap.push obj }):
  codeAny (model prog w) A (.call (.builtin "collections.deque.__new__") ⟨[.type "collections.deque"],[]⟩) (wants Q₁ E) s:=by
 refine codeAny_of_tree ?_
 show wpAny _ A.in1 (do checkBuiltinCall "collections.deque.__new__" ⟨[.type "collections.deque"],[]⟩;again (.builtin "collections.deque.__new__" ⟨[.type "collections.deque"],[]⟩)) _ _ s
 refine Qv (Qz DR (Qx ⟨plainId_quiet ni _,codeAny_builtin we ?_⟩))
 rw[Around.under_plainId ni _]
 have hsub:=sub_self
 unfold Builtin.«collections.deque.__new__» Builtin.Deque.newArgs Builtin.Deque.new Builtin.Deque.ty
 wp_walk
 all_goals exact h
theorem call_new{Q:Value->Shared->Prop}(h:∀h',(∀b o,s.heap.get? b=QE o->h'.get? b=QE o)->h'.get? s.heap.objs.size=QE obj->Q (.ref s.heap.objs.size) { s with heap:=h' }):
  wpAny (model prog w) A (call (.type "collections.deque") []) Q E s:=by
 refine callType_codes (Q₁:=λo s₁=>o= .ref s.heap.objs.size/\s₁={ s with heap:=s.heap.push obj }) Jx B8 r7 (A9 ⟨rfl,rfl⟩) λo s₁ h₁=>?_
 obtain⟨rfl,rfl⟩:=h₁
 have hS:(s.heap.push obj).get? s.heap.objs.size=QE obj:=Qu _ rfl
 refine⟨⟨_,hS,rfl⟩,vX _,?_⟩
 unfold Builtin.«collections.deque.__init__» Builtin.Deque.clear
 wp_walk
 refine⟨rfl,?_⟩
 have hS₂:=Qt (Obj.mapFields λx=>x.setIfInBounds 0 Value.none) hS rfl
 refine h _ (λb o e=>?_) (by simpa[Obj.mapFields]using hS₂)
 have hb:b≠s.heap.objs.size:=λe'=>Nat.lt_irrefl _ (e'▸Qs e)
 exact(Heap.get?_update_other _ _ (Ne.symm hb)).trans (Qr _ e)
theorem Cd{a:Addr}{t:Tok}{Q:Value->Shared->Prop}(ha:s.heap.get? a=QE { cls:= .type "collections.deque",data:= .fields #[.none, .int 0 t] })(h:Q (.int 0 (s.toks+1)) { s with toks:=s.toks+1+1 }):
  wpAny (model prog w) A (Builtin.«len» ⟨[.ref a],[]⟩) (λfin s'=>∃r,fin= .done (.ret r)/\Q r s') E s:=by
 have hT:s.TypeIs (.ref a) "collections.deque":=⟨_,ha,rfl⟩
 unfold Builtin.«len»
 refine Qv (m:=oneArg "len" _) (Qx ?_)
 refine Qv (m:=callSpecial? (.ref a) (QC "__len__")) (wpAny_callSpecial?_slot (name:=QC "__len__") hT iS
  (wpAny_call_entry iS hT entry_len ?_ (yV _)))
 .unfold Builtin.«collections.deque.__len__» Builtin.Deque.size
  wp_walk using wpAny_load ha
  refine⟨_,rfl,?_⟩
  refine Qv (Qy (Qx ?_))
  refine Qv (wpAny_letGo ?_)
  exact Qv (wpAny_mkInt (Qx ⟨_,rfl,h⟩))
theorem truthy{a:Addr}{t:Tok}{Q:Bool->Shared->Prop}(ha:s.heap.get? a=QE { cls:= .type "collections.deque",data:= .fields #[.none, .int 0 t] })(h:Q QG { s with toks:=s.toks+1+1 }):wpAny (model prog w) A (PySem.truthy (.ref a)) Q E s:=by
 have hT:s.TypeIs (.ref a) "collections.deque":=⟨_,ha,rfl⟩
 have key:wpAny (model prog w) A (runValue (.builtin "len" ⟨[.ref a],[]⟩)) (λr s'=>r= .int 0 (s.toks+1)/\Q QG s') E s:=by
  refine wpAny_runValue (codeAny_builtin PySem.entry_len ?_)
  rw[Around.under_plainId plain_len _]
  exact Qw (Cd (Q:=λr s'=>r= .int 0 (s.toks+1)/\Q QG s') ha ⟨rfl,h⟩) (λfin s' h'=>by obtain⟨r,rfl,hq⟩:=h';exact hq) λ_ _ e=>e
 unfold PySem.truthy
 first
  |refine Qv (wpAny_callSpecial?_none (name:=QC "__bool__") hT zL ?_)
  |refine Qv (Qx (Qv (wpAny_callSpecial?_none (name:=QC "__bool__") hT zL ?_)))
 first
  |refine Qv (wpAny_specialOf (name:=QC "__len__") hT iS.lookup ?_)
  |refine Qv (Qx (Qv (wpAny_specialOf (name:=QC "__len__") hT iS.lookup ?_)))
 first
  |exact Qv (Qw key (λr s' h'=>by obtain⟨rfl,hq⟩:=h';exact Qx hq) λ_ _ e=>e)
  |exact Qv (Qx (Qv (Qw key (λr s' h'=>by obtain⟨rfl,hq⟩:=h';exact Qx hq) λ_ _ e=>e)))
end
end Dq
noncomputable def Gk:SO->Option (List Prop×Bool)
 |.list xs=>cond (Nat.ble xs.length 1000) (QE ([],!xs.isEmpty)) QD
 |.words ys=>QE ([Nat.ble ys.length 1000=QF],!ys.isEmpty)
 |_=>QD
theorem xg{P:Params}{o:SO}{ob:Obj}{r:List Prop×Bool}(e:Gk o=QE r)(hb:bh r.1)(h:aP P O o ob){G:Prop}(k:∀(vs:List Value)n,ob=listOf vs.toArray n->vs.toArray.size<=1000->(!vs.toArray.isEmpty)=r.2->G):G:=by
 cases o with
 |list xs=>
  have z:=ai e
  cases z.2
  exact Qq h λvs h=>Qq h λn h=>k vs n h.1 (h.2.length▸PT z.1:) (by
   rw[List.isEmpty_toArray]
   cases xs with
   |nil=>cases h.2;rfl
   |cons a b=>obtain⟨_,v,w,rfl,_⟩:=h;rfl)
 |words ys=>
  cases e
  exact Qq h λvs h=>Qq h λn h=>k vs n h.1 (az h.2▸PT hb.1:) (by rw[List.isEmpty_toArray];cases h.2<;>rfl)
 |_=>exact nn e
noncomputable def Ma:SV->Bool
 |.int i=>decide (i=0)
 |_=>QG
noncomputable def Lo:SV->Bool
 |.none=>QF
 |_=>QG
def LX:SO->Bool
 |.fields T vs=>(match vs with
  |[a,b]=>decide (T="collections.deque")&&(Lo a&&Ma b)
  |_=>QG)
 |_=>QG
theorem FR{o:SO}(e:LX o=QF):o= .fields "collections.deque" [.none, .int 0]:=by
 cases o with
 |fields T vs=>
  rcases vs with _|⟨a,_|⟨b,_|⟨d,vs⟩⟩⟩
  .exact ff e
  .exact ff e
  .have z:=(Qp _ _).mp e
   have y:=(Qp _ _).mp z.2
   have ha:a= .none:=by cases a<;>first|rfl|exact ff y.1
   have hb:b= .int 0:=by cases b<;>first|exact ff y.2|exact QJ SV.int (of_decide_eq_true y.2)
   rw[of_decide_eq_true z.1,ha,hb]
  .exact ff e
 |_=>exact ff e
def LL(l:Nat):XM Bool:=bQ (xrd l Gk λr=>cI r.1 r.2) (xrd l (λo=>cond (LX o) (QE ()) QD) λ_=>cI [] QG)
theorem AV(l:Nat):aj c F (rV (.ref l)) (LL l) (λv=>truthy v) rB:=aO
 (λx=>At.rd λo r ho hr=>At.say λhb=>cc ho λO s m news ad ob p hσ f1 f3 q=>xg hr hb q λvs n e hz hv=>wpAny_truthy_list (aW (e▸f3)) (uD hz) ((p.toks _).now hv))
 (λx=>At.rd λo r ho hr=>At.say λ_=>cc ho λO s m news ad ob p hσ f1 f3 q=>by
  obtain⟨us,rfl,v1,r1,rfl,h1,v2,r2,rfl,⟨t,rfl⟩,h3⟩:=FR (ai hr).1▸q
  cases h1;cases h3
  exact Dq.truthy f3 ((p.toks _).now rfl))
def AU(a:SV):XM Bool:=match a with
 |.none=>cI [] QG
 |.bool b=>cI [] b
 |.int i=>cI [] (!(i==0))
 |.str x=>xif (Nat.ble x.cps.toList.length 1000000) (cI [] (!(Nat.beq x.cps.toList.length 0)))
 |.ref l=>LL l
 |_=>ar
theorem CI{prog:Program}{w:World}{A:Around}{Q:Bool->Shared->Prop}{E:Value->Shared->Prop}{y:Str}{t:Tok}(hb:Nat.ble y.cps.toList.length 1000000=QF)(q:∀tk,Q (!(Nat.beq y.cps.toList.length 0)) { s with toks:=tk }):wpAny (model prog w) A (truthy (.str y t)) Q E s:=by
 have e1:y.length=y.cps.toList.length:=by simp[Str.length]
 have hb:=PT hb
 have h:((y.length:Int)!=0)=!(Nat.beq y.cps.toList.length 0):=by
  rw[e1]
  cases y.cps.toList.length with
  |zero=>rfl
  |succ k=>exact bne_iff_ne.mpr (by lia)
 exact P.truthy_str (by rw[e1];lia) (h▸q _)
theorem sh(a:SV):aj c F (rV a) (AU a) (λv=>truthy v) rB:=by
 cases a with
 |none=>exactλx=>At.say λ_ O s m news g p hg=>(show g= .none from hg)▸truthy_none (p.now rfl)
 |bool b=>exactλx=>At.say λ_ O s m news g p hg=>(show g= .bool b from hg)▸wpAny_truthy_bool (p.now rfl)
 |int i=>exactλx=>At.say λ_ O s m news g p⟨t,hg⟩=>hg▸truthy_int (p.now rfl)
 |str y=>exactλx=>At.bif λhb=>At.tell λ_ O s m news g p⟨t,hg⟩Q hq=>hg▸CI hb λtk=>hq _ tk rfl
 |ref l=>exact AV l
 |_=>exact aX
theorem Pre.made{x:XS}(p:Pre c F O x.st s m news){o:SO}{ob:Obj}{h':Heap}{a:Addr}{tk:Nat}(hk:∀b o,s.heap.get? b=QE o->h'.get? b=QE o)(ha:∀b o,s.heap.get? b=QE o->b<a)(hn:h'.get? a=QE ob)
  (hx:aP c.P (O++[a]) o ob)(ht:s.toks<=tk:=by lia):aG c F O { x.st with led:=x.st.led++[o] } (rV (.ref x.st.led.length)) (.ref a) { s with heap:=h',toks:=tk }:=by
 have pre:O <+:O++[a]:=P6 _ _
 have nb:∀b o,s.heap.get? b=QE o->b≠a:=λb o e q=>Nat.lt_irrefl _ (q▸ha b o e)
 have F':Fr m.g c.L h' m.m:=by
  obtain⟨oL,es,ep,hL,hLd,hLk,hLf⟩:=p.rep.fr.ns
  exact⟨⟨oL,es,ep,hk _ _ hL,hLd,hLk,hLf⟩,λb o e=>hk b o (p.rep.fr.keep b o e),p.rep.fr.above⟩
 have N':News m.g c.L h' ((a,ob)::news):=by
  intro q hq
  rcases Qb.mp hq with rfl|hq
  .refine⟨hn,?_,?_⟩
   .obtain⟨oL,es,ep,hL,_⟩:=p.rep.fr.ns
    exactλq=>nb _ _ hL q.symm
   .cases q:m.g.get? a with
    |none=>rfl
    |some oo=>exact absurd rfl (nb a oo (p.rep.fr.keep a oo q))
  .have z:=p.rep.nw q hq
   exact⟨hk _ _ z.1,z.2⟩
 refine⟨_,m,_,pre,p.heap pre (p.rep.alloc F' N' (λq hq=>ha _ _ (p.rep.nw q hq).1) hx) ht,a,?_,rfl⟩
 rw[<-p.len];simp
theorem Pre.made'{x:XS}(p:Pre c F O x.st s m news){o:SO}{ob:Obj}{h':Heap}{a:Addr}(hk:∀b o,s.heap.get? b=QE o->h'.get? b=QE o)(ha:∀b o,s.heap.get? b=QE o->b<a)(hn:h'.get? a=QE ob)
  (hx:aP c.P (O++[a]) o ob):aG c F O { x.st with led:=x.st.led++[o] } (rV (.ref x.st.led.length)) (.ref a) { s with heap:=h' }:=p.made (tk:=s.toks) hk ha hn hx
theorem cG{x:XS}(p:Pre c F O x.st s m news){o:SO}{ob:Obj}(hf:ob.isFreed=QG)(hx:aP c.P (O++[s.heap.objs.size]) o ob):aG c F O (x.st.add o) (rV (.ref x.st.led.length)) (.ref s.heap.objs.size) { s with heap:=s.heap.push ob }:=
 p.made' (λb o e=>Qr _ e) (λb o e=>Qs e) (Qu _ hf) hx
def AR:XM SV:=lM [] (.fields "collections.deque" [.none, .int (.ofNat 0)])
theorem rW:aj c F (λ_(_:Unit)=>True) AR (λ_=>PySem.call (.type "collections.deque") []) rV:=λx=>At.new λ_ O s m news g p _=>Dq.call_new λh' hk hn=>
 p.made' hk (λb o e=>Qs e) hn ⟨[.none, .int 0 0],rfl, .none,_,rfl,rfl, .int 0 0,_,rfl,⟨0,rfl⟩,rfl⟩
noncomputable def Gy:SO->Option (List Prop×SO)
 |.list xs=>cond (Nat.ble xs.length 1000) (QE ([], .list xs)) QD
 |.tup xs=>cond (Nat.ble xs.length 1000) (QE ([], .list xs)) QD
 |.wtup ys=>QE ([Nat.ble ys.length 1000=QF], .words ys)
 |_=>QD
theorem vO{P:Params}{o:SO}{ob:Obj}{r:List Prop×SO}(e:Gy o=QE r)(hb:bh r.1)(h:aP P O o ob){G:Prop}(k:∀T(vs:List Value)n,(T="list"\/T="tuple")->ob={ cls:= .type T,data:= .seq vs.toArray n }->vs.toArray.size<=1000->(∀a n,aP P (O++[a]) r.2 (listOf vs.toArray n))->G):G:=by
 cases o with
 |list xs=>
  have z:=ai e
  cases z.2
  exact Qq h λvs h=>Qq h λn h=>k "list" vs n (.inl rfl) h.1 (h.2.length▸PT z.1:) λa n=>⟨vs,n,rfl,h.2.mono (P6 _ _)⟩
 |tup xs=>
  have z:=ai e
  cases z.2
  exact Qq h λvs h=>Qq h λn h=>k "tuple" vs n (.inr rfl) h.1 (h.2.length▸PT z.1:) λa n=>⟨vs,n,rfl,h.2.mono (P6 _ _)⟩
 |wtup ys=>
  cases e
  exact Qq h λvs h=>Qq h λn h=>k "tuple" vs n (.inr rfl) h.1 (az h.2▸PT hb.1:) λa n=>⟨vs,n,rfl,h.2⟩
 |_=>exact nn e
def uo(a:SV):XM SV:=cE a λl=>xrd l Gy λr=>lM r.1 r.2
theorem qz(a:SV):aj c F (rV a) (uo a) (λv=>PySem.call (.type "list") [v]) rV:=j0 a λl x=>At.rd λo r ho hr=>At.new λhb=>cc ho λO s m news ad ob p hσ f1 f3 q=>vO hr hb q λT vs n hT e hz k=>
 call_list_seq ad hT (e▸f3) rfl rfl (λh' c' hk hn=>p.made' hk (λb o e=>Qs e) hn (k _ c')) (cX hz)
noncomputable def GT:SO->Option (List Prop×SO)
 |.list xs=>QE ([Nat.ble xs.length 1000=QF], .tup xs)
 |.words ys=>QE ([Nat.ble ys.length 1000=QF], .wtup ys)
 |_=>QD
theorem yg{P:Params}{o:SO}{ob:Obj}{r:List Prop×SO}(e:GT o=QE r)(hb:bh r.1)(h:aP P O o ob){G:Prop}(k:∀(vs:List Value)n,ob=listOf vs.toArray n->vs.toArray.size<=1000->(∀a,aP P (O++[a]) r.2 { cls:= .type "tuple",data:= .seq vs.toArray 0 })->G):G:=by
 cases o with
 |list xs=>
  cases e
  exact Qq h λvs h=>Qq h λn h=>k vs n h.1 (h.2.length▸PT hb.1:) λa=>⟨vs,0,rfl,h.2.mono (P6 _ _)⟩
 |words ys=>
  cases e
  exact Qq h λvs h=>Qq h λn h=>k vs n h.1 (az h.2▸PT hb.1:) λa=>⟨vs,0,rfl,h.2⟩
 |_=>exact nn e
def Bl(a:SV):XM SV:=cE a λl=>xrd l GT λr=>lM r.1 r.2
theorem sI(a:SV):aj c F (rV a) (Bl a) (λv=>PySem.call (.type "tuple") [v]) rV:=j0 a λl x=>At.rd λo r ho hr=>At.new λhb=>cc ho λO s m news ad ob p hσ f1 f3 q=>yg hr hb q λvs n e hz k=>
 call_tuple_list (aW (e▸f3)) (λh' hk=>p.made' (λb o e=>Qr _ (hk b o e)) (λb o e=>Qs (hk b o e)) (Qu _ rfl) (k _)) (cX hz)
theorem jW(sl:Expr)(o i:Value):∃ops,subscripted sl QG o i=operate ops (getItem o i):=by
 unfold subscripted
 split
 .exact⟨_,rfl⟩
 .rename_i h;cases h
 .exact⟨_,rfl⟩
theorem jx{M:Model}{A:Around}{E:Value->Shared->Prop}{o i:Value}{sl:Expr}{T id:String}{Q:Value->Shared->Prop}(hT:s.TypeIs o T)(hl:typeLookup (.type T) "__getitem__"=pure (QE (.builtin id)))(hg:wpAny M A (getItem o i) Q E s):
  wpAny M A (getitemInPython o >>=λp=>subscripted sl p o i) Q E s:=by
 refine Qv ?_
 rw[getitemInPython_of_ne hT.not_modules]
 refine Qv (wpAny_specialOf hT hl ?_)
 obtain⟨ops,e⟩:=jW sl o i
 have fin:wpAny M A (subscripted sl QG o i) Q E s:=by rw[e];exact wpAny_operate' hg
 first
  |exact Qx fin
  |exact Qv (Qx fin)
  |exact fin
theorem gC:typeLookup (.type "list") "__getitem__"=pure (QE (.builtin "list.__getitem__")):=list_getitem_lookup
theorem vK:typeLookup (.type "dict") "__getitem__"=pure (QE (.builtin "dict.__getitem__")):=PySem.F.slot_dict_getitem.lookup
theorem zl:typeLookup (.type "str") "__getitem__"=pure (QE (.builtin "str.__getitem__")):=PySem.F.slot_str_getitem.lookup
noncomputable def inR(i:Int)(n:Nat):Bool:=decide (0<=i)&&(decide (i<n)&&Nat.ble n 1000)
theorem Jz{i:Int}{n:Nat}(h:inR i n=QF):0<=i/\i<n/\n<=1000:=by
 unfold inR at h
 rw[Qp,Qp]at h
 exact⟨of_decide_eq_true h.1,of_decide_eq_true h.2.1,PT h.2.2⟩
theorem gv{vs:List Value}{ys:List Str}(h:StrsAre vs ys){i:Nat}(hi:i<ys.length):∃t,vs[i]?=QE (.str (ys.getD i ⟨#[]⟩) t):=
 h.at ((P9 hi).trans (QJ QE ((List.getD_eq_getElem?_getD ..).trans (QJ (Option.getD · _) (P9 hi))).symm))
noncomputable def bx{α:Type}(l:List α)(lo hi:Option Int):List α:=(l.drop (kms_lo lo l.length)).take (kms_hi hi l.length-kms_lo lo l.length)
theorem oR{vs:List Value}{ys:List Str}(h:StrsAre vs ys)(k:Nat):StrsAre (vs.drop k) (ys.drop k):=dX (O:=[]) (List.map_drop▸LR.drop (cb h) k)
theorem nG{vs:List Value}{ys:List Str}(h:StrsAre vs ys)(k:Nat):StrsAre (vs.take k) (ys.take k):=dX (O:=[]) (List.map_take▸LR.take (cb h) k)
theorem au.pick{xs:List SV}{vs:List Value}(h:au O xs vs)(lo hi:Option Int):au O (bx xs lo hi) (bx vs lo hi):=by
 unfold bx;rw[h.length];exact LR.take (LR.drop h _) _
theorem iX{vs:List Value}{ys:List Str}(h:StrsAre vs ys)(lo hi:Option Int):StrsAre (bx vs lo hi) (bx ys lo hi):=by
 unfold bx;rw[az h];exact nG (oR h _) _
noncomputable def lI:SV->Option (Option Int)
 |.none=>QE QD
 |.int i=>QE (QE i)
 |_=>QD
theorem eu{a:SV}{o:Option Int}{v:Value}(e:lI a=QE o)(h:aA O a v):IsPart v o:=by
 cases a with
 |none=>cases e;rw[show v=_ from h];exact .none
 |int i=>cases e;obtain⟨t,rfl⟩:=h;exact .int i t
 |_=>cases e
def j4:SO->Option (Option Int×Option Int)
 |.fields T vs=>match vs with
  |[a,b,d]=>cond (decide (T="slice")) ((lI a).bind λlo=>(lI b).bind λhi=>(lI d).bind λst=>match st with
   |none=>QE (lo,hi)
   |some _=>QD) QD
  |_=>QD
 |_=>QD
theorem gg{P:Params}{x:SO}{o:Obj}{r:Option Int×Option Int}(e:j4 x=QE r)(h:aP P O x o){G:Prop}(k:∀vl vu,o={ cls:= .type "slice",data:= .fields #[vl,vu, .none] }->IsPart vl r.1->IsPart vu r.2->G):G:=by
 cases x with
 |fields T vs=>
  rcases vs with _|⟨a,_|⟨b,_|⟨d,_|⟨f,vs⟩⟩⟩⟩
  .exact nn e
  .exact nn e
  .exact nn e
  .obtain⟨us,rfl,v1,r1,rfl,g1,v2,r2,rfl,g2,v3,r3,rfl,g3,g4⟩:=h
   cases g4
   refine bK (ai e).2 λlo h1 q=>bK q λhi h2 q=>bK q λst h3 q=>?_
   cases st with
   |none=>cases q;cases eu h3 g3;exact k v1 v2 (of_decide_eq_true (ai e).1▸rfl) (eu h1 g1) (eu h2 g2)
   |some=>exact nn q
  .exact nn e
 |_=>exact nn e
theorem pF(x:Str)(lo hi:Option Int):(Builtin.Str.strSliceIndices lo hi 1 x.length).filterMap (x.cps[·]?)=bx x.cps.toList lo hi:=by
 have hb:=kms_bounds lo hi x.length
 have e:Builtin.Str.strSliceIndices lo hi 1 x.length=sliceRange (sliceBounds lo hi QD x.length).1 (sliceBounds lo hi QD x.length).2.1 1:=rfl
 rw[e,hb]
 show(sliceRange ((kms_lo lo x.length:Nat):Int) ((kms_hi hi x.length:Nat):Int) 1).filterMap (x.cps[·]?)=_
 rw[sliceRange_one,pick_run]
 unfold bx
 rw[show x.cps.toList.length=x.length by simp[Str.length]]
theorem yl(hi:Option Int)(n:Nat):kms_hi hi n<=n:=by
 unfold kms_hi
 cases hi with
 |none=>exact PX _
 |some y=>dsimp only;split<;>lia
theorem lW(x:Str)(lo hi:Option Int)(h:(Builtin.Str.strSliceIndices lo hi 1 x.length).length=x.length):bx x.cps.toList lo hi=x.cps.toList:=by
 have hb:=kms_bounds lo hi x.length
 have e:Builtin.Str.strSliceIndices lo hi 1 x.length=sliceRange (sliceBounds lo hi QD x.length).1 (sliceBounds lo hi QD x.length).2.1 1:=rfl
 rw[e,hb]at h
 have h':(sliceRange ((kms_lo lo x.length:Nat):Int) ((kms_hi hi x.length:Nat):Int) 1).length=x.length:=h
 rw[sliceRange_one,Qh,List.length_range]at h'
 have:=yl hi x.length
 have hl:x.cps.toList.length=x.length:=by simp[Str.length]
 unfold bx
 rw[hl]
 rcases Nat.eq_zero_or_pos x.length with q|q
 .have:x.cps.toList=[]:=List.eq_nil_of_length_eq_zero (by rw[hl,q])
  rw[this];simp
 .have h0:kms_lo lo x.length=0:=by lia
  rw[h0,List.drop_zero,List.take_of_length_le (by rw[hl];lia)]
theorem lB{v:Value}{o:Option Int}(h:IsPart v o):∃l:Option (Int×Tok),v=partValue l/\l.map (·.1)=o:=by
 cases h with
 |none=>exact⟨QD,rfl,rfl⟩
 |int i t=>exact⟨QE (i,t),rfl,rfl⟩
theorem Kf{α β:Type}(f:α->β)(l:List α)(lo hi:Option Int):bx (l.map f) lo hi=(bx l lo hi).map f:=by
 unfold bx
 rw[Qh,<-List.map_drop,<-List.map_take]
theorem xW{α:Type}(l:List α):bx l QD QD=l:=by
 unfold bx
 simp[kms_lo,kms_hi]
theorem sH{α:Type}(a:α)(l:List α):bx (a::l) (QE 1) QD=l:=by
 unfold bx
 have h1:kms_lo (QE 1) (a::l).length=1:=by simp[kms_lo]
 have h2:kms_hi QD (a::l).length=(a::l).length:=by simp[kms_hi]
 rw[h1,h2]
 simp
noncomputable def sm(xs:List SV)(i:Int):Option SV:=match Nat.ble xs.length 1000 with
 |true=>match i with
  |.ofNat k=>xs[k]?
  |.negSucc k=>match Nat.ble (k+1) xs.length with
   |true=>xs[xs.length-(k+1)]?
   |false=>QD
 |false=>QD
def C0(vs:List Value)(i:Int)(v:Value):Prop:=vs.length<=1000/\((0<=i/\vs[i.toNat]?=QE v)\/(i<0/\-(vs.length:Int)<=i/\vs[(i+vs.length).toNat]?=QE v))
theorem vV{prog:Program}{w:World}{A:Around}{ad:Addr}{vs:List Value}{i:Int}{t:Tok}{v:Value}{Q:Value->Shared->Prop}{E:Value->Shared->Prop}{sl:Expr}(hl:s.heap.IsList ad vs.toArray)(h:C0 vs i v)(hq:Q v s):
  wpAny (model prog w) A (getitemInPython (.ref ad) >>=λp=>subscripted sl p (.ref ad) (.int i t)) Q E s:=by
 obtain⟨hz,⟨h0,h1⟩|⟨h0,h1,h2⟩⟩:=h
 .have hk:i.toNat<vs.length:=(P7.mp h1).1
  exact jx hl.typeIs gC (wpAny_getItem_list hl h0 (by lia) (List.getElem?_toArray.trans h1) hq)
 .exact jx hl.typeIs gC (wpAny_getItem_list_neg hl h0 h1 (by lia) (List.getElem?_toArray.trans h2) hq)
theorem um{vs:List Value}{ys:List Str}{i:Int}(y:StrsAre vs ys)(h:inR i ys.length=QF){G:Prop}(k:∀v,C0 vs i v->(∃t,v= .str (ys.getD i.toNat ⟨#[]⟩) t)->G):G:=by
 have z:=Jz h
 have e1:=az y
 exact Qq (gv y (i:=i.toNat) (by lia)) λt ht=>k _ ⟨by lia, .inl ⟨z.1,ht⟩⟩ ⟨t,rfl⟩
theorem Ej{vs:List Value}{xs:List SV}{i:Int}{sv:SV}(y:au O xs vs)(h:sm xs i=QE sv){G:Prop}(k:∀v,C0 vs i v->aA O sv v->G):G:=by
 have e1:=y.length
 unfold sm at h
 cases hb:Nat.ble xs.length 1000 with
 |false=>rw[hb]at h;exact nn h
 |true=>
  have hb':=PT hb
  rw[hb]at h
  cases i with
  |ofNat n=>exact Qq (y.get h) λv hv=>k v ⟨e1▸hb', .inl ⟨Int.natCast_nonneg n,hv.1⟩⟩ hv.2
  |negSucc n=>
   dsimp only at h
   cases hk:Nat.ble (n+1) xs.length with
   |false=>rw[hk]at h;exact nn h
   |true=>
    have hk':=PT hk
    rw[hk]at h
    exact Qq (y.get h) λv hv=>k v ⟨e1▸hb', .inr ⟨Int.negSucc_lt_zero n,by lia,(show(Int.negSucc n+(vs.length:Int)).toNat=xs.length-(n+1) by lia)▸hv.1⟩⟩ hv.2
def ixL(i:Int)(xs:List SV):Option (List Prop×SV):=match fF xs with
 |some ys=>match ys with
  |[]=>QD
  |y::r=>QE ([inR i (y::r).length=QF], .str ((y::r).getD i.toNat ⟨#[]⟩))
 |none=>(sm xs i).map (Prod.mk [])
def K4(i:Int):SO->Option (List Prop×SV)
 |.words ys=>QE ([inR i ys.length=QF], .str (ys.getD i.toNat ⟨#[]⟩))
 |.list xs=>ixL i xs
 |_=>QD
theorem Bz{P:Params}{o:SO}{ob:Obj}{i:Int}{r:List Prop×SV}(e:K4 i o=QE r)(hb:bh r.1)(h:aP P O o ob){G:Prop}(k:∀vs n v,ob=listOf vs.toArray n->C0 vs i v->aA O r.2 v->G):G:=by
 cases o with
 |words ys=>cases e;exact Qq h λvs h=>Qq h λn h=>um h.2 hb.1 λv=>k vs n v h.1
 |list xs=>
  have e:ixL i xs=QE r:=e
  unfold ixL at e
  cases hs:fF xs with
  |some ys=>
   rw[hs]at e
   cases ys with
   |nil=>exact nn e
   |cons y l=>cases e;exact Qq h λvs h=>Qq h λn h=>um (eC hs h.2) hb.1 λv=>k vs n v h.1
  |none=>
   rw[hs]at e
   exact Qq (Qm.mp e) λsv q=>Qq h λvs h=>Qq h λn h=>Ej h.2 q.1 λv a b=>k vs n v h.1 a (q.2▸b)
 |_=>exact nn e
def GN(l:Nat)(i:Int):XM SV:=xrd l (K4 i) λr=>cI r.1 r.2
theorem wZ(sl:Expr)(l:Nat)(i:Int):aj c F (P2 (.ref l) (.int i)) (GN l i) (λv=>getitemInPython v.1 >>=λp=>subscripted sl p v.1 v.2) rV:=λx=>At.rd λo r ho hr=>At.say λhb=>iI ho λO s m news ad ob v p hσ f1 f3 q⟨t,hv⟩=>
 Bz hr hb q λvs n u e hi hu=>hv▸vV (aW (e▸f3)) hi (p.now hu)
def kj(lo hi:Option Int)(ys:List Str):List Prop×SO:=match lo,hi with
 |none,QD=>([Nat.ble ys.length 1000=QF], .words ys)
 |some (.ofNat 1),QD=>(match ys with
  |_::r=>([Nat.ble (r.length+1) 1000=QF], .words r)
  |[]=>([Nat.ble 0 1000=QF], .words []))
 |lo,hi=>([Nat.ble ys.length 1000=QF], .words (bx ys lo hi))
theorem qS(lo hi:Option Int)(ys:List Str):kj lo hi ys=([Nat.ble ys.length 1000=QF], .words (bx ys lo hi)):=by
 unfold kj
 split
 .rw[xW]
 .cases ys with
  |nil=>rfl
  |cons y r=>rw[show bx (y::r) (QE (Int.ofNat 1)) QD=r from sH y r];rfl
 .rfl
def GE(lo hi:Option Int):SO->Option (List Prop×SO)
 |.words ys=>QE (kj lo hi ys)
 |.list xs=>cond (Nat.ble xs.length 1000) (match fF xs with
  |some ys=>QE ([], .words (bx ys lo hi))
  |none=>QE ([], .list (bx xs lo hi))) QD
 |_=>QD
theorem v8{P:Params}{o:SO}{ob:Obj}{lo hi:Option Int}{r:List Prop×SO}(e:GE lo hi o=QE r)(hb:bh r.1)(h:aP P O o ob){G:Prop}(k:∀vs n,ob=listOf vs.toArray n->vs.toArray.size<=1000->(∀a,aP P (O++[a]) r.2 (listOf (bx vs lo hi).toArray 0))->G):G:=by
 cases o with
 |words ys=>
  have e:=(qS lo hi ys).symm.trans (QH e)
  cases e
  exact Qq h λvs h=>Qq h λn h=>k vs n h.1 (az h.2▸PT hb.1:) λa=>⟨_,0,rfl,iX h.2 lo hi⟩
 |list xs=>
  have z:=ai e
  have z2:=z.2
  refine Qq h λvs h=>Qq h λn h=>k vs n h.1 (h.2.length▸PT z.1:) λa=>?_
  cases hs:fF xs with
  |some ys=>rw[hs]at z2;cases z2;exact⟨_,0,rfl,iX (eC hs h.2) lo hi⟩
  |none=>rw[hs]at z2;cases z2;exact⟨_,0,rfl,(h.2.pick lo hi).mono (P6 _ _)⟩
 |_=>exact nn e
def Gr(l q:Nat):XM SV:=xrd q j4 λr=>xrd l (GE r.1 r.2) λt=>lM t.1 t.2
theorem xt(sl:Expr)(l q:Nat):aj c F (P2 (.ref l) (.ref q)) (Gr l q) (λv=>getitemInPython v.1 >>=λp=>subscripted sl p v.1 v.2) rV:=λx=>At.rd λso r hq hr=>At.rd λo t ho ht=>At.new λhb=>iI ho λO s m news ad ob v p hσ f1 f3 z⟨a2,h2,hv⟩=>
 hv▸p.objAt hq h2 λos g1 g3 g4=>gg hr g4 λvl vu e pl pu=>v8 ht hb z λvs n e' hz k=>
  jx (aW (e'▸f3)).typeIs gC (wpAny_getItem_list_slice (aW (e'▸f3)) ⟨_,e▸g3,rfl,rfl⟩ pl pu .none (by simp) (p.made' (λb o e=>Qr _ e) (λb o e=>Qs e) (Qu _ rfl) (kms_pick_eq vs.toArray r.1 r.2▸k _)) (cX hz))
theorem Ce(y:Str)(lo hi:Option Int):(bx y.cps.toList lo hi).length<=y.cps.toList.length:=PW (List.length_take_le' _ _) (List.length_drop▸Nat.sub_le _ _)
theorem mu{prog:Program}{w:World}{A:Around}{E:Value->Shared->Prop}{y:Str}{t:Tok}{a:Addr}{vl vu:Value}{lo hi:Option Int}{Q:Value->Shared->Prop}{sl:Expr}(hs:s.heap.get? a=QE { cls:= .type "slice",data:= .fields #[vl,vu, .none] })(pl:IsPart vl lo)(pu:IsPart vu hi)(hb:y.cps.toList.length<=1000000)
  (hq:∀u tk,s.toks<=tk->Q (.str ⟨(bx y.cps.toList lo hi).toArray⟩ u) { s with toks:=tk }):wpAny (model prog w) A (getitemInPython (.str y t) >>=λp=>subscripted sl p (.str y t) (.ref a)) Q E s:=by
 obtain⟨l,rfl,hl⟩:=lB pl
 obtain⟨u,rfl,hu⟩:=lB pu
 refine jx (typeIs_str s y t) zl (wpAny_getItem_str_slice (l:=l) (u:=u) (st:=QD) ⟨_,hs,rfl,rfl⟩ rfl ?_)
 have hpk:slicePicked y l u QD=Builtin.Str.strSliceIndices lo hi 1 y.length:=by unfold slicePicked;rw[hl,hu];rfl
 unfold sliceMade
 rw[hpk]
 split
 .rename_i hfull
  have h:=hq t s.toks (PX _)
  rw[lW y lo hi (by rw[Qp]at hfull;simpa using hfull.2)]at h
  exact h
 .refine⟨?_,?_⟩
  .rw[pF,sizeLine_eq]
   show(bx y.cps.toList lo hi).toArray.size<=_
   rw[List.size_toArray]
   have:=Ce y lo hi
   lia
  .rw[pF];exact hq _ _ (by lia)
def Gz(y:Str)(q:Nat):XM SV:=xrd q j4 λr=>xif (Nat.ble y.cps.toList.length 1000000) (cI [] (.str ⟨(bx y.cps.toList r.1 r.2).toArray⟩))
theorem wo(sl:Expr)(y:Str)(q:Nat):aj c F (P2 (.str y) (.ref q)) (Gz y q) (λv=>getitemInPython v.1 >>=λp=>subscripted sl p v.1 v.2) rV:=λx=>At.rd λso r hq hr=>At.bif λhb=>At.say λ_ O s m news g p⟨⟨t,h1⟩,a2,h2,hv⟩=>by
 obtain⟨g1,g2⟩:=g
 cases h1;cases hv
 exact p.objAt hq h2 λos g1 g3 g4=>gg hr g4 λvl vu e pl pu=>mu (e▸g3) pl pu (PT hb) λu tk h=>(p.toks tk h).now ⟨u,rfl⟩
def G0(a b:SV):XM SV:=match b with
 |.int i=>cE a λl=>GN l i
 |.ref q=>(match a with
  |.ref l=>Gr l q
  |.str y=>Gz y q
  |_=>ar)
 |_=>ar
theorem yj(sl:Expr)(a b:SV):aj c F (P2 a b) (G0 a b) (λv=>getitemInPython v.1 >>=λp=>subscripted sl p v.1 v.2) rV:=by
 cases b with
 |int i=>exact nN a λl=>wZ sl l i
 |ref q=>
  cases a with
  |ref l=>exact xt sl l q
  |str y=>exact wo sl y q
  |_=>exact aX
 |_=>exact aX
section
noncomputable def sy(n:Str):List (Str×SV)->Bool
 |[]=>QF
 |p::r=>cond (aQ p.1 n) QG (sy n r)
noncomputable def dr:List (Str×SV)->Bool
 |[]=>QF
 |p::r=>cond (sy p.1 r) (dr r) QG
theorem pM{a b:Bool}(h:cond a QG b=QF):a=QG/\b=QF:=by
 cases a with
 |true=>exact ff h
 |false=>exact⟨rfl,h⟩
theorem rA{a b:Bool}(h:cond a b QG=QF):a=QF/\b=QF:=by
 cases a with
 |true=>exact⟨rfl,h⟩
 |false=>exact ff h
theorem xT{n:Str}{fs:List (Str×SV)}:sy n fs=QF->n∉fs.map (·.1):=by
 induction fs with
 |nil=>exactλ_=>Qi
 |cons p r ih=>exactλh m=>(Qb.mp m).elim (λq=>ff ((pM h).1.symm.trans (aM.mpr q.symm))) (ih (pM h).2)
theorem gK{fs:List (Str×SV)}:dr fs=QF->(fs.map (·.1)).Nodup:=by
 induction fs with
 |nil=>exactλ_=>List.nodup_nil
 |cons p r ih=>exactλh=>Ql.mpr ⟨xT (rA h).1,ih (rA h).2⟩
variable{prog:Program}{w:World}
theorem i7(x:Str)(t:Tok):(strKind prog w).is x (.str x t)=QF:=strKind_is prog w x t
theorem bC.pairs{fs:List (Str×SV)}:∀{es:List DictEntry},bC w.params O fs es->∃kvs:List (Str×Value),Pairs (strKind prog w) es kvs/\KeysOf (strKind prog w) es.toArray/\kvs.map (·.1)=fs.map (·.1)/\bP O fs kvs:=by
 induction fs with
 |nil=>exactλh=>Eq.symm h▸⟨[], .nil,(λe he=>absurd (List.mem_toArray.mp he) Qi),rfl,rfl⟩
 |cons f fs ih=>exactλh=>h.elim λt v r h1 h2=>Qq (ih h2) λkvs g=>⟨(f.1,v)::kvs, .cons (i7 f.1 t) rfl g.1,
   λe he=>(Qb.mp (List.mem_toArray.mp he)).elim (λq=>⟨f.1,q▸i7 f.1 t,q▸rfl⟩) λhe=>g.2.1 e (List.mem_toArray.mpr he),QJ (f.1:: ·) g.2.2.1,v,kvs,rfl,h1,g.2.2.2⟩
theorem kQ{es:List DictEntry}{kvs:List (Str×Value)}(hp:Pairs (strKind prog w) es kvs):∀{fs:List (Str×SV)},(∀e∈es,∃k,(strKind prog w).is k e.key=QF/\e.hash=(strKind prog w).hash k)->bP O fs kvs->bC w.params O fs es:=by
 induction hp with
 |nil=>
  intro fs _ h
  cases fs with
  |nil=>exact rfl
  |cons f fs=>exact Qq h λv z=>Qq z λl z=>nomatch z.1
 | @cons e kv es kvs h1 h2 h3 ih=>
  intro fs hk h
  cases fs with
  |nil=>exact nomatch (show kv::kvs=[]from h)
  |cons f fs=>
   refine Qq h λv z=>Qq z λl z=>Qq (hk e (.head _)) λk q=>Qq (Value.isStrOf_shape h1) λt w=>?_
   cases z.1
   obtain⟨hs,ky,vl⟩:=e
   cases w
   cases h2
   have hkk:f.1=k:=beq_iff_eq.mp (show(f.1==k)=QF from q.1)
   exact⟨t,v,es,by rw[hkk];exact QJ (·::es) (QJ (λi=>(⟨i, .str k t,v⟩:DictEntry)) q.2),z.2.1,ih (λe he=>hk e (.tail _ he)) z.2.2⟩
theorem kA(kvs:List (Str×Value))(k:Str):valueAt kvs k=kvs.lookup k:=by
 induction kvs with
 |nil=>rfl
 |cons p r ih=>
  unfold valueAt at ih ⊢
  rw[List.find?_cons]
  cases h:(k==p.1)with
  |true=>rw[cA h,decide_eq_true (eq_of_beq h).symm];rfl
  |false=>rw[bS h,<-ih,decide_eq_false λq=>ne_of_beq_false h q.symm]
theorem bP.lookO{b:List (Str×SV)}:∀{bv:List (Str×Value)},bP O b bv->∀x,cD O (b.lookup x) (bv.lookup x):=by
 induction b with
 |nil=>exactλh x=>Eq.symm h▸rfl
 |cons p r ih=>
  refineλh x=>h.elim λv l h1 h2=>?_
  cases q:(x==p.1)with
  |true=>rw[cA q,cA (p:=(p.1,v)) q];exact⟨v,rfl,h1⟩
  |false=>rw[bS q,bS (p:=(p.1,v)) q];exact ih h2 x
theorem bP.keys{b:List (Str×SV)}:∀{bv:List (Str×Value)},bP O b bv->bv.map (·.1)=b.map (·.1):=by
 induction b with
 |nil=>exactλh=>Eq.symm h▸rfl
 |cons p r ih=>exactλh=>h.elim λv l h1 h2=>QJ (p.1:: ·) (ih h2)
theorem bP.setF_{n:Str}{sv:SV}{v:Value}(hv:aA O sv v){b:List (Str×SV)}:∀{bv:List (Str×Value)},bP O b bv->bP O (setF n sv b) (setF n v bv):=by
 induction b with
 |nil=>exactλh=>Eq.symm h▸⟨v,[],rfl,hv,rfl⟩
 |cons p r ih=>
  refineλh=>h.elim λu l h1 h2=>?_
  show bP O (cond (aQ p.1 n) ((p.1,sv)::r) (p::Mine.setF n sv r)) (cond (aQ p.1 n) ((p.1,v)::l) ((p.1,u)::Mine.setF n v l))
  cases aQ p.1 n with
  |true=>exact⟨v,l,rfl,hv,h2⟩
  |false=>exact⟨u,_,rfl,h1,ih h2⟩
theorem bP.look1{fs:List (Str×SV)}{kvs:List (Str×Value)}(h:bP O fs kvs)(k:Str):cD O (dE k fs) (valueAt kvs k):=by
 rw[qN,kA];exact h.lookO k
theorem CL{β:Type}(n:Str)(v:β){fs:List (Str×β)}:(fs.map (·.1)).Nodup->setF n v fs=if fs.any (λkv=>kv.1=n)then fs.map (λkv=>if kv.1=n then(kv.1,v)else kv)else fs++[(n,v)]:=by
 induction fs with
 |nil=>exactλ_=>rfl
 |cons p r ih=>
  intro hn
  have hn:=Ql.mp hn
  show cond (aQ p.1 n) ((p.1,v)::r) (p::setF n v r)=_
  rw[List.any_cons,List.map_cons]
  cases hq:aQ p.1 n with
  |true=>
   have e:=aM.mp hq
   have hr:r.map (λkv=>if kv.1=n then(kv.1,v)else kv)=r:=(List.map_congr_left (g:=id) λ(kv:Str×β)(hkv:kv∈r)=>if_neg λ(q:kv.1=n)=>hn.1 (Qe.mpr ⟨kv,hkv,q.trans e.symm⟩)).trans (List.map_id r)
   rw[decide_eq_true e,if_pos e,hr]
   rfl
  |false=>
   have e:p.1≠n:=λq=>ff (hq.symm.trans (aM.mpr q))
   rw[decide_eq_false e,if_neg e,Bool.false_or]
   refine(QJ (p:: ·) (ih hn.2)).trans ?_
   cases r.any (λkv=>kv.1=n)<;>rfl
theorem bP.stored{n:Str}{sv:SV}{v:Value}(hv:aA O sv v){fs:List (Str×SV)}{kvs:List (Str×Value)}(hn:(fs.map (·.1)).Nodup)(h:bP O fs kvs):bP O (setF n sv fs) (stored kvs n v):=
 (show Mine.setF n v kvs=PySem.stored kvs n v from CL n v (h.keys▸hn))▸bP.setF_ hv h
theorem Er(H:CxW c F)(p:Pre c F O S s m news){k:Nat}{a:Addr}{ob:Obj}(g1:news[k]?=QE (a,ob)):(a==sysModules)=QG:=by
 cases q:(a==sysModules)with
 |false=>rfl
 |true=>exact Qq (p.sysm H) λo ho=>nn ((p.rep.nw _ (p.rep.mem g1)).2.2.symm.trans ((QJ m.g.get? (eq_of_beq q)).trans ho))
theorem Pre.dic(p:Pre c F O S s m news)(H:CxW c F){k:Nat}{o:SO}{a:Addr}{fs:List (Str×SV)}(hk:S.led[k]?=QE o)(hf:t7 o=QE fs)(hn:dr fs=QF)(hσ:O[k]?=QE a){G:Prop}
  (g:∀ob kvs,news[k]?=QE (a,ob)->s.heap.DictOf (strKind c.pr c.w) a kvs->bP O fs kvs->kvs.length=fs.length->(a==sysModules)=QG->G):G:=p.objAt hk hσ λob g1 g3 g4=>gy hf g4 λes n e z=>by
 obtain⟨kvs,h1,h2,h3,h4⟩:=z.pairs (prog:=c.pr) (w:=c.w)
 exact g ob kvs g1 ⟨_,es.toArray,n,e▸g3,⟨rfl,rfl,rfl⟩,rfl,h2,h1,h3▸gK hn⟩ h4 (by simpa using QJ List.length h3) (Er H p g1)
theorem oH{fs:List (Str×SV)}{kvs:List (Str×Value)}(h:bP O fs kvs)(k:Str):aA O ((dE k fs).getD .none) ((valueAt kvs k).getD .none)/\(valueAt kvs k).isSome=(dE k fs).isSome:=by
 have hv:=h.look1 k
 cases hl:dE k fs with
 |none=>rw[hl]at hv;rw[show valueAt kvs k=QD from hv];exact⟨rfl,rfl⟩
 |some sv=>rw[hl]at hv;exact Qq hv λu hu=>hu.1▸⟨hu.2,rfl⟩
def Hb(d:Nat)(k:Str):XM SV:=xrd d lY λfs=>xif (dr fs) (cI [] ((dE k fs).getD .none))
theorem wg(H:CxW c F){d:Nat}{k:Str}:aj c F (P2 (.ref d) (.str k)) (Hb d k) (λg=>PySem.call (.builtin "dict.get") [g.1,g.2]) rV:=λx=>At.rd λo fs ho hf=>At.bif λhn=>At.say λ_=>uV λO s m news ad t p hσ=>p.dic H ho (eE hf) hn hσ λob kvs f2 f3 f4 f5 f6=>
 call_meetsIn PySem.F.slot_dict_get f3.mapOf.typeIs PySem.F.entry_dict_get (PySem.F.args_dict_get_2 _ _) (meets_dict_get (strKind c.pr c.w) ad (strKind_is _ _ k t) f6) ⟨_,f3.mapOf,(p.toks _).now (oH f4 k).1⟩
end
def BK(a b:SV):XM SV:=cE a λd=>jz b λk=>xrd d t7 λfs=>xif (dr fs) (xob (dE k fs) (cI []))
theorem sL(H:CxW c F)(sl:Expr)(a b:SV):aj c F (P2 a b) (BK a b) (λv=>getitemInPython v.1 >>=λp=>subscripted sl p v.1 v.2) rV:=nN a λd=>Jy b λk x=>At.rd λo fs ho hf=>At.bif λhn=>At.ob λv hl=>At.say λ_=>uV λO s m news ad t p hσ=>
 p.dic H ho hf hn hσ λob kvs f2 f3 f4 f5 f6=>Qq (hl▸f4.look1 k:cD O (QE v) (valueAt kvs k)) λu e=>jx f3.mapOf.typeIs vK (wpAny_getItem_of (strKind_is _ _ k t) f3.mapOf e.1 ((p.toks _).now e.2))
def L8(op:CmpOp)(a b:SV):XM SV:=match op with
 |.In=>jz a λk=>cE b λd=>xrd d lY λfs=>xif (dr fs) (cI [] (.bool (dE k fs).isSome))
 |_=>ar
theorem A0(H:CxW c F)(op:CmpOp)(a b:SV):aj c F (P2 a b) (L8 op a b) (λv=>compareOp op v.1 v.2) rV:=by
 cases op with
 |In=>
  exact Ex a λk=>w8 b λd x=>At.rd λo fs ho hf=>At.bif λhn=>At.say λ_=>qC λO s m news ad t p hσ=>p.dic H ho (eE hf) hn hσ λob kvs f2 f3 f4 f5 f6=>
   wpAny_in_of (strKind_is _ _ k t) f6 f3.mapOf ((p.toks _).now (QJ Value.bool (oH f4 k).2))
 |_=>exact aX
theorem qQ{o:Obj}{es:Array DictEntry}{ep:Nat}(h:o.cls= .type "dict"/\o.dict=QD/\o.slots=#[])(q:o.data= .dict es ep):o=dictOf es.toList ep:=by
 obtain⟨oc,od,odt,osl⟩:=o
 obtain⟨r1,r2,r3⟩:=h
 cases r1;cases r2;cases r3;cases q
 rfl
def Gl(a b v:SV):XM Unit:=cE a λd=>jz b λk=>xrd d lY λfs=>xif (dr fs) (xif (Nat.ble fs.length 1000) (xwr [] d (.ns (setF k v fs)) ()))
theorem ym(H:CxW c F)(a b v:SV):aj c F (P3 a b v) (Gl a b v) (λg=>setItem g.1 g.2.1 g.2.2) rU:=aj.ref (J:=λa=>P3 a b v) a λd=>aj.str (J:=λb=>P3 (.ref d) b v) b λk x=>At.rd λo fs ho hf=>At.bif λhn=>At.bif λhz=>At.wr λ_ O s m news g p hg=>by
 obtain⟨g1,g2,g3⟩:=g
 obtain⟨⟨ad,hσ,h1⟩,⟨t,h2⟩,hv⟩:=hg
 cases h1;cases h2
 refine p.dic H ho (eE hf) hn hσ λob kvs f2 f3 f4 f5 f6=>wpAny_setItem_pairs (strKind_is _ _ k t) f3 (λh' hd hs=>?_) (f5▸cX (PT hz))
 obtain⟨o',es',ep',q1,q2,q3,q4,q5,q6⟩:=hd
 cases qQ q2 q3
 exact⟨O,m,_,P5 _,p.heap (P5 _) (p.rep.same f2 hs q1 ⟨_,_,rfl,kQ (prog:=c.pr) (w:=c.w) q5 (λe he=>q4 e (by simpa using he)) (f4.stored hv (gK hn))⟩),QI⟩
def Gm(a b:SV):XM SV:=bQ (BK a b) (G0 a b)
theorem xU(H:CxW c F)(sl:Expr)(a b:SV):aj c F (P2 a b) (Gm a b) (λv=>getitemInPython v.1 >>=λp=>subscripted sl p v.1 v.2) rV:=aO (sL H sl a b) (yj sl a b)
def NU(op:CmpOp)(a b:SV):XM SV:=bQ (bQ (MD op a b) (L8 op a b)) (bQ (inX op a b) (isX op a b))
theorem BO(H:CxW c F)(op:CmpOp)(a b:SV):aj c F (P2 a b) (NU op a b) (λv=>compareOp op v.1 v.2) rV:=aO (aO (zI op a b) (A0 H op a b)) (aO (EV op a b) (D8 op a b))
noncomputable def jm:XF->Bool
 |.next=>QF
 |.cont=>QF
 |_=>QG
noncomputable def Dy:XF->XF
 |.ret u=> .ret u
 |_=> .next
def flK(go:Prop)(stop:Flow->Prop)(f:Flow):Prop:=match f with
 |.next=>go
 |.cont=>go
 |.brk=>stop .next
 |.ret v=>stop (.ret v)
section
variable{as:List SV}{K:List Value->(Flow->Shared->Prop)->Shared->Prop}
theorem tU{f:XF}{v:Flow}(h:jm f=QF)(r:rF f O v){go:Prop}{stop:Flow->Prop}(g:go):flK go stop v:=by
 cases f with
 |next=>exact Eq.symm r▸g
 |cont=>exact Eq.symm r▸g
 |_=>exact ff h
theorem u9{f:XF}{v:Flow}(h:jm f=QG)(r:rF f O v){go:Prop}{stop:Flow->Prop}(g:∀u,rF (Dy f) O u->stop u):flK go stop v:=by
 cases f with
 |brk=>exact Eq.symm r▸g _ rfl
 |ret u=>exact Qq r λw z=>z.1.symm▸g _ ⟨w,rfl,z.2⟩
 |_=>exact Bool.noConfusion h
theorem Snd.bdF{m:XM XF}{go:XM XF}{t:Sem Flow}(h1:Snd c F m t rF)(h2:bA c F as go K rF):bA c F as (ag m λf=>cond (jm f) go (aH (Dy f))) (λvs Q s=>wpAny c.M c.A t (λv s1=>flK (K vs Q s1) (λf=>Q f s1) v) NoE s) rF:=λx b x' h hc=>aZ h λf x1 e1 e2=>by
 cases hg:jm f with
 |true=>
  rw[hg]at e2
  have z:=h2 x1 b x' e2 hc
  have y:=h1 x f x1 e1 z.1
  exact⟨y.1,λO s mm n vs p hv Q k=>go_ (y.2 O s mm n p) λO1 m1 n1 v s1 p1 q1 r1=>tU hg r1 (z.2 O1 s1 m1 n1 vs q1 (hv.mono p1) Q λO2 m2 n2 u s2 p2=>k O2 m2 n2 u s2 (p1.trans p2))⟩
 |false=>
  rw[hg]at e2
  cases bf e2
  have y:=h1 x f x' e1 hc
  exact⟨y.1,λO s mm n vs p hv Q k=>go_ (y.2 O s mm n p) λO1 m1 n1 v s1 p1 q1 r1=>u9 hg r1 λu hu=>k O1 m1 n1 u s1 p1 q1 hu⟩
noncomputable def nO(ts:XM Bool)(body orelse:XM XF):Nat->XM XF
 |0=>ar
 |n+1=>ag ts λb=>cond b (ag body λf=>cond (jm f) (nO ts body orelse n) (aH (Dy f))) orelse
theorem fJ{M:Program}{w:World}{A:Around}{env:Env}{test:Expr}{body orelse:List Stmt}{Q:Flow->Shared->Prop}(h:wpAny (model M w) A (isTrue test env (eval test env)) (λb s2=>cond b (wpAny (model M w) A (execs body env) (λf s3=>flK (WhlRest M w A NoE env test body orelse Q 0 s3) (λf=>Q f s3) f) NoE s2) (wpAny (model M w) A (execs orelse env) Q NoE s2)) NoE s):WhlRest M w A NoE env test body orelse Q 0 s:=
 whl_turn (k:=0) PassesOwn.never (Qw h (λb s2 z=>by
  cases b with
  |false=>exact WhlIf.no rfl z
  |true=>exact WhlIf.yes rfl (Qw z (λf s3 y=>by cases f<;>exact y) λ_ _ e=>e)) λ_ _ e=>e)
theorem tN{ts:XM Bool}{bd oe:XM XF}{test:Expr}{body orelse:List Stmt}(ht:Snd c F ts (isTrue test c.env (eval test c.env)) rB)(hb:Snd c F bd (execs body c.env) rF)(ho:Snd c F oe (execs orelse c.env) rF)(n:Nat):
  bA c F [] (nO ts bd oe n) (λ_ Q s=>WhlRest c.pr c.w c.A NoE c.env test body orelse Q 0 s) rF:=by
 induction n with
 |zero=>exact bA.fail
 |succ n ih=>exact(ht.bdB λb=>bA.cnd (λ_=>hb.bdF ih) λ_=>ho.fin).to λvs Q s h=>fJ h
theorem vT{ts:XM Bool}{bd oe:XM XF}{test:Expr}{body orelse:List Stmt}{pos:Pos}(ht:Snd c F ts (isTrue test c.env (eval test c.env)) rB)(hb:Snd c F bd (execs body c.env) rF)(ho:Snd c F oe (execs orelse c.env) rF)(n:Nat):
  Snd c F (nO ts bd oe n) (exec (.While test body orelse pos) c.env) rF:=(tN ht hb ho n).snd λs Q h=>whl_start 0 h
end
open Sem (wp)
section
variable{prog:Program}{w:World}{A A':Around}{E:Value->Shared->Prop}
theorem fB{α:Type}{P:α->Shared->Prop}{Q:Option Value->Shared->Prop}(hh:A'.handled=QD)(h:∀h',(∀b o,s.heap.get? b=QE o->h'.get? b=QE o)->Q QD { s with heap:=h' }):
  wpAny (model prog w) A' (Builtin.SmallTypes.stopIteration:Sem α) P (λe s'=>wpAny (model prog w) A (do
   let b<-isInstance e (.type "StopIteration")
   if b=QF then pure QD else throw e) Q E s') s:=by
 unfold Builtin.SmallTypes.stopIteration
 refine Qv ?_
 unfold newExc newTuple
 refine Qv (wpAny_newObj_type ?_ (by size_fits))
 refine Qv (m:=firstArgMember _ _) (Qz (a:=Value.none) (by first|rfl|(simp only[firstArgMember];rfl)) ?_)
 refine wpAny_newObj_type ?_ (by size_fits)
 unfold raiseNew
 refine Qv (wpAny_handled ?_)
 rw[hh]
 refine Qv (Qx (wpAny_throw ?_))
 refine Qv (wpAny_isInstance (T:="StopIteration") (b:=QF) ⟨_,Qu _ rfl,rfl⟩ isSubtype_stop ?_)
 exact Qx (h _ λb o e=>Qr _ (Qr _ e))
theorem BP{it l:Addr}{i:Nat}{items:Array Value}{Q:Option Value->Shared->Prop}(hh:A.handled=QD)(hit:s.heap.IsListIter it l i)(hl:s.heap.IsList l items)(hx:items[i]?=QD)
  (hQ:∀h' o',Heap.ExtBut it s.heap h'->h'.get? it=QE o'->Q QD { s with heap:=h' }):wpAny (model prog w) A (pyNext (.ref it)) Q E s:=by
 obtain⟨o,ho,hc,hd⟩:=id hit
 obtain⟨ol,hol,_,nl,hdl⟩:=id hl
 unfold pyNext
 refine Qv (wpAny_attempt (wpAny_callSpecial?_slot (name:=QC "__next__") hit.typeIs slot_listiter_next
  (wpAny_call_entry slot_listiter_next hit.typeIs entry_listiter_next ?_ (args_listiter_next _))))
 refine Qv (m:=field (.ref it) 0) (wpAny_field ho hd (x:= .ref l) rfl ?_)
 show wpAny _ _ (if(Value.ref l==Value.none)=QF then _ else _) _ _ s
 rw[if_neg (show¬((Value.ref l==Value.none)=QF)from Bool.false_ne_true)]
 refine Qv (m:=field (.ref it) 1) (wpAny_field ho hd (x:= .int i 0) rfl ?_)
 refine Qv (m:=seqItems? (.ref l)) (wpAny_seqItems hol hdl ?_)
 dsimp only
 rw[show items[((i:Nat):Int).toNat]?=QD from hx]
 dsimp only
 refine Qv (wpAny_rule (Qv (wpAny_setField ho hd (by simp) (fB (A':=A.in1) hh λh' hk=>?_))))
 have hS:=Qt (Obj.mapFields λvs=>vs.setIfInBounds 0 Value.none) ho (Obj.isFreed_of_fields (Obj.data_mapFields hd _))
 exact hQ h' _ (λb o hb e=>hk b o ((Heap.get?_update_other _ _ (Ne.symm hb)).trans e)) (hk _ _ hS)
theorem EX{it l:Addr}{i:Nat}{items:Array Value}{Q:Option Value->Shared->Prop}(hh:A.handled=QD)(hit:s.heap.IsTupleIter it l i)(hl:s.heap.IsTuple l items)(hx:items[i]?=QD)
  (hQ:∀h' o',Heap.ExtBut it s.heap h'->h'.get? it=QE o'->Q QD { s with heap:=h' }):wpAny (model prog w) A (pyNext (.ref it)) Q E s:=by
 obtain⟨o,ho,hc,hd⟩:=id hit
 obtain⟨ol,hol,_,nl,hdl⟩:=id hl
 unfold pyNext
 refine Qv (wpAny_attempt (wpAny_callSpecial?_slot (name:=QC "__next__") hit.typeIs PySem.F.slot_tuple_iterator_next
  (wpAny_call_entry PySem.F.slot_tuple_iterator_next hit.typeIs PySem.F.entry_tuple_iterator_next ?_ (PySem.F.args_tuple_iterator_next_1 _))))
 refine Qv (m:=field (.ref it) 0) (wpAny_field ho hd (x:= .ref l) rfl ?_)
 show wpAny _ _ (if(Value.ref l==Value.none)=QF then _ else _) _ _ s
 rw[if_neg (show¬((Value.ref l==Value.none)=QF)from Bool.false_ne_true)]
 refine Qv (m:=field (.ref it) 1) (wpAny_field ho hd (x:= .int i 0) rfl ?_)
 refine Qv (m:=seqItems? (.ref l)) (wpAny_seqItems hol hdl ?_)
 dsimp only
 rw[show items[((i:Nat):Int).toNat]?=QD from hx]
 dsimp only
 refine Qv (wpAny_rule (Qv (wpAny_setField ho hd (by simp) (fB (A':=A.in1) hh λh' hk=>?_))))
 have hS:=Qt (Obj.mapFields λvs=>vs.setIfInBounds 0 Value.none) ho (Obj.isFreed_of_fields (Obj.data_mapFields hd _))
 exact hQ h' _ (λb o hb e=>hk b o ((Heap.get?_update_other _ _ (Ne.symm hb)).trans e)) (hk _ _ hS)
theorem yd{it:Addr}{x left step:Int}{Q:Option Value->Shared->Prop}(hh:A.handled=QD)(hit:IsRangeIter s.heap it x left step)(hleft:left<=0)
  (hQ:∀h',(∀b o,s.heap.get? b=QE o->h'.get? b=QE o)->Q QD { s with heap:=h' }):wpAny (model prog w) A (pyNext (.ref it)) Q E s:=by
 have hT:s.TypeIs (.ref it) "range_iterator":=⟨_,hit,rfl⟩
 unfold pyNext
 refine Qv (wpAny_attempt (wpAny_callSpecial?_slot (name:=QC "__next__") hT PySem.F.slot_range_iterator_next
  (wpAny_call_entry PySem.F.slot_range_iterator_next hT PySem.F.entry_range_iterator_next ?_ (PySem.F.args_range_iterator_next_1 _))))
 refine Qv (m:=field (.ref it) 0) (wpAny_field hit rfl (x:=rawInt x) rfl ?_)
 refine Qv (m:=field (.ref it) 1) (wpAny_field hit rfl (x:=rawInt left) rfl ?_)
 refine Qv (m:=field (.ref it) 2) (wpAny_field hit rfl (x:=rawInt step) rfl ?_)
 show wpAny _ _ (if left<=0 then _ else _) _ _ s
 rw[if_pos hleft]
 exact Qv (wpAny_rule (Qv (fB (A':=A.in1) hh hQ)))
theorem zy{K:Type}[DecidableEq K]{knd:KeyKind prog w K}{it d:Addr}{i ep:Nat}{kvs:List (K×Value)}{Q:Option Value->Shared->Prop}(hh:A.handled=QD)(hit:s.heap.IsKeyIter it d i kvs.length ep)
  (hm:s.heap.DictAt knd d kvs ep)(hx:kvs[i]?=QD)(hQ:∀h' o',Heap.ExtBut it s.heap h'->h'.get? it=QE o'->Q QD { s with heap:=h' }):wpAny (model prog w) A (pyNext (.ref it)) Q E s:=by
 obtain⟨o,ho,hc,hd⟩:=id hit
 obtain⟨od,es,hod,hcd,hdd,hk,hp,hn⟩:=id hm
 unfold pyNext
 refine Qv (wpAny_attempt (wpAny_callSpecial?_slot (name:=QC "__next__") hit.typeIs PySem.F.slot_dict_keyiterator_next
  (wpAny_call_entry PySem.F.slot_dict_keyiterator_next hit.typeIs PySem.F.entry_dict_keyiterator_next ?_ (PySem.F.args_dict_keyiterator_next_1 _))))
 refine Qv (Qx (Qv (Qv ?_)))
 first|refine Qv (wpAny_typeNameOfWhole_keyiter hit.typeIs (Qx ?_))|refine Qv (wpAny_typeNameOf_keyiter hit.typeIs (Qx ?_))
 refine Qv (wpAny_fieldsOf ho hd ?_)
 have hown:Builtin.Dict_items.ownsTuple "dict_keyiterator"=QG:=by decide
 rw[hown,if_neg Bool.false_ne_true]
 show wpAny _ _ (if(Value.ref d==Value.none)=QF then _ else _) _ _ s
 rw[if_neg (show¬((Value.ref d==Value.none)=QF)from Bool.false_ne_true)]
 refine Qv (Qx (Qv (wpAny_dictEntries hod hdd ?_)))
 have hsz:es.size=kvs.length:=by rw[<-hp.length];simp
 rw[if_neg (by rw[hsz];simp)]
 refine Qv (Qx (Qv (wpAny_dictEpoch hod hdd ?_)))
 rw[if_neg (by simp)]
 refine Qx ?_
 have hge:es.size<=i:=by rw[hsz];simpa using hx
 have e0:(if(i:Int)<0 then QD else es[(i:Int).toNat]?)=QD:=(if_neg (Int.not_lt.mpr (Int.natCast_nonneg i))).trans (Array.getElem?_eq_none hge)
 dsimp only
 rw[e0]
 dsimp only
 refine Qv ?_
 first|refine Qv (wpAny_typeNameOfWhole_keyiter hit.typeIs (Qx ?_))|refine Qv (wpAny_typeNameOf_keyiter hit.typeIs (Qx ?_))
 show wpAny _ _ (setField (.ref it) 0 .none >>=_) _ _ s
 refine Qv (wpAny_setField ho hd (by simp) ?_)
 refine fB (A':=A.in1) hh λh' hk=>?_
 have hS:=Qt (Obj.mapFields λvs=>vs.setIfInBounds 0 Value.none) ho (Obj.isFreed_of_fields (Obj.data_mapFields hd _))
 exact hQ h' _ (λb o hb e=>hk b o ((Heap.get?_update_other _ _ (Ne.symm hb)).trans e)) (hk _ _ hS)
theorem BB{K:Type}[DecidableEq K]{knd:KeyKind prog w K}{it d:Addr}{i ep:Nat}{kvs:List (K×Value)}{Q:Option Value->Shared->Prop}(hh:A.handled=QD)(hit:s.heap.IsValIter it d i kvs.length ep)
  (hm:s.heap.DictAt knd d kvs ep)(hx:kvs[i]?=QD)(hQ:∀h' o',Heap.ExtBut it s.heap h'->h'.get? it=QE o'->Q QD { s with heap:=h' }):wpAny (model prog w) A (pyNext (.ref it)) Q E s:=by
 obtain⟨o,ho,hc,hd⟩:=id hit
 obtain⟨od,es,hod,hcd,hdd,hk,hp,hn⟩:=id hm
 unfold pyNext
 refine Qv (wpAny_attempt (wpAny_callSpecial?_slot (name:=QC "__next__") hit.typeIs PySem.F.slot_dict_valueiterator_next
  (wpAny_call_entry PySem.F.slot_dict_valueiterator_next hit.typeIs PySem.F.entry_dict_valueiterator_next ?_ (PySem.F.args_dict_valueiterator_next_1 _))))
 refine Qv (Qx (Qv (Qv ?_)))
 first|refine Qv (wpAny_typeNameOfWhole_valiter hit.typeIs (Qx ?_))|refine Qv (wpAny_typeNameOf_valiter hit.typeIs (Qx ?_))
 refine Qv (wpAny_fieldsOf ho hd ?_)
 have hown:Builtin.Dict_items.ownsTuple "dict_valueiterator"=QG:=by decide
 rw[hown,if_neg Bool.false_ne_true]
 show wpAny _ _ (if(Value.ref d==Value.none)=QF then _ else _) _ _ s
 rw[if_neg (show¬((Value.ref d==Value.none)=QF)from Bool.false_ne_true)]
 refine Qv (Qx (Qv (wpAny_dictEntries hod hdd ?_)))
 have hsz:es.size=kvs.length:=by rw[<-hp.length];simp
 rw[if_neg (by rw[hsz];simp)]
 refine Qv (Qx (Qv (wpAny_dictEpoch hod hdd ?_)))
 rw[if_neg (by simp)]
 refine Qx ?_
 have hge:es.size<=i:=by rw[hsz];simpa using hx
 have e0:(if(i:Int)<0 then QD else es[(i:Int).toNat]?)=QD:=(if_neg (Int.not_lt.mpr (Int.natCast_nonneg i))).trans (Array.getElem?_eq_none hge)
 dsimp only
 rw[e0]
 dsimp only
 refine Qv ?_
 first|refine Qv (wpAny_typeNameOfWhole_valiter hit.typeIs (Qx ?_))|refine Qv (wpAny_typeNameOf_valiter hit.typeIs (Qx ?_))
 show wpAny _ _ (setField (.ref it) 0 .none >>=_) _ _ s
 refine Qv (wpAny_setField ho hd (by simp) ?_)
 refine fB (A':=A.in1) hh λh' hk=>?_
 have hS:=Qt (Obj.mapFields λvs=>vs.setIfInBounds 0 Value.none) ho (Obj.isFreed_of_fields (Obj.data_mapFields hd _))
 exact hQ h' _ (λb o hb e=>hk b o ((Heap.get?_update_other _ _ (Ne.symm hb)).trans e)) (hk _ _ hS)
end
def rK(k:Nat)(O:List Addr)(v:Value):Prop:=aA O (.ref k) v
def rO(a:Option SV)(O:List Addr)(v:Option Value):Prop:=cD O a v
noncomputable def mC:SV->Option Nat
 |.ref l=>QE l
 |_=>QD
theorem gd{a:SV}{l:Nat}(e:(mC a)=QE l):a= .ref l:=by cases a<;>first|exact nn e|exact QJ SV.ref (QH e)
noncomputable def t6:SV->Option Int
 |.int l=>QE l
 |_=>QD
theorem kU{a:SV}{l:Int}(e:(t6 a)=QE l):a= .int l:=by cases a<;>first|exact nn e|exact QJ SV.int (QH e)
noncomputable def LV:Value->Option Int
 |.int i t=>cond (Nat.beq t 0) (QE i) QD
 |_=>QD
theorem DL{v:Value}{i:Int}(e:LV v=QE i):v= .int i 0:=by
 cases v with
 |int j t=>exact(PV (ai e).1)▸QJ (Value.int · _) (QH (ai e).2)
 |_=>exact nn e
def ua:SV->Option Int
 |.top v=>LV v
 |_=>QD
theorem lC{a:SV}{l:Int}(e:(ua a)=QE l):a= .top (.int l 0):=by cases a<;>first|exact nn e|exact QJ SV.top (DL e)
def nf(a:SV):Option Nat:=(ua a).bind λi=>match i with
 |.ofNat n=>QE n
 |_=>QD
theorem f7{a:SV}{n:Nat}(e:(nf a)=QE n):a= .top (.int (.ofNat n) 0):=by
 obtain⟨i,e1,e2⟩:=Qn.mp e
 cases i with
 |ofNat k=>exact QH e2▸lC e1
 |_=>exact nn e2
def ti:List SV->Option (Nat×Nat)
 |[a,b]=>(mC a).bind λl=>(nf b).bind λi=>QE (l,i)
 |_=>QD
theorem mz{vs:List SV}{r:Nat×Nat}(e:ti vs=QE r):vs=[.ref r.1, .top (.int (.ofNat r.2) 0)]:=by
 rcases vs with _|⟨a,_|⟨b,_|⟨d,vs⟩⟩⟩
 .exact nn e
 .exact nn e
 .exact bK e λl h1 e=>bK e λi h2 e=>QH e▸gd h1▸f7 h2▸rfl
 .exact nn e
def yI:SO->Option (String×Nat×Nat)
 |.loose T vs=>(ti vs).map (Prod.mk T)
 |_=>QD
noncomputable def jk(T:String)(l i:Nat):SO:= .loose T [.ref l, .top (.int (.ofNat i) 0)]
theorem Fc{o:SO}{r:String×Nat×Nat}(e:yI o=QE r):o=jk r.1 r.2.1 r.2.2:=by
 cases o with
 |loose T vs=>exact Qq (Qm.mp e) λa h=>h.2▸QJ (SO.loose T) (mz h.1)
 |_=>exact nn e
noncomputable def Hn(a n:Int):SO:= .fields "range_iterator" [.top (.int a 0), .top (.int n 0), .top (.int (.ofNat 1) 0)]
def J5:SO->Option (Int×Int)
 |.fields T vs=>match vs with
  |[a,b,d]=>cond (decide (T="range_iterator")) ((ua a).bind λl=>(ua b).bind λi=>(nf d).bind λk=>cond (Nat.beq k 1) (QE (l,i)) QD) QD
  |_=>QD
 |_=>QD
theorem DG{o:SO}{r:Int×Int}(e:J5 o=QE r):o=Hn r.1 r.2:=by
 cases o with
 |fields T vs=>
  rcases vs with _|⟨a,_|⟨b,_|⟨d,_|⟨f,vs⟩⟩⟩⟩
  .exact nn e
  .exact nn e
  .exact nn e
  .exact bK (ai e).2 λl h1 q=>bK q λi h2 q=>bK q λk h3 q=>QH (ai q).2▸of_decide_eq_true (ai e).1▸lC h1▸lC h2▸(PV (ai q).1▸f7 h3)▸rfl
  .exact nn e
 |_=>exact nn e
noncomputable def oj(T:String)(d i n ep:Nat):SO:= .loose T [.ref d, .top (.int (.ofNat i) 0), .top (.int (.ofNat n) 0), .top (.int (.ofNat ep) 0)]
structure DIt where
 T:String
 d:Nat
 i:Nat
 n:Nat
 e:Nat
def EW:SO->Option DIt
 |.loose T vs=>match vs with
  |[a,b,d,f]=>(mC a).bind λl=>(nf b).bind λi=>(nf d).bind λn=>(nf f).bind λe=>QE ⟨T,l,i,n,e⟩
  |_=>QD
 |_=>QD
theorem Fu{o:SO}{r:DIt}(e:EW o=QE r):o=oj r.T r.d r.i r.n r.e:=by
 cases o with
 |loose T vs=>
  rcases vs with _|⟨a,_|⟨b,_|⟨d,_|⟨f,_|⟨g,vs⟩⟩⟩⟩⟩
  .exact nn e
  .exact nn e
  .exact nn e
  .exact nn e
  .exact bK e λl h1 e=>bK e λi h2 e=>bK e λn h3 e=>bK e λk h4 e=>QH e▸gd h1▸f7 h2▸f7 h3▸f7 h4▸rfl
  .exact nn e
 |_=>exact nn e
theorem Pre.keep(p:Pre c F O S s m news){h':Heap}(hk:∀b o,s.heap.get? b=QE o->h'.get? b=QE o):Pre c F O S { s with heap:=h' } m news:=
 p.heap' (P5 _) ⟨⟨Qq p.rep.fr.ns λoL h=>⟨oL,Qq h λes h=>⟨es,Qq h λep h=>⟨ep,hk _ _ h.1,h.2⟩⟩⟩,λb o e=>hk b o (p.rep.fr.keep b o e),p.rep.fr.above⟩,λq hq=>⟨hk _ _ (p.rep.nw q hq).1,(p.rep.nw q hq).2⟩,p.rep.at_,p.rep.nd,p.rep.ob,p.rep.lc⟩
theorem Pre.step(p:Pre c F O S s m news){it:Nat}{ia:Addr}{oi:Obj}{T:String}{us:Array Value}{o':SO}{h':Heap}{R:List Addr->β->Prop}{v:β}(f1:news[it]?=QE (ia,oi))
  (hi:∃o,h'.get? ia=QE o/\o.cls= .type T/\o.data= .fields us)(hs:Heap.SameBut ia s.heap h')(ho:∀o,o.cls= .type T->o.data= .fields us->aP c.P O o' o)(hv:R O v):aG c F O (S.put it o') R v { s with heap:=h' }:=
 Qq hi λo q=>⟨O,m,_,P5 _,p.heap' (P5 _) (p.rep.same f1 hs q.1 (ho o q.2.1 q.2.2)),hv⟩
def Iy(h:Heap)(T:String)(ia la:Addr)(i:Nat):Prop:=∃o,h.get? ia=QE o/\o.cls= .type T/\o.data= .fields #[.ref la, .int i 0]
def AQ(h:Heap)(T:String)(la:Addr)(vs:List Value):Prop:=(T="list_iterator"/\h.IsList la vs.toArray)\/(T="tuple_iterator"/\h.IsTuple la vs.toArray)
section
variable{prog:Program}{w:World}{A:Around}{T:String}{ia la:Addr}{i:Nat}{vs:List Value}{Q:Option Value->Shared->Prop}{E:Value->Shared->Prop}
theorem zZ{u:Value}(hi:Iy s.heap T ia la i)(hl:AQ s.heap T la vs)(hx:vs[i]?=QE u)(hQ:∀h',Iy h' T ia la (i+1)->Heap.SameBut ia s.heap h'->Q (QE u) { s with heap:=h' }):wpAny (model prog w) A (pyNext (.ref ia)) Q E s:=by
 rcases hl with⟨rfl,hl⟩|⟨rfl,hl⟩
 .exact wpAny_pyNext_list_item hi hl (List.getElem?_toArray.trans hx) hQ
 .exact wpAny_pyNext_tuple_item hi hl (List.getElem?_toArray.trans hx) hQ
theorem Fe(hh:A.handled=QD)(hi:Iy s.heap T ia la i)(hl:AQ s.heap T la vs)(hx:vs[i]?=QD)(hQ:∀h' o',Heap.ExtBut ia s.heap h'->h'.get? ia=QE o'->Q QD { s with heap:=h' }):wpAny (model prog w) A (pyNext (.ref ia)) Q E s:=by
 rcases hl with⟨rfl,hl⟩|⟨rfl,hl⟩
 .exact BP hh hi hl (List.getElem?_toArray.trans hx) hQ
 .exact EX hh hi hl (List.getElem?_toArray.trans hx) hQ
end
theorem k8{P:Params}{o:SO}{ob:Obj}{r:String×Nat×Nat}(e:yI o=QE r)(h:aP P O o ob){G:Prop}(k:∀la,O[r.2.1]?=QE la->ob.cls= .type r.1->ob.data= .fields #[.ref la, .int r.2.2 0]->G):G:=by
 have h:=Fc e▸h
 obtain⟨us,f4,f5,v1,r1,rfl,⟨la,hla,rfl⟩,v2,r2,rfl,h2,h3⟩:=h
 cases h2;cases h3
 exact k la hla f4 f5
noncomputable def i5(T:String):SO->Option (List SV)
 |.list xs=>cond (decide (T="list_iterator")) (QE xs) QD
 |.words ys=>cond (decide (T="list_iterator")) (QE (ys.map SV.str)) QD
 |.tup xs=>cond (decide (T="tuple_iterator")) (QE xs) QD
 |.wtup ys=>cond (decide (T="tuple_iterator")) (QE (ys.map SV.str)) QD
 |_=>QD
theorem fQ{h:Heap}{a:Addr}{vs:List Value}{n:Nat}(e:h.get? a=QE { cls:= .type "tuple",data:= .seq vs.toArray n }):h.IsTuple a vs.toArray:=⟨_,e,rfl,n,rfl⟩
theorem jM{P:Params}{T:String}{q:SO}{xs:List SV}{ob:Obj}(e:i5 T q=QE xs)(h:aP P O q ob){hp:Heap}{la:Addr}(hg:hp.get? la=QE ob){G:Prop}(k:∀vs,AQ hp T la vs->au O xs vs->G):G:=by
 cases q with
 |list ys=>exact Qq h λvs h=>Qq h λn h=>k vs (.inl ⟨of_decide_eq_true (ai e).1,aW (h.1▸hg)⟩) (QH (ai e).2▸h.2)
 |words ys=>exact Qq h λvs h=>Qq h λn h=>k vs (.inl ⟨of_decide_eq_true (ai e).1,aW (h.1▸hg)⟩) (QH (ai e).2▸cb h.2)
 |tup ys=>exact Qq h λvs h=>Qq h λn h=>k vs (.inr ⟨of_decide_eq_true (ai e).1,fQ (h.1▸hg)⟩) (QH (ai e).2▸h.2)
 |wtup ys=>exact Qq h λvs h=>Qq h λn h=>k vs (.inr ⟨of_decide_eq_true (ai e).1,fQ (h.1▸hg)⟩) (QH (ai e).2▸cb h.2)
 |_=>exact nn e
theorem au.getNone{xs:List SV}{vs:List Value}(h:au O xs vs){i:Nat}(e:xs[i]?=QD):vs[i]?=QD:=by
 rw[List.getElem?_eq_none_iff]at e ⊢;rw[h.length];exact e
theorem yz{prog:Program}{w:World}{k:Str}{key:Value}(h:(strKind prog w).is k key=QF):∃t,key= .str k t:=Value.isStrOf_shape h
theorem oE(H:aD c F)(p:Pre c F O S s m news){k:Nat}{fs:List (Str×SV)}{ep:Nat}(hk:S.led[k]?=QE (.nsE fs ep))(hn:dr fs=QF):
  ∃a kvs,O[k]?=QE a/\s.heap.DictAt (strKind c.pr c.w) a kvs ep/\bP O fs kvs/\kvs.length=fs.length/\(a==sysModules)=QG:=by
 obtain⟨a,ob,g1,g2,g3,es,rfl,z⟩:=p.rep.get hk
 obtain⟨kvs,h1,h2,h3,h4⟩:=z.pairs (prog:=c.pr) (w:=c.w)
 refine⟨a,kvs,g2,⟨_,es.toArray,g3,⟨rfl,rfl,rfl⟩,rfl,h2,h1,by rw[h3];exact gK hn⟩,h4,?_,?_⟩
 .have:=QJ List.length h3;simpa using this
 .cases q:(a==sysModules)with
  |false=>rfl
  |true=>
   have e:a=sysModules:=by simpa using q
   obtain⟨o,ho⟩:=p.sysm H.toCxW
   have z:=(p.rep.nw _ (p.rep.mem g1)).2.2
   dsimp only at z
   rw[e,ho]at z;cases z
theorem bP.nth{fs:List (Str×SV)}:∀{kvs:List (Str×Value)},bP O fs kvs->∀{i:Nat}{kv:Str×SV},fs[i]?=QE kv->∃v,kvs[i]?=QE (kv.1,v)/\aA O kv.2 v:=by
 induction fs with
 |nil=>exactλ_ _ _ e=>nn e
 |cons p r ih=>
  refineλh i kv=>h.elim λv l h1 h2 e=>?_
  cases i with
  |zero=>exact QH (show QE p=QE kv from e)▸⟨v,rfl,h1⟩
  |succ i=>exact ih h2 e
theorem Pre.ended(p:Pre c F O S s m news){it:Nat}{ia:Addr}{oi oi':Obj}{h':Heap}(f1:news[it]?=QE (ia,oi))(hs':Heap.ExtBut ia s.heap h')(h1:h'.get? ia=QE oi'):
  Pre c F O { S with led:=S.led.set it .any } { s with heap:=h' } m (news.set it (ia,oi')):=by
 have z:=p.rep.nw _ (p.rep.mem f1)
 have U:=p.rep.updAt oi' f1
 obtain⟨pre,post,e1,e2,ha,hb⟩:=U.split
 have N':News m.g c.L h' (news.set it (ia,oi')):=by
  rw[e2]
  intro q hq
  have hold:q∈pre\/q=(ia,oi')\/q∈post:=by
   rcases Qd.mp hq with q1|q1
   .exact .inl q1
   .rcases Qb.mp q1 with q1|q1
    .exact .inr (.inl q1)
    .exact .inr (.inr q1)
  rcases hold with q1|rfl|q1
  .have zz:=p.rep.nw q (by rw[e1];exact List.mem_append_left _ q1)
   exact⟨hs' _ _ (ha q q1) zz.1,zz.2⟩
  .exact⟨h1,z.2⟩
  .have zz:=p.rep.nw q (by rw[e1];exact List.mem_append_right _ (.tail _ q1))
   exact⟨hs' _ _ (hb q q1) zz.1,zz.2⟩
 have F':Fr m.g c.L h' m.m:=by
  obtain⟨oL,es,ep,hL,hLd,hLk,hLf⟩:=p.rep.fr.ns
  refine⟨⟨oL,es,ep,hs' _ _ (λq=>z.2.1 q.symm) hL,hLd,hLk,hLf⟩,λb o e=>hs' b o (λq=>?_) (p.rep.fr.keep b o e),p.rep.fr.above⟩
  have:=z.2.2
  dsimp only at this
  rw[q,this]at e;cases e
 exact p.heap' (P5 _) (p.rep.upd f1 F' N' QI)
theorem Pre.over(p:Pre c F O S s m news){it:Nat}{ia:Addr}{oi:Obj}(f1:news[it]?=QE (ia,oi))(h':Heap)(oi':Obj)(hs':Heap.ExtBut ia s.heap h')(h1:h'.get? ia=QE oi'):
  aG c F O (S.put it .any) (rO QD) QD { s with heap:=h' }:=⟨O,m,_,P5 _,p.ended f1 hs' h1,rfl⟩
def uU(bs:List Prop)(it:Nat)(v:Option SV)(o:SO):XM (Option SV):=match v with
 |some v=>xwr bs it o (QE v)
 |none=>xwr bs it .any QD
def ub(it:Nat):XM (Option SV):=xrd it yI λr=>xrd r.2.1 (i5 r.1) λxs=>uU [] it xs[r.2.2]? (jk r.1 r.2.1 (r.2.2+1))
theorem wq(H:aD c F)(it:Nat):aj c F (rK it) (ub it) (λv=>pyNext v) rO:=λx=>At.rd λo r ho hr=>At.rd λq xs hq hs=>by
 cases hx:xs[r.2.2]? with
 |some v=>
  exact At.wr λ_=>cc ho λO s m news ad ob p hσ f1 f3 q1=>k8 hr q1 λla hla h1 h2=>p.objAt hq hla λlo g1 g2 g3=>jM hs g3 g2 λvs hS y=>
   Qq (y.get hx) λu hu=>zZ ⟨ob,f3,h1,h2⟩ hS hu.1 λh' hi hs=>p.step f1 hi hs (λo d e=>⟨_,d,e,_,_,rfl,⟨la,hla,rfl⟩,_,_,rfl,rfl,rfl⟩) ⟨u,rfl,hu.2⟩
 |none=>
  exact At.wr λ_=>cc ho λO s m news ad ob p hσ f1 f3 q1=>k8 hr q1 λla hla h1 h2=>p.objAt hq hla λlo g1 g2 g3=>jM hs g3 g2 λvs hS y=>
   Fe H.handled ⟨ob,f3,h1,h2⟩ hS (y.getNone hx) (p.over f1)
def Ge(it:Nat):XM (Option SV):=xrd it J5 λr=>cond (decide (r.2<=0)) (cI [] QD) (xwr [] it (Hn (r.1+1) (r.2-1)) (QE (.int r.1)))
theorem rP{P:Params}{o:SO}{ob:Obj}{r:Int×Int}(e:J5 o=QE r)(h:aP P O o ob):ob={ cls:= .type "range_iterator",data:= .fields #[rawInt r.1,rawInt r.2,rawInt 1] }:=by
 have h:=DG e▸h
 obtain⟨us,rfl,v1,r1,rfl,h1,v2,r2,rfl,h2,v3,r3,rfl,h3,h4⟩:=h
 cases h1;cases h2;cases h3;cases h4
 rfl
theorem xj(H:aD c F)(it:Nat):aj c F (rK it) (Ge it) (λv=>pyNext v) rO:=λx=>At.rd λo r ho hr=>by
 cases hn:decide (r.2<=0)with
 |true=>exact At.say λ_=>cc ho λO s m news ad ob p hσ f1 f3 q1=>yd H.handled (f3.trans (QJ QE (rP hr q1))) (of_decide_eq_true hn) λh' hk=>(p.keep hk).now rfl
 |false=>
  exact At.wr λ_=>cc ho λO s m news ad ob p hσ f1 f3 q1=>wpAny_pyNext_range_item (f3.trans (QJ QE (rP hr q1))) (Int.not_le.mp (of_decide_eq_false hn)) λh' hi' hs'=>
   ⟨O,m,_,P5 _,p.heap (P5 _) (p.rep.same f1 hs' hi' ⟨[rawInt (r.1+1),rawInt (r.2-1),rawInt 1],rfl,_,_,rfl,rfl,_,_,rfl,rfl,_,_,rfl,rfl,rfl⟩),_,rfl,⟨_,rfl⟩⟩
noncomputable def En(T:String):Option Bool:=cond (decide (T="dict_keyiterator")) (QE QF) (cond (decide (T="dict_valueiterator")) (QE QG) QD)
noncomputable def M6(b:Bool)(kv:Str×SV):SV:=cond b (.str kv.1) kv.2
def Gn(it:Nat):XM (Option SV):=xrd it EW λr=>xrd r.d lx λf=>xif (dr f.1) (xob (En r.T) λb=>uU [r.n=f.1.length/\r.e=f.2] it (f.1[r.i]?.map (M6 b)) (oj r.T r.d (r.i+1) r.n r.e))
theorem vm{T:String}{b:Bool}(e:En T=QE b):T=cond b "dict_keyiterator" "dict_valueiterator":=by
 unfold En at e
 by_cases h:T="dict_keyiterator"
 .rw[decide_eq_true h]at e;cases e;exact h
 .rw[decide_eq_false h]at e;have z:=ai e;cases z.2;exact of_decide_eq_true z.1
def EZ(h:Heap)(T:String)(ia da:Addr)(i n e:Nat):Prop:=∃o,h.get? ia=QE o/\o.cls= .type T/\o.data= .fields #[.ref da, .int i 0, .int n 0, .int e 0]
theorem Au{P:Params}{o:SO}{ob:Obj}{r:DIt}(e:EW o=QE r)(h:aP P O o ob){G:Prop}(k:∀la,O[r.d]?=QE la->ob.cls= .type r.T->ob.data= .fields #[.ref la, .int r.i 0, .int r.n 0, .int r.e 0]->G):G:=by
 have h:=Fu e▸h
 obtain⟨us,f4,f5,v1,r1,rfl,⟨la,hla,rfl⟩,v2,r2,rfl,h2,v3,r3,rfl,h3,v4,r4,rfl,h4,h5⟩:=h
 cases h2;cases h3;cases h4;cases h5
 exact k la hla f4 f5
section
variable{prog:Program}{w:World}{A:Around}{ia da:Addr}{i e:Nat}{kvs:List (Str×Value)}{Q:Option Value->Shared->Prop}{E:Value->Shared->Prop}
theorem xJ{b:Bool}{k:Str}{v:Value}(hi:EZ s.heap (cond b "dict_keyiterator" "dict_valueiterator") ia da i kvs.length e)(hl:s.heap.DictAt (strKind prog w) da kvs e)(hx:kvs[i]?=QE (k,v))
  (hQ:∀u h',(cond b (∃t,u= .str k t) (u=v))->EZ h' (cond b "dict_keyiterator" "dict_valueiterator") ia da (i+1) kvs.length e->Heap.SameBut ia s.heap h'->Q (QE u) { s with heap:=h' }):wpAny (model prog w) A (pyNext (.ref ia)) Q E s:=by
 cases b with
 |true=>exact wpAny_pyNext_dict_item hi hl hx λkey h' hk=>hQ key h' (yz hk)
 |false=>exact wpAny_pyNext_values_item hi hl hx λh'=>hQ v h' rfl
theorem Av{b:Bool}(hh:A.handled=QD)(hi:EZ s.heap (cond b "dict_keyiterator" "dict_valueiterator") ia da i kvs.length e)(hl:s.heap.DictAt (strKind prog w) da kvs e)(hx:kvs[i]?=QD)
  (hQ:∀h' o',Heap.ExtBut ia s.heap h'->h'.get? ia=QE o'->Q QD { s with heap:=h' }):wpAny (model prog w) A (pyNext (.ref ia)) Q E s:=by
 cases b with
 |true=>exact zy hh hi hl hx hQ
 |false=>exact BB hh hi hl hx hQ
end
theorem Pre.dict(H:aD c F)(p:Pre c F O S s m news){o q:SO}{r:DIt}{f:List (Str×SV)×Nat}{b:Bool}{ad:Addr}{ob:Obj}(hr:EW o=QE r)(hq:S.led[r.d]?=QE q)(hf:lx q=QE f)(hk:dr f.1=QF)(hb:En r.T=QE b)
  (hc:r.n=f.1.length/\r.e=f.2)(f3:s.heap.get? ad=QE ob)(q1:aP c.P O o ob){G:Prop}(k:∀da kvs,O[r.d]?=QE da->EZ s.heap (cond b "dict_keyiterator" "dict_valueiterator") ad da r.i kvs.length r.e->s.heap.DictAt (strKind c.pr c.w) da kvs r.e->bP O f.1 kvs->kvs.length=r.n->G):G:=
 Au hr q1 λla hla h1 h2=>by
  obtain⟨a',kvs,k1,k2,k3,k4,k5⟩:=oE H p (iU hf▸hq) hk
  rw[hla]at k1;cases k1
  have kn:kvs.length=r.n:=k4.trans hc.1.symm
  exact k la kvs hla ⟨ob,f3,vm hb▸h1,kn▸h2⟩ (hc.2▸k2) k3 kn
theorem vY(H:aD c F)(it:Nat):aj c F (rK it) (Gn it) (λv=>pyNext v) rO:=λx=>At.rd λo r ho hr=>At.rd λq f hq hf=>At.bif λhk=>At.ob λb hb=>by
 cases hx:f.1[r.i]? with
 |some kv=>
  exact At.wr λhc=>cc ho λO s m news ad ob p hσ f1 f3 q1=>p.dict H hr hq hf hk hb hc.1 f3 q1 λda kvs hda hi hd hB hn=>Qq (hB.nth hx) λv hv=>
   xJ hi hd hv.1 λu h' hu hi' hs'=>p.step f1 hi' hs' (λo d e=>⟨_,vm hb▸d,e,_,_,rfl,⟨da,hda,rfl⟩,_,_,rfl,rfl,_,_,rfl,QJ (λz:Nat=>Value.int z 0) hn,_,_,rfl,rfl,rfl⟩) ⟨u,rfl,by cases b with|true=>exact hu|false=>exact(show u=v from hu)▸hv.2⟩
 |none=>
  exact At.wr λhc=>cc ho λO s m news ad ob p hσ f1 f3 q1=>p.dict H hr hq hf hk hb hc.1 f3 q1 λda kvs hda hi hd hB hn=>
   Av H.handled hi hd (List.getElem?_eq_none_iff.mpr (hn.trans hc.1.1▸List.getElem?_eq_none_iff.mp hx)) (p.over f1)
def pE(it:Nat):XM (Option SV):=bQ (bQ (ub it) (Ge it)) (Gn it)
theorem jw(H:aD c F)(it:Nat):aj c F (rK it) (pE it) (λv=>pyNext v) rO:=aO (aO (wq H it) (xj H it)) (vY H it)
def vj:SO->Option (Int×Int)
 |.fields T vs=>match vs with
  |[a,b,d]=>cond (decide (T="range")) ((t6 a).bind λa=>(t6 b).bind λb=>(t6 d).bind λd=>cond (decide (d=1)&&Builtin.Range.small a b 1) (QE (a,b)) QD) QD
  |_=>QD
 |_=>QD
theorem kf{o:SO}{r:Int×Int}(e:vj o=QE r):o= .fields "range" [.int r.1, .int r.2, .int 1]/\Builtin.Range.small r.1 r.2 1=QF:=by
 cases o with
 |fields T vs=>
  rcases vs with _|⟨a,_|⟨b,_|⟨d,_|⟨f,vs⟩⟩⟩⟩
  .exact nn e
  .exact nn e
  .exact nn e
  .exact bK (ai e).2 λl h1 q=>bK q λi h2 q=>bK q λk h3 q=>have z:=(Qp _ _).mp (ai q).1;QH (ai q).2▸of_decide_eq_true (ai e).1▸kU h1▸kU h2▸(of_decide_eq_true z.1▸kU h3)▸⟨rfl,z.2⟩
  .exact nn e
 |_=>exact nn e
def y8:SO->Option Nat
 |.fields T vs=>match vs with
  |[a]=>cond (decide (T="dict_values")) (mC a) QD
  |_=>QD
 |_=>QD
theorem wN{o:SO}{d:Nat}(e:y8 o=QE d):o= .fields "dict_values" [.ref d]:=by
 cases o with
 |fields T vs=>
  rcases vs with _|⟨a,_|⟨b,vs⟩⟩
  .exact nn e
  .exact of_decide_eq_true (ai e).1▸gd (ai e).2▸rfl
  .exact nn e
 |_=>exact nn e
noncomputable def MT:SO->Option String
 |.list _=>QE "list_iterator"
 |.words _=>QE "list_iterator"
 |.tup _=>QE "tuple_iterator"
 |.wtup _=>QE "tuple_iterator"
 |_=>QD
theorem fm{l:Nat}{ad a:Addr}(h:O[l]?=QE ad):aA (O++[a]) (.ref l) (.ref ad):=⟨ad,aY (P6 _ _) h,rfl⟩
def y6(l:Nat):XM Nat:=xrd l MT λT=>Bj (jk T l 0)
theorem yy(l:Nat):aj c F (rK l) (y6 l) (λv=>pyIter v) rK:=λx=>At.rd λo T ho hT=>At.add (cc ho λO s m news ad ob p hσ f1 f3 q=>by
 cases o with
 |list xs=>cases hT;exact Qq q λvs q=>Qq q λn q=>wpAny_pyIter_list (aW (q.1▸f3)) (cG p rfl ⟨_,rfl,rfl,_,_,rfl,fm hσ,_,_,rfl,rfl,rfl⟩)
 |words xs=>cases hT;exact Qq q λvs q=>Qq q λn q=>wpAny_pyIter_list (aW (q.1▸f3)) (cG p rfl ⟨_,rfl,rfl,_,_,rfl,fm hσ,_,_,rfl,rfl,rfl⟩)
 |tup xs=>cases hT;exact Qq q λvs q=>Qq q λn q=>wpAny_pyIter_tuple (fQ (q.1▸f3)) (cG p rfl ⟨_,rfl,rfl,_,_,rfl,fm hσ,_,_,rfl,rfl,rfl⟩)
 |wtup xs=>cases hT;exact Qq q λvs q=>Qq q λn q=>wpAny_pyIter_tuple (fQ (q.1▸f3)) (cG p rfl ⟨_,rfl,rfl,_,_,rfl,fm hσ,_,_,rfl,rfl,rfl⟩)
 |_=>exact nn hT)
def Gd(l:Nat):XM Nat:=xrd l vj λr=>Bj (Hn r.1 (Builtin.Range.rangeSize r.1 r.2 1))
theorem zg{P:Params}{ob:Obj}{a b:Int}(h:aP P O (.fields "range" [.int a, .int b, .int 1]) ob){G:Prop}(k:∀t u v,ob={ cls:= .type "range",data:= .fields #[.int a t, .int b u, .int 1 v] }->G):G:=by
 obtain⟨us,rfl,v1,r1,rfl,⟨t1,rfl⟩,v2,r2,rfl,⟨t2,rfl⟩,v3,r3,rfl,⟨t3,rfl⟩,h3⟩:=h
 cases h3
 exact k t1 t2 t3 rfl
theorem wA(l:Nat):aj c F (rK l) (Gd l) (λv=>pyIter v) rK:=λx=>At.rd λo r ho hr=>At.add (cc ho λO s m news ad ob p hσ f1 f3 q=>
 zg ((kf hr).1▸q) λt u v e=>wpAny_pyIter_range (t:=t) (u:=u) (v:=v) (f3.trans (QJ QE e)) (kf hr).2 (cG p rfl ⟨[_,_,_],rfl,_,_,rfl,rfl,_,_,rfl,rfl,_,_,rfl,rfl,rfl⟩))
def F9(l:Nat):XM Nat:=xrd l lx λf=>xif (dr f.1) (Bj (oj "dict_keyiterator" l 0 f.1.length f.2))
theorem xQ(H:aD c F)(l:Nat):aj c F (rK l) (F9 l) (λv=>pyIter v) rK:=λx=>At.rd λo f ho hf=>At.bif λhk=>At.add λO s m news g p hg=>by
 obtain⟨ad,hσ,rfl⟩:=hg
 obtain⟨a',kvs,f1,f2,f3,f4,f5⟩:=oE H p (iU hf▸ho) hk
 rw[hσ]at f1;cases f1
 exact wpAny_pyIter_dict f5 f2 (cG p rfl ⟨_,rfl,rfl,_,_,rfl,fm hσ,_,_,rfl,rfl,_,_,rfl,QJ (λz:Nat=>Value.int z 0) f4,_,_,rfl,rfl,rfl⟩)
def G4(l:Nat):XM Nat:=xrd l y8 λd=>xrd d lx λf=>xif (dr f.1) (Bj (oj "dict_valueiterator" d 0 f.1.length f.2))
theorem yb(H:aD c F)(l:Nat):aj c F (rK l) (G4 l) (λv=>pyIter v) rK:=λx=>At.rd λo d ho hd=>At.rd λq f hq hf=>At.bif λhk=>At.add (cc ho λO s m news ad ob p hσ g1 g2 z=>by
 obtain⟨us,rfl,v1,r1,rfl,⟨da,hda,rfl⟩,hr1⟩:=wN hd▸z
 cases hr1
 obtain⟨a',kvs,f1,f2,f3,f4,f5⟩:=oE H p (iU hf▸hq) hk
 rw[hda]at f1;cases f1
 exact wpAny_pyIter_values ⟨_,g2,rfl,rfl⟩ f2 (cG p rfl ⟨_,rfl,rfl,_,_,rfl,fm hda,_,_,rfl,rfl,_,_,rfl,QJ (λz:Nat=>Value.int z 0) f4,_,_,rfl,rfl,rfl⟩))
def ec(a:SV):XM Nat:=cE a λl=>bQ (bQ (y6 l) (Gd l)) (bQ (F9 l) (G4 l))
theorem mD(H:aD c F)(a:SV):aj c F (rV a) (ec a) (λv=>pyIter v) rK:=j0 a λl=>aO (aO (yy l) (wA l)) (aO (xQ H l) (yb H l))
def okR(Q:Flow->Shared->Prop)(r:Result)(s:Shared):Prop:=match r with
 |.ok f=>Q f s
 |.error _=>False
def AW(M:Program)(w:World)(A:Around)(target:Expr)(it:Value)(body orelse:List Stmt)(env:Env)(Q:Flow->Shared->Prop)(s:Shared):Prop:=codeAny (model M w) A (.forLoop target it body orelse env) (okR Q) s
theorem kH{M:Program}{w:World}{A:Around}{target:Expr}{it:Value}{body orelse:List Stmt}{env:Env}{Q:Flow->Shared->Prop}(ht:∀v,letOwnedTupleGo target it v=pure ())
  (h:wpAny (model M w) A (pyNext it) (λr s1=>r.elim (wpAny (model M w) A (execs orelse env) Q NoE s1) λv=>wpAny (model M w) A (assign target env v) (λ_ s2=>wpAny (model M w) A (execs body env) (λf s3=>flK (AW M w A target it body orelse env Q s3) (λf=>Q f s3) f) NoE s2) NoE s1) NoE s):AW M w A target it body orelse env Q s:=
 codeAny_loop' rfl (λ_ s'=>s'=s) (λn s' e=>by
  cases e
  show wpAny (model M w) A ((forTurn target it body orelse env).onRaise (λx=>do noteFrame x env;theTreesLotGoes x)) _ _ s
  refine wpAny_noted (Qv (QB (Qv (wpAny_onRaise (Qw h (λr s1 h1=>?_) λ_ _ z=>z.elim)))))
  cases r with
  |none=>exact Qx (.inr ⟨rfl,codeAny_block (Qw h1 (λ_ _ z=>z) λ_ _ z=>z.elim)⟩)
  |some v=>
   exact Qv (Qz (ht v) (Qv (Qw h1 (λ_ s2 h2=>Qv (Qw h2 (λf s3 h3=>by
    cases f with
    |next=>exact Qx (.inr ⟨rfl,h3⟩)
    |cont=>exact Qx (.inr ⟨rfl,h3⟩)
    |_=>exact Qx h3) λ_ _ z=>z.elim)) λ_ _ z=>z.elim)))) 0 rfl
theorem yS{M:Program}{w:World}{A:Around}{target:Expr}{it:Value}{body orelse:List Stmt}{env:Env}{Q:Flow->Shared->Prop}(h:AW M w A target it body orelse env Q s):codeAny (model M w) A (.forLoop target it body orelse env) (λr s'=>match r with | .ok f=>Q f s' | .error e=>cameBackBy (model M w) A env NoE e s') s:=
 codeAny_mono h λr s z=>by
  cases r with
  |ok f=>exact z
  |error e=>exact z.elim
theorem aj.bdK{I:List Addr->γ->Prop}{t:γ->Sem Value}{π:List Value->γ}{as:List SV}{K:List Value->(β->Shared->Prop)->Shared->Prop}{R:α->List Addr->β->Prop}{m:XM Nat}{f:Nat->XM α}(h1:aj c F I m t rK)(hi:∀O vs,au O as vs->I O (π vs))(h2:∀a,bA c F (.ref a::as) (f a) K R):bA c F as (ag m f) (λvs Q s=>wpAny c.M c.A (t (π vs)) (λv s1=>K (v::vs) Q s1) NoE s) R:=λx b x' h hc=>aZ h λa x1 e1 e2=>
 have z:=h2 a x1 b x' e2 hc
 have y:=h1 x a x1 e1 z.1
 ⟨y.1,λO s mm n vs p hv Q k=>go_ (y.2 O s mm n (π vs) p (hi O vs hv)) λO1 m1 n1 v s1 p1 q1 r1=>z.2 O1 s1 m1 n1 (v::vs) q1 ⟨v,vs,rfl,r1,hv.mono p1⟩ Q λO2 m2 n2 u s2 p2=>k O2 m2 n2 u s2 (p1.trans p2)⟩
theorem aj.bdO{I:List Addr->γ->Prop}{t:γ->Sem (Option Value)}{π:List Value->γ}{as:List SV}{K1 K2:List Value->(β->Shared->Prop)->Shared->Prop}{R:α->List Addr->β->Prop}{m:XM (Option SV)}{f:XM α}{g:SV->XM α}(h1:aj c F I m t rO)(hi:∀O vs,au O as vs->I O (π vs))(h2:bA c F as f K1 R)(h3:∀a,bA c F (a::as) (g a) K2 R):
  bA c F as (ag m λr=>r.elim f g) (λvs Q s=>wpAny c.M c.A (t (π vs)) (λr s1=>r.elim (K1 vs Q s1) λv=>K2 (v::vs) Q s1) NoE s) R:=λx b x' h hc=>aZ h λr x1 e1 e2=>by
 cases r with
 |none=>
  have z:=h2 x1 b x' e2 hc
  have y:=h1 x QD x1 e1 z.1
  exact⟨y.1,λO s mm n vs p hv Q k=>go_ (y.2 O s mm n (π vs) p (hi O vs hv)) λO1 m1 n1 v s1 p1 q1 r1=>Eq.symm r1▸z.2 O1 s1 m1 n1 vs q1 (hv.mono p1) Q λO2 m2 n2 u s2 p2=>k O2 m2 n2 u s2 (p1.trans p2)⟩
 |some a=>
  have z:=h3 a x1 b x' e2 hc
  have y:=h1 x (QE a) x1 e1 z.1
  exact⟨y.1,λO s mm n vs p hv Q k=>go_ (y.2 O s mm n (π vs) p (hi O vs hv)) λO1 m1 n1 v s1 p1 q1 r1=>Qq r1 λu w=>w.1.symm▸z.2 O1 s1 m1 n1 (u::vs) q1 ⟨u,vs,rfl,w.2,hv.mono p1⟩ Q λO2 m2 n2 u s2 p2=>k O2 m2 n2 u s2 (p1.trans p2)⟩
noncomputable def JH(st:SV->XM Unit)(body orelse:XM XF)(it:Nat):Nat->XM XF
 |0=>ar
 |n+1=>ag (pE it) λr=>r.elim orelse λv=>ag (st v) λ_=>ag body λf=>cond (jm f) (JH st body orelse it n) (aH (Dy f))
def MK(iter:XM SV)(st:SV->XM Unit)(body orelse:XM XF)(n:Nat):XM XF:=ag iter λv=>ag (ec v) λit=>JH st body orelse it n
section
variable{st:SV->XM Unit}{bd oe:XM XF}{target:Expr}{body orelse:List Stmt}
theorem yG(H:aD c F)(hst:∀v,aj c F (rV v) (st v) (λu=>assign target c.env u) rU)(hb:Snd c F bd (execs body c.env) rF)(ho:Snd c F oe (execs orelse c.env) rF)(ht:∀it v,letOwnedTupleGo target it v=pure ())(it:Nat)(n:Nat)(as:List SV)(i:Nat)(hi:as[i]?=QE (.ref it)):
  bA c F as (JH st bd oe it n) (λvs Q s=>AW c.pr c.w c.A target (vth i vs) body orelse c.env Q s) rF:=by
 induction n generalizing as i with
 |zero=>exact bA.fail
 |succ n ih=>exact((jw H it).bdO (λ_ _ h=>h.th i hi) ho.fin λa=>(hst a).bdU (jr 0 rfl) λ_=>hb.bdF (ih (a::as) (i+1) hi)).to λvs Q s h=>kH (ht _) h
theorem DJ{mi:XM SV}{iter:Expr}{pos:Pos}(H:aD c F)(hi:Snd c F mi (eval iter c.env) rV)(hst:∀v,aj c F (rV v) (st v) (λu=>assign target c.env u) rU)
  (hb:Snd c F bd (execs body c.env) rF)(ho:Snd c F oe (execs orelse c.env) rF)(n:Nat)(hs:∀x,foldedSetIterable iter c.env x=pure x)(ht:∀it v,letOwnedTupleGo target it v=pure ()):
  Snd c F (MK mi st bd oe n) (exec (.For target iter body orelse pos) c.env) rF:=
 (hi.bd λv=>(mD H v).bdK (jr 0 rfl) λit=>yG H hst hb ho ht it n _ 0 rfl).snd λs Q h=>wpAny_For (Qw h (λ_ _ z=>Qw z (λ_ _ z=>yS z) λ_ _ e=>e) λ_ _ e=>e) hs
end
noncomputable def lp(env:Env):List (Str×NameKind)->List (Str×Addr)->Option (List (Str×Addr))
 |[],cs=>QE cs
 |(n,k)::r,cs=>match k== .free with
  |true=>match env.cells.lookup n with
   |some a=>lp env r ((n,a)::cs)
   |none=>QD
  |false=>lp env r cs
theorem ki{env:Env}:∀{l:List (Str×NameKind)}{cs cl:List (Str×Addr)},lp env l cs=QE cl->
  (forIn l cs λx r=>do if x.2== .free then pure (ForInStep.yield ((x.1,<-cellOf env x.1)::r))else pure (ForInStep.yield r):Sem (List (Str×Addr)))=pure cl
 |[],cs,cl,e=>by cases e;rfl
 |(n,k)::r,cs,cl,e=>by
  unfold lp at e
  rw[List.forIn_cons]
  cases hk:(k==NameKind.free)with
  |false=>
   rw[hk]at e
   simp only[Bool.false_eq_true,if_false,pure_bind]
   exact ki e
  |true=>
   rw[hk]at e
   dsimp only at e
   cases hl:env.cells.lookup n with
   |none=>rw[hl]at e;cases e
   |some a=>
    rw[hl]at e
    have hc:cellOf env n=pure a:=by unfold cellOf;rw[hl]
    simp only[if_true,hc,pure_bind]
    exact ki e
theorem lV{scope:Scope}{env:Env}{cl:List (Str×Addr)}(e:lp env scope.names []=QE cl):closureFor scope env=pure cl:=by
 have h:=ki e
 unfold closureFor
 have h2:(forIn scope.names ([]:List (Str×Addr)) λx r=>do if x.2== .free then pure (ForInStep.yield ((x.1,<-cellOf env x.1)::r))else pure (ForInStep.yield r):Sem (List (Str×Addr))) >>=(λcs=>pure cs)=pure cl:=by rw[h];rfl
 exact h2
section
variable{M:Model}{A:Around}{E:Value->Shared->Prop}{env:Env}
def nL(M:Model)(A:Around)(use:Option (Value->Sem Unit))(Q:Value->Shared->Prop)(acc:Value)(C:Addr)(r:Result)(s':Shared):Prop:=
 match r,use with
 |.ok _,QD=>∃m,s'.heap.Ns C m/\∀h' m',h'.Ns C m'->Heap.SameBut C s'.heap h'->Q acc { s' with heap:=h' }
 |.ok _,QE u=>wpAny M A (u acc) (λ_ s''=>∃m,s''.heap.Ns C m/\∀h' m',h'.Ns C m'->Heap.SameBut C s''.heap h'->Q .none { s'' with heap:=h' }) NoE s'
 |.error _,_=>False
theorem As{e:Expr}{scope:Scope}{pos:Pos}{newAcc first:Sem Value}{g:Comprehension}{gs:List Comprehension}{cl:List (Str×Addr)}{use:Option (Value->Sem Unit)}{Q:Value->Shared->Prop}
  (hcl:clausesOf e=g::gs)(hs:∀x,foldedSetIterable g.iter env x=pure x)(hclos:closureFor scope env=pure cl)(hkind:scope.kind= .function)(hnames:∀x∈scope.names,x.2= .local->scope.names.lookup x.1=QE .local)
  (h:wpAny M A first (λx s₁=>wpAny M A (pyIter x) (λit s₂=>wpAny M A newAcc (λacc s₃=>wpAny M A (newFunctionEnv scope env.globals cl [] env.qual QD .none (QE env)) (λcenv s₄=>
    codeAny M A (.compStart e 0 it acc { cenv with scope:=relabel scope env }) (nL M A use Q acc cenv.locals) s₄) NoE s₃) NoE s₂) NoE s₁) NoE s):
  wpAny M A (comprehension e scope env pos newAcc QG first use) Q NoE s:=by
 have kind:∀(cenv:Env)(l:List (Str×NameKind)),(∀x∈l,x∈scope.names)->∀x∈l,x.2= .local->Env.kindOf { cenv with scope:=relabel scope env } x.1=QE .local:=λcenv l hl x hx hk=>lookup_relabel_local (hnames x (hl x hx) hk)
 unfold comprehension
 rw[hclos,hcl]
 refine Qv (Qw h (λx s₁ h₁=>?_) λ_ _ z=>z)
 refine Qv (QB (Qv (Qz (hs x) (Qv (Qy (Qw h₁ (λit s₂ h₂=>?_) λ_ _ z=>z))))))
 refine wpAny_standIf (Qv (Qw h₂ (λacc s₃ h₃=>Qv (Qx (Qv (Qw h₃ (λcenv s₄ h₄=>?_) λ_ _ z=>z)))) λ_ _ z=>z))
 dsimp only
 refine Qy (Qv (wpAny_attempt (Qy (wpAny_run (codeAny_mono h₄ λr s' hr=>?_)))))
 cases r with
 |error x=>exact hr.elim
 |ok f=>
  cases use with
  |none=>
   obtain⟨m,hn,hr⟩:=hr
   refine Qv (Qy (wpAny_comp_letGo (cenv:={ cenv with scope:=relabel scope env }) hkind _ s' m (kind cenv _ λx hx=>(List.mem_filter.mp (List.mem_reverse.mp hx)).1) hn λh' m' hn' hs'=>Qx (hr h' m' hn' hs')))
  |some u=>
   refine Qv (wpAny_rule (Qv (Qy (Qw hr (λ_ s'' hr'=>?_) λ_ _ z=>z))))
   obtain⟨m,hn,hr'⟩:=hr'
   refine Qv (wpAny_comp_letGo (cenv:={ cenv with scope:=relabel scope env }) hkind _ s'' m (kind cenv _ λx hx=>?_) hn λh' m' hn' hs'=>Qx (hr' h' m' hn' hs'))
   rcases Qd.mp hx with q|q
   .exact(List.mem_filter.mp (List.mem_reverse.mp (List.mem_of_mem_drop q))).1
   .exact(List.mem_filter.mp (List.mem_reverse.mp (List.mem_of_mem_take q))).1
end
noncomputable def d0(cells:List (Str×Nat)):List (Str×NameKind)->List (Str×Nat)->Option (List (Str×Nat))
 |[],cs=>QE cs
 |(n,k)::r,cs=>match k== .free with
  |true=>match cells.lookup n with
   |some a=>d0 cells r ((n,a)::cs)
   |none=>QD
  |false=>d0 cells r cs
noncomputable def mI(O:List Addr):List (Str×Nat)->List (Str×Addr)->Prop
 |[],l=>l=[]
 |p::r,l=>∃a t,l=(p.1,a)::t/\O[p.2]?=QE a/\mI O r t
theorem mI.cellR:∀{l:List (Str×Nat)}{m:List (Str×Addr)},mI O l m->mU O l m
 |[],_,h=>by rw[show _=_ from h];exactλx k e=>nomatch e
 |p::r,_,⟨a,t,e,h1,h2⟩=>by
  subst e
  intro x k q
  rw[List.lookup_cons]at q ⊢
  cases hx:(x==p.1)with
  |true=>rw[hx]at q;cases q;exact⟨a,rfl,h1⟩
  |false=>rw[hx]at q;exact h2.cellR x k q
theorem iM{O:List Addr}{cells:List (Str×Nat)}{env:Env}(hc:mU O cells env.cells):∀{l:List (Str×NameKind)}{cs cl:List (Str×Nat)}{ds:List (Str×Addr)},d0 cells l cs=QE cl->mI O cs ds->∃dl,lp env l ds=QE dl/\mI O cl dl
 |[],cs,cl,ds,e,h=>by cases e;exact⟨ds,rfl,h⟩
 |(n,k)::r,cs,cl,ds,e,h=>by
  unfold d0 at e
  unfold lp
  cases hk:(k==NameKind.free)with
  |false=>rw[hk]at e;exact iM hc e h
  |true=>
   rw[hk]at e
   dsimp only at e ⊢
   cases hl:cells.lookup n with
   |none=>rw[hl]at e;cases e
   |some j=>
    rw[hl]at e
    obtain⟨a,q1,q2⟩:=hc n j hl
    rw[q1]
    exact iM hc e ⟨a,ds,rfl,q2,h⟩
noncomputable def dg(scope sc:Scope):Scope:=
 { scope with names:=scope.names.map λ(n,k)=>if(k== .free&&sc.kind== .function&&sc.names.lookup n==QE .cell)then(n, .cell)else(n,k) }
theorem pQ(scope:Scope)(env:Env):relabel scope env=dg scope env.scope:=rfl
noncomputable def du(scope:Scope)(x:Str):Bool:=(scope.kind== .function)&&(scope.names.all λy=>!(y.2== .cell))&&(scope.names.all λy=>!(y.2== .local)||scope.names.lookup y.1==QE .local)&&(scope.names.lookup x==QE .local)
theorem yf{scope:Scope}{x:Str}(h:du scope x=QF):scope.kind= .function/\(∀y∈scope.names,y.2≠ .cell)/\(∀y∈scope.names,y.2= .local->scope.names.lookup y.1=QE .local)/\scope.names.lookup x=QE .local:=by
 unfold du at h
 rw[Qp,Qp,Qp]at h
 obtain⟨⟨⟨h1,h2⟩,h3⟩,h4⟩:=h
 refine⟨by simpa using h1,λy hy=>?_,λy hy hl=>?_,by simpa using h4⟩
 .have:=List.all_eq_true.mp h2 y hy;simpa using this
 .have:=List.all_eq_true.mp h3 y hy
  rw[hl]at this
  simpa using this
def nZ:SO->Prop
 |.loose T vs=>(T="list_iterator"\/T="tuple_iterator")\/((T="dict_keyiterator"\/T="dict_valueiterator")/\∃d i n e:Nat,vs=[.ref d, .top (.int (.ofNat i) 0), .top (.int (.ofNat n) 0), .top (.int (.ofNat e) 0)])
 |.fields T _=>T="range_iterator"
 |_=>False
theorem v5(p:Pre c F O S s m news){it:Nat}{so:SO}{v:Value}(e:S.led[it]?=QE so)(hT:nZ so)(hv:aA O (.ref it) v){Q:Value->Shared->Prop}{E:Value->Shared->Prop}(h:Q v s):
  wpAny c.M c.A (pyIter v) Q E s:=by
 obtain⟨a,hσ,rfl⟩:=hv
 cases so with
 |fields T vs=>
  have hT':T="range_iterator":=hT
  subst hT'
  obtain⟨a',o,g1,g2,g3,us,rfl,g6⟩:=p.rep.get e
  rw[hσ]at g2;cases g2
  have hT:s.TypeIs (.ref a) "range_iterator":=⟨_,g3,rfl⟩
  refine wpAny_pyIter_slot hT PySem.F.slot_range_iterator_iter (wpAny_call_entry PySem.F.slot_range_iterator_iter hT PySem.F.entry_range_iterator_iter ?_ (PySem.F.args_range_iterator_iter_1 _))
  show wpAny _ _ (ret (.ref a)) _ _ s
  exact Qx ⟨_,rfl,"range_iterator",_,hT,PySem.F.slot_range_iterator_next.lookup,h⟩
 |loose T vs=>
 obtain⟨a',o,g1,g2,g3,us,g4,g5,g6⟩:=p.rep.get e
 rw[hσ]at g2;cases g2
 rcases(show(T="list_iterator"\/T="tuple_iterator")\/((T="dict_keyiterator"\/T="dict_valueiterator")/\∃d i n e:Nat,vs=[.ref d, .top (.int (.ofNat i) 0), .top (.int (.ofNat n) 0), .top (.int (.ofNat e) 0)])from hT)with(rfl|rfl)|⟨hT2,d,i,n,ev,rfl⟩
 .have hT:s.TypeIs (.ref a) "list_iterator":=⟨o,g3,g4⟩
  refine wpAny_pyIter_slot hT slot_listiter_iter (wpAny_call_entry slot_listiter_iter hT entry_listiter_iter ?_ (args_listiter_iter _))
  show wpAny _ _ (ret (.ref a)) _ _ s
  exact Qx ⟨_,rfl,"list_iterator",_,hT,slot_listiter_next.lookup,h⟩
 .have hT:s.TypeIs (.ref a) "tuple_iterator":=⟨o,g3,g4⟩
  refine wpAny_pyIter_slot hT PySem.F.slot_tuple_iterator_iter (wpAny_call_entry PySem.F.slot_tuple_iterator_iter hT PySem.F.entry_tuple_iterator_iter ?_ (PySem.F.args_tuple_iterator_iter_1 _))
  show wpAny _ _ (ret (.ref a)) _ _ s
  exact Qx ⟨_,rfl,"tuple_iterator",_,hT,PySem.F.slot_tuple_iterator_next.lookup,h⟩
 .obtain⟨v1,r1,rfl,⟨da,hda,rfl⟩,v2,r2,rfl,h2,v3,r3,rfl,h3,v4,r4,rfl,h4,h5⟩:=g6
  rw[show v2=_ from h2,show v3=_ from h3,show v4=_ from h4,show r4=[]from h5]at g5
  rcases hT2 with rfl|rfl
  .exact wpAny_pyIter_keyiter ⟨o,g3,g4,g5⟩ h
  .exact wpAny_pyIter_valiter ⟨o,g3,g4,g5⟩ h
 |_=>exact hT.elim
noncomputable def Cx.block(c:Cx)(sc:Scope)(C:Addr)(cl:List (Str×Addr)):Cx:={ c with cp:=QE (sc,C,cl) }
theorem Ah(H:aD c F){scope:Scope}{C:Addr}{cl:List (Str×Addr)}{cells:List (Str×Nat)}{k:Nat}(hk:scope.kind= .function):aD (c.block scope C cl) ⟨scope,cells,F.lvl,QE k⟩:=
 ⟨⟨rfl,H.kin,H.top,H.frames,hk,H.ffn,(λe=>nomatch e),H.depth,H.units,H.sysm,H.dicts⟩,H.handled⟩
noncomputable def dR:Expr->Bool
 |.Set ..=>QG
 |_=>QF
theorem jn{e:Expr}{env:Env}(h:dR e=QF):∀x,foldedSetIterable e env x=pure x:=λx=>by
 cases e<;>first|rfl|(cases h)
noncomputable def mw(sc scope:Scope)(t:Str)(l1 l2:Nat):Bool:=(sc.kind== .function)&&sc.names.lookup t==QE .local&&l1==l2&&!(scope.names.any λ(n,k)=>n==t&&(k== .local||k== .cell))
theorem pL{elt:Expr}{gens:List Comprehension}{scope:Scope}{pos tp:Pos}{t:Str}{ln:Nat}{env:Env}(hf:env.scope.kind= .function):swapsWith (.ListComp elt gens scope pos) (QE (.Name t tp)) ln env=pure (mw env.scope scope t tp.line pos.line):=by
 unfold swapsWith mw Env.blockKind Env.kindOf
 rw[hf]
 rfl
def tK(a:SV):XM SV:=match a with
 |.int n=>eF (.fields "range" [.int (.ofNat 0), .int n, .int (.ofNat 1)])
 |_=>ar
theorem sG(a:SV):aj c F (rV a) (tK a) (λv=>PySem.call (.type "range") [v]) rV:=by
 unfold tK
 split
 .rename_i n
  intro x r x' e hc
  cases e
  refine⟨hc,λO s m news g p hg=>?_⟩
  obtain⟨t,rfl⟩:=hg
  refine call_range_1 ?_
  exact p.made (o:= .fields "range" [.int (.ofNat 0), .int n, .int (.ofNat 1)]) (λb o e=>Qr _ e) (λb o e=>Qs e) (Qu _ rfl)
   ⟨[.int 0 s.toks, .int n t, .int 1 (s.toks+1)],rfl,_,_,rfl,⟨_,rfl⟩,_,_,rfl,⟨_,rfl⟩,_,_,rfl,⟨_,rfl⟩,rfl⟩
 .exact aX
noncomputable def ltN:List Nat->List Nat->Bool
 |[],[]=>QG
 |[],_::_=>QF
 |_::_,[]=>QG
 |a::l,b::r=>match Nat.blt a b with
  |true=>QF
  |false=>match Nat.beq a b with
   |true=>ltN l r
   |false=>QG
noncomputable def tD(x:Str):List Str->List Str
 |[]=>[x]
 |y::r=>match ltN x.cps.toList y.cps.toList with
  |true=>x::y::r
  |false=>y::tD x r
noncomputable def a7:List Str->List Str
 |[]=>[]
 |x::r=>tD x (a7 r)
theorem je(x:Str):∀l:List Str,(tD x l).Perm (x::l)
 |[]=> .refl _
 |y::r=>by
  unfold tD
  split
  .exact .refl _
  .exact((je x r).cons y).trans (.swap x y r)
theorem cM:∀l:List Str,(a7 l).Perm l
 |[]=> .refl _
 |x::r=>(je x (a7 r)).trans ((cM r).cons x)
def leS(a b:Str):Prop:=a.cps.toList<=b.cps.toList
theorem LF(a:Str):leS a a:=List.le_refl _
theorem nc{a b d:Str}(h:leS a b)(k:leS b d):leS a d:=List.le_trans h k
theorem zq{a b:Str}(h:leS a b)(k:leS b a):a=b:=by
 have:=List.le_antisymm h k
 obtain⟨⟨a⟩⟩:=a
 obtain⟨⟨b⟩⟩:=b
 cases this;rfl
theorem lT{a b:Str}(h:¬b.cps.toList<a.cps.toList):leS a b:=h
theorem Ke(a b:Str):leS a b\/leS b a:=List.le_total _ _
theorem tL:∀a b:List Nat,ltN a b=decide (a<b)
 |[],[]=>by simp[ltN]
 |[],_::_=>by simp[ltN]
 |_::_,[]=>by simp[ltN]
 |a::l,b::r=>by
  unfold ltN
  have e1:Nat.blt a b=decide (a<b):=by
   rw[Bool.eq_iff_iff,decide_eq_true_iff]
   exact iff_of_eq Nat.blt_eq
  cases h:Nat.blt a b with
  |true=>
   rw[h]at e1
   have:a<b:=of_decide_eq_true e1.symm
   symm;rw[decide_eq_true_iff]
   exact List.cons_lt_cons_iff.mpr (.inl this)
  |false=>
   rw[h]at e1
   have hn:¬a<b:=of_decide_eq_false e1.symm
   dsimp only
   cases k:Nat.beq a b with
   |true=>
    have:=PV k
    subst this
    dsimp only
    rw[tL l r,Bool.eq_iff_iff,decide_eq_true_iff,decide_eq_true_iff,List.cons_lt_cons_iff]
    exact⟨λh=> .inr ⟨rfl,h⟩,λh=>h.elim (λq=>absurd q (Nat.lt_irrefl _)) (·.2)⟩
   |false=>
    have hne:a≠b:=Nat.ne_of_beq_eq_false k
    symm;rw[decide_eq_false_iff_not,List.cons_lt_cons_iff]
    rintro(q|q)
    .exact hn q
    .exact hne q.1
theorem jN(x:Str):∀l:List Str,l.Pairwise leS->(tD x l).Pairwise leS
 |[],_=>by simp[tD]
 |y::r,h=>by
  rw[List.pairwise_cons]at h
  unfold tD
  cases q:ltN x.cps.toList y.cps.toList with
  |true=>
   rw[tL]at q
   have hxy:leS x y:=List.le_of_lt (of_decide_eq_true q)
   dsimp only
   rw[List.pairwise_cons,List.pairwise_cons]
   refine⟨λz hz=>?_,h⟩
   rcases Qb.mp hz with rfl|hz
   .exact hxy
   .exact nc hxy (h.1 z hz)
  |false=>
   rw[tL]at q
   have hyx:leS y x:=lT (of_decide_eq_false q)
   dsimp only
   rw[List.pairwise_cons]
   refine⟨λz hz=>?_,jN x r h.2⟩
   rcases Qb.mp ((je x r).mem_iff.mp hz)with rfl|hz
   .exact hyx
   .exact h.1 z hz
theorem cW:∀l:List Str,(a7 l).Pairwise leS
 |[]=> .nil
 |x::r=>jN x _ (cW r)
theorem fH:∀{l k:List Str},l.Perm k->l.Pairwise leS->k.Pairwise leS->l=k
 |[],k,p,_,_=>by rw[p.nil_eq]
 |x::l,[],p,_,_=>by have:=p.length_eq;simp at this
 |x::l,y::k,p,h1,h2=>by
  rw[List.pairwise_cons]at h1 h2
  have hx:x∈y::k:=p.mem_iff.mp (.head _)
  have hy:y∈x::l:=p.mem_iff.mpr (.head _)
  have e:x=y:=by
   rcases Qb.mp hx with q|q
   .exact q
   .rcases Qb.mp hy with q'|q'
    .exact q'.symm
    .exact zq (h1.1 y q') (h2.1 x q)
  subst e
  rw[fH ((List.perm_cons x).mp p) h1.2 h2.2]
theorem nv:∀{p:Str}{l:List Str},risingS p l=QF->(p::l).Pairwise leS
 |p,[],_=>by simp
 |p,x::r,h=>by
  unfold risingS at h
  rw[Qp]at h
  have hpx:leS p x:=by
   have:=h.1
   rw[ltCps_eq]at this
   exact lT (by simpa using this)
  have ih:=nv h.2
  rw[List.pairwise_cons]
  refine⟨λz hz=>?_,ih⟩
  rcases Qb.mp hz with rfl|hz
  .exact hpx
  .exact nc hpx ((List.pairwise_cons.mp ih).1 z hz)
theorem qH{l k:List Str}(p:l.Perm k)(h:sortedS l=QF):l=a7 k:=by
 refine fH (p.trans (cM k).symm) ?_ (cW k)
 cases l with
 |nil=>exact .nil
 |cons x r=>exact nv h
theorem Cr{l k:List Str}(p:l.Perm k):a7 l=a7 k:=fH ((cM l).trans (p.trans (cM k).symm)) (cW l) (cW k)
def uS(a:SV):XM SV:=cE a λl=>xrd l iB λys=>lM [Nat.blt ys.length 64=QF] (.words (a7 ys))
theorem qj(a:SV):aj c F (rV a) (uS a) (λv=>PySem.call (.builtin "sorted") [v]) rV:=j0 a λl x=>At.rd λo ys ho hy=>At.new λhb=>cc ho λO s m news ad ob p hσ f1 f3 q=>iZ hy q λvs n e y=>
 sorted_N_str p.rep.fr p.rep.nw (aW (e▸f3)) y (by rw[az y];exact PT hb.1) λh' vs' ss' e' F' N' y' hp hs'=>
  ⟨_,m,_,P6 _ _,p.heap (P6 _ _) (p.rep.alloc F' N' (λq hq=>Nat.lt_succ_of_lt (Qs (p.rep.nw q hq).1)) (x:= .words (a7 ys)) ⟨vs',e',rfl,qH hp hs'▸y'⟩),s.heap.objs.size+1,by rw[<-p.len];simp,rfl⟩
noncomputable def nI:Expr->Bool
 |.Call ..=>QF
 |_=>QG
noncomputable def GY:SO->Option (SV×SV)
 |.tup xs=>match xs with
  |[p,q]=>QE (p,q)
  |_=>QD
 |_=>QD
theorem vM{P:Params}{o:SO}{r:SV×SV}{ob:Obj}(e:GY o=QE r)(h:aP P O o ob){G:Prop}(g:∀u v n,ob={ cls:= .type "tuple",data:= .seq #[u,v] n }->au O [r.1,r.2] [u,v]->G):G:=by
 cases o with
 |tup xs=>
  rcases xs with _|⟨a,_|⟨b,_|⟨d,xs⟩⟩⟩
  .exact nn e
  .exact nn e
  .cases QH e
   exact Qq h λvs h=>Qq h λn h=>LR.elim (G:=λvs=>ob={ cls:= .type "tuple",data:= .seq vs.toArray n }->G) h.2 (λu r1 h1 h2=>LR.elim (G:=λvs=>ob={ cls:= .type "tuple",data:= .seq (u::vs).toArray n }->G) h2 λv r2 h3 h4=>Eq.symm h4▸λq=>g u v n q ⟨u,_,rfl,h1,v,_,rfl,h3,rfl⟩) h.1
  .exact nn e
 |_=>exact nn e
def G7(F:Fs)(mv:XM SV)(a b:Str):XM XF:=ag mv λv=>cE v λk=>xrd k GY λr=>ag (cO F a r.1) λ_=>ag (cO F b r.2) λ_=>aH XF.next
theorem Pre.grown(p:Pre c F O S s m news){h':Heap}(hk:∀b o,s.heap.get? b=QE o->h'.get? b=QE o):Pre c F O S { s with heap:=h' } m news:=by
 refine p.heap' (P5 _) ⟨?_,λq hq=>⟨hk _ _ (p.rep.nw q hq).1,(p.rep.nw q hq).2⟩,p.rep.at_,p.rep.nd,p.rep.ob,p.rep.lc⟩
 obtain⟨oL,es,ep,hL,hLd,hLk,hLf⟩:=p.rep.fr.ns
 exact⟨⟨oL,es,ep,hk _ _ hL,hLd,hLk,hLf⟩,λb o e=>hk b o (p.rep.fr.keep b o e),p.rep.fr.above⟩
theorem xd{M:Program}{w:World}{A:Around}{env:Env}{v:Expr}{a b:Str}{pa pb tp pos:Pos}{k:Nat}{Q:Flow->Shared->Prop}(hA:A.handled=QD)(hc:nI v=QF)
  (h:wpAny (model M w) A (eval v env) (λu s1=>∃ad n v2 v3,u= .ref ad/\s1.heap.get? ad=QE { cls:= .type "tuple",data:= .seq #[v2,v3] n }/\∀h',(∀b o,s1.heap.get? b=QE o->h'.get? b=QE o)->wpAny (model M w) A (storeName env a v2) (λ_ s2=>wpAny (model M w) A (storeName env b v3) (λ_=>Q .next) NoE s2) NoE { s1 with heap:=h' }) NoE s):
  wpAny (model M w) A (exec (.Assign [.Tuple [.Name a pa, .Name b pb] k tp] v pos) env) Q NoE s:=by
 have hs:swapsWithSole [.Tuple [.Name a pa, .Name b pb] k tp] v pos.line env=pure QG/\swappedStores [.Tuple [.Name a pa, .Name b pb] k tp] v env=pure QD:=by
  cases v with
  |Call=>exact⟨rfl,rfl⟩
  |_=>exact ff hc
 refine Assign_Tuple (Qw h (λu s1 z=>Qq z λad z=>Qq z λn z=>Qq z λv2 z=>Qq z λv3 z=>?_) λ_ _ e=>e) hs.1 hs.2
 cases z.1
 exact assign_Tuple_tuple hA ⟨_,z.2.1,rfl,n,rfl⟩ rfl rfl λh' he=>Qv (Qy (wpAny_assign_Name (Qw (z.2.2 h' λb o e=>he b o (PY (Qs e)) e) (λ_ s2 y=>Qv (Qy (wpAny_assign_Name (Qw y (λ_ _ y=>Qx y) λ_ _ e=>e)))) λ_ _ e=>e)))
theorem zh(H:aD c F){mv:XM SV}{v:Expr}{a b:Str}{pa pb tp pos:Pos}{k:Nat}(hv:Snd c F mv (eval v c.env) rV)(hc:nI v=QF):
  Snd c F (G7 F mv a b) (exec (.Assign [.Tuple [.Name a pa, .Name b pb] k tp] v pos) c.env) rF:=λx r x' h hh=>aZ h λsv x1 e1 h=>pU h λkk e h=>l9 h λo pq ho h2 h=>
 have z:=((cB H.toCxW a pq.1).bdU (as:=[pq.1,pq.2]) (jr 0 rfl) λ_=>(cB H.toCxW b pq.2).bdU (jr 1 rfl) λ_=>eg) x1 r x' h hh
 have y:=hv x sv x1 e1 z.1
 ⟨y.1,λO s m news p=>xd H.handled hc (go_ (y.2 O s m news p) λO1 m1 n1 u s1 p1 q1 r1=>Qq (e▸r1:aA O1 (.ref kk) u) λad w=>q1.objAt ho w.1 λob f1 f3 f4=>vM h2 f4 λv2 v3 n eo hvs=>⟨ad,n,v2,v3,w.2,eo▸f3,λh' hk=>
  z.2 O1 _ m1 n1 [v2,v3] (q1.grown hk) hvs _ λO2 m2 n2 f s2 p2 q2 r2=>⟨O2,m2,n2,p1.trans p2,q2,r2⟩⟩)⟩
structure FnV where
 f:Addr
 na:Nat
 nfix:Nat
 star:Str
 binds:List (Str×ic)
 body:List Stmt
 sc:Scope
structure lJ (K:Frag) (e:FnV):Prop where
 fn:∃name qual params dV kV doc pm cdv ct oc an od osl,K.lookup e.f=QE ⟨oc,od, .func (fnOf name qual params e.body e.sc dV kV doc pm an cdv ct),osl⟩/\codeIn K cdv qual=QF/\
  ∀(S:Setting)(vs:List Value),vs.length=e.na->∃b,jJ vs [] e.binds b/\∃g,peek1 K S (bindArgs (fnOf name qual params e.body e.sc dV kV doc pm an cdv ct) ⟨vs,[]⟩)=QE (({ cls:= .type "tuple",data:= .seq (vs.drop e.nfix).toArray }:Obj),g)/\∀D,g D=QE (b++[(e.star,Value.ref D)])
 loc:∀y∈e.binds,e.sc.names.lookup y.1=QE .local
 sloc:e.sc.names.lookup e.star=QE .local
 nocell:∀x∈e.sc.names,x.2≠ .cell
 co:e.sc.isCoroutine=QG
 gen:e.sc.isGenerator=QG
 kind:e.sc.kind= .function
def Ad(run:Fs->List Stmt->XM XF)(lvl:Nat)(e:FnV)(vs:List SV):XM SV:=λx=>(eX vs [] e.binds).elim QD λb=>j7 x (run ⟨e.sc,[],lvl,QD⟩ e.body ⟨⟨(b++[(e.star,SV.ref x.st.led.length)]).reverse,x.st.led++[.tup (vs.drop e.nfix)]⟩,x.hs,x.n,[],x.orc⟩)
theorem mV{A:Around}{lvl:Nat}{e:FnV}{args:List SV}{vs:List Value}{b:List (Str×SV)}{O τ:List Addr}{Sin:List SO}{mm:Fm}{news sub:List (Addr×Obj)}{R:Result->Shared->Prop}(H:aD c F)(hl:lvl+2<=F.lvl)(HA:AOk c F A)(HE:lJ c.K e)
  (p:Pre c F O S s mm news)(u:Sub c news τ Sin sub)(hna:args.length=e.na)(hv:au τ args vs)(hb:eX args [] e.binds=QE b)
  (k:∀c' τ1 o9 s1 m1,ju c c'->aD c' ⟨e.sc,[],lvl,QD⟩->Pre c' ⟨e.sc,[],lvl,QD⟩ τ1 ⟨(b++[(e.star,SV.ref Sin.length)]).reverse,Sin++[.tup (args.drop e.nfix)]⟩ s1 m1 o9->(∀τ' S' s' m' sub',τ1 <+:τ'->Pre c' ⟨e.sc,[],lvl,QD⟩ τ' S' s' m' sub'->∃g,xG c mm O news τ τ' S'.led g sub' s')->
   wpAny c'.M c'.A (execs e.body c'.env) (λfl s'=>R (.ok (.ret (flV fl))) s') (λev s'=>wpAny c'.M c'.A (leaving c'.env ev) (λ_ s''=>R (.error ev) s'') (λe' s''=>R (.error e') s'') s') s1):
  codeAny c.M A (.call (.ref e.f) ⟨vs,[]⟩) R s:=by
 obtain⟨name,qual,params,dV,kV,doc,pm,cdv,ct,oc,an,od,osl,hlook,hcode,hbind⟩:=HE.fn
 have X:=(p.kin H.toCxW).keeps p.rep.fr.keep
 obtain⟨bv,hbv,gf,hpk,hgf⟩:=hbind ⟨c.pr,c.w.params⟩ vs (hv.length.trans hna)
 refine codeAny_call_function (fd:=fnOf name qual params e.body e.sc dV kV doc pm an cdv ct) (body:=e.body) (by have:=H.depth;have:=HA.depth;lia) (X _ _ hlook) rfl HE.co HE.gen rfl (codeRec_of X hcode) ?_
 refine wp_of_peek1 (o:=({ cls:= .type "tuple",data:= .seq (vs.drop e.nfix).toArray }:Obj)) p.rep.fr p.rep.nw X rfl (r:=λD=>bv++[(e.star,Value.ref D)]) (λD h' F' N' lt=>?_) _ gf hpk hgf
 have p0:Pre c F (O++[D]) (S.add .any) { s with heap:=h' } mm (news++[(D,({ cls:= .type "tuple",data:= .seq (vs.drop e.nfix).toArray }:Obj))]):=p.heap' (P6 _ _) (p.rep.alloc F' N' lt QI)
 have pre0:τ <+:τ++[D]:=P6 _ _
 have hD:∀q∈sub,q.1≠D:=λq hq=>PY (lt q (u.mem q hq))
 have len:Sin.length=τ.length:=by rw[<-u.at_,Qh];exact u.ob.length.symm
 have hrel2:bP (τ++[D]) (b++[(e.star,SV.ref Sin.length)]) (bv++[(e.star,Value.ref D)]):=(i8 (hv.mono pre0) (⟨rfl,rfl⟩:KwR (τ++[D]) [] []) hb hbv).append ⟨_,[],rfl,⟨D,by rw[len];simp,rfl⟩,rfl⟩
 refine jj (s:={ s with heap:=h' }) (sub:=sub++[(D,({ cls:= .type "tuple",data:= .seq (vs.drop e.nfix).toArray }:Obj))]) (env:=c.fenv) p.below F' (λq hq=>?_) (p.top H.toCxW).nolimit (by rw[HA.frames];exact H.frames) rfl H.ffn (λy hy=>?_) (λgh L' h₁ FG FL NG BG hg=>?_) HE.nocell HE.kind
 .exact(Qd.mp hq).elim (λh=>N' q (.tail _ (u.mem q h))) λh=>Qc.mp h▸N' _ (.head _)
 .exact(Qd.mp hy).elim (λh=>Qq (eW hbv y h) λz h=>h.2▸HE.loc z h.1) λh=>Qc.mp h▸HE.sloc
 .exact k (c.callee A (envX qual e.sc L' e.f cdv []) gh L' qual e.sc e.f cdv []) (τ++[D]) _ _ ⟨gh,λy=>(bv++[(e.star,Value.ref D)]).reverse.lookup y⟩ ⟨rfl,rfl,rfl,rfl⟩ (gF p0 H.toCxW FG rfl HE.kind HA.frames HA.depth HA.units HA.handled hl)
   ⟨⟨FL,NG,by rw[List.map_append,u.at_];rfl,List.nodup_append.mpr ⟨u.nd,by simp,λa ha x hx e=>by
     rw[Qc.mp hx]at e
     rw[<-u.at_]at ha
     exact Qq (Qe.mp ha) λq h=>hD q h.1 (h.2.trans e)⟩,(u.ob.mono pre0).append ⟨_,[],rfl,⟨vs.drop e.nfix,0,rfl,(hv.drop _).mono pre0⟩,rfl⟩,
    hrel2.reverse.look⟩,BG,KtsTurn.refl,(λy k q=>nomatch q),(λk q=>nomatch q),⟨p.side.os,p.side.gens,PW p.side.tk (Nat.le_add_right _ _)⟩⟩
   λτ' S' s' m' sub' pre q'=>p.home FG (λq hq hn=>hg _ _ (N' q (.tail _ hq)).1 (by
    rw[List.map_append,u.at_]
    exactλh=>(Qd.mp h).elim hn λh=>PY (lt q hq) (Qc.mp h))) (pre0.trans pre) q'
theorem td{A:Around}{run:Fs->List Stmt->XM XF}{lvl:Nat}{e:FnV}{vs:List SV}(H:aD c F)(hl:lvl+2<=F.lvl)(HA:AOk c F A)(HE:lJ c.K e)(hna:vs.length=e.na)
  (hrun:∀c':Cx,ju c c'->aD c' ⟨e.sc,[],lvl,QD⟩->Snd c' ⟨e.sc,[],lvl,QD⟩ (run ⟨e.sc,[],lvl,QD⟩ e.body) (execs e.body c'.env) rF):
  vA c F A (PA vs []) (Ad run lvl e vs) (λg=> .call (.ref e.f) ⟨g.1,g.2⟩):=λx a x' q hc=>Qq (dA q) λb q=>fM q.2 λfl x1 hr hfl h1 h2=>
 have hc:=bh.app (h2▸hc)
 ⟨hc.2,λO s mm news g p hi=>by
  obtain⟨gp,gk⟩:=g
  have hk:gk=[]:=List.map_eq_nil_iff.mp hi.2.1.symm
  subst hk
  exact h1▸mV H hl HA HE p p.all hna hi.1 q.1 λc' τ1 o9 s1 m1 hs HC P' home=>Qw ((hrun c' hs HC _ _ _ hr hc.1).2 _ _ _ _ P') (λf s'⟨τ',m',sub',pre,q',r'⟩=>Qq (home _ _ _ _ _ pre q') λg h=>jf p h (dU hfl r')) λ_ _ z=>z.elim⟩
noncomputable def dZ(n:Nat):List Str->List (Str×Nat)
 |[]=>[]
 |x::r=>(x,n)::dZ (n+1) r
theorem lg{P:Params}{O:List Addr}{cm:Str->Option Value}(hcm:∀x,cm x=QD):∀{cs:List (Str×Addr)}{cells:List (Addr×Obj)},CellsAre cm cs cells->cells.map (·.1)=cs.map (·.2)/\cy P O (cs.map λ_=>SO.cell QD) cells
 |_,_, .nil=>⟨rfl,rfl⟩
 |_,_, .cons (n:=n) (c:=c) (o:=o) hd h=>by
  obtain⟨h1,h2⟩:=lg (P:=P) (O:=O) hcm h
  exact⟨by rw[List.map_cons,List.map_cons,h1],_,_,rfl,⟨_,hd,by rw[hcm];rfl⟩,h2⟩
theorem yA{τ:List Addr}{cs:List (Str×Addr)}:∀{O:List Addr}{n:Nat},O.length=n->O++cs.map (·.2) <+:τ->mI τ (dZ n (cs.map (·.1))) cs:=by
 induction cs with
 |nil=>exactλ_ _=>rfl
 |cons p r ih=>exactλ{O n}hn h=>⟨p.2,r,rfl,aY h (hn▸(Qa (PX _)).trans ((Nat.sub_self O.length).symm▸rfl)),ih (O:=O++[p.2]) (Qf.trans (QJ (·+1) hn)) ((List.append_assoc O [p.2] _).symm▸h)⟩
theorem rg{kindOf:Str->Option NameKind}(binds:List (Str×Value)):∀(m:Str->Option Value),(∀y∈binds,kindOf y.1=QE .local)->∀y,bindL kindOf binds m y=(binds.reverse.lookup y).or (m y):=by
 induction binds with
 |nil=>exactλ_ _ _=>rfl
 |cons p r ih=>
  intro m h y
  obtain⟨n,v⟩:=p
  unfold bindL
  rw[if_pos (h (n,v) (.head _)),ih _ (λz hz=>h z (.tail _ hz)) y,List.reverse_cons,List.lookup_append]
  cases List.lookup y r.reverse with
  |some u=>rfl
  |none=>
   cases q:(y==n)with
   |true=>rw[cA (p:=(n,v)) q,if_pos (eq_of_beq q)];rfl
   |false=>rw[bS (p:=(n,v)) q,if_neg (ne_of_beq_false q)];rfl
theorem pX{kindOf:Str->Option NameKind}(binds:List (Str×Value)):∀(m:Str->Option Value),(∀y∈binds,kindOf y.1=QE .local)->bindC kindOf binds m=m:=by
 induction binds with
 |nil=>exactλ_ _=>rfl
 |cons p r ih=>
  intro m h
  obtain⟨n,v⟩:=p
  unfold bindC
  rw[if_pos (h (n,v) (.head _))]
  exact ih m λz hz=>h z (.tail _ hz)
theorem eM:∀(names:List (Str×NameKind))(n:Nat)(acc:List (Str×Addr)),(∀p∈acc,p.2<n)->(acc.map (·.2)).Nodup->((cellsFrom n names acc).map (·.2)).Nodup/\∀p∈cellsFrom n names acc,p∈acc\/n<=p.2
 |[],n,acc,h,hn=>⟨hn,λp hp=> .inl hp⟩
 |(x,k)::r,n,acc,h,hn=>by
  unfold cellsFrom
  split
  .obtain⟨h1,h2⟩:=eM r (n+1) ((x,n)::acc) (λp hp=>by
    rcases Qb.mp hp with rfl|hp
    .exact Nat.lt_succ_self _
    .exact Nat.lt_succ_of_lt (h p hp)) (by
    rw[List.map_cons,Ql]
    refine⟨λq=>?_,hn⟩
    obtain⟨p,hp,e⟩:=Qe.mp q
    have:=h p hp
    rw[e]at this
    exact Nat.lt_irrefl _ this)
   refine⟨h1,λp hp=>?_⟩
   rcases h2 p hp with q|q
   .rcases Qb.mp q with rfl|q
    .exact .inr (PX _)
    .exact .inl q
   .exact .inr (Nat.le_of_succ_le q)
  .exact eM r n acc h hn
noncomputable def bw(sc:Scope):List Str:=(cellsFrom 0 sc.names []).map (·.1)
theorem e9:∀(names:List (Str×NameKind))(n k:Nat)(a b:List (Str×Addr)),a.map (·.1)=b.map (·.1)->(cellsFrom n names a).map (·.1)=(cellsFrom k names b).map (·.1)
 |[],n,k,a,b,h=>h
 |(x,t)::r,n,k,a,b,h=>by
  unfold cellsFrom
  split
  .exact e9 r _ _ _ _ (by rw[List.map_cons,List.map_cons,h])
  .exact e9 r _ _ _ _ h
structure g0 (K:Frag) (e:FnE):Prop where
 fn:∃name qual params dV kV doc pm cdv ct oc an od osl,K.lookup e.f=QE ⟨oc,od, .func (fnOf name qual params e.body e.sc dV kV doc pm an cdv ct),osl⟩/\codeIn K cdv qual=QF/\
  ∀s:Shared,K.In s.heap->∀vs kw,vs.length=e.na->kw.map (·.1)=e.kws->∃b,jJ vs kw e.binds b/\BindsTo s (fnOf name qual params e.body e.sc dV kV doc pm an cdv ct) ⟨vs,kw⟩ b
 loc:∀y∈e.binds,e.sc.names.lookup y.1=QE .local
 nd:((cellsFrom 0 e.sc.names []).map (·.1)).Nodup
 co:e.sc.isCoroutine=QG
 gen:e.sc.isGenerator=QG
 kind:e.sc.kind= .function
def AF(run:Fs->List Stmt->XM XF)(lvl:Nat)(e:FnE)(vs:List SV)(kw:List (Str×SV)):XM SV:=λx=>(eX vs kw e.binds).elim QD λb=>j7 x (run ⟨e.sc,dZ x.st.led.length (bw e.sc),lvl,QD⟩ e.body ⟨⟨b.reverse,x.st.led++(bw e.sc).map λ_=>SO.cell QD⟩,x.hs,x.n,[],x.orc⟩)
theorem mJ{A:Around}{lvl:Nat}{e:FnE}{args:List SV}{kw:List (Str×SV)}{vs:List Value}{kv:List (Str×Value)}{b:List (Str×SV)}{O τ0:List Addr}{Sin:List SO}{mm:Fm}{news sub:List (Addr×Obj)}{R:Result->Shared->Prop}(H:aD c F)(hl:lvl+2<=F.lvl)(HA:AOk c F A)(HE:g0 c.K e)
  (p:Pre c F O S s mm news)(u:Sub c news τ0 Sin sub)(hna:args.length=e.na)(hkw:kw.map (·.1)=e.kws)(hv:au τ0 args vs)(hk:KwR τ0 kw kv)(hb:eX args kw e.binds=QE b)
  (k:∀c' τ1 o9 s1 m1,ju c c'->aD c' ⟨e.sc,dZ Sin.length (bw e.sc),lvl,QD⟩->Pre c' ⟨e.sc,dZ Sin.length (bw e.sc),lvl,QD⟩ τ1 ⟨b.reverse,Sin++(bw e.sc).map λ_=>SO.cell QD⟩ s1 m1 o9->(∀τ' S' s' m' sub',τ1 <+:τ'->Pre c' ⟨e.sc,dZ Sin.length (bw e.sc),lvl,QD⟩ τ' S' s' m' sub'->∃g,xG c mm O news τ0 τ' S'.led g sub' s')->
   wpAny c'.M c'.A (execs e.body c'.env) (λfl s'=>R (.ok (.ret (flV fl))) s') (λev s'=>wpAny c'.M c'.A (leaving c'.env ev) (λ_ s''=>R (.error ev) s'') (λe' s''=>R (.error e') s'') s') s1):
  codeAny c.M A (.call (.ref e.f) ⟨vs,kv⟩) R s:=by
 obtain⟨name,qual,params,dV,kV,doc,pm,cdv,ct,oc,an,od,osl,hlook,hcode,hbind⟩:=HE.fn
 have X:=(p.kin H.toCxW).keeps p.rep.fr.keep
 obtain⟨bv,hbv,hto⟩:=hbind s X vs kv (hv.length.trans hna) (hk.1.symm.trans hkw)
 have hloc:∀y∈bv,e.sc.names.lookup y.1=QE .local:=λy hy=>Qq (eW hbv y hy) λz h=>h.2▸HE.loc z h.1
 have NS:News mm.g c.L s.heap sub:=λq hq=>p.rep.nw q (u.mem q hq)
 obtain⟨FG,BG,st,_⟩:=groundX (R:=R) (A:=A) p.below p.rep.fr NS (by rw[HA.frames];exact H.frames) rfl H.ffn
 refine codeAny_call_function (by have:=H.depth;have:=HA.depth;lia) (X _ _ hlook) rfl HE.co HE.gen rfl (codeRec_of X hcode) (hto _ _ _ _ ?_)
 refine wpAny_with_toks (n:=s.toks) (PX _) (Qw (wpAny_newFunctionEnv_cells (Q:=λenv' s₂=>s.toks<=s₂.toks->s₂.heap.NoLimit/\codeAny (model c.pr c.w) A (.func e.body env') R s₂) (E:=NoE) HE.kind (λy hy=> .inl (hloc y hy)) λenv' he s' xc ht=>?_) (λ_ _ z=>z) λ_ _ z=>z.elim)
 subst he
 refine⟨((p.top H.toCxW).nolimit.keeps p.rep.fr.keep).keeps xc.toInCall.keep,codeAny_func ?_⟩
 obtain⟨h₁,tk,rfl,_⟩:=xc.done
 have hk₁:=xc.toInCall.keep
 have hnames:(cellsFrom (s.heap.objs.size+1) e.sc.names []).map (·.1)=bw e.sc:=e9 e.sc.names (s.heap.objs.size+1) 0 [] [] rfl
 obtain⟨cells,NC,Y⟩:=Cl.news (h₀:=s.heap) (PX _) λn c hm=>⟨xc.cell n c (lookup_of_mem_nodup (hnames▸HE.nd) hm),xc.above n c hm⟩
 rw[pX bv (λ_=>QD) (λy hy=>hloc y hy)]at Y
 obtain⟨hadr,hge⟩:=eM e.sc.names (s.heap.objs.size+1) [] (λp hp=>nomatch hp) (by simp)
 have pre0:τ0 <+:τ0++(cellsFrom (s.heap.objs.size+1) e.sc.names []).map (·.2):=P6 _ _
 obtain⟨hmap,hobj⟩:=lg (P:=c.P) (O:=τ0++(cellsFrom (s.heap.objs.size+1) e.sc.names []).map (·.2)) (λ_=>rfl) Y
 have P':Pre (c.callee A (envOfC qual e.sc s.heap.objs.size e.f cdv) (hideAll s.heap (sub.map (·.1))) s.heap.objs.size qual e.sc e.f cdv (cellsFrom (s.heap.objs.size+1) e.sc.names [])) ⟨e.sc,dZ Sin.length (bw e.sc),lvl,QD⟩ (τ0++(cellsFrom (s.heap.objs.size+1) e.sc.names []).map (·.2)) ⟨b.reverse,Sin++(bw e.sc).map λ_=>SO.cell QD⟩ { s with heap:=h₁,toks:=tk } ⟨hideAll s.heap (sub.map (·.1)),λy=>bv.reverse.lookup y⟩ (sub++cells):=by
  have F':Fr (hideAll s.heap (sub.map (·.1))) s.heap.objs.size h₁ (λy=>bv.reverse.lookup y):=by
   refine⟨?_,λb o e=>hk₁ b o (of_hideAll _ e),Nat.le_of_eq (hideAll_size _ _)⟩
   obtain⟨oL,es,ep,q1,q2,q3,q4⟩:=xc.toInCall.ns
   refine⟨oL,es,ep,q1,q2,q3,λy=>(q4 y).trans ((rg (kindOf:=(envOfC qual e.sc s.heap.objs.size e.f cdv).kindOf) bv (λ_=>QD) (λy hy=>hloc y hy) y).trans ?_)⟩
   simp
  refine⟨⟨F',λq hq=>?_,?_,?_,?_,((i8 (hv.mono pre0) ⟨hk.1,hk.2.mono pre0⟩ hb hbv).reverse.look)⟩,BG,KtsTurn.refl,?_,(λk q=>nomatch q),⟨p.side.os,p.side.gens,PW p.side.tk ht⟩⟩
  .rcases Qd.mp hq with hq|hq
   .exact⟨hk₁ _ _ (NS q hq).1,PY (Qs (NS q hq).1),hideAll_none _ (List.mem_map_of_mem hq)⟩
   .refine⟨(NC q hq).1,(NC q hq).2.1,?_⟩
    cases z:(hideAll s.heap (sub.map (·.1))).get? q.1 with
    |none=>rfl
    |some o=>exact nn ((NC q hq).2.2.symm.trans (of_hideAll _ z))
  .rw[List.map_append,u.at_,hmap];rfl
  .refine List.nodup_append.mpr ⟨u.nd,hadr,λa ha d hd=>?_⟩
   rw[<-u.at_]at ha
   obtain⟨q,hq,rfl⟩:=Qe.mp ha
   obtain⟨z,hz,rfl⟩:=Qe.mp hd
   rcases hge z hz with w|w
   .cases w
   .exact PY (Nat.lt_of_lt_of_le (Qs (NS q hq).1) (Nat.le_of_succ_le w))
  .rw[<-hnames,List.map_map]
   exact(u.ob.mono pre0).append hobj
  .rw[<-hnames]
   exact(yA (by rw[<-u.at_,Qh];exact u.ob.length) (P5 _)).cellR
 exact k (c.callee A (envOfC qual e.sc s.heap.objs.size e.f cdv) (hideAll s.heap (sub.map (·.1))) s.heap.objs.size qual e.sc e.f cdv (cellsFrom (s.heap.objs.size+1) e.sc.names [])) _ _ _ _ ⟨rfl,rfl,rfl,rfl⟩ (gF p H.toCxW FG rfl HE.kind HA.frames HA.depth HA.units HA.handled hl) P' λτ' S' s' m' sub' pre q'=>p.home FG (λq hq hn=>hideAll_get _ (p.rep.nw q hq).1 (u.at_▸hn)) (pre0.trans pre) q'
theorem tQ{A:Around}{run:Fs->List Stmt->XM XF}{lvl:Nat}{e:FnE}{vs:List SV}{kw:List (Str×SV)}(H:aD c F)(hl:lvl+2<=F.lvl)(HA:AOk c F A)(HE:g0 c.K e)(hna:vs.length=e.na)(hkw:kw.map (·.1)=e.kws)
  (hrun:∀(c':Cx)(cells:List (Str×Nat)),ju c c'->aD c' ⟨e.sc,cells,lvl,QD⟩->Snd c' ⟨e.sc,cells,lvl,QD⟩ (run ⟨e.sc,cells,lvl,QD⟩ e.body) (execs e.body c'.env) rF):
  vA c F A (PA vs kw) (AF run lvl e vs kw) (λg=> .call (.ref e.f) ⟨g.1,g.2⟩):=λx a x' q hc=>Qq (dA q) λb q=>fM q.2 λfl x1 hr hfl h1 h2=>
 have hc:=bh.app (h2▸hc)
 ⟨hc.2,λO s mm news g p hi=>h1▸mJ H hl HA HE p p.all hna hkw hi.1 hi.2 q.1 λc' τ1 o9 s1 m1 hs HC P' home=>Qw ((hrun c' _ hs HC _ _ _ hr hc.1).2 _ _ _ _ P') (λf s'⟨τ',m',sub',pre,q',r'⟩=>Qq (home _ _ _ _ _ pre q') λg h=>jf p h (dU hfl r')) λ_ _ z=>z.elim⟩
structure gQ (K:Frag) (C:Addr) (n:Str) (f:Addr):Prop where
 get:plainGet K C n=QF
 dict:hasDictIn K C=QF
 find:findIn K (.ref C) n=QE (QE (.ref f))
 fn:isFn K (.ref f)=QF
 spec:specialIn K (.ref f) "__get__"=QE (QE (.builtin "function.__get__"))
 takes:takesIn K (.ref f)=QE QG
 copied:copiedNames.contains n=QG
 isf:fnIn K f=QF
def Nv(f:Addr)(k:Nat):XM (Nat×Addr×Nat):=λx=>QE ((x.st.led.length,f,k),⟨x.st.add (.fields "method" [.top (.ref f), .ref k]),x.hs,x.n,x.cs,x.orc⟩)
def sU(bd:Addr->Str->Option Addr)(a:SV)(n:Str):XM (Nat×Addr×Nat):=cE a λk=>xrd k iw λt=>xob (bd t.1 n) λf=>xrd t.2.1 lY λfs=>xif (dE n fs).isNone (Nv f k)
def rMb(r:Nat×Addr×Nat)(O:List Addr)(v:Value):Prop:=aA O (.ref r.1) v
theorem sW{bd:Addr->Str->Option Addr}(H:aD c F)(HB:∀C n f,bd C n=QE f->gQ c.K C n f)(a:SV)(n:Str):aj c F (rV a) (sU bd a n) (λv=>getAttr v n QF) rMb:=j0 a λk x=>At.rd λo t ho hi=>At.ob λf hk=>At.rd λq fs hq hf=>At.bif λhl=>λr x' e hc=>by
 cases e
 exact⟨hc,wd λO s m news ad p hσ=>p.inst ho hi hq hσ λdx sl od g3 g4 g2 g5 g6 I=>by
  obtain⟨es,nn,rfl,hn⟩:=tY hf▸g6
  have B:=HB t.1 n f hk
  refine kbm_bound p.rep.fr (p.kin H.toCxW) p.rep.nw I B.get B.dict B.find B.fn B.spec B.takes B.copied ((hn.get (n:=n)).2.1 (Option.isNone_iff_eq_none.mp hl)) λj h' F' N' lt=>?_
  have pre:O <+:O++[j]:=P6 _ _
  exact⟨_,m,_,pre,p.heap pre (p.rep.alloc F' N' lt (x:= .fields "method" [.top (.ref f), .ref k]) ⟨[.ref f, .ref ad],rfl,_,_,rfl,rfl,_,_,rfl,fm hσ,rfl⟩),j,by rw[<-p.len];simp,rfl⟩⟩
theorem Ba{bd:Addr->Str->Option Addr}{a:SV}{n:Str}{x:XS}{r:(Nat×Addr×Nat)×XS}(e:sU bd a n x=QE r):∃C,bd C n=QE r.1.2.1:=pU e λk _ e=>l9 e λo t _ _ e=>Qq (dA e) λf h=>l9 h.2 λq fs _ _ e=>⟨t.1,by cases(ai e).2;exact h.1⟩
noncomputable def ry:SO->Option (List SV)
 |.list xs=>QE xs
 |.words ys=>QE (ys.map SV.str)
 |.tup xs=>QE xs
 |_=>QD
def GX(a:SV):XM (List SV):=cE a λl=>xrd l ry λxs=>cI [Nat.ble xs.length 1000=QF] xs
theorem o5{P:Params}{o:SO}{xs:List SV}{ob:Obj}(e:ry o=QE xs)(h:aP P O o ob){G:Prop}(k:∀T(vs:List Value)n,(T="list"\/T="tuple")->ob.cls= .type T->ob.data= .seq vs.toArray n->au O xs vs->G):G:=by
 cases o with
 |list ys=>exact Qq h λvs h=>Qq h λn h=>k "list" vs n (.inl rfl) (h.1▸rfl) (h.1▸rfl) (QH e▸h.2)
 |words ys=>exact Qq h λvs h=>Qq h λn h=>k "list" vs n (.inl rfl) (h.1▸rfl) (h.1▸rfl) (QH e▸cb h.2)
 |tup ys=>exact Qq h λvs h=>Qq h λn h=>k "tuple" vs n (.inr rfl) (h.1▸rfl) (h.1▸rfl) (QH e▸h.2)
 |_=>exact nn e
theorem mZ(a:SV):∀x r x',GX a x=QE (r,x')->bh x'.cs->bh x.cs/\∀O s mm news v,Pre c F O x.st s mm news->aA O a v->StarOf c.M c.A NoE v (λvs s'=>aG c F O x'.st (rVs r) vs s') s:=λx r x' e hc=>pU e λl ea e=>l9 e λo xs ho hs e=>by
 cases e;cases ea
 exact⟨hc.2,λO s m news v p⟨ad,hσ,hv⟩=>hv▸p.objAt ho hσ λob f1 f3 f4=>o5 hs f4 λT vs n hT k1 k2 k3=>
  star_seq (ws:=vs) p.rep.fr p.rep.nw (p.rep.mem f1) k1 k2 hT rfl (cX (k3.length▸PT hc.1:)) λh' F' N'=>⟨O,m,news,P5 _,p.heap' (P5 _) (p.rep.grown F' N'),k3⟩⟩
noncomputable def cv(ev:Expr->XM SV):List Expr->XM (List SV)
 |[]=>aH []
 |e::r=>match e with
  |.Starred e' _=>ag (ev e') λw=>ag (GX w) λws=>ag (cv ev r) λas=>aH (ws++as)
  |e=>ag (ev e) λa=>ag (cv ev r) λas=>aH (a::as)
theorem n7{ev:Expr->XM SV}{pos:Pos}:Snd c F (cv ev []) (spliced (backTo pos (starEach [] c.env))) rVs:=λx a x' h hc=>by
 cases bf h
 exact⟨hc,λO s m news p=>wpAny_items_nil (p.now rfl)⟩
theorem mj{ev:Expr->XM SV}{pos ps:Pos}{e':Expr}{r:List Expr}(he:Snd c F (ev e') (eval e' c.env) rV)(ih:Snd c F (cv ev r) (spliced (backTo pos (starEach r c.env))) rVs):Snd c F (cv ev (.Starred e' ps::r)) (spliced (backTo pos (starEach (.Starred e' ps::r) c.env))) rVs:=λx a x' h hc=>aZ h λw x1 h1 h=>aZ h λws x2 h3 h=>aZ h λas x3 h5 h=>by
 cases bf h
 have g5:=ih _ _ _ h5 hc
 have g3:=mZ (c:=c) (F:=F) w _ _ _ h3 g5.1
 have g1:=he _ _ _ h1 g3.1
 refine⟨g1.1,λO s m news p=>items_star (go_ (g1.2 O s m news p) λO1 m1 n1 v1 s1 p1 q1 r1=>?_)⟩
 have z:=g3.2 O1 s1 m1 n1 v1 q1 r1
 unfold StarOf at z ⊢
 exact Qw z (λbb s2 zz=>⟨zz.1,go_ zz.2 λO2 m2 n2 v2 s3 p2 q2 r2=>go_ (g5.2 O2 s3 m2 n2 q2) λO3 m3 n3 v3 s4 p3 q3 r3=>⟨O3,m3,n3,p1.trans (p2.trans p3),q3,(au.mono p3 r2).append r3⟩⟩) λ_ _ z=>z
theorem lZ{ev:Expr->XM SV}{pos:Pos}{e:Expr}{r:List Expr}(hst:bq e=QG)(he:Snd c F (ev e) (eval e c.env) rV)(ih:Snd c F (cv ev r) (spliced (backTo pos (starEach r c.env))) rVs):Snd c F (cv ev (e::r)) (spliced (backTo pos (starEach (e::r) c.env))) rVs:=λx a x' h hc=>by
 have hx:cv ev (e::r)=ag (ev e) λa=>ag (cv ev r) λas=>aH (a::as):=by
  cases e<;>first|rfl|exact Bool.noConfusion hst
 rw[hx]at h
 refine aZ h λva x1 h1 h=>aZ h λvr x2 h3 h=>?_
 cases bf h
 have g3:=ih _ _ _ h3 hc
 have g1:=he _ _ _ h1 g3.1
 exact⟨g1.1,λO s m news p=>wpAny_items_cons (go_ (g1.2 O s m news p) λO1 m1 n1 v1 s1 p1 q1 r1=>go_ (g3.2 O1 s1 m1 n1 q1) λO2 m2 n2 v2 s2 p2 q2 r2=>⟨O2,m2,n2,p1.trans p2,q2,v1,v2,rfl,aA.mono p2 r1,r2⟩) (bu hst)⟩
theorem nM{ev:Expr->XM SV}{pos:Pos}(he:∀e,Snd c F (ev e) (eval e c.env) rV)(args:List Expr):Snd c F (cv ev args) (spliced (backTo pos (starEach args c.env))) rVs:=by
 induction args with
 |nil=>exact n7
 |cons e r ih=>
  cases hst:bq e with
  |true=>
   cases e with
   |Starred e' ps=>exact mj (he e') ih
   |_=>exact ff hst
  |false=>exact lZ hst (he e) ih
noncomputable def Aj:SV->Option Addr
 |.top v=>(match v with
  |.ref f=>QE f
  |_=>QD)
 |_=>QD
theorem vG{a:SV}{f:Addr}(e:Aj a=QE f):a= .top (.ref f):=by
 cases a with
 |top v=>cases v<;>first|exact nn e|exact QJ (SV.top∘Value.ref) (QH e)
 |_=>exact nn e
def r8:SO->Option (Addr×Nat)
 |.fields T vs=>match vs with
  |[a,b]=>cond (decide (T="method")) ((Aj a).bind λf=>(mC b).map (Prod.mk f)) QD
  |_=>QD
 |_=>QD
theorem sV{P:Params}{o:SO}{r:Addr×Nat}{ob:Obj}(e:r8 o=QE r)(h:aP P O o ob){G:Prop}(g:∀a,O[r.2]?=QE a->ob=methodObj (.ref r.1) (.ref a)->G):G:=by
 cases o with
 |fields T vs=>
  rcases vs with _|⟨a,_|⟨b,_|⟨d,vs⟩⟩⟩
  .exact nn e
  .exact nn e
  .refine bK (ai e).2 λf hf q=>Qq (Qm.mp q) λk hk=>?_
   cases vG hf;cases gd hk.1;cases hk.2;cases of_decide_eq_true (ai e).1
   obtain⟨us,rfl,v1,r1,rfl,h1,v2,r2,rfl,⟨a,ha,rfl⟩,h3⟩:=h
   cases h1;cases h3
   exact g a ha rfl
  .exact nn e
 |_=>exact nn e
def mY(bd:Addr->Str->Option Addr)(cf:Addr->List SV->List (Str×SV)->XM SV)(ev:Expr->XM SV)(o:Expr)(n:Str)(args:List Expr):XM SV:=
 ag (ev o) λa=>ag (sU bd a n) λr=>ag (cv ev args) λvs=>xrd r.1 r8 λfk=>xif (Nat.beq fk.1 r.2.1) (cf fk.1 (.ref fk.2::vs) [])
theorem gb(H:aD c F):AOk c F c.A:=⟨rfl,by lia,by lia,H.handled⟩
theorem zX{pos:Pos}{env:Env}{args:List Expr}(h:args.any bq=QF):(backTo pos (starEach args env)).any (·.1)=QF:=by
 induction args with
 |nil=>cases h
 |cons e r ih=>
  cases hs:bq e with
  |true=>
   cases e with
   |Starred e' p=>rfl
   |_=>cases hs
  |false=>
   rw[List.any_cons,hs,Bool.false_or]at h
   rw[bu hs]
   show(QG||(backTo pos (starEach r env)).any (·.1))=QF
   rw[ih h];rfl
theorem CF{pos:Pos}{env:Env}{args:List Expr}(h:args.any bq=QF):methodCallForm (args.length+([]:List Keyword).length) (backTo pos (starEach args env)) (backToKw pos (keywordEach [] env))=QG:=
 have h1:(backTo pos (starEach args env)).all (!·.1)=QG:=by
  rw[List.all_eq_not_any_not,show(λx:Bool×Sem Value=>!!x.1)=(·.1)from funext λx=>Bool.not_not x.1,zX h]
  rfl
 Bool.and_eq_false_iff.mpr (.inl (Bool.and_eq_false_iff.mpr (.inl h1)))
theorem l8{M:Model}{A:Around}{env:Env}{o:Expr}{n:Str}{args:List Expr}{apos pos:Pos}{Q:Value->Shared->Prop}(hs:args.any bq=QF)(hsup:cx o=QF)
  (h:wpAny M A (eval o env) (λv s1=>wpAny M A (getAttr v n QF) (λf s2=>wpAny M A (callWith pos f [] (backTo pos (starEach args env)) (backToKw pos (keywordEach [] env))) Q NoE s2) NoE s1) NoE s):wpAny M A (eval (.Call (.Attribute o n apos) args [] pos) env) Q NoE s:=by
 show wpAny M A (attributeBase o n env (eval o env) >>=λov=>standAt apos.atName >>=λ_=>methodCall o n apos pos env ov (args.length+([]:List Keyword).length) (backTo pos (starEach args env)) (backToKw pos (keywordEach [] env))) Q NoE s
 rw[oG hsup]
 refine Qv (Qw h (λv s1 h=>Qv (QB ?_)) λ_ _ e=>e)
 unfold methodCall
 rw[CF hs,show∀v,calleeOf QG o env v n=(getAttr v n QF >>=λf=>pure (f,[]))fromλ_=>rfl,show methodCallPos QG o env apos pos=pure pos from rfl]
 exact Qv (Qy (Qv (Qw h (λf s2 h=>Qx (Qv (Qx h))) λ_ _ e=>e)))
noncomputable def pv(args:List Expr):Bool:=match args with
 |[]=>QG
 |.Starred _ _::_::_=>QG
 |_=>QF
theorem AS(H:aD c F){S S':St}{j:Nat}{q:SO}{fk:Addr×Nat}{vs:List SV}{ws:List Value}{a:SV}{qa:Addr}(p:Pre c F O S s m news)(hq:S.led[j]?=QE q)(hm:r8 q=QE fk)(hσ:O[j]?=QE qa)(hv:au O vs ws)
  (g:∀O s m news g,Pre c F O S s m news->PA (.ref fk.2::vs) [] O g->codeAny c.M c.A (.call (.ref fk.1) ⟨g.1,g.2⟩) (Bs c F O S' (rV a)) s):
  ∃self,MethP c.K qa fk.1 self s.heap/\wpAny c.M c.A (PySem.call (.ref qa) ([]++ws) []) (aG c F O S' (rV a)) NoE s:=
 p.objAt hq hσ λob f1 f3 f4=>sV hm f4 λsa hsa e=>⟨.ref sa,⟨e▸f3,(p.kin H.toCxW).keeps p.rep.fr.keep⟩,wpAny_call (method_call (e▸f3) (codeAny_mono (g O s m news (.ref sa::ws,[]) p ⟨⟨_,_,rfl,⟨sa,hsa,rfl⟩,hv⟩,rfl,rfl⟩) λres s' z=>by
  rcases res with ee|fl
  .exact z.elim
  .cases fl with
   |ret v=>exact z
   |_=>exact z.elim))⟩
theorem n9{bd:Addr->Str->Option Addr}{cf:Addr->List SV->List (Str×SV)->XM SV}{ev:Expr->XM SV}{o:Expr}{n:Str}{args:List Expr}{apos pos:Pos}(H:aD c F)(HB:∀C n f,bd C n=QE f->gQ c.K C n f)(HC:qo c F cf)
  (he:∀e,Snd c F (ev e) (eval e c.env) rV)(hs:args.any bq=QF)(hlone:pv args=QF)(hsup:cx o=QF)(hfn:∀C n f,bd C n=QE f->fnIn c.K f=QF):
  Snd c F (mY bd cf ev o n args) (eval (.Call (.Attribute o n apos) args [] pos) c.env) rV:=λx a x' h hc=>aZ h λva x1 e1 h=>aZ h λr x2 e2 h=>aZ h λvs x3 e3 h=>l9 h λq fk hq hm h=>by
 have z:=ai h
 have hff:fnIn c.K fk.1=QF:=Qq (Ba e2) λC h=>PV z.1▸hfn _ _ _ h
 have g4:=HC _ (gb H) fk.1 (.ref fk.2::vs) [] _ _ _ z.2 hc
 have g3:=nM (pos:=pos) he args _ _ _ e3 g4.1
 have g2:=sW H HB va n _ _ _ e2 g3.1
 have g1:=he o _ _ _ e1 g2.1
 refine⟨g1.1,λO s m news p=>l8 hs hsup (go_ (g1.2 O s m news p) λO1 m1 n1 v1 s1 p1 q1 r1=>go_ (g2.2 O1 s1 m1 n1 v1 q1 r1) λO2 m2 n2 v2 s2 p2 q2⟨qa,hqa,r2⟩=>r2▸?_)⟩
 refine ks_call (P:=λh=>∃self,MethP c.K qa fk.1 self h) (zX (pos:=pos) (env:=c.env) hs) (λh⟨self,X⟩=>keeps_M hff h X) ?_
 have out:∀{O3 v s},O2 <+:O3->aG c F O3 x'.st (rV a) v s->aG c F O x'.st (rV a) v s:=λp3 z=>z.mono (p1.trans (p2.trans p3))
 have fin:∀O3 m3 n3 ws s3,O2 <+:O3->Pre c F O3 x3.st s3 m3 n3->au O3 vs ws->(∃self,MethP c.K qa fk.1 self s3.heap)/\wpAny c.M c.A (PySem.call (.ref qa) ([]++ws) []) (aG c F O x'.st (rV a)) NoE s3:=λO3 m3 n3 ws s3 p3 q3 r3=>
  Qq (AS H q3 hq hm (aY p3 hqa) r3 g4.2) λself h=>⟨⟨self,h.1⟩,Qw h.2 (λ_ _=>out p3) λ_ _ e=>e⟩
 cases args with
 |nil=>exact ff hs
 |cons e rest=>
  cases hst:bq e with
  |false=>
   have z:=g3.2 O2 s2 m2 n2 q2
   rw[bu hst]at z ⊢
   exact evalArgs_plain (go_ z λO3 m3 n3 ws s3 p3 q3 r3=>fin O3 m3 n3 ws s3 p3 q3 r3)
  |true=>
   cases e with
   |Starred e' ps=>
    cases rest with
    |cons=>exact ff hlone
    |nil=>
     refine aZ e3 λw y1 d1 d=>aZ d λws0 y2 d3 d=>aZ d λas0 y3 d5 d=>?_
     cases bf d5
     cases bf d
     have k3:=mZ (c:=c) (F:=F) w _ _ _ d3 g4.1
     have k1:=he e' _ _ _ d1 k3.1
     show wpAny _ _ (evalArgs (.ref qa) QF [(QF,(do let v<-eval e' c.env;standAt pos;pure v))] []) _ _ _
     refine ks_lone (go_ (k1.2 O2 s2 m2 n2 q2) λO3 m3 n3 w3 s3 p3 q3 r3=>?_)
     have z:=k3.2 O3 s3 m3 n3 w3 q3 r3
     unfold StarOf at z ⊢
     exact Qw z (λbb s4 zz=>⟨zz.1,go_ zz.2 λO4 m4 n4 ws s5 p4 q4 r4=>fin O4 m4 n4 ws s5 (p3.trans p4) q4 (by rw[List.append_nil];exact r4)⟩) λ_ _ z=>z
   |_=>exact ff hst
noncomputable def aU(f:Nat->Nat):SV->SV
 |.ref k=> .ref (f k)
 |.none=> .none
 |.bool b=> .bool b
 |.int i=> .int i
 |.str x=> .str x
 |.top v=> .top v
noncomputable def gj(f:Nat->Nat):List (Str×SV)->List (Str×SV)
 |[]=>[]
 |p::r=>(p.1,aU f p.2)::gj f r
def pe(f:Nat->Nat):Option SV->Option SV
 |none=>QD
 |some v=>QE (aU f v)
def zH(f:Nat->Nat):SO->SO
 |.list xs=> .list (xs.map (aU f))
 |.tup xs=> .tup (xs.map (aU f))
 |.inst C d=> .inst C (f d)
 |.ns fs=> .ns (gj f fs)
 |.slots C d vs=> .slots C (f d) (vs.map (pe f))
 |.cell v=> .cell (pe f v)
 |.obj o=> .obj o
 |.fields T vs=> .fields T (vs.map (aU f))
 |.words ys=> .words ys
 |.loose T vs=> .loose T (vs.map (aU f))
 |.vars loc=> .vars (gj f loc)
 |.ints ns=> .ints ns
 |.intsX vs ns=> .intsX vs ns
 |.sset ys=> .sset ys
 |.nsE fs ep=> .nsE (gj f fs) ep
 |.dkeys ks=> .dkeys ks
 |.wtup ys=> .wtup ys
 |.tab A k=> .tab A (f k)
 |.any=> .any
section
variable{P:Params}{O τ:List Addr}{f:Nat->Nat}
def jq(f:Nat->Nat)(τ O:List Addr):Prop:=∀k a,τ[k]?=QE a->O[f k]?=QE a
def iV(f:Nat->Nat)(τ O:List Addr):Prop:=∀k a,O[f k]?=QE a->τ[k]?=QE a
theorem aA.map(h:jq f τ O){x:SV}{v:Value}(r:aA τ x v):aA O (aU f x) v:=by
 cases x with
 |ref k=>exact Qq r λa q=>⟨a,h k a q.1,q.2⟩
 |_=>exact r
theorem au.map(h:jq f τ O){xs:List SV}{vs:List Value}(r:au τ xs vs):au O (xs.map (aU f)) vs:=LR.map (R:=aA τ) (S:=aA O) (λ_ _=>aA.map h) r
theorem cD.map(h:jq f τ O){x:Option SV}{v:Option Value}(r:cD τ x v):cD O (pe f x) v:=by
 cases x with
 |none=>exact r
 |some x=>exact ex1 r λ_=>aA.map h
theorem eQ.map(h:jq f τ O){x:Option SV}{v:Option Value}(r:eQ τ x v):eQ O (pe f x) v:=by
 cases x with
 |none=>exact r
 |some x=>exact ex1 r λ_=>aA.map h
theorem ck.map(h:jq f τ O){xs:List (Option SV)}{vs:List (Option Value)}(r:ck τ xs vs):ck O (xs.map (pe f)) vs:=LR.map (R:=cD τ) (S:=cD O) (λ_ _=>cD.map h) r
theorem bC.map(h:jq f τ O){fs:List (Str×SV)}:∀{es:List DictEntry},bC P τ fs es->bC P O (gj f fs) es:=by
 induction fs with
 |nil=>exactλr=>r
 |cons p fs ih=>exactλr=>bC.elim r λt v r a b=>⟨t,v,r,rfl,a.map h,ih b⟩
theorem aA.unmap(h:iV f τ O){x:SV}{v:Value}(r:aA O (aU f x) v):aA τ x v:=by
 cases x with
 |ref k=>exact Qq r λa q=>⟨a,h k a q.1,q.2⟩
 |_=>exact r
theorem au.unmap(h:iV f τ O){xs:List SV}{vs:List Value}(r:au O (xs.map (aU f)) vs):au τ xs vs:=LR.unmap (R:=aA τ) (S:=aA O) (λ_ _=>aA.unmap h) r
theorem cD.unmap(h:iV f τ O){x:Option SV}{v:Option Value}(r:cD O (pe f x) v):cD τ x v:=by
 cases x with
 |none=>exact r
 |some x=>exact ex1 r λ_=>aA.unmap h
theorem eQ.unmap(h:iV f τ O){x:Option SV}{v:Option Value}(r:eQ O (pe f x) v):eQ τ x v:=by
 cases x with
 |none=>exact r
 |some x=>exact ex1 r λ_=>aA.unmap h
theorem ck.unmap(h:iV f τ O){xs:List (Option SV)}{vs:List (Option Value)}(r:ck O (xs.map (pe f)) vs):ck τ xs vs:=LR.unmap (R:=cD τ) (S:=cD O) (λ_ _=>cD.unmap h) r
theorem bC.unmap(h:iV f τ O){fs:List (Str×SV)}:∀{es:List DictEntry},bC P O (gj f fs) es->bC P τ fs es:=by
 induction fs with
 |nil=>exactλr=>r
 |cons p fs ih=>exactλr=>bC.elim (show bC P O ((p.1,aU f p.2)::gj f fs) _ from r) λt v r a b=>⟨t,v,r,rfl,a.unmap h,ih b⟩
theorem iK(f:Nat->Nat)(x:Str)(l:List (Str×SV)):(gj f l).lookup x=pe f (l.lookup x):=by
 induction l with
 |nil=>rfl
 |cons p r ih=>
  show List.lookup x ((p.1,aU f p.2)::gj f r)=_
  rw[List.lookup_cons,List.lookup_cons,ih]
  cases(x==p.1)<;>rfl
theorem gu.map(h:jq f τ O){l:List (Str×SV)}{m:Str->Option Value}(r:gu τ l m):gu O (gj f l) m:=λx=>(iK f x l).symm▸(r x).map h
theorem gu.unmap(h:iV f τ O){l:List (Str×SV)}{m:Str->Option Value}(r:gu O (gj f l) m):gu τ l m:=λx=>eQ.unmap h (iK f x l▸r x)
theorem aP.map(h:jq f τ O){x:SO}{o:Obj}(r:aP P τ x o):aP P O (zH f x) o:=by
 cases x with
 |list _=>exact ex2 r λ_ _=>au.map h
 |tup _=>exact ex2 r λ_ _=>au.map h
 |inst _ _=>exact Qq r λa q=>⟨a,h _ a q.1,q.2⟩
 |ns _=>exact ex2 r λ_ _=>bC.map h
 |slots _ _ _=>exact Qq r λa r=>Qq r λsl q=>⟨a,sl,h _ a q.1,q.2.1,q.2.2.map h⟩
 |cell _=>exact ex1 r λ_=>cD.map h
 |fields _ _=>exact ex1 r λ_=>au.map h
 |loose _ _=>exact ex1 r λ_ q=>⟨q.1,q.2.map h⟩
 |vars _=>exact Qq r λm r=>Qq r λes r=>Qq r λep q=>⟨m,es,ep,q.1,q.2.1,q.2.2.1,gu.map h q.2.2.2⟩
 |nsE _ _=>exact ex1 r λ_=>bC.map h
 |tab _ _=>exact⟨h _ _ r.1,r.2⟩
 |_=>exact r
theorem aP.unmap(h:iV f τ O){x:SO}{o:Obj}(r:aP P O (zH f x) o):aP P τ x o:=by
 cases x with
 |list _=>exact ex2 r λ_ _=>au.unmap h
 |tup _=>exact ex2 r λ_ _=>au.unmap h
 |inst _ _=>exact Qq r λa q=>⟨a,h _ a q.1,q.2⟩
 |ns _=>exact ex2 r λ_ _=>bC.unmap h
 |slots _ _ _=>exact Qq r λa r=>Qq r λsl q=>⟨a,sl,h _ a q.1,q.2.1,q.2.2.unmap h⟩
 |cell _=>exact ex1 r λ_=>cD.unmap h
 |fields _ _=>exact ex1 r λ_=>au.unmap h
 |loose _ _=>exact ex1 r λ_ q=>⟨q.1,q.2.unmap h⟩
 |vars _=>exact Qq r λm r=>Qq r λes r=>Qq r λep q=>⟨m,es,ep,q.1,q.2.1,q.2.2.1,gu.unmap h q.2.2.2⟩
 |nsE _ _=>exact ex1 r λ_=>bC.unmap h
 |tab _ _=>exact⟨h _ _ r.1,r.2⟩
 |_=>exact r
end
theorem jG{a b:Bool}(h:cond a b QG=QF):a=QF/\b=QF:=by
 cases a with
 |true=>exact⟨rfl,h⟩
 |false=>exact ff h
noncomputable def at_(pk:List Nat)(big k:Nat):Nat:=match pk[k]? with
 |some j=>j
 |none=>big
noncomputable def bF{α:Type}(l:List α):List Nat->List (Option α):=List.map λk=>l[k]?
def mapLed(f:Nat->Nat):List SO->List SO:=List.map (zH f)
noncomputable def bI{α:Type}:List α->List (Option α):=List.map QE
def zS(k:Nat)(l:List Nat):Bool:=!jS k l
noncomputable def dI:List Nat->Bool
 |[]=>QF
 |k::r=>cond (zS k r) (dI r) QG
theorem wL{k:Nat}{l:List Nat}(h:zS k l=QF):k∉l:=of_decide_eq_false ((kK k l).symm.trans (Mc h))
theorem kx{l:List Nat}:dI l=QF->l.Nodup:=by
 induction l with
 |nil=>exactλ_=>List.nodup_nil
 |cons k r ih=>exactλh=>Ql.mpr ⟨wL (jG h).1,ih (jG h).2⟩
structure dF (pk:List Nat) (Sin led:List SO):Prop where
 nd:dI pk=QF
 eq:bI (mapLed (at_ pk led.length) Sin)=bF led pk
theorem qp{P:Params}{led:List SO}(hob:cy P O led news){f:Nat->Nat}{τ:List Addr}(h:iV f τ O){pk:List Nat}:
  ∀{Sin:List SO},bI (mapLed f Sin)=bF led pk->∃sub,bI sub=bF news pk/\cy P τ Sin sub:=by
 induction pk with
 |nil=>
  intro Sin e
  cases Sin with
  |nil=>exact⟨[],rfl,rfl⟩
  |cons=>exact nomatch e
 |cons k pk ih=>
  intro Sin e
  cases Sin with
  |nil=>exact nomatch e
  |cons o Sin=>exact Qq (hob.get (List.cons.inj e).1.symm) λp q=>Qq (ih (List.cons.inj e).2) λsub w=>⟨p::sub,List.cons_eq_cons.mpr ⟨q.1.symm,w.1⟩,p,sub,rfl,q.2.unmap h,w.2⟩
theorem m7{α:Type}{a b:List α}(e:bI a=bI b):a=b:=(List.map_inj_right λ_ _=>QH).mp e
theorem gG{α:Type}{l:List α}{sub:List α}{pk:List Nat}(e:bI sub=bF l pk):sub.length=pk.length/\∀i:Nat,sub[i]?=(pk[i]?).bind λk:Nat=>l[k]?:=by
 refine⟨(Qh (as:=sub) QE).symm.trans ((QJ List.length e).trans (Qh _)),λi=>?_⟩
 have z:(sub[i]?).map QE=(pk[i]?).map λk=>l[k]?:=List.getElem?_map.symm.trans ((QJ (·[i]?) e).trans List.getElem?_map)
 cases h:pk[i]? with
 |none=>rw[h]at z;exact Option.map_eq_none_iff.mp z
 |some k=>rw[h]at z;exact Qq (Qm.mp z) λa q=>q.1.trans q.2
theorem mF{α β:Type}(g:α->β){l:List α}{sub:List α}{pk:List Nat}(e:bI sub=bF l pk):bI (sub.map g)=bF (l.map g) pk:=by
 have z:=QJ (List.map (Option.map g)) e
 unfold bI bF at z ⊢
 rw[List.map_map,List.map_map]at z
 rw[List.map_map]
 exact z.trans (QJ (List.map · pk) (funext λk=>List.getElem?_map.symm))
theorem gH{α:Type}{l:List α}{a:α}{sub:List α}{pk:List Nat}(e:bI sub=bF l pk)(h:a∈sub):∃j∈pk,l[j]?=QE a:=
 Qq (List.mem_iff_getElem?.mp h) λi hi=>Qq (Qn.mp (((gG e).2 i).symm.trans hi)) λj q=>⟨j,P8 q.1,q.2⟩
theorem iO(hn:O.Nodup){τ:List Addr}:∀{pk:List Nat},pk.Nodup->bI τ=bF O pk->τ.Nodup:=by
 induction τ with
 |nil=>exactλ_ _=>List.nodup_nil
 |cons a τ ih=>
  intro pk hp e
  cases pk with
  |nil=>exact nomatch e
  |cons k pk=>
   have e1:QE a=O[k]?:=(List.cons.inj e).1
   have hp:=Ql.mp hp
   exact Ql.mpr ⟨λh=>Qq (gH (List.cons.inj e).2 h) λj q=>hp.1 ((List.getElem?_inj (P7.mp e1.symm).1 hn).mp (e1.symm.trans q.2.symm)▸q.1),ih hp.2 (List.cons.inj e).2⟩
theorem jL{O τ:List Addr}{pk:List Nat}{big:Nat}(h:bI τ=bF O pk)(hb:O.length<=big):iV (at_ pk big) τ O/\jq (at_ pk big) τ O:=by
 obtain⟨h1,h2⟩:=gG h
 refine⟨λk a e=>?_,λk a e=>?_⟩
 .unfold at_ at e
  rw[h2]
  cases q:pk[k]? with
  |some j=>rw[q]at e;exact e
  |none=>rw[q]at e;exact nn ((List.getElem?_eq_none hb).symm.trans e)
 .rw[h2]at e
  unfold at_
  cases q:pk[k]? with
  |some j=>rw[q]at e;exact e
  |none=>rw[q]at e;exact nn e
theorem jT{led:List SO}{f:Nat->Nat}(hl:O.length=led.length){Sin:List SO}:∀{pk:List Nat},bI (mapLed f Sin)=bF led pk->∃τ,bI τ=bF O pk:=by
 induction Sin with
 |nil=>
  intro pk e
  cases pk with
  |nil=>exact⟨[],rfl⟩
  |cons=>exact nomatch e
 |cons o Sin ih=>
  intro pk e
  cases pk with
  |nil=>exact nomatch e
  |cons k pk=>exact Qq (ih (List.cons.inj e).2) λτ h=>⟨O[k]'(hl▸(P7.mp (List.cons.inj e).1.symm).1)::τ,List.cons_eq_cons.mpr ⟨(P9 _).symm,h⟩⟩
structure et (n0:Nat) (pk:List Nat) (S1 S':St):Prop where
 pre:pk.take n0=PZ n0
 pick:dF pk S'.led S1.led
 loc:S'.loc.map (λq=>S1.loc.lookup q.1)=S'.loc.map λq=>QE (aU (at_ pk S1.led.length) q.2)
theorem z6{f:Nat->Nat}{l1:List (Str×SV)}:∀{l:List (Str×SV)},l.map (λq=>l1.lookup q.1)=l.map (λq=>QE (aU f q.2))->∀x v,l.lookup x=QE v->l1.lookup x=QE (aU f v)
 |[],_,_,_,e=>by cases e
 |p::r,h,x,v,e=>by
  rw[List.map_cons,List.map_cons,List.cons.injEq]at h
  rw[List.lookup_cons]at e
  cases q:(x==p.1)with
  |true=>
   rw[q]at e
   have:x=p.1:=by simpa using q
   rw[this,h.1,<-QH e]
  |false=>rw[q]at e;exact z6 h.2 x v e
theorem Pre.fin{O0 O1:List Addr}{S0 S1 S':St}{s0 s:Shared}{m0 m:Fm}{news0 news:List (Addr×Obj)}{pk:List Nat}(p0:Pre c F O0 S0 s0 m0 news0)(h01:O0 <+:O1)(p1:Pre c F O1 S1 s m news)(h:et S0.led.length pk S1 S'):
  ∃O' news',O0 <+:O'/\Pre c F O' S' s m news'/\iV (at_ pk S1.led.length) O' O1:=by
 obtain⟨O',hσ⟩:=jT (pk:=pk) p1.len h.pick.eq
 obtain⟨onto,into⟩:=jL (big:=S1.led.length) hσ (Nat.le_of_eq p1.len)
 obtain⟨sub,hs1,hs2⟩:=qp p1.rep.ob onto h.pick.eq
 have hat:sub.map (·.1)=O':=m7 (by rw[mF _ hs1,p1.rep.at_,hσ])
 obtain⟨hl,hg⟩:=gG hσ
 have hpre:O0 <+:O':=by
  rw[List.prefix_iff_getElem?]
  intro i hi
  have hi':i<S0.led.length:=by rw[<-p0.len];exact hi
  have e1:pk[i]?=QE i:=by
   have:(pk.take S0.led.length)[i]?=pk[i]?:=by rw[List.getElem?_take];simp[hi']
   rw[<-this,h.pre,List.getElem?_range hi']
  rw[hg,e1]
  show O1[i]?=_
  exact(List.prefix_iff_getElem?.mp h01) i hi
 refine⟨O',sub,hpre,⟨⟨p1.rep.fr,λq hq=>?_,hat,iO p1.rep.nd (kx h.pick.nd) hσ,hs2,λx=>?_⟩,p1.below,p1.turn,p0.cell.mono hpre,λk e=>aY hpre (p0.vars k e),p1.side⟩,onto⟩
 .obtain⟨j,_,hj⟩:=gH hs1 hq
  exact p1.rep.nw q (P8 hj)
 .cases e:S'.loc.lookup x with
  |none=>trivial
  |some v=>
   have:=p1.rep.lc x
   rw[z6 h.loc x v e]at this
   obtain⟨u,h1,h2⟩:=this
   exact⟨u,h1,h2.unmap onto⟩
section
variable(GK:Frag->Prop)
def aa(F:Fs)(l:List Stmt)(S S':St)(fl:XF):Prop:=∀c:Cx,GK c.K->aD c F->∀O s m news,Pre c F O S s m news->wpAny c.M c.A (execs l c.env) (aG c F O S' (rF fl)) NoE s
def ae(F:Fs)(st:Stmt)(S S':St)(fl:XF):Prop:=∀c:Cx,GK c.K->aD c F->∀O s m news,Pre c F O S s m news->wpAny c.M c.A (exec st c.env) (aG c F O S' (rF fl)) NoE s
def ah(F:Fs)(e:Expr)(S S':St)(v:SV):Prop:=∀c:Cx,GK c.K->aD c F->∀O s m news,Pre c F O S s m news->wpAny c.M c.A (eval e c.env) (aG c F O S' (rV v)) NoE s
end
def ko(f:Nat->Nat):XF->XF
 |.next=> .next
 |.brk=> .brk
 |.cont=> .cont
 |.ret v=> .ret (aU f v)
theorem rF.unmap{f:Nat->Nat}{τ O:List Addr}(h:iV f τ O){fl:XF}{v:Flow}(r:rF (ko f fl) O v):rF fl τ v:=by
 cases fl with
 |ret w=>obtain⟨u,e,q⟩:=r;exact⟨u,e,q.unmap h⟩
 |_=>exact r
def Ran(r:Option (XF×XS))(n0:Nat)(pk:List Nat)(S':St)(fl:XF):Prop:=match r with
 |some (fl1,x1)=>fl1=ko (at_ pk x1.st.led.length) fl/\pk.take n0=PZ n0/\dI pk=QF/\bI (mapLed (at_ pk x1.st.led.length) S'.led)=bF x1.st.led pk/\
   (S'.loc.map (λq=>x1.st.loc.lookup q.1)=S'.loc.map λq=>QE (aU (at_ pk x1.st.led.length) q.2))/\bh x1.cs
 |none=>False
def dq(r:Option (SV×XS))(n0:Nat)(pk:List Nat)(S':St)(v:SV):Prop:=match r with
 |some (v1,x1)=>v1=aU (at_ pk x1.st.led.length) v/\pk.take n0=PZ n0/\dI pk=QF/\bI (mapLed (at_ pk x1.st.led.length) S'.led)=bF x1.st.led pk/\
   (S'.loc.map (λq=>x1.st.loc.lookup q.1)=S'.loc.map λq=>QE (aU (at_ pk x1.st.led.length) q.2))/\bh x1.cs
 |none=>False
def N4(fl fl':XF)(n0:Nat)(a:List (Option SO))(b:List (Option SV))(H:Prop):Prop:=fl'=fl'/\PZ n0=PZ n0/\QF=QF/\a=a/\b=b/\H
theorem NX{fl fl':XF}{n0:Nat}{a:List (Option SO)}{b:List (Option SV)}{H:Prop}(h:H):N4 fl fl' n0 a b H:=⟨rfl,rfl,rfl,rfl,rfl,h⟩
section
variable{GK:Frag->Prop}
theorem aa.of_ran(hT:∀c,GK c.K->aD c F->bM T c F){n:Nat}{l:List Stmt}{S S':St}{hs:List (Nat×Bool)}{orc:List Orc}{pk:List Nat}{fl:XF}(h:Ran (c9 T F n l ⟨S,hs,0,[],orc⟩) S.led.length pk S' fl):aa GK F l S S' fl:=by
 intro c hK H O s m news p
 unfold Ran at h
 split at h
 .rename_i fl1 x1 run
  obtain⟨h1,h2,h3,h4,h5,hc⟩:=h
  refine Qw ((kB H.toCxW (hT c hK H) n l _ _ _ run hc).2 O s m news p) (λv s' z=>?_) λ_ _ z=>z
  refine aG.el z λO1 m1 news1 pre1 p1 r1=>?_
  obtain⟨O',news',pre',p',onto⟩:=p.fin pre1 p1 ⟨h2,⟨h3,h4⟩,h5⟩
  exact⟨O',m1,news',pre',p',(h1▸r1:rF (ko _ fl) O1 v).unmap onto⟩
 .exact h.elim
theorem ae.of_ran(hT:∀c,GK c.K->aD c F->bM T c F){n:Nat}{st:Stmt}{S S':St}{hs:List (Nat×Bool)}{orc:List Orc}{pk:List Nat}{fl:XF}(h:Ran (exN T F n st ⟨S,hs,0,[],orc⟩) S.led.length pk S' fl):ae GK F st S S' fl:=by
 intro c hK H O s m news p
 unfold Ran at h
 split at h
 .rename_i fl1 x1 run
  obtain⟨h1,h2,h3,h4,h5,hc⟩:=h
  refine Qw ((om H.toCxW (hT c hK H) n st _ _ _ run hc).2 O s m news p) (λv s' z=>?_) λ_ _ z=>z
  refine aG.el z λO1 m1 news1 pre1 p1 r1=>?_
  obtain⟨O',news',pre',p',onto⟩:=p.fin pre1 p1 ⟨h2,⟨h3,h4⟩,h5⟩
  exact⟨O',m1,news',pre',p',(h1▸r1:rF (ko _ fl) O1 v).unmap onto⟩
 .exact h.elim
theorem ah.of_ran(hT:∀c,GK c.K->aD c F->bM T c F){n:Nat}{e:Expr}{S S':St}{hs:List (Nat×Bool)}{orc:List Orc}{pk:List Nat}{v:SV}(h:dq (evN T F n e ⟨S,hs,0,[],orc⟩) S.led.length pk S' v):ah GK F e S S' v:=by
 intro c hK H O s m news p
 unfold dq at h
 split at h
 .rename_i fl1 x1 run
  obtain⟨h1,h2,h3,h4,h5,hc⟩:=h
  refine Qw ((gT H.toCxW (hT c hK H) n e _ _ _ run hc).2 O s m news p) (λv s' z=>?_) λ_ _ z=>z
  refine aG.el z λO1 m1 news1 pre1 p1 r1=>?_
  obtain⟨O',news',pre',p',onto⟩:=p.fin pre1 p1 ⟨h2,⟨h3,h4⟩,h5⟩
  exact⟨O',m1,news',pre',p',aA.unmap onto (h1▸r1:aA O1 (aU _ _) v)⟩
 .exact h.elim
theorem aa.nil:aa GK F [] S S .next:=λc hK H O s m news p=>wpAny_execs_nil (p.now rfl)
theorem aa.cons{st:Stmt}{l:List Stmt}{S S1 S':St}{fl:XF}(h1:ae GK F st S S1 .next)(h2:aa GK F l S1 S' fl):aa GK F (st::l) S S' fl:=λc hK H O s m news p=>
 QA (go_ (h1 c hK H O s m news p) λO1 m1 n1 v1 s1 p1 q1 r1=>by
  rw[show v1=Flow.next from r1]
  exact Qw (h2 c hK H O1 s1 m1 n1 q1) (λ_ _ z=>z.mono p1) λ_ _ z=>z)
set_option backward.match.sparseCases true in
theorem gO(k:List Stmt)(env:Env):∀l:List Stmt,execs (l++k) env=(execs l env >>=λf=>match f with | .next=>execs k env|f=>pure f)
 |[]=>by show _=(pure Flow.next >>=_);rw[pure_bind];rfl
 |st::r=>by
  show(exec st env >>=λf=>match f with | .next=>execs (r++k) env|f=>pure f)=((exec st env >>=λf=>match f with | .next=>execs r env|f=>pure f) >>=_)
  rw[bind_assoc]
  congr 1
  funext f
  cases f with
  |next=>exact gO k env r
  |_=>rfl
theorem aa.append{l k:List Stmt}{S S1 S':St}{fl:XF}(h1:aa GK F l S S1 .next)(h2:aa GK F k S1 S' fl):aa GK F (l++k) S S' fl:=λc hK H O s m news p=>by
 rw[gO]
 refine Qv (go_ (h1 c hK H O s m news p) λO1 m1 n1 v1 s1 p1 q1 r1=>?_)
 rw[show v1=Flow.next from r1]
 exact Qw (h2 c hK H O1 s1 m1 n1 q1) (λ_ _ z=>z.mono p1) λ_ _ z=>z
end
noncomputable def setAll{α:Type}:List Nat->List α->List α->List α
 |[],_,led=>led
 |k::pk,os,led=>match os with
  |[]=>led
  |o::os=>setAll pk os (led.set k o)
noncomputable def bk(pk:List Nat)(n k:Nat):Nat:=match pk[k]? with
 |some j=>j
 |none=>n+(k-pk.length)
def back(pk:List Nat)(Sout led:List SO):List SO:=
 setAll pk (mapLed (bk pk led.length) (Sout.take pk.length)) led++mapLed (bk pk led.length) (Sout.drop pk.length)
theorem I4{α:Type}(pk:List Nat):∀(os led:List α),(setAll pk os led).length=led.length:=by
 induction pk with
 |nil=>exactλ_ _=>rfl
 |cons k pk ih=>
  intro os led
  cases os with
  |nil=>rfl
  |cons o os=>exact(ih os _).trans List.length_set
theorem sP{α:Type}{p:α}{i:Nat}{pk:List Nat}:∀{ns news:List α},ns.length=pk.length->(setAll pk ns news)[i]?=QE p->p∈ns\/(news[i]?=QE p/\i∉pk):=by
 induction pk with
 |nil=>exactλ_ h=> .inr ⟨h,Qi⟩
 |cons k pk ih=>
  intro ns news e h
  cases ns with
  |nil=>exact nomatch e
  |cons n ns=>
   refine(ih (Nat.succ.inj e) h).elim (λq=> .inl (.tail _ q)) λq=>?_
   by_cases hk:k=i
   .cases hk
    exact .inl (Qq (Qm.mp (List.getElem?_set_self'.symm.trans q.1)) λ_ z=>z.2▸ .head _)
   .exact .inr ⟨(List.getElem?_set_ne hk).symm.trans q.1,λz=>(Qb.mp z).elim (λz=>hk z.symm) q.2⟩
theorem qD{α:Type}{l:List α}{k:Nat}{a:α}(h:l[k]?=QE a):l.set k a=l:=by
 refine List.ext_getElem? λi=>?_
 rw[List.getElem?_set]
 by_cases q:k=i
 .subst q
  rw[if_pos rfl,if_pos (P7.mp h).1,h]
 .rw[if_neg q]
theorem sg{pk:List Nat}:∀{ns news:List (Addr×Obj)},bI (ns.map (·.1))=bF (news.map (·.1)) pk->(setAll pk ns news).map (·.1)=news.map (·.1):=by
 induction pk with
 |nil=>exactλ_=>rfl
 |cons k pk ih=>
  intro ns news e
  cases ns with
  |nil=>rfl
  |cons n ns=>
   have h:(news.set k n).map (·.1)=news.map (·.1):=List.map_set.trans (qD (List.cons.inj e).1.symm)
   exact(ih (h.symm▸(List.cons.inj e).2)).trans h
theorem cy.setAll{P:Params}{pk:List Nat}:∀{os led:List SO}{ns news:List (Addr×Obj)},cy P O os ns->cy P O led news->cy P O (setAll pk os led) (setAll pk ns news):=by
 induction pk with
 |nil=>exactλ_ h=>h
 |cons k pk ih=>
  intro os led ns news e h
  cases os with
  |nil=>cases(show ns=[]from e);exact h
  |cons o os=>
   refine Qq e λq z=>Qq z λr z=>?_
   cases z.1
   exact ih z.2.2 (h.set z.2.1)
theorem cy.mapLed{P:Params}{τ O:List Addr}{f:Nat->Nat}(h:jq f τ O){os:List SO}{ns:List (Addr×Obj)}(r:cy P τ os ns):cy P O (mapLed f os) ns:=LR.map (R:=λx(p:Addr×Obj)=>aP P τ x p.2) (S:=λx(p:Addr×Obj)=>aP P O x p.2) (λ_ _=>aP.map h) r
theorem cy.take{P:Params}{os:List SO}{ns:List (Addr×Obj)}(r:cy P O os ns)(n:Nat):cy P O (os.take n) (ns.take n):=LR.take r n
theorem cy.drop{P:Params}{os:List SO}{ns:List (Addr×Obj)}(r:cy P O os ns)(n:Nat):cy P O (os.drop n) (ns.drop n):=LR.drop r n
theorem Pre.back{g:Heap}{O τ τ':List Addr}{Sout:List SO}{s s':Shared}{mm:Fm}{news sub':List (Addr×Obj)}{pk:List Nat}(p:Pre c F O S s mm news)(hpk:dI pk=QF)(hτ:bI τ=bF O pk)
  (hpre:τ <+:τ')(hat:sub'.map (·.1)=τ')(hnd:τ'.Nodup)(hob:cy c.P τ' Sout sub')(hF:Fr g c.L s'.heap mm.m)(hB:Below c.A₀ c.base c.outer g)(hT:KtsTurn c.fs c.h₀ g)(hN:News g c.L s'.heap sub')
  (hkeep:∀q∈news,q.1∉τ->s'.heap.get? q.1=QE q.2)(hfresh:∀q∈sub',q.1∉τ->q.1∉O)(hside:E2 c s')(hnone:∀b,mm.g.get? b=QD->g.get? b=QD):
  ∃O' news',O <+:O'/\Pre c F O' ⟨S.loc,back pk Sout S.led⟩ s' ⟨g,mm.m⟩ news'/\jq (bk pk S.led.length) τ' O':=by
 obtain⟨hl,hg⟩:=gG hτ
 have hlen:=p.len
 have t1:τ'.take pk.length=τ:=by rw[<-hl];exact List.prefix_iff_eq_take.mp hpre|>.symm
 have into:jq (bk pk S.led.length) τ' (O++τ'.drop pk.length):=λk a e=>by
  unfold bk
  cases q:pk[k]? with
  |some j=>
   have hk:k<pk.length:=(P7.mp q).1
   have:τ[k]?=QE a:=by
    rw[<-t1,List.getElem?_take];simp[hk,e]
   rw[hg,q]at this
   have this:O[j]?=QE a:=this
   rw[List.getElem?_append_left (P7.mp this).1]
   exact this
  |none=>
   have hk:pk.length<=k:=List.getElem?_eq_none_iff.mp q
   dsimp only
   rw[<-hlen,Qa (by lia),List.getElem?_drop]
   have:pk.length+(O.length+(k-pk.length)-O.length)=k:=by lia
   rw[this];exact e
 have pre:O <+:O++τ'.drop pk.length:=P6 _ _
 have s1:bI ((sub'.take pk.length).map (·.1))=bF (news.map (·.1)) pk:=by
  rw[List.map_take,hat,t1,p.rep.at_,hτ]
 have slen:(sub'.take pk.length).length=pk.length:=by
  rw[List.length_take]
  have:sub'.length=τ'.length:=by rw[<-hat,Qh]
  have:=hpre.length_le
  lia
 refine⟨_,setAll pk (sub'.take pk.length) news++sub'.drop pk.length,pre,⟨⟨hF,λq hq=>?_,?_,?_,?_,p.rep.lc.mono pre⟩,hB,hT,p.cell.mono pre,λk e=>aY pre (p.vars k e),hside⟩,into⟩
 .rcases Qd.mp hq with hq|hq
  .obtain⟨i,hi⟩:=List.mem_iff_getElem?.mp hq
   rcases sP slen hi with z|⟨z1,z2⟩
   .exact hN q (List.mem_of_mem_take z)
   .have hqn:=P8 z1
    refine⟨hkeep q hqn λhin=>?_,(p.rep.nw q hqn).2.1,hnone _ (p.rep.nw q hqn).2.2⟩
    obtain⟨j,hj,e⟩:=gH hτ hin
    have e2:O[i]?=QE q.1:=by rw[<-p.rep.at_,List.getElem?_map,z1];rfl
    have:=(List.getElem?_inj (P7.mp e2).1 p.rep.nd).mp (e2.trans e.symm)
    exact z2 (this▸hj)
  .exact hN q (List.mem_of_mem_drop hq)
 .rw[List.map_append,sg (news:=news) s1,p.rep.at_,List.map_drop,hat]
 .rw[List.nodup_append]
  refine⟨p.rep.nd,hnd.sublist (List.drop_sublist _ _),λa ha b hb e=>?_⟩
  subst e
  have hb':a∈τ':=List.mem_of_mem_drop hb
  rw[<-hat]at hb'
  obtain⟨q,hq,rfl⟩:=Qe.mp hb'
  refine hfresh q hq (λhin=>?_) ha
  have:=(List.nodup_append.mp (by rw[List.take_append_drop];exact hnd:(τ'.take pk.length++τ'.drop pk.length).Nodup)).2.2
  exact this _ (by rw[t1];exact hin) _ hb rfl
 .exact cy.append ((hob.take _).mapLed into|>.setAll (p.rep.ob.mono pre)) ((hob.drop _).mapLed into)
def ab(GK:Frag->Prop)(lvl:Nat)(f:Addr)(Sin:List SO)(args:List SV)(Sout:List SO)(ret:SV):Prop:=
 ∀(c:Cx)(F:Fs)(A:Around),GK c.K->aD c F->lvl+2<=F.lvl->AOk c F A->∀O S s m news pk,Pre c F O S s m news->dF pk Sin S.led->∀vs,au O (args.map (aU (at_ pk S.led.length))) vs->
  codeAny c.M A (.call (.ref f) ⟨vs,[]⟩) (Bs c F O ⟨S.loc,back pk Sout S.led⟩ (rV (aU (bk pk S.led.length) ret))) s
theorem eD{mm:Fm}{pk:List Nat}{Sin:List SO}(p:Pre c F O S s mm news)(hpk:dF pk Sin S.led){G:Prop}(k:∀τ sub,bI τ=bF O pk->iV (at_ pk S.led.length) τ O->Sub c news τ Sin sub->G):G:=by
 obtain⟨τ,hτ⟩:=jT (pk:=pk) p.len hpk.eq
 have onto:=(jL (big:=S.led.length) hτ (Nat.le_of_eq p.len)).1
 obtain⟨sub,hs1,hs2⟩:=qp p.rep.ob onto hpk.eq
 exact k τ sub hτ onto ⟨m7 (by rw[mF _ hs1,p.rep.at_,hτ]),iO p.rep.nd (kx hpk.nd) hτ,hs2,λq hq=>Qq (gH hs1 hq) λj h=>P8 h.2⟩
theorem fE{O τ τ':List Addr}{s s':Shared}{mm:Fm}{news sub:List (Addr×Obj)}{pk:List Nat}{Sout:List SO}{g:Heap}{β:Type}{R:List Addr->β->Prop}{v:β}(p:Pre c F O S s mm news)(hpk:dI pk=QF)(hτ:bI τ=bF O pk)(h:xG c mm O news τ τ' Sout g sub s')(r:∀O',jq (bk pk S.led.length) τ' O'->R O' v):aG c F O ⟨S.loc,back pk Sout S.led⟩ R v s':=by
 obtain⟨O',news',pre2,p2,into2⟩:=p.back hpk hτ h.pre h.at_ h.nd h.ob h.fr h.below h.turn h.nw h.keep h.fresh h.side h.none_
 exact⟨O',_,news',pre2,p2,r O' into2⟩
theorem ab.plain{GK:Frag->Prop}{lvl:Nat}{e:FnE}{Sin Sout:List SO}{args:List SV}{ret:SV}{fl:XF}{b:List (Str×SV)}{S':St}(he:∀K,GK K->eT K e)(hna:args.length=e.na)(hkw:e.kws=[])(hb:eX args [] e.binds=QE b)
  (hrun:aa GK ⟨e.sc,[],lvl,QD⟩ e.body ⟨b.reverse,Sin⟩ S' fl)(hS:S'.led=Sout)(hfl:mH fl ret):ab GK lvl e.f Sin args Sout ret:=λc F A hK H hl HA O S s mm news pk p hpk vs hvs=>hS▸eD p hpk λτ sub hτ onto u=>
 gM (kw:=[]) H hl HA (he c.K hK) p u hna hkw.symm (hvs.unmap onto) ⟨rfl,rfl⟩ hb λc' s1 m1 hs HC _ P' home=>Qw (hrun c' (hs.K.symm▸hK) HC _ _ _ _ P') (λf s'⟨τ',m',sub',pre,q',r'⟩=>Qq (home _ _ _ _ _ pre q') λg h=>fE p hpk.nd hτ h λO' i=>aA.map i (dU hfl r')) λ_ _ z=>z.elim
theorem ab.star{GK:Frag->Prop}{lvl:Nat}{e:FnV}{Sin Sout:List SO}{args:List SV}{ret:SV}{fl:XF}{b:List (Str×SV)}{S':St}(he:∀K,GK K->lJ K e)(hna:args.length=e.na)(hb:eX args [] e.binds=QE b)
  (hrun:aa GK ⟨e.sc,[],lvl,QD⟩ e.body ⟨(b++[(e.star,SV.ref Sin.length)]).reverse,Sin++[.tup (args.drop e.nfix)]⟩ S' fl)(hS:S'.led=Sout)(hfl:mH fl ret):ab GK lvl e.f Sin args Sout ret:=λc F A hK H hl HA O S s mm news pk p hpk vs hvs=>hS▸eD p hpk λτ sub hτ onto u=>
 mV H hl HA (he c.K hK) p u hna (hvs.unmap onto) hb λc' τ1 o9 s1 m1 hs HC P' home=>Qw (hrun c' (hs.K.symm▸hK) HC _ _ _ _ P') (λf s'⟨τ',m',sub',pre,q',r'⟩=>Qq (home _ _ _ _ _ pre q') λg h=>fE p hpk.nd hτ h λO' i=>aA.map i (dU hfl r')) λ_ _ z=>z.elim
theorem ab.cell{GK:Frag->Prop}{lvl:Nat}{e:FnE}{Sin Sout:List SO}{args:List SV}{ret:SV}{fl:XF}{b:List (Str×SV)}{S':St}(he:∀K,GK K->g0 K e)(hna:args.length=e.na)(hkw:e.kws=[])(hb:eX args [] e.binds=QE b)
  (hrun:aa GK ⟨e.sc,dZ Sin.length (bw e.sc),lvl,QD⟩ e.body ⟨b.reverse,Sin++(bw e.sc).map λ_=>SO.cell QD⟩ S' fl)(hS:S'.led=Sout)(hfl:mH fl ret):ab GK lvl e.f Sin args Sout ret:=λc F A hK H hl HA O S s mm news pk p hpk vs hvs=>hS▸eD p hpk λτ sub hτ onto u=>
 mJ (kw:=[]) H hl HA (he c.K hK) p u hna hkw.symm (hvs.unmap onto) ⟨rfl,rfl⟩ hb λc' τ1 o9 s1 m1 hs HC P' home=>Qw (hrun c' (hs.K.symm▸hK) HC _ _ _ _ P') (λf s'⟨τ',m',sub',pre,q',r'⟩=>Qq (home _ _ _ _ _ pre q') λg h=>fE p hpk.nd hτ h λO' i=>aA.map i (dU hfl r')) λ_ _ z=>z.elim
noncomputable def Ny:SV->List Nat
 |.ref k=>[k]
 |_=>[]
noncomputable def ib:List SV->List Nat
 |[]=>[]
 |.ref k::r=>k::ib r
 |_::r=>ib r
noncomputable def kr:List (Str×SV)->List Nat
 |[]=>[]
 |(_, .ref k)::r=>k::kr r
 |_::r=>kr r
noncomputable def sY:List (Option SV)->List Nat
 |[]=>[]
 |some (.ref k)::r=>k::sY r
 |_::r=>sY r
def LO:SO->List Nat
 |.list xs=>ib xs
 |.tup xs=>ib xs
 |.inst _ d=>[d]
 |.ns fs=>kr fs
 |.nsE fs _=>kr fs
 |.slots _ d vs=>d::sY vs
 |.cell (QE v)=>Ny v
 |.fields _ vs=>ib vs
 |.loose _ vs=>ib vs
 |.vars loc=>kr loc
 |_=>[]
noncomputable def oh(led:List SO):Nat->List Nat->List Nat->List Nat
 |0,_,acc=>acc
 |_+1,[],acc=>acc
 |n+1,k::todo,acc=>match zS k acc with
  |false=>oh led n todo acc
  |true=>match led[k]? with
   |some o=>oh led n (todo++LO o) (acc++[k])
   |none=>oh led n todo acc
def NN(led:List SO)(vs:List SV):List Nat:=oh led 400 (ib vs) []
def Dh(pk:List Nat)(led:List SO)(vs:List SV):List Nat:=match pk with
 |[]=>NN led vs
 |k::r=>k::r
theorem ab.mono{GK:Frag->Prop}{lvl lvl':Nat}{f:Addr}{Sin:List SO}{args:List SV}{Sout:List SO}{ret:SV}(h:ab GK lvl f Sin args Sout ret)(hl:lvl<=lvl'):ab GK lvl' f Sin args Sout ret:=
 λc F A hK H h2 HA O S s m news pk p hpk vs hvs=>h c F A hK H (by lia) HA O S s m news pk p hpk vs hvs
section
variable(GK:Frag->Prop)
def Ic(lvl:Nat)(f:Addr)(vs:List SV)(kw:List (Str×SV))(other:XM SV):XM SV:=λx=>match x.orc with
 |.call g pk Sin args Sout ret::r=>match Nat.beq f g with
  |true=>QE (aU (bk (Dh pk x.st.led vs) x.st.led.length) ret,{ x with st:=⟨x.st.loc,back (Dh pk x.st.led vs) Sout x.st.led⟩,orc:=r,cs:=(dF (Dh pk x.st.led vs) Sin x.st.led)::(args.map (aU (at_ (Dh pk x.st.led vs) x.st.led.length))=vs)::(kw=[])::ab GK lvl f Sin args Sout ret::x.cs })
  |false=>other x
 |_=>other x
noncomputable def Hc(F:Fs)(st:Stmt)(other:XM XF):XM XF:=λx=>match x.orc with
 |.stmt line S' fl::r=>match Nat.beq st.pos.line line with
  |true=>QE (fl,{ x with st:=S',orc:=r,cs:=ae GK F st x.st S' fl::x.cs })
  |false=>other x
 |_=>other x
def IX(F:Fs)(e:Expr)(other:XM SV):XM SV:=λx=>match x.orc with
 |.expr line S' v::r=>match Nat.beq (iq e) line with
  |true=>QE (v,{ x with st:=S',orc:=r,cs:=ah GK F e x.st S' v::x.cs })
  |false=>other x
 |_=>other x
end
section
variable{GK:Frag->Prop}
theorem zd(hK:GK c.K)(H:aD c F){st:Stmt}{other:XM XF}(h:Snd c F other (exec st c.env) rF):Snd c F (Hc GK F st other) (exec st c.env) rF:=by
 intro x a x' e hc
 unfold Hc at e
 split at e
 .split at e
  .cases e;exact⟨hc.2,λO s m news p=>hc.1 c hK H O s m news p⟩
  .exact h x a x' e hc
 .exact h x a x' e hc
theorem Cg(hK:GK c.K)(H:aD c F){ex:Expr}{other:XM SV}(h:Snd c F other (eval ex c.env) rV):Snd c F (IX GK F ex other) (eval ex c.env) rV:=by
 intro x a x' e hc
 unfold IX at e
 split at e
 .split at e
  .cases e;exact⟨hc.2,λO s m news p=>hc.1 c hK H O s m news p⟩
  .exact h x a x' e hc
 .exact h x a x' e hc
theorem Bt(hK:GK c.K)(H:aD c F){lvl:Nat}(hl:lvl+2<=F.lvl){A:Around}(HA:AOk c F A){f:Addr}{vs:List SV}{kw:List (Str×SV)}{other:XM SV}(h:vA c F A (PA vs kw) other (λg=> .call (.ref f) ⟨g.1,g.2⟩)):
  vA c F A (PA vs kw) (Ic GK lvl f vs kw other) (λg=> .call (.ref f) ⟨g.1,g.2⟩):=by
 intro x a x' e hc
 unfold Ic at e
 split at e
 .split at e
  .cases e
   obtain⟨h1,h2,h3,h4,h5⟩:=hc
   refine⟨h5,λO s m news g p hi=>?_⟩
   obtain⟨gp,gk⟩:=g
   obtain⟨i1,i2⟩:=hi
   have hk0:gk=[]:=by
    have:=i2.1
    rw[h3]at this
    cases gk with
    |nil=>rfl
    |cons a t=>simp at this
   subst hk0
   exact h4 c F A hK H hl HA O x.st s m news _ p h1 gp (h2.symm▸i1)
  .exact h x a x' e hc
 .exact h x a x' e hc
end
theorem wX{pos:Pos}:Snd c F (eF (.ns [])) (eval (.Dict [] [] pos) c.env) rV:=by
 intro x a x' h hc
 unfold eF at h
 cases h
 refine⟨hc,λO s m news p=>wpAny_Dict_empty ?_⟩
 exact p.made' (x:=x) (λb o e=>Qr _ e) (λb o e=>Qs e) (Qu _ rfl) ⟨[],0,rfl,rfl⟩
def MC(a:SV):XM SV:=match a with
 |.int i=>aH (.int (-i))
 |_=>ar
theorem D5{e:Expr}{pos:Pos}{me:XM SV}(he:Snd c F me (eval e c.env) rV):Snd c F (ag me MC) (eval (.UnaryOp .USub e pos) c.env) rV:=by
 intro x a x' h hc
 obtain⟨v,x1,h1,h2⟩:=dk h
 cases v with
 |int i=>
  cases bf h2
  obtain⟨c0,g⟩:=he _ _ _ h1 hc
  refine⟨c0,λO s m news p=>wpAny_UnaryOp (go_ (g O s m news p) λO1 m1 n1 v1 s1 p1 q1 r1=>?_)⟩
  obtain⟨t,rfl⟩:=r1
  exact neg_int ⟨O1,m1,n1,p1,q1.toks _,_,rfl⟩
 |_=>cases h2
noncomputable def eO{α:Type}(l:List α)(lo hi st:Option Int):List α:=(sliceRange (sliceBounds lo hi st l.length).1 (sliceBounds lo hi st l.length).2.1 (sliceBounds lo hi st l.length).2.2).filterMap λk:Nat=>l[k]?
theorem dM{vs:List Value}{ns:List Int}(h:IntsAre vs ns):vs.length=ns.length:=h.length
theorem iH{vs:List Value}{ns:List Int}(h:IntsAre vs ns)(l:List Nat):IntsAre (l.filterMap λk:Nat=>vs[k]?) (l.filterMap λk:Nat=>ns[k]?):=by
 induction l with
 |nil=>exact .nil
 |cons k r ih=>
  cases e:vs[k]? with
  |none=>exact(List.filterMap_cons_none e).symm▸(List.filterMap_cons_none (f:=λk:Nat=>ns[k]?) (List.getElem?_eq_none_iff.mpr (h.length▸List.getElem?_eq_none_iff.mp e))).symm▸ih
  |some v=>exact Qq (h.at k v e) λn q=>Qq q λt q=>(List.filterMap_cons_some e).symm▸(List.filterMap_cons_some (f:=λk:Nat=>ns[k]?) q.2).symm▸q.1.symm▸ .cons n t ih
theorem xF{vs:List Value}{ns:List Int}(h:IntsAre vs ns)(lo hi st:Option Int):slicePick vs.toArray lo hi st=(eO vs lo hi st).toArray/\IntsAre (eO vs lo hi st) (eO ns lo hi st):=by
 constructor
 .unfold slicePick eO;simp
 .unfold eO
  rw[dM h]
  exact iH h _
def Cc:SO->Option (Option Int×Option Int×Option Int)
 |.fields T vs=>match vs with
  |[a,b,d]=>cond (decide (T="slice")) ((lI a).bind λlo=>(lI b).bind λhi=>(lI d).bind λst=>QE (lo,hi,st)) QD
  |_=>QD
 |_=>QD
theorem tA{P:Params}{x:SO}{o:Obj}{r:Option Int×Option Int×Option Int}(e:Cc x=QE r)(h:aP P O x o){G:Prop}(k:∀vl vu vs,o={ cls:= .type "slice",data:= .fields #[vl,vu,vs] }->IsPart vl r.1->IsPart vu r.2.1->IsPart vs r.2.2->G):G:=by
 cases x with
 |fields T vs=>
  rcases vs with _|⟨a,_|⟨b,_|⟨d,_|⟨f,vs⟩⟩⟩⟩
  .exact nn e
  .exact nn e
  .exact nn e
  .obtain⟨us,rfl,v1,r1,rfl,g1,v2,r2,rfl,g2,v3,r3,rfl,g3,g4⟩:=h
   cases g4
   exact bK (ai e).2 λlo h1 q=>bK q λhi h2 q=>bK q λst h3 q=>by cases q;exact k v1 v2 v3 (of_decide_eq_true (ai e).1▸rfl) (eu h1 g1) (eu h2 g2) (eu h3 g3)
  .exact nn e
 |_=>exact nn e
noncomputable def Hf:Option Int->Bool
 |none=>QF
 |some i=>!(i==0)
noncomputable def yX:SO->Option (List Int)
 |.ints ns=>QE ns
 |.intsX _ ns=>QE ns
 |_=>QD
theorem sJ{P:Params}{o:SO}{ob:Obj}{ns:List Int}(e:yX o=QE ns)(h:aP P O o ob):∃vs n,ob=listOf vs.toArray n/\IntsAre vs ns:=by
 cases o with
 |«ints» ms=>cases e;exact h
 |intsX vs ms=>cases e;exact⟨vs,0,h.1,h.2⟩
 |_=>cases e
def F3(a b:SV):XM SV:=cE a λl=>cE b λq=>xrd q Cc λr=>xrd l yX λns=>xif (Hf r.2.2) (lM [Nat.ble ns.length 1000=QF] (.ints (eO ns r.1 r.2.1 r.2.2)))
theorem wV(sl:Expr)(a b:SV):aj c F (P2 a b) (F3 a b) (λv=>getitemInPython v.1 >>=λp=>subscripted sl p v.1 v.2) rV:=nN a λl=>w8 b λq x=>At.rd λso r hq hr=>At.rd λo ns ho hn=>At.bif λhst=>At.new λhb=>zO λO s m news ad a2 p hσ h2=>
 p.objAt hq h2 λos f1 f3 f4=>tA hr f4 λvl vu vs e pl pu ps=>p.objAt ho hσ λob k1 k3 k4=>by
  obtain⟨ws,n,rfl,z⟩:=sJ hn k4
  have j:=xF z r.1 r.2.1 r.2.2
  exact jx (aW k3).typeIs gC (wpAny_getItem_list_slice (aW k3) ⟨_,e▸f3,rfl,rfl⟩ pl pu ps (λh=>by rw[h]at hst;exact ff hst) (j.1▸p.pushed' (x:=x) (p.rep.fr.push _) (p.rep.nw.push p.rep.fr _) ⟨_,0,rfl,j.2⟩) (cX (dM z▸PT hb.1:)))
noncomputable def pd:SO->Option (List Int)
 |.ints ns=>QE ns
 |_=>QD
theorem lE{o:SO}{ys:List Int}(e:pd o=QE ys):o= .ints ys:=by cases o<;>first|exact nn e|exact QJ SO.ints (QH e)
def Ls(a:SV):XM SV:=cE a λl=>xrd l pd λns=>cI [] (.int ns.sum)
theorem BM(H:aD c F)(a:SV):aj c F (rV a) (Ls a) (λv=>PySem.call (.builtin "sum") [v]) rV:=j0 a λl x=>At.rd λo ns ho hn=>At.say λ_=>cc ho λO s m news ad ob p hσ f1 f3 q=>by
 obtain⟨vs,n,rfl,z⟩:=lE hn▸q
 exact wpAny_with_toks (PX _) (Qw (sumK (Q:=λv s'=>s.toks<=s'.toks->aG c F O x.st (rV (.int ns.sum)) v s') (E:=NoE) H.handled p.rep.fr p.rep.nw (aW f3) z λh' tk t' F' N' ht=>⟨O,m,news,P5 _,p.heap (P5 _) (p.rep.grown F' N') ht,t',rfl⟩) (λ_ _ z=>z) λ_ _ z=>z.elim)
noncomputable def Mz:SV->Option Int
 |.int i=>QE i
 |_=>QD
theorem Ey{a:SV}{y:Int}(e:Mz a=QE y):a= .int y:=by cases a<;>first|exact nn e|exact QJ SV.int (QH e)
def yW:List SV->Option (List Int):=vt Mz
theorem rQ{xs:List SV}{ns:List Int}{vs:List Value}(e:yW xs=QE ns)(h:au O xs vs):IntsAre vs ns:=s8 (m9 (λ_ _=>Ey) e▸h)
noncomputable def uH:SO->Option (List SV)
 |.list xs=>QE xs
 |_=>QD
theorem r5{o:SO}{ys:List SV}(e:uH o=QE ys):o= .list ys:=by cases o<;>first|exact nn e|exact QJ SO.list (QH e)
def NF(o q:SO):Option (List Prop×SO):=(uH o).bind λxs=>(pd q).bind λns=>(yW xs).bind λms=>QE ([Nat.ble (ms.length+ns.length) 1000=QF], .ints (ms++ns))
theorem Cs(o q:SO)(r:List Prop×SO)(e:NF o q=QE r)(hb:bh r.1)(P:Params)(O:List Addr):uk P O o q r.2:=bK e λxs h1 e=>bK e λns h2 e=>bK e λms h3 e4=>by
 cases r5 h1;cases lE h2;cases e4
 rintro _ _ ⟨vs,n,rfl,z⟩ ⟨us,n',rfl,z'⟩
 have hz:=rQ h3 z
 exact⟨vs,us,n,n',rfl,rfl,by rw[dM hz,dM z'];exact PT hb.1,λa=>⟨_,0,rfl,intsAre_append hz z'⟩⟩
def MR(a b:SV):XM SV:=bQ (bQ (CH Ky a b) (CH Ld a b)) (CH NF a b)
theorem Ae(a b:SV):aj c F (P2 a b) (MR a b) (λv=>binaryOp .Add v.1 v.2) rV:=aO (aO (kb E1 a b) (kb Eu a b)) (kb Cs a b)
def Mj(op:Operator)(a b:SV):XM SV:=bQ (L0 op a b) (match op with
 |.Add=>MR a b
 |_=>ar)
theorem Bu(op:Operator)(a b:SV):aj c F (P2 a b) (Mj op a b) (λv=>binaryOp op v.1 v.2) rV:=aO (Bc op a b) (by
 cases op with
 |Add=>exact Ae a b
 |_=>exact aX)
def bE(o o':SO):Prop:=∀P O ob,aP P O o ob->aP P O o' ob
theorem bE.refl(o:SO):bE o o:=λ_ _ _ h=>h
def br:List SO->List SO->Prop:=LR bE
theorem br.nil:br [] []:=rfl
theorem br.cons{o o':SO}{l l':List SO}(x:bE o o')(y:br l l'):br (o::l) (o'::l'):=⟨o',l',rfl,x,y⟩
theorem br.refl(l:List SO):br l l:=by
 induction l with
 |nil=>exact rfl
 |cons o l ih=>exact .cons (.refl o) ih
theorem br.append{a b c d:List SO}(h:br a b)(h':br c d):br (a++c) (b++d):=LR.append h' h
theorem cy.soft{P:Params}{l:List SO}:∀{l':List SO}{ns:List (Addr×Obj)},br l l'->cy P O l ns->cy P O l' ns:=by
 induction l with
 |nil=>exactλh r=>Eq.symm (show _=[]from h)▸r
 |cons o l ih=>exactλh r=>Qq h λo' h=>Qq h λl' h=>h.1.symm▸Qq r λp r=>Qq r λns r=>⟨p,ns,r.1,h.2.1 _ _ _ r.2.1,ih h.2.2 r.2.2⟩
theorem br.length{l l':List SO}(h:br l l'):l.length=l'.length:=(LR.length h).symm
theorem bt(ys:List Str):bE (.list (ys.map SV.str)) (.words ys):=λP O ob⟨vs,n,e,h⟩=>⟨vs,n,e,dX h⟩
theorem Kd(ys:List Str):bE (.words ys) (.list (ys.map SV.str)):=λP O ob⟨vs,n,e,h⟩=>⟨vs,n,e,cb h⟩
theorem vD(ys:List Str):bE (.tup (ys.map SV.str)) (.wtup ys):=λP O ob⟨vs,n,e,h⟩=>⟨vs,n,e,dX h⟩
theorem NJ(ys:List Str):bE (.wtup ys) (.tup (ys.map SV.str)):=λP O ob⟨vs,n,e,h⟩=>⟨vs,n,e,cb h⟩
theorem N0(fs:List (Str×SV))(ep:Nat):bE (.nsE fs ep) (.ns fs):=λP O ob⟨es,e,h⟩=>⟨es,ep,e,h⟩
theorem jb(o:SO):bE o .any:=λ_ _ _ _=>trivial
theorem Pre.soft(p:Pre c F O S s m news){l:List SO}(h:br S.led l):Pre c F O ⟨S.loc,l⟩ s m news:=
 ⟨⟨p.rep.fr,p.rep.nw,p.rep.at_,p.rep.nd,p.rep.ob.soft h,p.rep.lc⟩,p.below,p.turn,p.cell,p.vars,p.side⟩
theorem aG.soft{S S':St}{R:List Addr->β->Prop}{v:β}(z:aG c F O S R v s)(h1:S'.loc=S.loc)(h2:br S.led S'.led):aG c F O S' R v s:=by
 refine aG.el z λO' m' n' a b d=>?_
 have:=b.soft h2
 rw[<-h1]at this
 exact⟨O',m',n',a,this,d⟩
theorem Pre.tight(p:Pre c F O S s m news){k:Nat}{o o':SO}(h:S.led[k]?=QE o)(hl:bE o o'):Pre c F O ⟨S.loc,S.led.set k o'⟩ s m news:=by
 refine p.soft ?_
 have:∀(l:List SO)(k:Nat),l[k]?=QE o->br l (l.set k o'):=by
  intro l
  induction l with
  |nil=>exactλ_ h=>nn h
  |cons a r ih=>
   intro k h
   cases k with
   |zero=>cases QH (show QE a=QE o from h);exact .cons hl (.refl _)
   |succ k=>exact .cons (.refl _) (ih k h)
 exact this _ _ h
theorem Pre.dictE(H:aD c F)(p:Pre c F O S s m news){k:Nat}{o:SO}{f:List (Str×SV)×Nat}{a:Addr}(hk:S.led[k]?=QE o)(hf:lx o=QE f)(hn:dr f.1=QF)(hσ:O[k]?=QE a){G:Prop}
  (g:∀kvs,s.heap.DictAt (strKind c.pr c.w) a kvs f.2->bP O f.1 kvs->(a==sysModules)=QG->G):G:=by
 obtain⟨a',kvs,f1,f3,f4,f5,f6⟩:=oE H p (iU hf▸hk) hn
 rw[hσ]at f1;cases f1
 exact g kvs f3 f4 f6
def uY(a:SV):XM SV:=cE a λd=>xrd d lx λf=>xif (dr f.1) (lM [] (.fields "dict_values" [.ref d]))
theorem qW(H:aD c F)(a:SV):aj c F (rV a) (uY a) (λv=>PySem.call (.builtin "dict.values") [v]) rV:=j0 a λd x=>At.rd λo f ho hf=>At.bif λhn=>At.new λ_=>wd λO s m news ad p hσ=>
 p.dictE H ho hf hn hσ λkvs f3 f4 f6=>call_meetsIn PySem.F.slot_dict_values f3.dictOf.mapOf.typeIs PySem.F.entry_dict_values (PySem.F.args_dict_values_1 _) (meets_dict_values (strKind c.pr c.w) ad f6) ⟨⟨kvs,f3.dictOf⟩,cG p rfl ⟨_,rfl,_,_,rfl,fm hσ,rfl⟩⟩
def BU:XM SV:=lM [] (.sset [])
theorem s9:aj c F (λ_(_:Unit)=>True) BU (λ_=>PySem.call (.type "set") []) rV:=λx=>At.new λ_ O s m news _ p _=>call_set_0 λled=>cG p rfl ⟨c.pr,c.w,0,rfl,PX _,setObjOf_fresh led⟩
theorem ll{a:Addr}{ob:Obj}{ys:List Str}{n:Nat}{prog:Program}{w:World}(g4:s.heap.get? a=QE ob)(g5:ob.SetObjOf (strKind prog w) (λk=>ys.any (·==k)) n)(hn:n<=ys.length)(hl:Nat.ble ys.length 1000=QF):s.heap.SetOf (strKind prog w) a (λk=>ys.any (·==k)) n:=
 g5.setOf g4 (Nat.lt_of_le_of_lt (PW hn (PT hl)) (by decide))
def zV(op:CmpOp)(a b:SV):XM SV:=jz a λk=>cE b λl=>xrd l oA λys=>match op with
 |.In=>cI [Nat.ble ys.length 1000=QF] (.bool (af k ys))
 |.NotIn=>cI [Nat.ble ys.length 1000=QF] (.bool (!af k ys))
 |_=>ar
theorem r9(op:CmpOp)(a b:SV):aj c F (P2 a b) (zV op a b) (λv=>compareOp op v.1 v.2) rV:=Ex a λk=>w8 b λl x=>At.rd λo ys ho hs=>by
 cases op with
 |In=>exact At.say λhb=>qC λO s m news ad t p hσ=>p.set ho hs hσ λob nn k2 k3 k4 k5=>wpAny_inSet_of (strKind_is _ _ k t) rfl (ll k4 k5 k3 hb.1) ((p.toks _).now (QJ Value.bool (dC k ys).symm))
 |NotIn=>exact At.say λhb=>qC λO s m news ad t p hσ=>p.set ho hs hσ λob nn k2 k3 k4 k5=>wpAny_notInSet_of (strKind_is _ _ k t) rfl (ll k4 k5 k3 hb.1) ((p.toks _).now (QJ (λb=>Value.bool !b) (dC k ys).symm))
 |_=>exact At.fail
def Gw(a b:SV):XM SV:=cE a λl=>jz b λk=>xrd l oA λys=>xwr [Nat.ble ys.length 1000=QF] l (.sset (ys++[k])) .none
theorem D7(ys:List Str)(k:Str):(λk':Str=>ys.any (·==k')||decide (k'=k))=λk'=>(ys++[k]).any (·==k'):=by
 funext k'
 rw[List.any_append]
 by_cases h:k'=k
 .subst h;simp
 .have:(k==k')=QG:=by simpa usingλq=>h (Eq.symm q)
  simp[this,h]
theorem xC(a b:SV):aj c F (P2 a b) (Gw a b) (λg=>PySem.call (.builtin "set.add") [g.1,g.2]) rV:=nN a λl=>Jy b λk x=>At.rd λo ys ho hs=>At.wr λhb=>uV λO s m news ad t p hσ=>p.set ho hs hσ λob nn k2 k3 k4 k5=>
 call_set_add (strKind_is _ _ k t) rfl (ll k4 k5 k3 hb.1) (Nat.lt_of_le_of_lt (Nat.succ_le_succ (PW k3 (PT hb.1))) (by decide)) λh' hs' hS=>Qq hS.objOf λo' q=>
  ⟨O,m,_,P5 _,p.heap (P5 _) (p.rep.same k2 hs' q.1 ⟨c.pr,c.w,_,rfl,by rw[Qf];show _<=ys.length+1;split<;>lia,D7 ys k▸q.2⟩),rfl⟩
noncomputable def Ct(n:Str):List (Str×SV)->List (Str×SV)
 |[]=>[]
 |p::r=>match aQ p.1 n with
  |true=>r
  |false=>p::Ct n r
theorem uB{n:Str}:∀{fs:List (Str×SV)},(fs.map (·.1)).Nodup->Ct n fs=fs.filter λp=>decide (p.1≠n)
 |[],_=>rfl
 |p::r,h=>by
  rw[List.map_cons,Ql]at h
  unfold Ct
  rw[List.filter_cons]
  cases q:aQ p.1 n with
  |true=>
   have e:=aM.mp q
   rw[if_neg (by simp[e])]
   refine(List.filter_eq_self.mpr λz hz=>?_).symm
   refine decide_eq_true λhq=>h.1 ?_
   rw[e,<-hq]
   exact List.mem_map_of_mem hz
  |false=>
   have:p.1≠n:=λe=>by rw[aM.mpr e]at q;cases q
   rw[if_pos (decide_eq_true this)]
   exact QJ _ (uB h.2)
theorem bP.filter{n:Str}:∀{fs:List (Str×SV)}{kvs:List (Str×Value)},bP O fs kvs->bP O (fs.filter λp=>decide (p.1≠n)) (kvs.filter λp=>decide (p.1≠n))
 |[],_,h=>by rw[show _=_ from h];rfl
 |p::r,_,⟨v,l,e,h1,h2⟩=>by
  subst e
  rw[List.filter_cons,List.filter_cons]
  by_cases q:p.1=n
  .rw[if_neg (by simp[q]),if_neg (by simp[q])];exact h2.filter
  .rw[if_pos (decide_eq_true q),if_pos (decide_eq_true q)];exact⟨v,_,rfl,h1,h2.filter⟩
def BV(a b:SV):XM Unit:=cE a λd=>jz b λk=>xrd d lY λfs=>xif (dr fs) (xif (Nat.ble fs.length 1000) (xif (dE k fs).isSome (xwr [] d (.ns (Ct k fs)) ())))
theorem wH(H:CxW c F)(a b:SV):aj c F (P2 a b) (BV a b) (λg=>delItem g.1 g.2) rU:=nN a λd=>Jy b λk x=>At.rd λo fs ho hf=>At.bif λhn=>At.bif λhz=>At.bif λhl=>At.wr λ_=>uV λO s m news ad t p hσ=>p.dic H ho (eE hf) hn hσ λob kvs f2 f3 f4 f5 f6=>by
 unfold delItem
 try with_reducible refine Qy ?_
 refine Qv (wpAny_sequenceKey f3.typeIs (by decide) ?_)
 refine Qv (wpAny_callSpecial?_slot (name:=QC "__delitem__") f3.typeIs PySem.F.slot_dict_delitem
  (call_meetsIn PySem.F.slot_dict_delitem f3.typeIs PySem.F.entry_dict_delitem (PySem.F.args_dict_delitem_2 _ _) (meets_dict_delitem_pairs (strKind c.pr c.w) ad (strKind_is _ _ k t)) ⟨kvs,f3,f5▸cX (PT hz),(oH f4 k).2.trans hl,λh' hd hs=>?_⟩))
 obtain⟨o',es',ep',q1,q2,q3,q4,q5,q6⟩:=hd
 cases qQ q2 q3
 exact Qx ⟨O,m,_,P5 _,p.heap (P5 _) (p.rep.same f2 hs q1 ⟨_,_,rfl,kQ (prog:=c.pr) (w:=c.w) q5 (λe he=>q4 e (by simpa using he)) (uB (gK hn)▸f4.filter)⟩),QI⟩
theorem pW(H:CxW c F){o i:Expr}{tp pos:Pos}{mo mi:XM SV}(ho:Snd c F mo (eval o c.env) rV)(hi:Snd c F mi (eval i c.env) rV):
  Snd c F (ag mo λa=>ag mi λb=>ag (BV a b) λ_=>aH XF.next) (exec (.Delete [.Subscript o i tp] pos) c.env) rF:=by
 intro x a x' h hc
 obtain⟨va,x1,h1,h2⟩:=dk h
 obtain⟨vb,x2,h3,h4⟩:=dk h2
 obtain⟨u,x3,h5,h6⟩:=dk h4
 cases bf h6
 obtain⟨c2,g5⟩:=wH H va vb _ _ _ h5 hc
 obtain⟨c1,g3⟩:=hi _ _ _ h3 c2
 obtain⟨c0,g1⟩:=ho _ _ _ h1 c1
 refine⟨c0,λO s m news p=>wpAny_Delete (wpAny_deleteEach_cons (delete_Subscript (go_ (g1 O s m news p) λO1 m1 n1 v1 s1 p1 q1 r1=>go_ (g3 O1 s1 m1 n1 q1) λO2 m2 n2 v2 s2 p2 q2 r2=>go_ (g5 O2 s2 m2 n2 (v1,v2) q2 ⟨r1.mono p2,r2⟩) λO3 m3 n3 v3 s3 p3 q3 r3=>wpAny_deleteEach_nil ?_)))⟩
 exact⟨O3,m3,n3,(p1.trans p2).trans p3,q3,rfl⟩
def Nf(a:SV):XM SV:=cE a λl=>xrd l z4 λys=>cI [Nat.ble ys.length 1000=QF] (.int ys.length)
theorem AH{a:SV}:aj c F (rV a) (Nf a) (λg=>PySem.call (.builtin "len") [g]) rV:=j0 a λl x=>At.rd λo ys ho hy=>At.say λhb=>cc ho λO s m news ad ob p hσ f1 f3 q=>by
 obtain⟨vs,n,rfl,y⟩:=xr hy▸q
 have e1:=az y
 exact len_tuple ⟨_,f3,rfl,n,rfl⟩ (uD (by rw[List.size_toArray,e1];exact PT hb.1)) ((p.toks _).now ⟨_,by rw[List.size_toArray,e1]⟩)
noncomputable def kG:List (Option Dat)->Option (List Dat)
 |[]=>QE []
 |o::r=>o.bind λd=>(kG r).map (List.cons d)
noncomputable def sD:SV->Option Dat
 |.str x=>QE (.str x)
 |_=>QD
def G8(f:SV->Option Dat):SO->Option Dat
 |.words ys=>QE (.list (ys.map Dat.str))
 |.list xs=>(kG (xs.map f)).map .list
 |.tup xs=>(kG (xs.map f)).map .tuple
 |_=>QD
noncomputable def JT(led:List SO):Nat->SV->Option Dat
 |0=>sD
 |n+1=>λa=>match a with
  |.ref k=>led[k]?.bind (G8 (JT led n))
  |a=>sD a
theorem jP{vs:List Value}{ys:List Str}(h:StrsAre vs ys):DatAll news vs (ys.map Dat.str):=by
 induction h with
 |nil=>exact .nil
 |cons y t _ ih=>exact .cons (.str y t) ih
theorem ig{f:SV->Option Dat}(h:∀sv d v,f sv=QE d->aA O sv v->DatIn news v d)(xs:List SV):∀ds vs,kG (xs.map f)=QE ds->au O xs vs->DatAll news vs ds:=by
 induction xs with
 |nil=>exactλds vs e r=>by cases e;cases r;exact .nil
 |cons x xs ih=>exactλds vs e⟨v,r,q,h1,h2⟩=>bK e λd hd e=>Qq (Qm.mp e) λl hl=>q▸hl.2▸ .cons (h x d v hd h1) (ih l r hl.1 h2)
theorem lO{sv:SV}{d:Dat}{v:Value}(e:sD sv=QE d)(h:aA O sv v):DatIn news v d:=by
 cases sv with
 |str x=>cases e;exact Qq h λt h=>h▸ .str x t
 |_=>exact nn e
theorem x9{P:Params}{f:SV->Option Dat}(h:∀sv d v,f sv=QE d->aA O sv v->DatIn news v d){o:SO}{d:Dat}{a:Addr}{ob:Obj}(e:G8 f o=QE d)(hm:(a,ob)∈news)(r:aP P O o ob):DatIn news (.ref a) d:=by
 cases o with
 |words ys=>obtain⟨vs,n,rfl,y⟩:=r;cases e;exact .list hm (jP y)
 |list xs=>obtain⟨vs,n,rfl,y⟩:=r;exact Qq (Qm.mp e) λl hl=>hl.2▸ .list hm (ig h xs l vs hl.1 y)
 |tup xs=>obtain⟨vs,n,rfl,y⟩:=r;exact Qq (Qm.mp e) λl hl=>hl.2▸ .tuple hm (ig h xs l vs hl.1 y)
 |_=>exact nn e
theorem AZ(p:Pre c F O S s m news)(n:Nat):∀(sv:SV)(d:Dat)(v:Value),JT S.led n sv=QE d->aA O sv v->DatIn news v d:=by
 induction n with
 |zero=>exactλsv d v=>lO
 |succ n ih=>
  intro sv d v e hv
  cases sv with
  |ref k=>exact bK e λo ho e=>Qq hv λa hv=>hv.2▸p.objAt ho hv.1 λob f1 f3 f4=>x9 ih e (p.rep.mem f1) f4
  |_=>exact lO (by exact e) hv
noncomputable def C8(p:Prop):Bool:=@decide p (Classical.propDecidable p)
theorem x7{p:Prop}(h:p):C8 p=QF:=@decide_eq_true p (Classical.propDecidable p) h
def oO(led:List SO):SO->Option (List Dat)
 |.words ys=>QE (ys.map Dat.str)
 |.list xs=>kG (xs.map (JT led 5))
 |_=>QD
def xrl{α β:Type}(l:Nat)(rd:List SO->SO->Option β)(f:β->XM α):XM α:=λx=>xrd l (rd x.st.led) f x
theorem At.rl{δ:Type}{x:XS}{I:List Addr->γ->Prop}{t:γ->Sem β}{R:α->List Addr->β->Prop}{l:Nat}{rd:List SO->SO->Option δ}{f:δ->XM α}(h:∀o b,x.st.led[l]?=QE o->rd x.st.led o=QE b->At c F x I (f b) t R):At c F x I (xrl l rd f) t R:=λa x' e=>At.rd h a x' e
def BI(ds es:List Dat):Bool:=match es with
 |[]=>ds.isEmpty
 |_::_=>C8 (ds=es)
def eqX(lvl:Nat)(op:CmpOp)(a b:SV):XM SV:=match op with
 |.Eq=>cE a λi=>cE b λj=>xif (Nat.ble 3 lvl) (xrl i oO λds=>xrl j oO λes=>cI [ds.all (kqdOk 8)=QF/\es.all (kqdOk 8)=QF] (.bool (BI ds es)))
 |_=>ar
theorem jO(p:Pre c F O S s m news){i:Nat}{a:Addr}{o:SO}{ds:List Dat}(ho:S.led[i]?=QE o)(hσ:O[i]?=QE a)(e:oO S.led o=QE ds){G:Prop}(k:∀vs n,(a,listOf vs.toArray n)∈news->DatAll news vs ds->G):G:=p.objAt ho hσ λob f1 f3 f4=>by
 have mem:=p.rep.mem f1
 cases o with
 |words ys=>obtain⟨vs,n,rfl,y⟩:=f4;cases e;exact k vs n mem (jP y)
 |list xs=>obtain⟨vs,n,rfl,y⟩:=f4;exact k vs n mem (ig (AZ p 5) xs ds vs e y)
 |_=>exact nn e
theorem Iz(ds es:List Dat){i:Decidable (ds=es)}:@decide (ds=es) i=(BI ds es):=by
 unfold BI
 cases es with
 |nil=>cases ds<;>simp
 |cons e l=>unfold C8;by_cases h:ds=e::l<;>simp[h]
theorem E3(H:aD c F)(op:CmpOp)(a b:SV):aj c F (P2 a b) (eqX F.lvl op a b) (λv=>compareOp op v.1 v.2) rV:=by
 cases op with
 |Eq=>
  exact nN a λi=>w8 b λj x=>At.bif λhl=>At.rl λo ds ho hd=>At.rl λq es hq he=>At.say λhb=>zO λO s m news ad a2 p hσ h2=>by
   refine jO p ho hσ hd λvs n k2 k3=>jO p hq h2 he λus n' l2 l3=>kqd_eq p.rep.nw k2 rfl rfl k3 (λ_ h=>h) l2 rfl rfl l3 (λ_ h=>h) (List.all_eq_true.mp hb.1.1) (List.all_eq_true.mp hb.1.2) ?_ (p.now ?_)
   .have:=PT hl
    have:=H.units
    lia
   .exact QJ Value.bool (Iz ds es)
 |_=>exact aX
open Sem (wp)
namespace Wr
theorem oV:Slot "list_iterator" "__getattribute__" "object.__getattribute__":=
 .of (owner:="object") (n:="__getattribute__") (by rw[typeLookup_type,builtinLookup_eq_fast];kernel_rfl) (by decide+kernel) (by decide+kernel) (by decide+kernel)
  (by first|exact .inl (by decide+kernel)|exact .inr (by decide+kernel)) (by rw[isSubtype_type];kernel_rfl)
theorem ze:entryFor table "object.__getattribute__"=QE Builtin.«object.__getattribute__»:=entryFor_of_tree (by kernel_rfl)
theorem Dg(a b:Value):argsOk "object.__getattribute__" ⟨[a,b],[]⟩:=by unfold argsOk;kernel_rfl
theorem wu:typeLookup (.type "list_iterator") "__next__"=pure (QE (.builtin "list_iterator.__next__")):=slot_listiter_next.lookup
theorem jo:typeOf (.builtin "list_iterator.__next__")=pure (.type "wrapper_descriptor"):=by show builtinType _=_;rw[builtinType_eq_fast];kernel_rfl
theorem AL:typeLookup (.type "wrapper_descriptor") "__get__"=pure (QE (.builtin "wrapper_descriptor.__get__")):=by rw[typeLookup_type,builtinLookup_eq_fast];kernel_rfl
theorem zo:typeLookup (.type "wrapper_descriptor") "__set__"=pure QD:=by rw[typeLookup_type,builtinLookup_eq_fast];kernel_rfl
theorem BH:typeLookup (.type "wrapper_descriptor") "__delete__"=pure QD:=by rw[typeLookup_type,builtinLookup_eq_fast];kernel_rfl
theorem yR:Slot "wrapper_descriptor" "__get__" "wrapper_descriptor.__get__":=
 .of (owner:="wrapper_descriptor") (n:="__get__") (by rw[typeLookup_type,builtinLookup_eq_fast];kernel_rfl) (by decide+kernel) (by decide+kernel) (by decide+kernel)
  (by first|exact .inl (by decide+kernel)|exact .inr (by decide+kernel)) (by rw[isSubtype_type];kernel_rfl)
theorem wx:entryFor table "wrapper_descriptor.__get__"=QE Builtin.«wrapper_descriptor.__get__»:=entryFor_of_tree (by kernel_rfl)
theorem Ak(a b d:Value):argsOk "wrapper_descriptor.__get__" ⟨[a,b,d],[]⟩:=by unfold argsOk;kernel_rfl
noncomputable abbrev Gp(l:Addr)(i:Nat):Obj:={ cls:= .type "list_iterator",data:= .fields #[.ref l, .int i 0] }
noncomputable abbrev wrObj(it:Addr):Obj:={ cls:= .type "method-wrapper",data:= .fields #[.builtin "list_iterator.__next__", .ref it] }
section
variable{prog:Program}{w:World}{A:Around}{E:Value->Shared->Prop}
theorem getattr_next{it l:Addr}{i:Nat}{Q:Value->Shared->Prop}(ho:s.heap.get? it=QE (Gp l i))(h:∀h',(∀b o,s.heap.get? b=QE o->h'.get? b=QE o)->h'.get? s.heap.objs.size=QE (wrObj it)->Q (.ref s.heap.objs.size) { s with heap:=h',toks:=s.toks+1 }):
  wpAny (model prog w) A (getAttr (.ref it) "__next__" QF) Q E s:=by
 have hT:s.TypeIs (.ref it) "list_iterator":=⟨_,ho,rfl⟩
 unfold getAttr
 refine Qv (wpAny_mkText ?_)
 have hT1:({ s with toks:=s.toks+1 }:Shared).TypeIs (.ref it) "list_iterator":=⟨_,ho,rfl⟩
 unfold getAttrBy
 refine Qy (Qv (wpAny_typeOf hT1 ?_))
 refine Qv (Qz oV.lookup ?_)
 show wpAny _ _ (if(onTheHeap (.type "list_iterator")&&(Value.builtin "object.__getattribute__"==Value.builtin "object.__getattribute__"))=QF then _ else _) _ _ _
 rw[if_neg (by simp[onTheHeap])]
 unfold getAttrByItsOwn
 refine Qv (Qz (a:=QD) rfl ?_)
 refine Qv (wpAny_attempt (Qy ?_))
 show wpAny _ _ (if(QF&&onTheHeap (.builtin "object.__getattribute__"))=QF then _ else _) _ _ _
 rw[if_neg (by simp[onTheHeap])]
 unfold boundAndCalled
 refine Qv (Qz (oV.bind _) ?_)
 refine wpAny_call_entry oV hT1 ze ?_ (Dg _ _)
 unfold Builtin.«object.__getattribute__»
 refine Qv (Qz (a:=(Value.ref it,[Value.str "__next__" s.toks])) (by first|rfl|kernel_rfl) ?_)
 refine Qv (m:=Builtin.ObjectAttr.attrName _) (Qz (a:=("__next__":Str)) (by first|rfl|kernel_rfl) ?_)
 refine Qv (wpAny_typeOf hT1 ?_)
 unfold Builtin.ObjectAttr.find
 have hTn:({ s with toks:=s.toks+1 }:Shared).TypeIs (.builtin "list_iterator.__next__") "wrapper_descriptor":=jo
 have hget:specialOf (.builtin "list_iterator.__next__") "__get__"=pure (QE (.builtin "wrapper_descriptor.__get__")):=by unfold specialOf;rw[jo,pure_bind,AL]
 have hst:Builtin.ObjectAttr.takesStores (.builtin "list_iterator.__next__")=pure QG:=by unfold Builtin.ObjectAttr.takesStores specialOf;rw[jo,pure_bind,zo,pure_bind];first|rfl|(simp only[pure_bind];rw[BH];rfl)
 refine Qv (Qv (Qz wu (Qv (Qz hget (Qv (Qv (Qz hst (Qx ?_))))))))
 unfold Builtin.ObjectAttr.ownThenClass
 refine Qv (m:=Builtin.ObjectAttr.inOwnDict _ _) ?_
 unfold Builtin.ObjectAttr.inOwnDict Builtin.ObjectAttr.ownDict
 refine Qv (Qv (m:=loadHead it) (wpAny_loadPart ho ?_))
 unfold instanceDict
 refine Qv (wpAny_loadPart ho ?_)
 refine Qx (Qx ?_)
 refine Qv (m:=Builtin.ObjectAttr.copiedAttributeGuard _ _) (Qz (a:=()) (by first|rfl|kernel_rfl) ?_)
 refine Qv (wpAny_rule (Qx ?_))
 show wpAny _ _ (Builtin.ObjectAttr.bindTo (.builtin "wrapper_descriptor.__get__") (.builtin "list_iterator.__next__") (.ref it) (.type "list_iterator")) _ _ _
 unfold Builtin.ObjectAttr.bindTo
 refine Qv (Qy (wpAny_call_entry yR hTn wx ?_ (Ak _ _ _)))
 unfold Builtin.«wrapper_descriptor.__get__»
 refine Qv (Qz (a:=(Value.builtin "list_iterator.__next__",QE (.ref it),QE (.type "list_iterator"))) (by first|rfl|kernel_rfl) ?_)
 refine Qv (Qv (Qz (a:=(("__next__":Str),Value.type "list_iterator")) (by first|rfl|kernel_rfl) (Qv (wpAny_isInstance (T:="list_iterator") (b:=QF) hT1 (by rw[isSubtype_type];kernel_rfl) ?_))))
 rw[Bool.not_true,if_neg Bool.false_ne_true]
 refine Qx (Qv (wpAny_newObj_type ?_ (by show(2:Nat)<=_;decide)))
 refine Qx ⟨_,rfl,Qx ⟨_,rfl,?_⟩⟩
 dsimp only
 rw[handedOut_of (show handedIn (.ref s.heap.objs.size)=QF from rfl)]
 exact Qx (h _ (λb o e=>Qr _ e) (Qu _ rfl))
end
end Wr
theorem Pre.landed(p:Pre c F O S s m news){h₅:Heap}(hB:∀b o,s.heap.get? b=QE o->b∉c.L::c.fs->h₅.get? b=QE o)(hU:s.heap.UpToSlots h₅):
  ∃g,Pre c F O S { s with heap:=h₅ } ⟨g,m.m⟩ news:=by
 have hself:=kts_self p.rep.fr
 obtain⟨T,Sx⟩:=kts_turn_at (h:=h₅) (fs:=c.fs) (g:=m.g)
  (λb hb=>let⟨_,o,ho,_⟩:=p.below.frames.mem hb;⟨o,ho⟩)
  (λb o e hb=>hB b o (p.rep.fr.keep _ _ e) (λz=>by
   rcases Qb.mp z with z|z
   .rw[z,hself]at e;cases e
   .exact hb z))
  (λb o e hb=>by
   obtain⟨_,o',ho',hd⟩:=p.below.frames.mem hb
   rw[e]at ho';cases ho'
   exact hU b o (p.rep.fr.keep _ _ e) hd)
 have hnf:∀q∈news,q.1∉c.L::c.fs:=λq hq h=>by
  rcases Qb.mp h with h|h
  .exact(p.rep.nw q hq).2.1 h
  .obtain⟨_,o,ho,_⟩:=p.below.frames.mem h
   rw[(p.rep.nw q hq).2.2]at ho;cases ho
 refine⟨ktsHeap h₅ c.fs m.g,⟨⟨⟨hU.ns p.rep.fr.ns,Sx,by show(ktsHeap h₅ c.fs m.g).objs.size<=_;rw[T.size];exact p.rep.fr.above⟩,λq hq=>⟨hB _ _ (p.rep.nw q hq).1 (hnf q hq),(p.rep.nw q hq).2.1,T.none_ _ (p.rep.nw q hq).2.2⟩,p.rep.at_,p.rep.nd,p.rep.ob,p.rep.lc⟩,
  ⟨p.below.stack,λb o e=>T.other b o (p.below.stays b o e) (λhm=>by rw[(p.below.frames.mem hm).1]at e;cases e),p.below.frames.of_keeps λb o e _=>let⟨sl,hs⟩:=T.up e;⟨_,hs,rfl⟩⟩,p.turn.trans T,p.cell,p.vars,⟨p.side.os,p.side.gens,p.side.tk⟩⟩⟩
structure sN (h h':Heap) (e:Addr) (X:String):Prop where
 keeps:∀b o,h.get? b=QE o->h'.get? b=QE o
 new:h.get? e=QD
 there:∃ob vs t,h'.get? e=QE ob/\ob.cls= .type X/\ob.data= .fields vs/\vs[0]?=QE t/\vs[1]?=QE .none
theorem OR{h h':Heap}{e:Addr}{X:String}(x:Heap.NewExc h h' e X):sN h h' e X:=let⟨ob,t,a,b,d⟩:=x.there;⟨x.keeps,x.new,ob,_,t,a,b,d,rfl,rfl⟩
theorem mG(H:CxW c F)(p:Pre c F O S s m news){h':Heap}{tk:Nat}{e:Addr}{X:String}(hx:sN s.heap h' e X){E:Value->Shared->Prop}{K:Shared->Prop}
  (k:∀h₅ B a0,Heap.FlyingW B (c.fenv::c.outer) e (.type X) a0 h₅->(∀b o,s.heap.get? b=QE o->b∉c.L::c.fs->B.get? b=QE o)->s.heap.UpToSlots h₅->K { s with heap:=h₅,toks:=tk }):
  wpAny c.M c.A (noteFrame (.ref e) c.fenv) (λ_ s₂=>wpAny c.M c.A (setFlight (.ref e) QD) (λ_ s₃=>K s₃) E s₂) E { s with heap:=h',toks:=tk }:=by
 have FF:=(pushX p.below p.rep.fr (env:=c.fenv) rfl H.ffn).frames
 have hin:∀env∈(c.fenv::c.outer),∀b,env.frame=QE b->b∈c.L::c.fs:=λenv he b hb=>by
  rw[<-mW];exact List.mem_filterMap.mpr ⟨env,he,hb⟩
 have hB:∀b o,s.heap.get? b=QE o->b∉c.L::c.fs->(hideAll s.heap (c.L::c.fs)).get? b=QE o:=λb o e hb=>hideAll_get _ e hb
 obtain⟨ob,vs,t,he,hcls,hd,h0,h1⟩:=hx.there
 have hen:(hideAll s.heap (c.L::c.fs)).get? e=QD:=by
  cases q:(hideAll s.heap (c.L::c.fs)).get? e with
  |none=>rfl
  |some o=>have:=of_hideAll _ q;rw[hx.new]at this;cases this
 unfold noteFrame
 show wpAny _ _ (do let head<-field (.ref e) 1;_) _ _ _
 refine Qv (wpAny_field he hd (x:= .none) h1 ?_)
 rw[if_neg (by decide)]
 refine wpAny_entryW H.frames ((funFrames_hide FF hin).of_keeps λb o hb _=>⟨o,hx.keeps b o hb,rfl⟩) rfl he (λb o hb=>hx.keeps b o (of_hideAll _ hb)) hen hd (Array.getElem?_eq_some_iff.mp h1).1 h0 λh₄ hN=>?_
 obtain⟨k1,k2,k3,k4⟩:=hN
 rw[hcls]at k3
 refine wpAny_landsW (L:=c.L) ⟨k1,hen,k2,k3⟩ λh₅ hfl hsm=>?_
 exact k h₅ _ t hfl hB (((Heap.UpToSlots.of_keeps hx.keeps).trans k4).trans hsm)
noncomputable def Cx.marked(c:Cx)(e:Value):Cx:={ c with A:=c.A.mark (QE e) }
theorem wY(H:CxW c F)(e:Value):CxW (c.marked e) F:=⟨H.sc,H.kin,H.top,H.frames,H.fn,H.ffn,H.cpn,H.depth,H.units,H.sysm,H.dicts⟩
theorem Pre.mark(p:Pre c F O S s m news)(e:Value):Pre (c.marked e) F O S s m news:=⟨p.rep,p.below,p.turn,p.cell,p.vars,⟨p.side.os,p.side.gens,p.side.tk⟩⟩
theorem Pre.unmark{e:Value}(p:Pre (c.marked e) F O S s m news):Pre c F O S s m news:=⟨p.rep,p.below,p.turn,p.cell,p.vars,⟨p.side.os,p.side.gens,p.side.tk⟩⟩
theorem aG.unmark{R:List Addr->β->Prop}{v:β}{e:Value}(z:aG (c.marked e) F O S R v s):aG c F O S R v s:=let⟨O',m',n',a,b,d⟩:=z;⟨O',m',n',a,b.unmark,d⟩
structure eA (K:Frag) (x:Str) (T:String):Prop where
 dbg:(x==("__debug__":Str))=QG
 none_:nsIn K mainGlobals x=QE QD
 boot:bootBuiltins x=QE (.type T)
 nm:x≠"__name__"
 exc:isSubtype (.type T) (.type "BaseException")=pure QF
 ntup:isSubtype (.type ((Manifest.find? T).elim "type" λy=>y.metatype)) (.type "tuple")=pure QG
 self:isSubtype (.type T) (.type T)=pure QF
theorem jF(H:CxW c F)(hcp:c.cp=QD)(p:Pre c F O S s m news){h':Heap}{tk:Nat}(htk:s.toks<=tk){e:Addr}{X:String}(hx:sN s.heap h' e X){x:Str}{np pos:Pos}{b₀:Stmt}{suite:List Stmt}{rest:List ExceptHandler}(HN:eA c.K x X)
  (hsc:F.sc.names.lookup x=QE .globalImplicit){Q:Flow->Shared->Prop}(hs:∀s' m',Pre (c.marked (.ref e)) F O S s' m' news->wpAny (c.marked (.ref e)).M (c.marked (.ref e)).A (execs (b₀::suite) (c.marked (.ref e)).env) Q NoE s'):
  wpAny c.M c.A (noteFrame (.ref e) c.env) (λ_ s₂=>wpAny c.M c.A (setFlight (.ref e) QD) (λ_ s₃=>wpAny c.M c.A (handleBy (.ref e) c.env (.ExceptHandler (QE (.Name x np)) QD (b₀::suite) pos::rest)) Q NoE s₃) NoE s₂) NoE { s with heap:=h',toks:=tk }:=by
 have henv:c.env=c.fenv:=by unfold Cx.env;rw[hcp]
 rw[henv]
 refine mG H p hx λh₅ B a0 hfl hB hU=>?_
 have hfl':=hfl
 obtain⟨f1,f2,f3,f4⟩:=hfl'
 obtain⟨g₅,p₅⟩:=p.landed (λb o e hb=>f1 _ _ (hB b o e hb)) hU
 obtain⟨ob,hob,hobc⟩:=hfl.there
 have hkind:c.fenv.kindOf x=QE .globalImplicit:=by
  show c.fenv.scope.names.lookup x=_
  rw[<-henv,H.sc];exact hsc
 have hfn:c.fenv.scope.kind= .function:=by rw[<-henv];exact H.fn
 refine wpAny_handleBy_builtin (X:=X) (T:=X) (b:=QF) HN.exc HN.ntup HN.self ?_
 refine Name_function_global hfn hkind (loadGlobal_builtin ((p₅.top H).g.keeps p₅.rep.fr.keep) (mg_none_of (p₅.kin H) (p₅.top H).g HN.none_) ((p₅.top H).b.keeps p₅.rep.fr.keep) ((H.top.builtins x HN.nm).trans HN.boot) ⟨rfl,⟨ob,hob,hobc⟩,?_⟩) HN.dbg
 rw[if_pos rfl]
 refine wpAny_setFlight_noneW f1 f3 f4.at λh₆ k1 k2 k3 k4=>?_
 have hU₆:s.heap.UpToSlots h₆:=hU.trans λb o e hn=>⟨o.slots,k4 b o e hn⟩
 obtain⟨g₆,p₆⟩:=p.landed (λb o e hb=>k1 _ _ (hB b o e hb)) hU₆
 have P:=hs _ _ ((p₆.toks tk htk).mark (.ref e))
 have henv':(c.marked (.ref e)).env=c.fenv:=by
  show(c.marked (.ref e)).env=_
  unfold Cx.env
  rw[show(c.marked (.ref e)).cp=QD from hcp]
  rfl
 rw[henv']at P
 exact Qw P (λ_ _ z=>z) λ_ _ z=>z.elim
noncomputable def dm(y:Str):List Str->List Str
 |[]=>[]
 |z::r=>cond (aQ z y) r (z::dm y r)
noncomputable def fc(y:Str):List Str->Nat
 |[]=>0
 |z::r=>cond (aQ z y) 0 (fc y r+1)
structure uQ (y:Str) (zs:List Str) (vs:List Value) (k:Nat) (es:List Str):Prop where
 lt:k<zs.length
 er:StrsAre (vs.eraseIdx k) es
 at_:zs[k]?=QE y
 ne:∀i,i<k->∀z,zs[i]?=QE z->z≠y
theorem qr(y:Str){vs:List Value}{zs:List Str}(h:StrsAre vs zs):af y zs=QF->uQ y zs vs (fc y zs) (dm y zs):=by
 induction h with
 |nil=>exactλe=>ff e
 | @cons z t vs r h ih=>
  show cond (aQ z y) QF (af y r)=QF->uQ y (z::r) (_::vs) (cond (aQ z y) 0 (fc y r+1)) (cond (aQ z y) r (z::dm y r))
  cases q:aQ z y with
  |true=>exactλ_=>⟨Nat.zero_lt_succ _,h,QJ QE (aM.mp q),λi hi=>absurd hi (Nat.not_lt_zero i)⟩
  |false=>
   intro e
   have w:=ih e
   refine⟨Nat.succ_lt_succ w.lt, .cons z t w.er,w.at_,λi hi w' hw=>?_⟩
   cases i with
   |zero=>exactλe=>ff (q.symm.trans (aM.mpr ((QH hw).trans e)))
   |succ i=>exact w.ne i (Nat.lt_of_succ_lt_succ hi) w' hw
theorem lz{vs:List Value}{zs:List Str}(h:StrsAre vs zs){i:Nat}{v:Value}(e:vs[i]?=QE v):∃z t,v= .str z t/\zs[i]?=QE z:=
 have hi:i<zs.length:=h.length▸(P7.mp e).1
 Qq (h.at (P9 hi)) λt q=>⟨_,t,QH (e.symm.trans q),P9 hi⟩
noncomputable def il:Value->Str
 |.str x _=>x
 |_=>⟨#[]⟩
theorem tx(p:Pre c F O S s m news){k:Nat}{a:Addr}{vs:List Value}{n:Nat}{zs:List Str}{y:Str}{t:Tok}(e:news[k]?=QE (a,listOf vs.toArray n))(hs:StrsAre vs zs)(hz:zs.length<=1000)(hy:af y zs=QF){Q:Value->Shared->Prop}{E:Value->Shared->Prop}
  (h:∀h' n',Heap.SameBut a s.heap h'->h'.get? a=QE (listOf (vs.eraseIdx (fc y zs)).toArray n')->Q .none { s with heap:=h' }):wpAny c.M c.A (PySem.call (.builtin "list.remove") [.ref a, .str y t]) Q E s:=by
 have z:=p.rep.nw _ (p.rep.mem e)
 have⟨h1,h2,h3,h4⟩:=qr y hs hy
 have hl:=az hs
 have hj:fc y zs<vs.toArray.size:=by rw[List.size_toArray];lia
 have hitem:∀(i:Nat)(hi:i<vs.toArray.size),∃tk,zs[i]?=QE (il vs.toArray[i])/\vs.toArray[i]= .str (il vs.toArray[i]) tk:=λi hi=>by
  have hi':i<vs.length:=by simpa using hi
  obtain⟨w,u,a1,a2⟩:=lz hs (P9 hi')
  have e2:vs.toArray[i]= .str w u:=by simpa using a1
  exact⟨u,by rw[e2];exact a2,by rw[e2];rfl⟩
 refine call_meets PySem.F.slot_list_remove ⟨_,z.1,rfl⟩ PySem.F.entry_list_remove (PySem.F.args_list_remove_2 _ _)
  (MeetsSeq.list_remove a vs.toArray n (.str y t) (λv=>il v==y) (λv hv=>?_) (fc y zs) hj ?_ (λi hi hlt=>?_) (by rw[List.size_toArray,sizeLine_eq];lia)) ⟨z.1,?_⟩
 .obtain⟨i,hi,rfl⟩:=Array.getElem_of_mem hv
  obtain⟨tk,_,e3⟩:=hitem i hi
  rw[e3]
  exact eqGives_str _ _ _ _
 .obtain⟨tk,e2,_⟩:=hitem _ hj
  rw[h3]at e2
  have e4:=QH e2
  show(il vs.toArray[fc y zs]==y)=QF
  rw[<-e4];simp
 .obtain⟨tk,e2,_⟩:=hitem i hi
  have:=h4 i hlt _ e2
  simpa using this
 .have e5:vs.toArray.eraseIdxIfInBounds (fc y zs)=(vs.eraseIdx (fc y zs)).toArray:=by
   unfold Array.eraseIdxIfInBounds
   rw[dif_pos hj,List.eraseIdx_toArray]
  have h5:=IsL.update z.1 λxs=>xs.eraseIdxIfInBounds (fc y zs)
  rw[e5]at h5
  exact h _ _ (Heap.SameBut.update ..) h5
theorem p9(hh:c.A.handled=QD)(p:Pre c F O S s m news){k:Nat}{a:Addr}{vs:List Value}{n:Nat}{zs:List Str}{y:Str}{t:Tok}(e:news[k]?=QE (a,listOf vs.toArray n))(hs:StrsAre vs zs)(hy:af y zs=QG){Q:Value->Shared->Prop}{E:Value->Shared->Prop}
  (h:∀h' tk ea,Heap.NewExc s.heap h' ea "ValueError"->E (.ref ea) { s with heap:=h',toks:=tk }):wpAny c.M c.A (PySem.call (.builtin "list.remove") [.ref a, .str y t]) Q E s:=by
 have z:=p.rep.nw _ (p.rep.mem e)
 have hany:∀z∈zs,z≠y:=λw hw q=>by
  rw[dC]at hy
  have:=List.any_eq_false.mp hy w hw
  simp[q]at this
 have hitem:∀(i:Nat)(hi:i<vs.toArray.size),∃tk,il vs.toArray[i]∈zs/\vs.toArray[i]= .str (il vs.toArray[i]) tk:=λi hi=>by
  have hi':i<vs.length:=by simpa using hi
  obtain⟨w,u,a1,a2⟩:=lz hs (P9 hi')
  have e2:vs.toArray[i]= .str w u:=by simpa using a1
  exact⟨u,by rw[e2];exact P8 a2,by rw[e2];rfl⟩
 refine call_meets PySem.F.slot_list_remove ⟨_,z.1,rfl⟩ PySem.F.entry_list_remove (PySem.F.args_list_remove_2 _ _)
  (MeetsSeq.list_remove_none a vs.toArray n (.str y t) (λv=>il v==y) (λv hv=>?_) (λi hi=>?_)) ⟨z.1,hh,λh' tk ea hx=>h h' tk ea hx⟩
 .obtain⟨i,hi,rfl⟩:=Array.getElem_of_mem hv
  obtain⟨tk,_,e3⟩:=hitem i hi
  rw[e3]
  exact eqGives_str _ _ _ _
 .obtain⟨tk,e2,_⟩:=hitem i hi
  have:=hany _ e2
  simpa using this
theorem xn(H:CxW c F){o arg:Expr}{n:Str}{apos pos:Pos}{mo ma:XM SV}{x x1 x2:XS}{a b:SV}{id:String}(ho:Snd c F mo (eval o c.env) rV)(ha:Snd c F ma (eval arg c.env) rV)(e1:mo x=QE (a,x1))(e2:ma x1=QE (b,x2))(hc:bh x2.cs)
  (hm:∀pl O s m news v,Pre c F O x1.st s m news->aA O a v->wpAny c.M c.A (getMethod v n pl) (λr s'=>r=(.builtin id,[v])/\s'=s) NoE s)(hstar:bq arg=QG)(hsup:cx o=QF)(hp:(apos.endLine==pos.line)=QF){O:List Addr}{s:Shared}{m:Fm}{news:List (Addr×Obj)}(p:Pre c F O x.st s m news){Q:Value->Shared->Prop}{E:Value->Shared->Prop}
  (h:∀O' s' m' news' v w,O <+:O'->Pre c F O' x2.st s' m' news'->aA O' a v->aA O' b w->wpAny c.M c.A (PySem.call (.builtin id) [v,w]) Q E s'):wpAny c.M c.A (eval (.Call (.Attribute o n apos) [arg] [] pos) c.env) Q E s:=by
 have g2:=ha _ _ _ e2 hc
 have g1:=ho _ _ _ e1 g2.1
 have hs:[arg].any bq=QG:=Bool.or_eq_false_iff.mpr ⟨hstar,rfl⟩
 refine df hs rfl (by show 1+0<29;decide) hsup hp (go_ (g1.2 O s m news p) λO1 m1 n1 v1 s1 p1 q1 r1=>Qw (hm _ O1 s1 m1 n1 v1 q1 r1) (λv2 s2 z=>?_) λ_ _ z=>z.elim)
 cases z.1
 cases z.2
 refine callWith_of (P:=c.K.In) (Bool.or_eq_false_iff.mpr ⟨ij hs,rfl⟩) (λh' X=>⟨.machine, .inr (.inl rfl),Looks.of_pure rfl⟩) (evalArgs_kw2 rfl (wpAny_items_cons (go_ (g2.2 O1 s1 m1 n1 q1) λO3 m3 n3 v3 s3 p3 q3 r3=>wpAny_items_nil (kwAll_nil ⟨(q3.kin H).keeps q3.rep.fr.keep,?_⟩)) (bu hstar)) (bu hstar))
 exact h O3 s3 m3 n3 v1 v3 (p1.trans p3) q3 (aA.mono p3 r1) r3
def t8(mo ma:XM SV)(mh:XM XF):XM XF:=ag mo λa=>cE a λl=>xrd l JC λ_=>ag ma λb=>jz b λy=>xrd l iB λzs=>ag (vx (Nat.ble zs.length 1000)) λ_=>ag (iL (af y zs)) λh=>
 cond h (ag (Jl l (.words (dm y zs))) λ_=>aH XF.next) mh
theorem KJ{α:Type}{a:SV}{f:Str->XM α}{x:XS}{r:α×XS}(h:jz a f x=QE r){G:Prop}(k:∀l,a= .str l->f l x=QE r->G):G:=by
 cases a with
 |str l=>exact k l rfl h
 |_=>exact nn h
theorem wj(H:CxW c F):interactive c.env=QG:=by
 unfold interactive
 rw[H.fn];rfl
theorem qt(H:aD c F){o arg:Expr}{n:Str}{apos pos epos:Pos}{mo ma:XM SV}(ho:Snd c F mo (eval o c.env) rV)(ha:Snd c F ma (eval arg c.env) rV)(hn:aQ n j6=QF)(hstar:bq arg=QG)(hsup:cx o=QF)(hp:(apos.endLine==pos.line)=QF)
  {x x1 x2:XS}{l:Nat}{y:Str}{q0 q:SO}{u:Unit}{zs:List Str}(e1:mo x=QE (.ref l,x1))(hq0:x1.st.led[l]?=QE q0)(hl0:JC q0=QE u)(e2:ma x1=QE (.str y,x2))(hq:x2.st.led[l]?=QE q)(hz:iB q=QE zs)(hc:bh x2.cs){O:List Addr}{s:Shared}{m:Fm}{news:List (Addr×Obj)}(p:Pre c F O x.st s m news){Q:Flow->Shared->Prop}{E:Value->Shared->Prop}
  (k:∀O' s' m' news' ad vs nn t,O <+:O'->Pre c F O' x2.st s' m' news'->news'[l]?=QE (ad,listOf vs.toArray nn)->StrsAre vs zs->wpAny c.M c.A (PySem.call (.builtin "list.remove") [.ref ad, .str y t]) (λ_ s''=>Q .next s'') E s'):
  wpAny c.M c.A (execs [.Expr (.Call (.Attribute o n apos) [arg] [] pos) epos] c.env) Q E s:=by
 refine QA ?_
 rw[exec_Expr c.env _ epos (wj H.toCxW) (fX rfl)]
 have hlm:eH n=QE "list.remove":=by rw[aM.mp hn];kernel_rfl
 refine Qv (QB (Qv (xn H.toCxW ho ha e1 e2 hc (λpl O s m news v p hv=>tZ p hq0 (xf (ai hl0).1 hlm) hv pl ⟨rfl,rfl⟩) hstar hsup hp p λO' s' m' news' v w pre p'⟨ad,hσ,hv⟩⟨t,hw⟩=>?_)))
 cases hv;cases hw
 exact p'.objAt hq hσ λob g1 g3 g4=>iZ hz g4 λvs nn e hs=>Qw (k O' s' m' news' ad vs nn t pre p' (e▸g1) hs) (λv s'' z=>qy (wpAny_execs_nil z)) λ_ _ z=>z
theorem tw(H:aD c F)(hcp:F.cp=QD){o arg:Expr}{n x:Str}{apos pos epos hpos np tpos:Pos}{b₀:Stmt}{suite:List Stmt}{mo ma:XM SV}{mh:XM XF}(ho:Snd c F mo (eval o c.env) rV)(ha:Snd c F ma (eval arg c.env) rV)(hn:aQ n j6=QF)
  (hh:∀e,Snd (c.marked e) F mh (execs (b₀::suite) (c.marked e).env) rF)(HN:eA c.K x "ValueError")(hsc:F.sc.names.lookup x=QE .globalImplicit)(hstar:bq arg=QG)(hsup:cx o=QF)(hp:(apos.endLine==pos.line)=QF):
  Snd c F (t8 mo ma mh) (exec (.Try [.Expr (.Call (.Attribute o n apos) [arg] [] pos) epos] [.ExceptHandler (QE (.Name x np)) QD (b₀::suite) hpos] [] [] tpos) c.env) rF:=λy0 fl y' h hc=>
 aZ h λa x1 e1 h=>pU h λl ea h=>l9 h λq0 u0 hq0 hl0 h=>aZ h λb x2 e2 h=>KJ h λy eb h=>l9 h λq zs hq hz h=>aZ h λu x4 e4 h=>aZ h λd x5 e5 h=>by
  subst ea eb
  cases d with
  |true=>
   rw[cond_true]at h
   refine aZ h λu2 x6 e6 h=>?_
   cases e6
   cases bf h
   have hd:=dO e5 hc
   have hb:=iC e4 hd.2.2
   have ga:=ha _ _ _ e2 hb.2.2
   have go:=ho _ _ _ e1 ga.1
   refine⟨go.1,λO s m news p=>wpAny_Try_except (qt H ho ha hn hstar hsup hp e1 hq0 hl0 e2 hq hz hb.2.2 p λO' s' m' news' ad vs nn t pre p' g1 hs=>?_)⟩
   exact tx p' g1 hs (PT hb.1) hd.1.symm λh' n' hsb hob=>wpAny_execs_nil ((hd.2.1.trans hb.2.1:)▸⟨O',m',_,pre,p'.heap' (P5 _) (p'.rep.same g1 hsb hob ⟨_,_,rfl,(qr y hs hd.1.symm).er⟩),rfl⟩)
  |false=>
   rw[cond_false]at h
   have hh6:=λe=>hh e _ _ _ h hc
   have hd:=dO e5 (hh6 (.ref 0)).1
   have hb:=iC e4 hd.2.2
   have ga:=ha _ _ _ e2 hb.2.2
   have go:=ho _ _ _ e1 ga.1
   refine⟨go.1,λO s m news p=>wpAny_Try_except (qt H ho ha hn hstar hsup hp e1 hq0 hl0 e2 hq hz hb.2.2 p λO' s' m' news' ad vs nn t pre p' g1 hs=>?_)⟩
   refine wpAny_with_toks (PX s'.toks) (Qw (p9 (Q:=λ_ _=>False) (E:=λe s₁=>s'.toks<=s₁.toks->wpAny c.M c.A (noteFrame e c.env) (λ_ s₂=>wpAny c.M c.A (setFlight e QD) (λ_ s₃=>wpAny c.M c.A (handleBy e c.env [.ExceptHandler (QE (.Name x np)) QD (b₀::suite) hpos]) (aG c F O y'.st (rF fl)) NoE s₃) NoE s₂) NoE s₁) H.handled p' g1 hs hd.1.symm λh' tk ea hx ht=>?_) (λ_ _ z=>z.elim) λ_ _ z=>z)
   exact jF H.toCxW (H.cpn hcp) p' ht (OR hx) HN hsc λs₁ m₁ P=>Qw ((hh6 (.ref ea)).2 O' s₁ m₁ news' ((hd.2.1.trans hb.2.1).symm▸P)) (λ_ _ z=>z.unmark.mono pre) λ_ _ z=>z
open Sem (wp)
namespace Wr
section
variable{prog:Program}{w:World}{A:Around}{E:Value->Shared->Prop}
theorem tu(it:Addr):checkBoundCall "list_iterator.__next__" ⟨[.ref it],[]⟩=pure ():=by first|kernel_rfl|rfl
theorem lu:plainId "list_iterator.__next__"=QF:=by decide+kernel
theorem sr{α:Type}{P:α->Shared->Prop}(hh:A.handled=QD)(h:∀h' e,sN s.heap h' e "StopIteration"->E (.ref e) { s with heap:=h' }):wpAny (model prog w) A (Builtin.SmallTypes.stopIteration:Sem α) P E s:=by
 unfold Builtin.SmallTypes.stopIteration
 refine Qv ?_
 unfold newExc newTuple
 refine Qv (wpAny_newObj_type ?_ (by size_fits))
 refine Qv (m:=firstArgMember _ _) (Qz (a:=Value.none) (by first|rfl|(simp only[firstArgMember];rfl)) ?_)
 refine wpAny_newObj_type ?_ (by size_fits)
 unfold raiseNew
 refine Qv (wpAny_handled ?_)
 rw[hh]
 refine Qv (Qx (wpAny_throw ?_))
 refine h _ _ ⟨λb o e=>Qr _ (Qr _ e),Heap.get?_none_of_le (by simp),_,_, .ref s.heap.objs.size,Qu _ rfl,rfl,rfl,?_,?_⟩
 .exact(Array.getElem?_append_left (by simp)).trans rfl
 .exact(Array.getElem?_append_left (by simp)).trans rfl
theorem uA{wr it:Addr}{R:Result->Shared->Prop}(ho:s.heap.get? wr=QE (wrObj it))(h:wpAny (model prog w) A.in1 (Builtin.«list_iterator.__next__» ⟨[.ref it],[]⟩) (λfin s'=>match fin with | .done f=>R (.ok f) s' | .again _=>False) (λe s'=>R (.error e) s') s):
  codeAny (model prog w) A (.call (.ref wr) ⟨[],[]⟩) R s:=by
 refine codeAny_of_tree ?_
 show wpAny _ _ (callAny (.ref wr) ⟨[],[]⟩) _ _ _
 unfold callAny
 refine Qv (wpAny_load ho ?_)
 show wpAny _ _ (do checkBoundCall "list_iterator.__next__" ⟨[.ref it],[]⟩;again (.builtin "list_iterator.__next__" ⟨[.ref it],[]⟩)) _ _ _
 refine Qv (Qz (tu it) (Qx ⟨plainId_quiet lu _,codeAny_builtin entry_listiter_next ?_⟩))
 rw[Around.under_plainId lu _]
 exact Qw h (λfin s' z=>by cases fin with|done f=>exact z|again c=>exact z.elim) λ_ _ z=>z
theorem next_item{wr it l:Addr}{i:Nat}{items:Array Value}{v:Value}{Q:Value->Shared->Prop}(ho:s.heap.get? wr=QE (wrObj it))(hit:s.heap.IsListIter it l i)(hl:s.heap.IsList l items)(hx:items[i]?=QE v)
  (hQ:∀h',h'.IsListIter it l (i+1)->Heap.SameBut it s.heap h'->Q v { s with heap:=h' }):wpAny (model prog w) A (call (.ref wr) []) Q E s:=by
 obtain⟨o,hoi,hc,hd⟩:=id hit
 obtain⟨ol,hol,_,nl,hdl⟩:=id hl
 refine wpAny_call (uA ho ?_)
 refine Qv (m:=field (.ref it) 0) (wpAny_field hoi hd (x:= .ref l) rfl ?_)
 show wpAny _ _ (if(Value.ref l==Value.none)=QF then _ else _) _ _ s
 rw[if_neg (show¬((Value.ref l==Value.none)=QF)from Bool.false_ne_true)]
 refine Qv (m:=field (.ref it) 1) (wpAny_field hoi hd (x:= .int i 0) rfl ?_)
 refine Qv (m:=seqItems? (.ref l)) (wpAny_seqItems hol hdl ?_)
 dsimp only
 rw[show items[((i:Nat):Int).toNat]?=_ from hx]
 dsimp only
 refine Qv (wpAny_setField hoi hd (by simp) (Qx (hQ _ ?_ (Heap.SameBut.update ..))))
 exact⟨_,Qt _ hoi (Obj.isFreed_of_fields (Obj.data_mapFields hd _)),(Obj.cls_mapFields ..).trans hc,by
  rw[Obj.data_mapFields hd];simp[rawInt]⟩
theorem next_end{wr it l:Addr}{i:Nat}{items:Array Value}{Q:Value->Shared->Prop}(hh:A.handled=QD)(ho:s.heap.get? wr=QE (wrObj it))(hit:s.heap.IsListIter it l i)(hl:s.heap.IsList l items)(hx:items[i]?=QD)
  (hQ:∀h₁ h' o' e,Heap.ExtBut it s.heap h₁->h₁.get? it=QE o'->sN h₁ h' e "StopIteration"->E (.ref e) { s with heap:=h' }):wpAny (model prog w) A (call (.ref wr) []) Q E s:=by
 obtain⟨o,hoi,hc,hd⟩:=id hit
 obtain⟨ol,hol,_,nl,hdl⟩:=id hl
 refine wpAny_call (uA ho ?_)
 refine Qv (m:=field (.ref it) 0) (wpAny_field hoi hd (x:= .ref l) rfl ?_)
 show wpAny _ _ (if(Value.ref l==Value.none)=QF then _ else _) _ _ s
 rw[if_neg (show¬((Value.ref l==Value.none)=QF)from Bool.false_ne_true)]
 refine Qv (m:=field (.ref it) 1) (wpAny_field hoi hd (x:= .int i 0) rfl ?_)
 refine Qv (m:=seqItems? (.ref l)) (wpAny_seqItems hol hdl ?_)
 dsimp only
 rw[show items[((i:Nat):Int).toNat]?=_ from hx]
 dsimp only
 refine Qv (wpAny_rule (Qv (wpAny_setField hoi hd (by simp) ?_)))
 have hS:=Qt (Obj.mapFields λvs=>vs.setIfInBounds 0 Value.none) hoi (Obj.isFreed_of_fields (Obj.data_mapFields hd _))
 exact sr (A:=A.in1) hh λh' e hx=>hQ _ h' _ e (λb o hb e=>(Heap.get?_update_other _ _ (Ne.symm hb)).trans e) hS hx
theorem call_iter{l:Addr}{items:Array Value}{Q:Value->Shared->Prop}(hl:s.heap.IsList l items)(h:Q (.ref s.heap.objs.size) { s with heap:=s.heap.push (Gp l 0) }):wpAny (model prog w) A (call (.builtin "iter") [.ref l]) Q E s:=by
 refine call_function_entry (by decide+kernel) (by decide+kernel) kdk_entry_iter (kdk_args_iter _) ?_
 unfold Builtin.«iter»
 refine Qv (m:=someArgs "iter" 1 2 _) (Qz (a:=[Value.ref l]) (by first|rfl|kernel_rfl!) ?_)
 show wpAny _ _ (pyIter (.ref l) >>=_) _ _ _
 exact Qv (wpAny_pyIter_list hl (Qx ⟨_,rfl,h⟩))
end
end Wr
def G2(a:SV):XM SV:=cE a λl=>xrd l JC λ_=>lM [] (.fields "list_iterator" [.ref l, .top (.int (.ofNat 0) 0)])
theorem yw(a:SV):aj c F (rV a) (G2 a) (λv=>PySem.call (.builtin "iter") [v]) rV:=j0 a λl x=>At.rd λq _ hq hl=>At.new λ_=>cc hq λO s m news ad ob p hσ g1 g3 g4=>
 nX (ai hl).1 g4 λvs n e=>Wr.call_iter (aW (e▸g3)) (cG p rfl ⟨_,rfl,_,_,rfl,fm hσ,_,_,rfl,rfl,rfl⟩)
noncomputable def NB:Str:="__next__"
noncomputable def Hh(it:Nat):SO:= .fields "method-wrapper" [.top (.builtin "list_iterator.__next__"), .ref it]
def Ga:SO->Option (Nat×Nat)
 |.fields T vs=>cond (decide (T="list_iterator")) (ti vs) QD
 |_=>QD
theorem qK{o:SO}{r:Nat×Nat}(e:Ga o=QE r):o= .fields "list_iterator" [.ref r.1, .top (.int (.ofNat r.2) 0)]:=by
 cases o with
 |fields T vs=>exact mz (ai e).2▸QJ (SO.fields · vs) (of_decide_eq_true (ai e).1)
 |_=>exact nn e
def GJ(a:SV)(n:Str):XM SV:=cE a λit=>xrd it Ga λr=>xif (aQ n NB) (xst (λS=>⟨S.loc,S.led.set it (jk "list_iterator" r.1 r.2)++[Hh it]⟩) λS=> .ref S.led.length)
theorem tB(T:String)(vs:List SV):bE (.fields T vs) (.loose T vs):=λP O ob⟨us,e,h⟩=>⟨us,by rw[e],by rw[e],h⟩
theorem y5{l:List SO}{k:Nat}{o o':SO}(h:l[k]?=QE o)(hl:bE o o'):br l (l.set k o'):=by
 induction l generalizing k with
 |nil=>exact nn h
 |cons a r ih=>
  cases k with
  |zero=>cases QH (show QE a=QE o from h);exact .cons hl (.refl _)
  |succ k=>exact .cons (.refl _) (ih h)
theorem vW(a:SV)(n:Str):aj c F (rV a) (GJ a n) (λv=>getAttr v n QF) rV:=j0 a λit x=>At.rd λo r ho hr=>At.bif λhn=>At.st (cc ho λO s m news ad ob p hσ g1 g3 q=>by
 obtain⟨us,rfl,v1,r1,rfl,⟨la,hla,rfl⟩,v2,r2,rfl,h2,h3⟩:=qK hr▸q
 cases h2;cases h3
 exact aM.mp hn▸Wr.getattr_next (l:=la) (i:=r.2) g3 λh' hk hw=>
  (p.made (x:=x) (o:=Hh it) (tk:=s.toks+1) hk (λb o e=>Qs e) hw ⟨_,rfl,_,_,rfl,rfl,_,_,rfl,fm hσ,rfl⟩).soft rfl ((y5 (qK hr▸ho) (tB _ _)).append (.refl _)))
noncomputable def uJ:SV->Bool
 |.top (.builtin id)=>decide (id="list_iterator.__next__")
 |_=>QG
def B6:SO->Option Nat
 |.fields T vs=>match vs with
  |[a,b]=>cond (decide (T="method-wrapper")&&uJ a) (mC b) QD
  |_=>QD
 |_=>QD
theorem r6{a:SV}(h:uJ a=QF):a= .top (.builtin "list_iterator.__next__"):=by
 cases a with
 |top v=>cases v<;>first|exact ff h|exact of_decide_eq_true h▸rfl
 |_=>exact ff h
theorem Ed{q:SO}{it:Nat}(e:B6 q=QE it):q=Hh it:=by
 cases q with
 |fields T vs=>
  rcases vs with _|⟨a,_|⟨b,_|⟨d,vs⟩⟩⟩
  .exact nn e
  .exact nn e
  .have z:=(Qp _ _).mp (ai e).1
   exact of_decide_eq_true z.1▸r6 z.2▸gd (ai e).2▸rfl
  .exact nn e
 |_=>exact nn e
theorem pH{P:Params}{q:SO}{it:Nat}{ob:Obj}(e:B6 q=QE it)(h:aP P O q ob){G:Prop}(k:∀a,O[it]?=QE a->ob=Wr.wrObj a->G):G:=by
 obtain⟨us,rfl,v1,r1,rfl,h1,v2,r2,rfl,⟨a,ha,rfl⟩,h2⟩:=Ed e▸h
 cases h1;cases h2
 exact k a ha rfl
def Bd(o:SO):Option (Nat×Nat):=(yI o).bind λr=>cond (decide (r.1="list_iterator")) (QE r.2) QD
theorem yJ{o:SO}{r:Nat×Nat}(e:Bd o=QE r):yI o=QE ("list_iterator",r):=
 bK e λa h1 h2=>h1.trans (QJ QE (Prod.ext (of_decide_eq_true (ai h2).1) (QH (ai h2).2)))
theorem Pre.wr(p:Pre c F O S s m news){w it:Nat}{q o ql:SO}{r:Nat×Nat}{ys:List Str}(hq:S.led[w]?=QE q)(hw:B6 q=QE it)(ho:S.led[it]?=QE o)(hr:Bd o=QE r)(hql:S.led[r.1]?=QE ql)(hy:ja ql=QE ys)
  {wa:Addr}(hσ:O[w]?=QE wa){G:Prop}(k:∀ia oi la vs,s.heap.get? wa=QE (Wr.wrObj ia)->news[it]?=QE (ia,oi)->O[r.1]?=QE la->s.heap.IsListIter ia la r.2->s.heap.IsList la vs.toArray->StrsAre vs ys->G):G:=
 p.objAt hq hσ λob g1 g3 g4=>pH hw g4 λia hia e=>p.objAt ho hia λoi f1 f3 f4=>k8 (yJ hr) f4 λla hla f5 f6=>p.objAt hql hla λol k1 k3 k4=>
  Qq (show aP c.P O (.words ys) ol from iz hy▸k4) λvs z=>Qq z λn z=>k ia oi la vs (e▸g3) f1 hla ⟨oi,f3,f5,f6⟩ (aW (z.1▸k3)) z.2
def qu(mf:XM SV)(st:SV->XM Unit)(rest mh:XM XF):XM XF:=ag mf λf=>cE f λw=>xrd w B6 λit=>xrd it Bd λr=>xrd r.1 ja λys=>ag (iL (Nat.blt r.2 ys.length)) λh=>
 cond h (ag (Jl it (jk "list_iterator" r.1 (r.2+1))) λ_=>ag (st (.str (ys.getD r.2 ⟨#[]⟩))) λ_=>rest) (ag (Jl it .any) λ_=>mh)
theorem ud(H:CxW c F){fe:Expr}{v:Str}{vp cpos apos:Pos}{tl:List Stmt}
  (hcall:∀env,eval (.Call fe [] [] cpos) env=(eval fe env >>=λf=>callWith cpos f [] (backTo cpos (starEach [] env)) (backToKw cpos (keywordEach [] env)))){O:List Addr}{S:St}{w:Nat}{s:Shared}(g:wpAny c.M c.A (eval fe c.env) (aG c F O S (rV (.ref w))) NoE s)
  {q:SO}{it:Nat}(hq:S.led[w]?=QE q)(hw:B6 q=QE it){Q:Flow->Shared->Prop}{E:Value->Shared->Prop}
  (k:∀O' s' m' news' wa,O <+:O'->Pre c F O' S s' m' news'->O'[w]?=QE wa->wpAny c.M c.A (PySem.call (.ref wa) []) (λu s''=>wpAny c.M c.A (storeName c.env v u) (λ_ s₃=>wpAny c.M c.A (execs tl c.env) Q E s₃) E s'') E s'):
  wpAny c.M c.A (execs (.Assign [.Name v vp] (.Call fe [] [] cpos) apos::tl) c.env) Q E s:=by
 refine QA (wpAny_Assign_Name ?_ (fX rfl))
 rw[hcall]
 refine Qv (go_ g λO1 m1 n1 v1 s1 p1 q1⟨wa,hwa,r1⟩=>r1▸q1.objAt hq hwa λob g1 g3 g4=>pH hw g4 λia hia e=>?_)
 refine callWith_of (P:=λh=>h.get? wa=QE (Wr.wrObj ia)) rfl (λh' X=>⟨.machine, .inr (.inl rfl),(Looks.ld (part:=QD) X).andThen .now⟩) (evalArgs_kw2_nil rfl (kwAll_nil ⟨e▸g3,?_⟩))
 exact k O1 s1 m1 n1 wa p1 q1 hwa
theorem HF{a b:Nat}(h:QG=Nat.blt a b):b<=a:=Nat.le_of_not_lt λq=>by rw[show Nat.blt a b=QF from PU q]at h;cases h
theorem qT(H:aD c F)(hcp:F.cp=QD){fe:Expr}{v x:Str}{vp cpos apos hpos np tpos:Pos}{tl:List Stmt}{b₀:Stmt}{suite:List Stmt}{mf:XM SV}{rest mh:XM XF}(hf:Snd c F mf (eval fe c.env) rV)
  (hcall:∀env,eval (.Call fe [] [] cpos) env=(eval fe env >>=λf=>callWith cpos f [] (backTo cpos (starEach [] env)) (backToKw cpos (keywordEach [] env))))
  (hr:Snd c F rest (execs tl c.env) rF)(hh:∀e,Snd (c.marked e) F mh (execs (b₀::suite) (c.marked e).env) rF)(HN:eA c.K x "StopIteration")(hsc:F.sc.names.lookup x=QE .globalImplicit):
  Snd c F (qu mf (cO F v) rest mh) (exec (.Try (.Assign [.Name v vp] (.Call fe [] [] cpos) apos::tl) [.ExceptHandler (QE (.Name x np)) QD (b₀::suite) hpos] [] [] tpos) c.env) rF:=λy0 fl y' h hc=>
 aZ h λf x1 e1 h=>pU h λw ef h=>l9 h λq it hq hw h=>l9 h λo r ho hr' h=>l9 h λql ys hql hy h=>aZ h λd x2 e2 h=>by
  subst ef
  cases d with
  |true=>
   rw[cond_true]at h
   exact aZ h λu2 x3 e3 h3=>aZ h3 λu3 x4 e4 h4=>by
    cases e3
    have gr:=hr _ _ _ h4 hc
    have gs:=cB H.toCxW v _ _ _ _ e4 gr.1
    have hd:=dO e2 gs.1
    have gf:=hf _ _ _ e1 hd.2.2
    refine⟨gf.1,λO s m news p=>wpAny_Try_except (ud H.toCxW hcall (gf.2 O s m news p) hq hw λO' s' m' news' wa pre p' hwa=>p'.wr hq hw ho hr' hql hy hwa λia oi la vs g3 f1 hla hit hl hs=>?_)⟩
    refine Qq (gv hs (PT hd.1.symm)) λt hv=>Wr.next_item g3 hit hl (List.getElem?_toArray.trans hv) λh' hi' hs'=>Qq hi' λoi' q=>?_
    have P2:Pre c F O' (x2.st.put it (jk "list_iterator" r.1 (r.2+1))) { s' with heap:=h' } m' (news'.set it (ia,oi')):=by
     rw[hd.2.1]
     exact p'.heap' (P5 _) (p'.rep.same f1 hs' q.1 ⟨[.ref la, .int ((r.2+1:Nat):Int) 0],q.2.1,q.2.2,_,_,rfl,⟨la,hla,rfl⟩,_,_,rfl,rfl,rfl⟩)
    refine go_ (gs.2 O' _ m' _ _ P2 ⟨t,rfl⟩) λO3 m3 n3 v3 s3 p3 q3 r3=>?_
    exact Qw (gr.2 O3 s3 m3 n3 q3) (λf s4 z=>by
     have z':=(z.mono p3).mono pre
     cases f with
     |next=>exact wpAny_execs_nil z'
     |_=>exact z') λ_ _ z=>z.elim
  |false=>
   rw[cond_false]at h
   exact aZ h λu2 x3 e3 h3=>by
    cases e3
    have hh6:=λe=>hh e _ _ _ h3 hc
    have hd:=dO e2 (hh6 (.ref 0)).1
    have gf:=hf _ _ _ e1 hd.2.2
    refine⟨gf.1,λO s m news p=>wpAny_Try_except (ud H.toCxW hcall (gf.2 O s m news p) hq hw λO' s' m' news' wa pre p' hwa=>p'.wr hq hw ho hr' hql hy hwa λia oi la vs g3 f1 hla hit hl hs=>?_)⟩
    have P1:∀h₁ o',Heap.ExtBut ia s'.heap h₁->h₁.get? ia=QE o'->Pre c F O' (x2.st.put it .any) { s' with heap:=h₁ } m' (news'.set it (ia,o')):=λh₁ o' a b=>by
     rw[hd.2.1]
     exact p'.ended f1 a b
    refine Wr.next_end H.handled g3 hit hl (List.getElem?_toArray.trans (List.getElem?_eq_none_iff.mpr (az hs▸HF hd.1))) λh₁ h' o' ea hext hio hx=>?_
    exact jF (s:={ s' with heap:=h₁ }) (tk:=s'.toks) H.toCxW (H.cpn hcp) (P1 _ _ hext hio) (PX _) hx HN hsc λs₁ m₁ P=>Qw ((hh6 (.ref ea)).2 O' s₁ m₁ _ P) (λ_ _ z=>z.unmark.mono pre) λ_ _ z=>z
structure xX where
 fn:Addr->Nat->List Str->Option FnE
 fnV:Addr->Nat->Option FnV
 fnC:Addr->Nat->List Str->Option FnE
 cls:Addr->Option qA
 facts:gw
 glob:Str->Option SV
 bd:Addr->Str->Option Addr
 callee:Addr->Bool
 exc:Str->Option String
def By(K:Frag)(x:Str)(sv:SV):Prop:=∃v,aA [] sv v/\(x==("__debug__":Str))=QG/\
 (nsIn K mainGlobals x=QE (QE v)\/(nsIn K mainGlobals x=QE QD/\bootBuiltins x=QE v/\x≠"__name__"))
structure dN (B:xX) (K:Frag):Prop where
 fn:∀f n kw e,B.fn f n kw=QE e->eT K e/\e.f=f/\e.na=n/\e.kws=kw
 fnV:∀f n e,B.fnV f n=QE e->lJ K e/\e.f=f/\e.na=n
 fnC:∀f n kw e,B.fnC f n kw=QE e->g0 K e/\e.f=f/\e.na=n/\e.kws=kw
 cls:∀f e,B.cls f=QE e->nA K e/\e.C=f
 facts:gA B.facts K
 glob:∀x sv,B.glob x=QE sv->By K x sv
 bd:∀C n f,B.bd C n=QE f->gQ K C n f
 callee:∀f,B.callee f=QF->keepIn K (.ref f)=QF
 exc:∀x T,B.exc x=QE T->eA K x T
theorem b0{f:Value}{m:XM SV}(h:aj c F (λ_(_:Unit)=>True) m (λ_=>PySem.call f []) rV):aj c F (PC (.top f) [] []) m (λv=>PySem.call v.f v.vs v.kw) rV:=by
 intro x r x' e hc
 obtain⟨c0,g⟩:=h x r x' e hc
 refine⟨c0,λO s mm news v p hv=>?_⟩
 obtain⟨vf,vv,vk⟩:=v
 obtain⟨rfl,rfl,h3⟩:=hv
 have:vk=[]:=by have:=h3.1;cases vk<;>simp_all
 subst this
 exact g O s mm news () p QI
theorem b1{f:Value}{a:SV}{m:XM SV}(h:aj c F (rV a) m (λg=>PySem.call f [g]) rV):aj c F (PC (.top f) [a] []) m (λv=>PySem.call v.f v.vs v.kw) rV:=by
 intro x r x' e hc
 obtain⟨c0,g⟩:=h x r x' e hc
 refine⟨c0,λO s mm news v p hv=>?_⟩
 obtain⟨vf,vv,vk⟩:=v
 obtain⟨rfl,⟨u,t,rfl,hu,rfl⟩,h3⟩:=hv
 have:vk=[]:=by have:=h3.1;cases vk<;>simp_all
 subst this
 exact g O s mm news u p hu
theorem b2{f:Value}{a b:SV}{m:XM SV}(h:aj c F (P2 a b) m (λg=>PySem.call f [g.1,g.2]) rV):aj c F (PC (.top f) [a,b] []) m (λv=>PySem.call v.f v.vs v.kw) rV:=by
 intro x r x' e hc
 obtain⟨c0,g⟩:=h x r x' e hc
 refine⟨c0,λO s mm news v p hv=>?_⟩
 obtain⟨vf,vv,vk⟩:=v
 obtain⟨rfl,⟨u,t,rfl,hu,u',t',rfl,hu',rfl⟩,h3⟩:=hv
 have:vk=[]:=by have:=h3.1;cases vk<;>simp_all
 subst this
 exact g O s mm news (u,u') p ⟨hu,hu'⟩
theorem aj.ite{I:List Addr->γ->Prop}{t:γ->Sem β}{R:α->List Addr->β->Prop}{P:Prop}[Decidable P]{m1 m2:XM α}(h1:P->aj c F I m1 t R)(h2:aj c F I m2 t R):
  aj c F I (match decide P with|true=>m1|false=>m2) t R:=by
 by_cases h:P
 .rw[decide_eq_true h];exact h1 h
 .rw[decide_eq_false h];exact h2
noncomputable def ve{α β:Type}(n:β)(f1:α->β)(f2:α->α->β)(d:β)(l:List α):β:=match l with
 |[]=>n
 |a::l=>match l with
  |[]=>f1 a
  |b::l=>match l with
   |[]=>f2 a b
   |_::_=>d
theorem kJ{α β:Type}{C:List α->β->Prop}{n:β}{f1:α->β}{f2:α->α->β}{d:β}(l:List α)(h0:C [] n)(h1:∀a,C [a] (f1 a))(h2:∀a b,C [a,b] (f2 a b))(h3:∀l,C l d):C l (ve n f1 f2 d l):=by
 rcases l with _|⟨a,_|⟨b,_|⟨e,l⟩⟩⟩
 .exact h0
 .exact h1 a
 .exact h2 a b
 .exact h3 _
def sZ(id:String)(a:SV):XM SV:=
 match decide (id="len")with
 |true=>bQ (JV a) (Nf a)
 |false=>match decide (id="list.pop")with
  |true=>(match a with | .ref l=>HP l|_=>ar)
  |false=>match decide (id="sorted")with
   |true=>uS a
   |false=>match decide (id="list.clear")with
    |true=>(match a with | .ref l=>yZ l|_=>ar)
    |false=>match decide (id="sum")with
     |true=>Ls a
     |false=>match decide (id="iter")with
      |true=>G2 a
      |false=>match decide (id="dict.values")with
       |true=>uY a
       |false=>ar
theorem tq(H:aD c F){id:String}{a:SV}:aj c F (PC (.top (.builtin id)) [a] []) (sZ id a) (λv=>PySem.call v.f v.vs v.kw) rV:=by
 unfold sZ
 refine aj.ite (λh=>h▸b1 (aO rD AH)) (aj.ite (λh=>?_) (aj.ite (λh=>h▸b1 (qj a)) (aj.ite (λh=>?_) (aj.ite (λh=>h▸b1 (BM H a)) (aj.ite (λh=>h▸b1 (yw a)) (aj.ite (λh=>h▸b1 (qW H a)) aX))))))
 .subst h;cases a<;>first|exact b1 qx|exact aX
 .subst h;cases a<;>first|exact b1 tM|exact aX
def tf(id:String)(a b:SV):XM SV:=
 match decide (id="list.append")with
 |true=>(match a with | .ref l=>cq l b|_=>ar)
 |false=>match decide (id="isinstance")with
  |true=>KH a b
  |false=>match decide (id="dict.get")with
   |true=>(match a,b with | .ref d, .str k=>Hb d k|_,_=>ar)
   |false=>match decide (id="set.add")with
    |true=>Gw a b
    |false=>ar
theorem tc(H:aD c F){id:String}{a b:SV}:aj c F (PC (.top (.builtin id)) [a,b] []) (tf id a b) (λv=>PySem.call v.f v.vs v.kw) rV:=by
 unfold tf
 refine aj.ite (λh=>?_) (aj.ite (λh=>h▸b2 B4) (aj.ite (λh=>?_) (aj.ite (λh=>h▸b2 (xC a b)) aX)))
 .subst h;cases a<;>first|exact b2 gx|exact aX
 .subst h;cases a<;>cases b<;>first|exact b2 (wg H.toCxW)|exact aX
def G9(id:String)(vs:List SV):XM SV:=ve ar (sZ id) (tf id) ar vs
theorem xh(H:aD c F){id:String}{vs:List SV}:aj c F (PC (.top (.builtin id)) vs []) (G9 id vs) (λv=>PySem.call v.f v.vs v.kw) rV:=
 kJ (C:=λvs m=>aj c F (PC (.top (.builtin id)) vs []) m (λv=>PySem.call v.f v.vs v.kw) rV) vs aX (λ_=>tq H) (λ_ _=>tc H) λ_=>aX
def J2(id:String):XM SV:=match decide (id="collections.deque")with
 |true=>AR
 |false=>match decide (id="set")with
  |true=>BU
  |false=>ar
def JD(id:String)(a:SV):XM SV:=match decide (id="type")with
 |true=>B7 a
 |false=>match decide (id="int")with
  |true=>Kb a
  |false=>match decide (id="range")with
   |true=>tK a
   |false=>match decide (id="list")with
    |true=>uo a
    |false=>match decide (id="tuple")with
     |true=>Bl a
     |false=>ar
def GQ(id:String)(vs:List SV):XM SV:=ve (J2 id) (JD id) (λ_ _=>ar) ar vs
theorem xK{id:String}{vs:List SV}:aj c F (PC (.top (.type id)) vs []) (GQ id vs) (λv=>PySem.call v.f v.vs v.kw) rV:=
 kJ (C:=λvs m=>aj c F (PC (.top (.type id)) vs []) m (λv=>PySem.call v.f v.vs v.kw) rV) vs (aj.ite (λh=>h▸b0 rW) (aj.ite (λh=>h▸b0 s9) aX))
  (λa=>aj.ite (λh=>h▸b1 xm) (aj.ite (λh=>h▸b1 Ao) (aj.ite (λh=>h▸b1 (sG a)) (aj.ite (λh=>h▸b1 (qz a)) (aj.ite (λh=>h▸b1 (sI a)) aX))))) (λ_ _=>aX) λ_=>aX
noncomputable def zP{β:Type}(fr:Addr->β)(fb ft:String->β)(d:β)(a:SV):β:=match a with
 |.top v=>(match v with
  |.ref f=>fr f
  |.builtin id=>fb id
  |.type id=>ft id
  |_=>d)
 |_=>d
theorem rL{β:Type}{C:SV->β->Prop}{fr:Addr->β}{fb ft:String->β}{d:β}(a:SV)(h1:∀f,C (.top (.ref f)) (fr f))(h2:∀id,C (.top (.builtin id)) (fb id))(h3:∀id,C (.top (.type id)) (ft id))(h4:∀a,C a d):C a (zP fr fb ft d a):=by
 cases a with
 |top v=>
  cases v with
  |ref f=>exact h1 f
  |builtin id=>exact h2 id
  |type id=>exact h3 id
  |_=>exact h4 _
 |_=>exact h4 _
def Fx{α:Type}(kw:List (Str×SV))(m:XM α):XM α:=match kw with
 |[]=>m
 |_::_=>ar
theorem og{α:Type}{C:List (Str×SV)->XM α->Prop}{m:XM α}(kw:List (Str×SV))(h:C [] m)(h':∀kw,C kw ar):C kw (Fx kw m):=by
 cases kw with
 |nil=>exact h
 |cons=>exact h' _
section
variable(B:xX)(GK:Frag->Prop)
def cfX(run:Fs->List Stmt->XM XF)(lv:Nat)(f:Addr)(vs:List SV)(kw:List (Str×SV)):XM SV:=match lv with
 |lvl+2=>Ic GK lvl f vs kw (match B.fn f vs.length (kw.map (·.1))with
  |some e=>GA run lvl e vs kw
  |none=>match kw with
   |[]=>(match B.fnV f vs.length with
    |some e=>Ad run lvl e vs
    |none=>match B.fnC f vs.length []with
     |some e=>AF run lvl e vs []
     |none=>ar)
   |_::_=>ar)
 |_=>ar
def BR(run:Fs->List Stmt->XM XF)(lv:Nat)(f:SV)(vs:List SV)(kw:List (Str×SV)):XM SV:=
 zP (λa=>(B.cls a).elim (cfX B GK run lv a vs kw) λe=>Gx (cfX B GK run lv) e vs kw) (λid=>Fx kw (G9 id vs)) (λid=>Fx kw (GQ id vs)) ar f
end
section
variable{B:xX}{GK:Frag->Prop}
theorem uh(hK:GK c.K)(HB:dN B c.K)(H:aD c F){run:Fs->List Stmt->XM XF}(hrun:∀(c':Cx)(F':Fs)(l:List Stmt),GK c'.K->dN B c'.K->aD c' F'->Snd c' F' (run F' l) (execs l c'.env) rF):qo c F (cfX B GK run F.lvl):=by
 intro A HA f vs kw
 unfold cfX
 split
 .rename_i lvl hl
  have hl':lvl+2<=F.lvl:=by lia
  refine Bt hK H hl' HA ?_
  cases h1:B.fn f vs.length (kw.map (·.1))with
  |some e=>
   obtain⟨he,hf,hn,hk⟩:=HB.fn _ _ _ _ h1
   subst hf
   exact wF H hl' HA he hn.symm hk.symm λc' hs hc'=>hrun c' _ _ (by rw[hs.K];exact hK) (by rw[hs.K];exact HB) hc'
  |none=>
   dsimp only
   cases kw with
   |cons=>intro x a x' e;cases e
   |nil=>
    dsimp only
    cases h2:B.fnV f vs.length with
    |some e=>
     obtain⟨he,hf,hn⟩:=HB.fnV _ _ _ h2
     subst hf
     exact td H hl' HA he hn.symm λc' hs hc'=>hrun c' _ _ (by rw[hs.K];exact hK) (by rw[hs.K];exact HB) hc'
    |none=>
     dsimp only
     cases h3:B.fnC f vs.length []with
     |some e=>
      obtain⟨he,hf,hn,hk⟩:=HB.fnC _ _ _ _ h3
      subst hf
      exact tQ H hl' HA he hn.symm hk.symm λc' cells hs hc'=>hrun c' _ _ (by rw[hs.K];exact hK) (by rw[hs.K];exact HB) hc'
     |none=>intro x a x' e;cases e
 .intro x a x' e;cases e
theorem tC(hK:GK c.K)(HB:dN B c.K)(H:aD c F){run:Fs->List Stmt->XM XF}(hrun:∀(c':Cx)(F':Fs)(l:List Stmt),GK c'.K->dN B c'.K->aD c' F'->Snd c' F' (run F' l) (execs l c'.env) rF)(f:SV)(vs:List SV)(kw:List (Str×SV)):
  aj c F (PC f vs kw) (BR B GK run F.lvl f vs kw) (λv=>PySem.call v.f v.vs v.kw) rV:=by
 have HC:=uh hK HB H hrun
 refine rL (C:=λf m=>aj c F (PC f vs kw) m (λv=>PySem.call v.f v.vs v.kw) rV) f (λa=>oa (P:=λm=>aj c F (PC (.top (.ref a)) vs kw) m (λv=>PySem.call v.f v.vs v.kw) rV) (λ_=>?_) λe h1=>?_)
  (λid=>og (C:=λkw m=>aj c F (PC (.top (.builtin id)) vs kw) m (λv=>PySem.call v.f v.vs v.kw) rV) kw (xh H) λ_=>aX) (λid=>og (C:=λkw m=>aj c F (PC (.top (.type id)) vs kw) m (λv=>PySem.call v.f v.vs v.kw) rV) kw xK λ_=>aX) λ_=>aX
 .intro x r x' q hc
  have g:=HC _ (gb H) a vs kw x r x' q hc
  refine⟨g.1,λO s mm news v p hv=>?_⟩
  obtain⟨vf,vv,vk⟩:=v
  cases hv.1
  refine wpAny_call (codeAny_mono (g.2 O s mm news (vv,vk) p ⟨hv.2.1,hv.2.2⟩) λres s' z=>?_)
  rcases res with ee|fl
  .exact z.elim
  .cases fl with
   |ret v=>exact z
   |_=>exact z.elim
 .intro x r x' q hc
  have he:=HB.cls _ _ h1
  cases he.2
  have g:=wW H HC e he.1 vs kw x r x' q hc
  refine⟨g.1,λO s mm news v p hv=>?_⟩
  obtain⟨vf,vv,vk⟩:=v
  cases hv.1
  exact g.2 O s mm news (vv,vk) p ⟨hv.2.1,hv.2.2⟩
end
section
variable(B:xX)(GK:Frag->Prop)
noncomputable def oP(a:SV):Bool:=match a with
 |.top (.ref f)=>B.callee f
 |.top (.builtin _)=>QF
 |.top (.type _)=>QF
 |_=>QG
def G6(F:Fs)(evF:Fs->Expr->XM SV)(tsF:Fs->Expr->XM Bool)(cf:Addr->List SV->List (Str×SV)->XM SV)(n:Nat)(e:Expr):XM SV:=match e with
 |.Call f args kws _=>(match f with
  |.Attribute o nm _=>(match kws with
   |[]=>xif (args.any bq&&(pv args&&cx o)) (mY B.bd cf (evF F) o nm args)
   |_::_=>ar)
  |_=>ar)
 |.Dict ks vs _=>xif (ks.isEmpty&&vs.isEmpty) (eF (.ns []))
 |.UnaryOp op e _=>(match op with
  |.USub=>ag (evF F e) MC
  |_=>ar)
 |_=>ar
noncomputable def AB(elts:List Expr):Option ((Str×Pos)×Str×Pos):=match elts with
 |[a,b]=>(match a with
  |.Name x p=>(match b with
   |.Name y q=>QE ((x,p),y,q)
   |_=>QD)
  |_=>QD)
 |_=>QD
theorem yq{elts:List Expr}{r:(Str×Pos)×Str×Pos}(e:AB elts=QE r):elts=[.Name r.1.1 r.1.2, .Name r.2.1 r.2.2]:=by
 rcases elts with _|⟨a,_|⟨b,_|⟨d,l⟩⟩⟩
 .exact nn e
 .exact nn e
 .cases a with
  |Name x p=>
   cases b with
   |Name y q=>exact QH e▸rfl
   |_=>exact nn e
  |_=>exact nn e
 .exact nn e
def z7(F:Fs)(evF:Fs->Expr->XM SV)(tsF:Fs->Expr->XM Bool)(ex:Stmt->XM XF)(n:Nat)(st:Stmt):XM XF:=match st with
 |.For target iter body orelse _=>(match target with
  |.Name x _=>xif (dR iter) (MK (evF F iter) (cO F x) (fj ex body) (fj ex orelse) n)
  |_=>ar)
 |.While test body orelse _=>nO (tsF F test) (fj ex body) (fj ex orelse) n
 |.Assign targets v _=>(match targets with
  |[tg]=>(match tg with
   |.Tuple elts _ _=>xob (AB elts) λr=>xif (nI v) (G7 F (evF F v) r.1.1 r.2.1)
   |_=>ar)
  |_=>ar)
 |_=>ar
noncomputable def nF:Nat:=40
def Hs(id:String)(vs:List SV):XM SV:=ve ar (λa=>xif (decide (id="list.pop")) (cE a HP)) (λa b=>xif (decide (id="list.append")) (cE a λl=>cq l b)) ar vs
def Gg(f:SV)(vs:List SV)(kw:List (Str×SV)):XM SV:=zP (λ_=>ar) (λid=>Fx kw (Hs id vs)) (λ_=>ar) ar f
def uw:Tab where
 glob:=B.glob
 cmp:=λ_ _ _=>ar
 bin:=λ_ _ _=>ar
 inp:=λ_ _ _=>ar
 truth:=λ_=>ar
 attr:=λ_ _=>ar
 setattr:=λ_ _ _=>ar
 meth:=Aw B.facts
 callee:=oP B
 call:=λ_=>Gg
 item:=λ_ _=>ar
 setitem:=λ_ _ _=>ar
 spec:=λ_=>ar
 specS:=λ_=>ar
noncomputable def LY(st:Stmt):Option (Expr×Expr):=match st with
 |.Delete ts _=>(match ts with
  |t::r=>(match r with
   |[]=>(match t with
    |.Subscript o i _=>QE (o,i)
    |_=>QD)
   |_::_=>QD)
  |[]=>QD)
 |_=>QD
theorem Ez{st:Stmt}{r:Expr×Expr}(e:LY st=QE r):∃p q,st= .Delete [.Subscript r.1 r.2 p] q:=by
 cases st with
 |Delete ts q=>
  rcases ts with _|⟨t,_|⟨t2,ts⟩⟩
  .exact nn e
  .cases t with
   |Subscript o i p=>cases QH e;exact⟨p,q,rfl⟩
   |_=>exact nn e
  .exact nn e
 |_=>exact nn e
def Ou(F:Fs)(st:Stmt):XM XF:=xob (LY st) λr=>ag (evN (uw B) F nF r.1) λa=>ag (evN (uw B) F nF r.2) λb=>ag (BV a b) λ_=>aH XF.next
def Mf(F:Fs):Tab:={ uw B with specS:=Ou B F }
def LM(F:Fs)(l:List Stmt):XM XF:=c9 (Mf B F) F nF l
noncomputable def Ki:Option NameKind->Bool
 |some .globalImplicit=>QF
 |_=>QG
def nQ(F:Fs)(x:Str):Bool:=Ki (F.sc.names.lookup x)
noncomputable def uf(x:Str)(T:String):Bool:=(B.exc x).elim QG λT'=>decide (T'=T)
def C2(F:Fs)(ev:Expr->XM SV)(x:Str)(mh:XM XF)(e:Expr):XM XF:=match e with
 |.Call f args kws pos=>(match f with
  |.Attribute o n apos=>(match kws with
   |[]=>(match args with
    |[arg]=>cond (aQ n j6&&(uf B x "ValueError"&&(nQ F x&&(!bq arg&&(cx o&&(apos.endLine==pos.line)))))) (t8 (ev o) (ev arg) mh) ar
    |_=>ar)
   |_::_=>ar)
  |_=>ar)
 |_=>ar
def zB(F:Fs)(ev:Expr->XM SV)(x:Str)(tl mh:XM XF)(tg:Expr)(e:Expr):XM XF:=match tg with
 |.Name v _=>(match e with
  |.Call f args kws _=>(match f with
   |.Subscript fo fi fp=>(match args with
    |[]=>(match kws with
     |[]=>cond (uf B x "StopIteration"&&nQ F x) (qu (ev (.Subscript fo fi fp)) (cO F v) tl mh) ar
     |_::_=>ar)
    |_::_=>ar)
   |_=>ar)
  |_=>ar)
 |_=>ar
def PD(F:Fs)(ev:Expr->XM SV)(ex:Stmt->XM XF)(x:Str)(mh:XM XF)(body:List Stmt):XM XF:=match body with
 |[]=>ar
 |st::tl=>(match st with
  |.Expr e _=>(match tl with
   |[]=>C2 B F ev x mh e
   |_::_=>ar)
  |.Assign tgs e _=>(match tgs with
   |[tg]=>zB B F ev x (fj ex tl) mh tg e
   |_=>ar)
  |_=>ar)
noncomputable def hdl(hs:List ExceptHandler):Option (Str×Pos×Stmt×List Stmt×Pos):=match hs with
 |[h]=>(match h with
  |.ExceptHandler ty nm su hp=>(match ty with
   |some te=>(match te with
    |.Name x np=>(match nm with
     |none=>(match su with
      |b₀::suite=>QE (x,np,b₀,suite,hp)
      |[]=>QD)
     |some _=>QD)
    |_=>QD)
   |none=>QD))
 |_=>QD
theorem Jo{hs:List ExceptHandler}{r:Str×Pos×Stmt×List Stmt×Pos}(e:hdl hs=QE r):hs=[.ExceptHandler (QE (.Name r.1 r.2.1)) QD (r.2.2.1::r.2.2.2.1) r.2.2.2.2]:=by
 rcases hs with _|⟨⟨ty,nm,su,hp⟩,_|⟨h2,hs⟩⟩
 .exact nn e
 .rcases ty with _|te
  .exact nn e
  .cases te with
   |Name x np=>
    rcases nm with _|nm
    .rcases su with _|⟨b,su⟩
     .exact nn e
     .exact QH e▸rfl
    .exact nn e
   |_=>exact nn e
 .exact nn e
def NV(F:Fs)(ev:Expr->XM SV)(ex:Stmt->XM XF)(body:List Stmt)(hs:List ExceptHandler)(oe fi:List Stmt):XM XF:=xif (oe.isEmpty&&(fi.isEmpty&&F.cp.isNone)) (xob (hdl hs) λr=>PD B F ev ex r.1 (LM B F (r.2.2.1::r.2.2.2.1)) body)
def Ni(F:Fs)(evF:Fs->Expr->XM SV)(tsF:Fs->Expr->XM Bool)(ex:Stmt->XM XF)(run:Fs->List Stmt->XM XF):Tab where
 glob:=B.glob
 cmp:=λop a b=>bQ (NU op a b) (bQ (zV op a b) (eqX F.lvl op a b))
 bin:=Mj
 inp:=Lw
 truth:=AU
 attr:=λa n=>bQ (Gu B.facts (cfX B GK run F.lvl) a n) (GJ a n)
 setattr:=ru B.facts
 meth:=Aw B.facts
 callee:=oP B
 call:=BR B GK run
 item:=λa b=>bQ (Gm a b) (F3 a b)
 setitem:=Gl
 spec:=λe=>IX GK F e (G6 B F evF tsF (cfX B GK run F.lvl) nF e)
 specS:=λst=>Hc GK F st (match st with | .Try b hs oe fi _=>NV B F (evF F) ex b hs oe fi|st=>z7 F evF tsF ex nF st)
def Lq:Tab where
 glob:=λ_=>QD
 cmp:=λ_ _ _=>ar
 bin:=λ_ _ _=>ar
 inp:=λ_ _ _=>ar
 truth:=λ_=>ar
 attr:=λ_ _=>ar
 setattr:=λ_ _ _=>ar
 meth:=λ_ _=>ar
 callee:=λ_=>QG
 call:=λ_ _ _ _=>ar
 item:=λ_ _=>ar
 setitem:=λ_ _ _=>ar
 spec:=λ_=>ar
 specS:=λ_=>ar
noncomputable def l0:Nat->Fs->Tab
 |0,_=>Lq
 |k+1,F=>Ni B GK F (λF'=>evN (l0 k F') F' nF) (λF'=>tsN (l0 k F') F' nF) (exN (l0 k F) F nF) (λF'=>c9 (l0 k F') F' nF)
end
section
variable{B:xX}{GK:Frag->Prop}
theorem CU:bM Lq c F:=by
 constructor<;>intros<;>first|(intro x a x' e;cases e)|contradiction|exact aX
theorem Snd.bif{b:Bool}{α β:Type}{m:XM α}{t:Sem β}{R:α->List Addr->β->Prop}(h:b=QF->Snd c F m t R):Snd c F (xif b m) t R:=by
 cases b with
 |true=>exact h rfl
 |false=>exact aB
theorem Snd.ob{α β δ:Type}{o:Option δ}{f:δ->XM α}{t:Sem β}{R:α->List Addr->β->Prop}(h:∀b,o=QE b->Snd c F (f b) t R):Snd c F (xob o f) t R:=by
 cases o with
 |some b=>exact h b rfl
 |none=>exact aB
theorem wk(hK:GK c.K)(HB:dN B c.K)(H:aD c F){evF:Fs->Expr->XM SV}{tsF:Fs->Expr->XM Bool}{cf:Addr->List SV->List (Str×SV)->XM SV}(he:∀c' F',ju c c'->aD c' F'->∀e,Snd c' F' (evF F' e) (eval e c'.env) rV)(ht:∀c' F',ju c c'->aD c' F'->∀e,Snd c' F' (tsF F' e) (isTrue e c'.env (eval e c'.env)) rB)
  (HC:qo c F cf)(n:Nat)(e:Expr):Snd c F (G6 B F evF tsF cf n e) (eval e c.env) rV:=by
 cases e with
 |Call f args kws pos=>
  cases f with
  |Attribute o nm apos=>
   rcases kws with _|⟨k,kws⟩
   .exact Snd.bif λhs=>have hs:=(Qp _ _).mp hs;have h2:=(Qp _ _).mp hs.2;n9 H HB.bd HC (he c F ⟨rfl,rfl,rfl,rfl⟩ H) hs.1 h2.1 h2.2 λC n f h=>(HB.bd C n f h).isf
   .exact aB
  |_=>exact aB
 |Dict ks vs pos=>
  exact Snd.bif λh=>by
   have h:=(Qp _ _).mp h
   cases List.isEmpty_iff.mp h.1
   cases List.isEmpty_iff.mp h.2
   exact wX
 |UnaryOp op e pos=>
  cases op with
  |USub=>exact D5 (he c F ⟨rfl,rfl,rfl,rfl⟩ H _)
  |_=>exact aB
 |_=>exact aB
theorem gc(H:aD c F){x:Str}{px:Pos}(v:SV):aj c F (rV v) (cO F x v) (λu=>assign (.Name x px) c.env u) rU:=λy a y' q hq=>by
 obtain⟨k0,k1⟩:=cB H.toCxW x v _ _ _ q hq
 exact⟨k0,λO s mm news g p r=>wpAny_assign_Name (k1 O s mm news g p r)⟩
theorem sO(H:aD c F){evF:Fs->Expr->XM SV}{tsF:Fs->Expr->XM Bool}{ex:Stmt->XM XF}(he:∀c' F',ju c c'->aD c' F'->∀e,Snd c' F' (evF F' e) (eval e c'.env) rV)(ht:∀c' F',ju c c'->aD c' F'->∀e,Snd c' F' (tsF F' e) (isTrue e c'.env (eval e c'.env)) rB)
  (hx:∀st,Snd c F (ex st) (exec st c.env) rF)(n:Nat)(st:Stmt):Snd c F (z7 F evF tsF ex n st) (exec st c.env) rF:=by
 have same:ju c c:=⟨rfl,rfl,rfl,rfl⟩
 cases st with
 |For target iter body orelse pos=>
  cases target with
  |Name x _=>exact Snd.bif λhs=>DJ H (he c F same H _) (gc H) (dB _ λst _=>hx st) (dB _ λst _=>hx st) n (jn hs) λit v=>rfl
  |_=>exact aB
 |While test body orelse pos=>exact vT (ht c F same H _) (dB _ λst _=>hx st) (dB _ λst _=>hx st) n
 |Assign targets v pos=>
  rcases targets with _|⟨tg,_|⟨t2,tgs⟩⟩
  .exact aB
  .cases tg with
   |Tuple elts a b=>
    exact Snd.ob λr hr=>Snd.bif λhc=>by
     cases yq hr
     exact zh H (he c F same H _) hc
   |_=>exact aB
  .exact aB
 |_=>exact aB
theorem hW{K:Frag}(HB:dN B K)(hK:c.K=K)(a:SV)(h:oP B a=QF):∃f,a= .top f/\rb c f:=by
 subst hK
 cases a with
 |top f=>
  refine⟨f,rfl,?_⟩
  cases f with
  |ref f=>exactλh' X=>keeps_K (HB.callee f h) h' X
  |builtin id=>exactλh' X=>⟨.machine, .inr (.inl rfl),Looks.of_pure rfl⟩
  |type id=>exactλh' X=>⟨.machine, .inr (.inl rfl),Looks.of_pure rfl⟩
  |_=>cases h
 |_=>cases h
theorem m8(f:SV)(vs:List SV)(kw:List (Str×SV)):aj c F (PC f vs kw) (Gg f vs kw) (λv=>PySem.call v.f v.vs v.kw) rV:=
 rL (C:=λf m=>aj c F (PC f vs kw) m (λv=>PySem.call v.f v.vs v.kw) rV) f (λ_=>aX) (λid=>og (C:=λkw m=>aj c F (PC (.top (.builtin id)) vs kw) m (λv=>PySem.call v.f v.vs v.kw) rV) kw
  (kJ (C:=λvs m=>aj c F (PC (.top (.builtin id)) vs []) m (λv=>PySem.call v.f v.vs v.kw) rV) vs aX (λa=>aj.bif λh=>of_decide_eq_true h▸b1 (aj.ref (J:=rV) a λl=>qx)) (λa b=>aj.bif λh=>of_decide_eq_true h▸b2 (nN a λl=>gx)) λ_=>aX) λ_=>aX) (λ_=>aX) λ_=>aX
theorem pZ(H:CxW c F)(HB:dN B c.K):bM (uw B) c F where
 glob:=λx sv h=>HB.glob x sv h
 cmp:=λ_ _ _=>aX
 bin:=λ_ _ _=>aX
 inp:=λ_ _ _=>aX
 truth:=λ_=>aX
 attr:=λ_ _=>aX
 setattr:=λ_ _ _=>aX
 meth:=λa n pl=>jy H HB.facts a n pl
 callee:=λa h=>hW HB rfl a h
 call:=λf vs kw=>m8 f vs kw
 item:=λ_ _ _=>aX
 spec:=λ_ x a x' e=>by cases e
 specS:=λ_ x a x' e=>by cases e
 setitem:=λ_ _ _=>aX
theorem FV(H:CxW c F)(HB:dN B c.K):bM (Mf B F) c F where
 glob:=λx sv h=>HB.glob x sv h
 cmp:=λ_ _ _=>aX
 bin:=λ_ _ _=>aX
 inp:=λ_ _ _=>aX
 truth:=λ_=>aX
 attr:=λ_ _=>aX
 setattr:=λ_ _ _=>aX
 meth:=λa n pl=>jy H HB.facts a n pl
 callee:=λa h=>hW HB rfl a h
 call:=λf vs kw=>m8 f vs kw
 item:=λ_ _ _=>aX
 spec:=λ_ x a x' e=>by cases e
 specS:=λst=>Snd.ob λr hr=>Qq (Ez hr) λp h=>Qq h λq h=>h▸pW H (gT H (pZ H HB) nF _) (gT H (pZ H HB) nF _)
 setitem:=λ_ _ _=>aX
theorem BY(H:CxW c F)(HB:dN B c.K)(l:List Stmt):Snd c F (LM B F l) (execs l c.env) rF:=kB H (FV H HB) nF l
theorem DU{k:Option NameKind}(h:Ki k=QF):k=QE .globalImplicit:=by
 cases k with
 |none=>exact ff h
 |some k=>
  cases k with
  |globalImplicit=>rfl
  |_=>exact ff h
theorem ly{x:Str}(h:nQ F x=QF):F.sc.names.lookup x=QE .globalImplicit:=DU h
theorem qm{K:Frag}(HB:dN B K){x:Str}{T:String}(h:uf B x T=QF):eA K x T:=by
 unfold uf at h
 cases e:B.exc x with
 |none=>rw[e]at h;exact ff h
 |some T'=>rw[e]at h;exact of_decide_eq_true h▸HB.exc x _ e
theorem Bq(HB:dN B c.K)(H:aD c F){ev:Expr->XM SV}{ex:Stmt->XM XF}(he:∀e,Snd c F (ev e) (eval e c.env) rV)(hx:∀st,Snd c F (ex st) (exec st c.env) rF){b:List Stmt}{hs:List ExceptHandler}{oe fi:List Stmt}{pos:Pos}:
  Snd c F (NV B F ev ex b hs oe fi) (exec (.Try b hs oe fi pos) c.env) rF:=Snd.bif λh0=>Snd.ob λr hr=>by
 have h0:=(Qp _ _).mp h0
 have h1:=(Qp _ _).mp h0.2
 cases List.isEmpty_iff.mp h0.1
 cases List.isEmpty_iff.mp h1.1
 cases Jo hr
 have hcp:F.cp=QD:=Option.isNone_iff_eq_none.mp h1.2
 have hh:=λe=>BY (wY H.toCxW e) HB (r.2.2.1::r.2.2.2.1)
 rcases b with _|⟨st,tl⟩
 .exact aB
 .cases st with
  |Expr e _=>
   rcases tl with _|⟨s2,tl⟩
   .cases e with
    |Call f args kws cp=>
     cases f with
     |Attribute o n apos=>
      rcases kws with _|⟨kw,kws⟩
      .rcases args with _|⟨arg,_|⟨a2,args⟩⟩
       .exact aB
       .exact b4 (λh=>by
         simp only[Qp,Bool.not_eq_true']at h
         exact tw H hcp (he _) (he _) h.1 hh (qm HB h.2.1) (ly h.2.2.1) h.2.2.2.1 h.2.2.2.2.1 h.2.2.2.2.2) λ_=>aB
       .exact aB
      .exact aB
     |_=>exact aB
    |_=>exact aB
   .exact aB
  |Assign tgs e _=>
   rcases tgs with _|⟨tg,_|⟨t2,tgs⟩⟩
   .exact aB
   .cases tg with
    |Name v _=>
     cases e with
     |Call f args kws _=>
      cases f with
      |Subscript fo fi fp=>
       rcases args with _|⟨a,args⟩
       .rcases kws with _|⟨kw,kws⟩
        .exact b4 (λh=>have h:=(Qp _ _).mp h;qT H hcp (he _) (λenv=>rfl) (dB _ λst _=>hx st) hh (qm HB h.1) (ly h.2)) λ_=>aB
        .exact aB
       .exact aB
      |_=>exact aB
     |_=>exact aB
    |_=>exact aB
   .exact aB
  |_=>exact aB
theorem i9:∀(k:Nat)(c:Cx)(F:Fs),GK c.K->dN B c.K->aD c F->bM (l0 B GK k F) c F
 |0,_,_,_,_,_=>CU
 |k+1,c,F,hK,HB,H=>by
  have hrun:∀(c':Cx)(F':Fs)(l:List Stmt),GK c'.K->dN B c'.K->aD c' F'->Snd c' F' (c9 (l0 B GK k F') F' nF l) (execs l c'.env) rF:=λc' F' l hK' HB' H'=>kB H'.toCxW (i9 k c' F' hK' HB' H') nF l
  have he:∀c' F',ju c c'->aD c' F'->∀e,Snd c' F' (evN (l0 B GK k F') F' nF e) (eval e c'.env) rV:=λc' F' hs H' e=>gT H'.toCxW (i9 k c' F' (by rw[hs.K];exact hK) (by rw[hs.K];exact HB) H') nF e
  have ht:∀c' F',ju c c'->aD c' F'->∀e,Snd c' F' (tsN (l0 B GK k F') F' nF e) (isTrue e c'.env (eval e c'.env)) rB:=λc' F' hs H' e=>n8 H'.toCxW (i9 k c' F' (by rw[hs.K];exact hK) (by rw[hs.K];exact HB) H') nF e
  have hx:∀st,Snd c F (exN (l0 B GK k F) F nF st) (exec st c.env) rF:=om H.toCxW (i9 k c F hK HB H) nF
  have HC:=uh hK HB H hrun
  exact{
   glob:=λx sv h=>HB.glob x sv h
   cmp:=λop a b=>aO (BO H.toCxW op a b) (aO (r9 op a b) (E3 H op a b))
   bin:=λop a b=>Bu op a b
   inp:=λop a b=>yF
   truth:=λa=>sh a
   attr:=λa n=>aO (wz H HB.facts HC a n) (vW a n)
   setattr:=λa n b=>ox H.toCxW HB.facts a n b
   meth:=λa n pl=>jy H.toCxW HB.facts a n pl
   callee:=λa h=>hW HB rfl a h
   call:=λf vs kw=>tC hK HB H hrun f vs kw
   item:=λsl a b=>aO (xU H.toCxW sl a b) (wV sl a b)
   spec:=λe=>Cg hK H (wk hK HB H he ht HC nF e)
   specS:=λst=>zd hK H (by
    split
    .exact Bq HB H (he c F ⟨rfl,rfl,rfl,rfl⟩ H) hx
    .exact sO H he ht hx nF _)
   setitem:=λa b d=>ym H.toCxW a b d }
end
section
variable(GK:Frag->Prop)
def aJ(F:Fs)(e:Expr)(S S':St)(b:Bool):Prop:=∀c:Cx,GK c.K->aD c F->∀O s m news,Pre c F O S s m news->wpAny c.M c.A (isTrue e c.env (eval e c.env)) (aG c F O S' (rB b)) NoE s
def dJ(F:Fs)(test:Expr)(body orelse:List Stmt)(S S':St)(fl:XF):Prop:=∀c:Cx,GK c.K->aD c F->∀O s m news,Pre c F O S s m news->WhlRest c.pr c.w c.A NoE c.env test body orelse (aG c F O S' (rF fl)) 0 s
end
def fC(r:Option (Bool×XS))(n0:Nat)(pk:List Nat)(S':St)(b:Bool):Prop:=match r with
 |some (v1,x1)=>v1=b/\pk.take n0=PZ n0/\dI pk=QF/\bI (mapLed (at_ pk x1.st.led.length) S'.led)=bF x1.st.led pk/\
   (S'.loc.map (λq=>x1.st.loc.lookup q.1)=S'.loc.map λq=>QE (aU (at_ pk x1.st.led.length) q.2))/\bh x1.cs
 |none=>False
section
variable{GK:Frag->Prop}
theorem aJ.of_ran(hT:∀c,GK c.K->aD c F->bM T c F){n:Nat}{e:Expr}{S S':St}{hs:List (Nat×Bool)}{orc:List Orc}{pk:List Nat}{b:Bool}(h:fC (tsN T F n e ⟨S,hs,0,[],orc⟩) S.led.length pk S' b):aJ GK F e S S' b:=by
 intro c hK H O s m news p
 unfold fC at h
 split at h
 .rename_i fl1 x1 run
  obtain⟨h1,h2,h3,h4,h5,hc⟩:=h
  refine Qw ((n8 H.toCxW (hT c hK H) n e _ _ _ run hc).2 O s m news p) (λv s' z=>?_) λ_ _ z=>z
  refine aG.el z λO1 m1 news1 pre1 p1 r1=>?_
  obtain⟨O',news',pre',p',onto⟩:=p.fin pre1 p1 ⟨h2,⟨h3,h4⟩,h5⟩
  exact⟨O',m1,news',pre',p',(show v=fl1 from r1).trans h1⟩
 .exact h.elim
section
variable{test:Expr}{body orelse:List Stmt}{S S1 S2 S':St}{fl fb:XF}
theorem dJ.stop(ht:aJ GK F test S S1 QG)(ho:aa GK F orelse S1 S' fl):dJ GK F test body orelse S S' fl:=λc hK H O s m news p=>
 fJ (go_ (ht c hK H O s m news p) λO1 m1 n1 v1 s1 p1 q1 r1=>Eq.symm r1▸Qw (ho c hK H O1 s1 m1 n1 q1) (λ_ _ z=>z.mono p1) λ_ _ z=>z)
theorem dJ.step(ht:aJ GK F test S S1 QF)(hb:aa GK F body S1 S2 fb)(hf:fb= .next\/fb= .cont)(hr:dJ GK F test body orelse S2 S' fl):dJ GK F test body orelse S S' fl:=λc hK H O s m news p=>
 fJ (go_ (ht c hK H O s m news p) λO1 m1 n1 v1 s1 p1 q1 r1=>Eq.symm r1▸go_ (hb c hK H O1 s1 m1 n1 q1) λO2 m2 n2 v2 s2 p2 q2 r2=>tU (hf.elim (λe=>e▸rfl) λe=>e▸rfl) r2 (codeAny_mono (hr c hK H O2 s2 m2 n2 q2) λr s h=>by
  cases r with
  |ok f=>exact h.mono (p1.trans p2)
  |error e=>exact h))
theorem dJ.brk(ht:aJ GK F test S S1 QF)(hb:aa GK F body S1 S2 .brk):dJ GK F test body orelse S S2 .next:=λc hK H O s m news p=>
 fJ (go_ (ht c hK H O s m news p) λO1 m1 n1 v1 s1 p1 q1 r1=>Eq.symm r1▸go_ (hb c hK H O1 s1 m1 n1 q1) λO2 m2 n2 v2 s2 p2 q2 r2=>u9 rfl r2 λu hu=>⟨O2,m2,n2,p1.trans p2,q2,hu⟩)
end
theorem dJ.stmt{test:Expr}{body orelse:List Stmt}{S S':St}{fl:XF}{pos:Pos}(h:dJ GK F test body orelse S S' fl):ae GK F (.While test body orelse pos) S S' fl:=λc hK H O s m news p=>whl_start 0 (h c hK H O s m news p)
end
inductive hH (ys:List Str):String->SO->Prop
 |words:hH ys "list_iterator" (.words ys)
 |wtup:hH ys "tuple_iterator" (.wtup ys)
noncomputable def bo(T:String)(l i:Nat):SO:= .loose T [.ref l, .top (.int (.ofNat i) 0)]
theorem hH.vals{T:String}{ys:List Str}{so:SO}(h:hH ys T so):i5 T so=QE (ys.map SV.str):=by
 cases h with
 |words=>rfl
 |wtup=>rfl
theorem dz{α:Type}{m k:XM α}{x:XS}{r:α×XS}(h:m x=QE r):bQ m k x=QE r:=by unfold bQ;rw[h]
theorem uK{T:String}{ys:List Str}{so:SO}{l it i:Nat}(hS:hH ys T so)(hl:S.led[l]?=QE so)(hit:S.led[it]?=QE (bo T l i)):pE it ⟨S,[],0,[],[]⟩=uU [] it (ys.map SV.str)[i]? (bo T l (i+1)) ⟨S,[],0,[],[]⟩:=by
 have e:ub it ⟨S,[],0,[],[]⟩=uU [] it (ys.map SV.str)[i]? (bo T l (i+1)) ⟨S,[],0,[],[]⟩:=by
  unfold ub xrd
  rw[hit]
  show((S.led[l]?).bind (i5 T)).elim QD _=_
  rw[hl]
  show(i5 T so).elim QD _=_
  rw[hS.vals]
  rfl
 cases h:(ys.map SV.str)[i]? with
 |some v=>rw[h]at e;exact dz (dz e)
 |none=>rw[h]at e;exact dz (dz e)
def di(S S':St):Prop:=S.loc=S'.loc/\br S.led S'.led
theorem di.refl(S:St):di S S:=⟨rfl,br.refl _⟩
theorem di.pre{S S':St}(h:di S S')(p:Pre c F O S s m news):Pre c F O S' s m news:=by
 have:=p.soft h.2
 rw[h.1]at this;exact this
theorem gU(V:List (Str×SV)):bE (.vars V) (.vars []):=λP O ob⟨m,es,ep,a,b,d,r⟩=>⟨m,es,ep,a,b,d,λx=>trivial⟩
section
variable(GK:Frag->Prop)(F:Fs)
def ay(it:Nat)(S S':St)(r:Option SV):Prop:=∀c:Cx,GK c.K->aD c F->∀O s m news v,Pre c F O S s m news->aA O (.ref it) v->wpAny c.M c.A (pyNext v) (aG c F O S' (rO r)) NoE s
def aI(a:SV)(S S':St)(it:Nat):Prop:=∀c:Cx,GK c.K->aD c F->∀O s m news v,Pre c F O S s m news->aA O a v->wpAny c.M c.A (pyIter v) (aG c F O S' (rK it)) NoE s
def aC(t:Expr)(v:SV)(S S':St):Prop:=∀c:Cx,GK c.K->aD c F->∀O s m news u,Pre c F O S s m news->aA O v u->wpAny c.M c.A (assign t c.env u) (aG c F O S' (rU ())) NoE s
def a9(ka:Nat)(v:SV)(S S':St):Prop:=∀c:Cx,GK c.K->aD c F->∀O s m news a u,Pre c F O S s m news->aA O (.ref ka) a->aA O v u->wpAny c.M c.A (PySem.call (.builtin "list.append") [a,u]) (aG c F O S' (λ_(_:Value)=>True)) NoE s
def dy(ifs:List Expr)(S S':St)(b:Bool):Prop:=∀c:Cx,GK c.K->aD c F->∀O s m news,Pre c F O S s m news->wpAny c.M c.A (forIn ifs QF λe r=>if r=QF then do let ok<-isTrue e c.env (eval e c.env);pure (ForInStep.yield ok)else pure (ForInStep.yield r)) (aG c F O S' (rB b)) NoE s
inductive dQ (it:Nat) (t:Expr) (body orelse:List Stmt) (S':St) (fl:XF):Nat->St->Prop
 |done {n:Nat} {S S1:St}:ay GK F it S S1 none->aa GK F orelse S1 S' fl->dQ it t body orelse S' fl (n+1) S
 |step {n:Nat} {S S1 S2 S3:St} {v:SV} {fb:XF}:ay GK F it S S1 (some v)->aC GK F t v S1 S2->aa GK F body S2 S3 fb->fb= .next\/fb= .cont->dQ it t body orelse S' fl n S3->dQ it t body orelse S' fl (n+1) S
inductive aL (it ka:Nat) (elt t:Expr) (ifs:List Expr) (S':St):Nat->St->Prop
 |done {n:Nat} {S:St}:ay GK F it S S' none->aL it ka elt t ifs S' (n+1) S
 |step {n:Nat} {S S1 S2 S3 S5:St} {v:SV} {b:Bool}:ay GK F it S S1 (some v)->aC GK F t v S1 S2->dy GK F ifs S2 S3 b->(b=true->∃w S4,ah GK F elt S3 S4 w/\a9 GK F ka w S4 S5)->(b=false->di S3 S5)->aL it ka elt t ifs S' n S5->aL it ka elt t ifs S' (n+1) S
end
section
variable{GK:Frag->Prop}{F:Fs}
theorem ay.ran{it:Nat}{S S':St}{r:Option SV}{x1:XS}(h:pE it ⟨S,[],0,[],[]⟩=QE (r,x1))(hS:x1.st=S')(hc:bh x1.cs):ay GK F it S S' r:=λc hK H O s m news v p hv=>hS▸(jw H it _ _ _ h hc).2 O s m news v p hv
theorem ay.src{it:Nat}{S S':St}{T:String}{ys:List Str}{so:SO}{l i:Nat}{y:Str}(hS:hH ys T so)(hl:S.led[l]?=QE so)(hit:S.led[it]?=QE (bo T l i))(hy:ys[i]?=QE y)(e:S'={ S with led:=S.led.set it (bo T l (i+1)) }):ay GK F it S S' (QE (.str y)):=
 ay.ran (x1:=⟨S.put it (bo T l (i+1)),[],0,[],[]⟩) ((uK hS hl hit).trans (by rw[List.getElem?_map,hy];rfl)) e.symm QI
theorem ay.end_{it:Nat}{S S':St}{T:String}{ys:List Str}{so:SO}{l i:Nat}(hS:hH ys T so)(hl:S.led[l]?=QE so)(hit:S.led[it]?=QE (bo T l i))(hy:ys[i]?=QD)(e:S'={ S with led:=S.led.set it .any }):ay GK F it S S' QD:=
 ay.ran (x1:=⟨S.put it .any,[],0,[],[]⟩) ((uK hS hl hit).trans (by rw[List.getElem?_map,hy];rfl)) e.symm QI
theorem aI.ran{a:SV}{S S':St}{it:Nat}{x1:XS}(h:ec a ⟨S,[],0,[],[]⟩=QE (it,x1))(hS:x1.st=S')(hc:bh x1.cs):aI GK F a S S' it:=λc hK H O s m news v p hv=>hS▸(mD H a _ _ _ h hc).2 O s m news v p hv
theorem aC.ran{t:Str}{tp:Pos}{v:SV}{S S':St}{x1:XS}(h:cO F t v ⟨S,[],0,[],[]⟩=QE ((),x1))(hS:x1.st=S')(hc:bh x1.cs):aC GK F (.Name t tp) v S S':=λc hK H O s m news u p hv=>hS▸(gc H v _ _ _ h hc).2 O s m news u p hv
theorem a9.ran{ka:Nat}{v w:SV}{S S':St}{x1:XS}(h:cq ka v ⟨S,[],0,[],[]⟩=QE (w,x1))(hS:x1.st=S')(hc:bh x1.cs):a9 GK F ka v S S':=λc hK H O s m news a u p ha hv=>
 Qw ((gx (c:=c) (F:=F) _ _ _ h hc).2 O s m news (a,u) p ⟨ha,hv⟩) (λ_ _ z=>by obtain⟨O',m',n',a1,a2,a3⟩:=z;exact⟨O',m',n',a1,hS▸a2,QI⟩) λ_ _ z=>z
theorem a9.soft{ka:Nat}{v:SV}{S S1 S':St}(h:a9 GK F ka v S S1)(hs:di S1 S'):a9 GK F ka v S S':=λc hK H O s m news a u p ha hv=>
 Qw (h c hK H O s m news a u p ha hv) (λ_ _ z=>by obtain⟨O',m',n',a1,a2,a3⟩:=z;exact⟨O',m',n',a1,hs.pre a2,QI⟩) λ_ _ z=>z
theorem dy.nil:dy GK F [] S S QF:=λc hK H O s m news p=>wpAny_tests_nil (p.now rfl)
theorem dy.one{e:Expr}{S S':St}{b:Bool}(h:aJ GK F e S S' b):dy GK F [e] S S' b:=λc hK H O s m news p=>wpAny_tests_one (h c hK H O s m news p)
theorem dQ.loop{it:Nat}{t:Expr}{body orelse:List Stmt}{S S':St}{fl:XF}{n:Nat}(h:dQ GK F it t body orelse S' fl n S)(c:Cx)(hK:GK c.K)(H:aD c F)(ht:∀it v,letOwnedTupleGo t it v=pure ()){v:Value}{Q:Flow->Shared->Prop}:
  ∀(O:List Addr)(s:Shared)(m:Fm)(news:List (Addr×Obj)),Pre c F O S s m news->aA O (.ref it) v->(∀f s',aG c F O S' (rF fl) f s'->Q f s')->AW c.pr c.w c.A t v body orelse c.env Q s:=by
 induction h with
 |done h1 h2=>exactλO s m news p hv hQ=>kH (ht v) (go_ (h1 c hK H O s m news v p hv) λO1 m1 n1 w1 s1 p1 q1 r1=>Eq.symm r1▸Qw (h2 c hK H O1 s1 m1 n1 q1) (λf s3 z=>hQ f s3 (z.mono p1)) λ_ _ z=>z)
 |step h1 h2 h3 hf h4 ih=>exactλO s m news p hv hQ=>kH (ht v) (go_ (h1 c hK H O s m news v p hv) λO1 m1 n1 w1 s1 p1 q1 r1=>Qq r1 λw z=>z.1.symm▸go_ (h2 c hK H O1 s1 m1 n1 w q1 z.2) λO2 m2 n2 w2 s2 p2 q2 r2=>go_ (h3 c hK H O2 s2 m2 n2 q2) λO3 m3 n3 w3 s3 p3 q3 r3=>
   tU (hf.elim (λe=>e▸rfl) λe=>e▸rfl) r3 (ih O3 s3 m3 n3 q3 (aA.mono (p1.trans (p2.trans p3)) hv) λf s' y=>hQ f s' (y.mono (p1.trans (p2.trans p3)))))
theorem ae.for_{t iter:Expr}{body orelse:List Stmt}{pos:Pos}{S S1 S2 S3 S':St}{fl:XF}{a:SV}{it n:Nat}{pk:List Nat}(hi:ah GK F iter S S1 a)(hit:aI GK F a S1 S2 it)(h:dQ GK F it t body orelse S3 (ko (at_ pk S3.led.length) fl) n S2)
  (hs:∀env x,foldedSetIterable iter env x=pure x)(ht:∀it v,letOwnedTupleGo t it v=pure ())(hfin:et S.led.length pk S3 S'):ae GK F (.For t iter body orelse pos) S S' fl:=λc hK H O s m news p=>
 wpAny_For (go_ (hi c hK H O s m news p) λO1 m1 n1 v1 s1 p1 q1 r1=>go_ (hit c hK H O1 s1 m1 n1 v1 q1 r1) λO2 m2 n2 v2 s2 p2 q2 r2=>yS
  (h.loop c hK H ht O2 s2 m2 n2 q2 r2 (λf s' z=>Qq z λO3 z=>Qq z λm3 z=>Qq z λn3 z=>Qq (p.fin (p1.trans (p2.trans z.1)) z.2.1 hfin) λO' y=>Qq y λnews' y=>⟨O',m3,news',y.1,y.2.1,rF.unmap y.2.2 z.2.2⟩))) (hs _)
theorem aL.loop{it ka:Nat}{elt iter:Expr}{ifs:List Expr}{x:Str}{px pos:Pos}{scope:Scope}{S S':St}{n:Nat}(h:aL GK F it ka elt (.Name x px) ifs S' n S)(c:Cx)(hK:GK c.K)(H:aD c F)(O:List Addr)(s:Shared)(m:Fm)(news:List (Addr×Obj))(vi va:Value)(p:Pre c F O S s m news)(hi:aA O (.ref it) vi)(ha:aA O (.ref ka) va){R:Result->Shared->Prop}
  (hR:∀s',aG c F O S' (λ_(_:Unit)=>True) () s'->R (.ok .next) s'):codeAny c.M c.A (.compLoop (.ListComp elt [⟨.Name x px,iter,ifs,0⟩] scope pos) 0 vi va c.env) R s:=by
 let I:Nat->Shared->Prop:=λk s=>∃Sk τ mm nn,O <+:τ/\aL GK F it ka elt (.Name x px) ifs S' k Sk/\Pre c F τ Sk s mm nn
 refine codeAny_compLoop_tests I (λk s hI=>?_) n ⟨S,O,m,news,P5 _,h,p⟩
 obtain⟨Sk,τ,mm,nn,pre,run,P⟩:=hI
 cases run with
 |done h1=>
  refine go_ (h1 c hK H τ s mm nn vi P (aA.mono pre hi)) λτ1 m1 nn1 w1 s1 pp1 qq1 rr1=>?_
  rw[show w1=QD from rr1]
  exact hR s1 ⟨τ1,m1,nn1,pre.trans pp1,qq1,QI⟩
 | @step n' _ S1 S2 S3 S5 sv b h1 h2 h3 hy hn h4=>
  refine go_ (h1 c hK H τ s mm nn vi P (aA.mono pre hi)) λτ1 m1 nn1 w1 s1 pp1 qq1 rr1=>?_
  obtain⟨w,rfl,hw⟩:=rr1
  refine go_ (h2 c hK H τ1 s1 m1 nn1 w qq1 hw) λτ2 m2 nn2 w2 s2 pp2 qq2 rr2=>go_ (h3 c hK H τ2 s2 m2 nn2 qq2) λτ3 m3 nn3 w3 s3 pp3 qq3 rr3=>?_
  have pre3:O <+:τ3:=pre.trans (pp1.trans (pp2.trans pp3))
  rw[show w3=b from rr3]
  cases b with
  |false=>rw[if_neg Bool.false_ne_true];exact⟨n',Nat.lt_succ_self n',S5,τ3,m3,nn3,pre3,h4,(hn rfl).pre qq3⟩
  |true=>
   obtain⟨w',S4,k1,k2⟩:=hy rfl
   rw[if_pos rfl]
   refine go_ (k1 c hK H τ3 s3 m3 nn3 qq3) λτ4 m4 nn4 w4 s4 pp4 qq4 rr4=>go_ (k2 c hK H τ4 s4 m4 nn4 va w4 qq4 (aA.mono (pre3.trans pp4) ha) rr4) λτ5 m5 nn5 w5 s5 pp5 qq5 rr5=>?_
   exact⟨n',Nat.lt_succ_self n',S5,τ5,m5,nn5,pre3.trans (pp4.trans pp5),h4,qq5⟩
end
section
variable{GK:Frag->Prop}
def ej(F:Fs)(scope:Scope)(cells:List (Str×Nat))(kc:Nat):Fs:=⟨dg scope F.sc,cells,F.lvl,QE kc⟩
theorem nD{S S1 S2 S5 S6:St}{elt iter:Expr}{ifs:List Expr}{x:Str}{px pos p0:Pos}{scope:Scope}{a:SV}{it n:Nat}{so acc0:SO}{cells:List (Str×Nat)}{loc:List (Str×SV)}{use:Option (Value->Sem Unit)}(hK:GK c.K)(H:aD c F)(hok:du scope x=QF)(hcl:d0 F.cells scope.names []=QE cells)
  (hi:ah GK F iter S S1 a)(hitr:aI GK F a S1 S2 it)(hled:S2.led[it]?=QE so)(hT:nZ so)(hacc:bE (.list []) acc0)
  (hloop:aL GK (ej F scope cells (S2.led.length+1)) it S2.led.length elt (.Name x px) ifs S5 n ⟨S2.loc,S2.led++[acc0, .vars []]⟩)
  (hov:S6.led[S2.led.length+1]?=QE (.vars loc))
  (huse:(use=QD/\S6=S5)\/∃u,use=QE u/\∀O s m news w,Pre c F O S5 s m news->rV (.ref S2.led.length) O w->wpAny c.M c.A (u w) (aG c F O S6 (rU ())) NoE s)(hs:∀x,foldedSetIterable iter c.env x=pure x)
  {O:List Addr}{s:Shared}{m:Fm}{news:List (Addr×Obj)}(p:Pre c F O S s m news):
  wpAny c.M c.A (comprehension (.ListComp elt [⟨.Name x px,iter,ifs,0⟩] scope pos) scope c.env p0 (newList []) QG (eval iter c.env) use) (aG c F O ⟨S6.loc,S6.led.set (S2.led.length+1) .any⟩ (λτ v=>use=QD->rV (.ref S2.led.length) τ v)) NoE s:=by
 obtain⟨o1,o2,o3,o4⟩:=yf hok
 have hkr:(dg scope F.sc).kind= .function:=o1
 have HB:∀C dl,aD (c.block (dg scope F.sc) C dl) (ej F scope cells (S2.led.length+1)):=λC dl=>Ah H hkr
 obtain⟨dl,hdl,_⟩:=iM p.cell hcl (ds:=[]) rfl
 refine As rfl hs (lV hdl) o1 o3 (go_ (hi c hK H O s m news p) λO1 m1 n1 v1 s1 p1 q1 r1=>go_ (hitr c hK H O1 s1 m1 n1 v1 q1 r1) λO2 m2 n2 v2 s2 p2 q2 r2=>?_)
 obtain⟨_,ga⟩:=kF (c:=c) (F:=F) [] (by decide) ⟨S2,[],0,[],[]⟩ _ _ rfl QI
 refine go_ (ga O2 s2 m2 n2 [] q2 rfl) λO3 m3 n3 v3 s3 p3 q3 r3=>?_
 refine wpAny_newFunctionEnv o2 (by intro y hy;simp at hy) (λh' hns hsb=>?_) o1
 have hkeep:∀b o,s3.heap.get? b=QE o->h'.get? b=QE o:=λb o e=>(hsb.2 b (PY (Qs e))).trans (Qr _ e)
 obtain⟨oC,es,ep,hC1,hC2,hC3,hC4⟩:=hns
 obtain⟨O4,m4,n4,p4,q4,C',hC5,hC6⟩:=q3.made (x:=⟨_,[],0,[],[]⟩) (tk:=s3.toks+([]:List (Str×Value)).length) (o:= .vars []) hkeep (λb o e=>Qs e) hC1 ⟨_,es,ep,hC2,hC3,hC4,λy=>trivial⟩
 cases hC6
 have hkc:(S2.led++[SO.list []]).length=S2.led.length+1:=by simp
 have pre4:O <+:O4:=p1.trans (p2.trans (p3.trans p4))
 obtain⟨dl',hdl',hL⟩:=iM (p.cell.mono pre4) hcl (ds:=[]) rfl
 have edl:dl'=dl:=by rw[hdl]at hdl';exact(QH hdl').symm
 subst edl
 have hE:({ newEnv scope s3.heap.objs.size c.env.globals dl' c.env.qual QD .none (QE c.env) builtinsNs with scope:=relabel scope c.env }:Env)=(c.block (dg scope F.sc) s3.heap.objs.size dl').env:=by
  rw[pQ,H.sc]
  unfold newEnv Cx.block Cx.env
  cases c.cp<;>rfl
 have hC5':O4[S2.led.length+1]?=QE s3.heap.objs.size:=by rw[<-hkc];exact hC5
 have P4:Pre (c.block (dg scope F.sc) s3.heap.objs.size dl') (ej F scope cells (S2.led.length+1)) O4 ⟨S2.loc,S2.led++[acc0, .vars []]⟩ { s3 with heap:=h',toks:=s3.toks+([]:List (Str×Value)).length } m4 n4:=by
  have P0:Pre (c.block (dg scope F.sc) s3.heap.objs.size dl') (ej F scope cells (S2.led.length+1)) O4 _ _ m4 n4:=⟨q4.rep,q4.below,q4.turn,hL.cellR,(λk e=>by cases e;exact hC5'),⟨q4.side.os,q4.side.gens,q4.side.tk⟩⟩
  have P1:=P0.tight (k:=S2.led.length) (o:= .list []) (o':=acc0) (by
   show((S2.led++[SO.list []])++[SO.vars []])[S2.led.length]?=_
   simp) hacc
  have e:(((S2.led++[SO.list []])++[SO.vars []]).set S2.led.length acc0)=S2.led++[acc0, .vars []]:=by simp
  rw[<-e];exact P1
 have hit:aA O4 (.ref it) v2:=aA.mono (p3.trans p4) r2
 have hac:aA O4 (.ref S2.led.length) v3:=aA.mono p4 r3
 have fin:∀s',aG (c.block (dg scope F.sc) s3.heap.objs.size dl') (ej F scope cells (S2.led.length+1)) O4 S5 (λ_(_:Unit)=>True) () s'->
   nL c.M c.A use (aG c F O ⟨S6.loc,S6.led.set (S2.led.length+1) .any⟩ (λτ v=>use=QD->rV (.ref S2.led.length) τ v)) v3 s3.heap.objs.size (.ok .next) s':=λs' z=>by
  refine aG.el z λO5 m5 n5 p5 q5 _=>?_
  have close:∀O6 s6 m6 n6 vv,O4 <+:O6->Pre c F O6 S6 s6 m6 n6->(use=QD->vv=v3)->∃m,s6.heap.Ns s3.heap.objs.size m/\∀h' m',h'.Ns s3.heap.objs.size m'->Heap.SameBut s3.heap.objs.size s6.heap h'->
    aG c F O ⟨S6.loc,S6.led.set (S2.led.length+1) .any⟩ (λτ v=>use=QD->rV (.ref S2.led.length) τ v) vv { s6 with heap:=h' }:=λO6 s6 m6 n6 vv p6 q6 hvv=>by
   obtain⟨ad,ob,g1,g2,g3,mm,es',ep',k1,k2,k3,k4⟩:=q6.rep.get hov
   rw[aY p6 hC5']at g2
   cases g2
   refine⟨mm,⟨ob,es',ep',g3,k1,k2,k3⟩,λh'' m'' hns'' hs''=>?_⟩
   obtain⟨o'',es'',ep'',j1,_⟩:=hns''
   exact⟨O6,m6,_,pre4.trans p6,q6.heap' (P5 _) (q6.rep.same g1 hs'' j1 QI),λe=>by rw[hvv e];exact aA.mono p6 hac⟩
  have PC:Pre c F O5 S5 s' m5 n5:=⟨q5.rep,q5.below,q5.turn,p.cell.mono (pre4.trans p5),λk e=>aY (pre4.trans p5) (p.vars k e),⟨q5.side.os,q5.side.gens,q5.side.tk⟩⟩
  rcases huse with⟨rfl,e6⟩|⟨u,rfl,hu⟩
  .exact close O5 s' m5 n5 v3 p5 (e6▸PC) λ_=>rfl
  .exact go_ (hu O5 s' m5 n5 v3 PC (aA.mono p5 hac)) λO6 m6 n6 w6 s6 p6 q6 _=>close O6 s6 m6 n6 .none (p5.trans p6) q6 λe=>nomatch e
 have loop:∀vi,vi=v2->codeAny c.M c.A (.compLoop (.ListComp elt [⟨.Name x px,iter,ifs,0⟩] scope pos) 0 vi v3 (c.block (dg scope F.sc) s3.heap.objs.size dl').env) (nL c.M c.A use (aG c F O ⟨S6.loc,S6.led.set (S2.led.length+1) .any⟩ (λτ v=>use=QD->rV (.ref S2.led.length) τ v)) v3 s3.heap.objs.size)
   { s3 with heap:=h',toks:=s3.toks+([]:List (Str×Value)).length }:=λvi e=>by
  subst e
  exact hloop.loop (c.block (dg scope F.sc) s3.heap.objs.size dl') hK (HB _ _) O4 _ _ _ vi v3 P4 hit hac fin
 rw[hE]
 refine codeAny_compStart_list (loop v2 rfl) (v5 P4 (so:=so) ?_ hT hit (loop v2 rfl))
 have hlt:=(P7.mp hled).1
 rw[List.getElem?_append_left hlt]
 exact hled
end
section
variable{GK:Frag->Prop}{F:Fs}
theorem ah.comp{S S1 S2 S5 S':St}{elt iter:Expr}{ifs:List Expr}{x:Str}{px pos:Pos}{scope:Scope}{a v:SV}{it n:Nat}{so acc0:SO}{cells:List (Str×Nat)}{loc:List (Str×SV)}{pk:List Nat}(hok:du scope x=QF)(hcl:d0 F.cells scope.names []=QE cells)
  (hi:ah GK F iter S S1 a)(hitr:aI GK F a S1 S2 it)(hled:S2.led[it]?=QE so)(hT:nZ so)(hacc:bE (.list []) acc0)
  (hloop:aL GK (ej F scope cells (S2.led.length+1)) it S2.led.length elt (.Name x px) ifs S5 n ⟨S2.loc,S2.led++[acc0, .vars []]⟩)
  (hov:S5.led[S2.led.length+1]?=QE (.vars loc))(hs:dR iter=QF)(hv:SV.ref S2.led.length=aU (at_ pk (S5.led.set (S2.led.length+1) .any).length) v)(hfin:et S.led.length pk ⟨S5.loc,S5.led.set (S2.led.length+1) .any⟩ S'):ah GK F (.ListComp elt [⟨.Name x px,iter,ifs,0⟩] scope pos) S S' v:=λc hK H O s m news p=>by
 rw[eval_ListComp]
 refine Qw (nD (pos:=pos) (p0:=firstIterPos [⟨.Name x px,iter,ifs,0⟩] pos) (use:=QD) hK H hok hcl hi hitr hled hT hacc hloop hov (.inl ⟨rfl,rfl⟩) (jn hs) p) (λw s' z=>?_) λ_ _ z=>z
 refine aG.el z λO1 m1 news1 pre1 p1 r1=>?_
 obtain⟨O',news',pre',p',onto⟩:=p.fin pre1 p1 hfin
 exact⟨O',m1,news',pre',p',aA.unmap onto (hv▸r1 rfl)⟩
theorem ae.comp{S S1 S2 S5 S6 S':St}{elt iter:Expr}{ifs:List Expr}{x t:Str}{px pos tp spos:Pos}{scope:Scope}{a:SV}{it n:Nat}{so acc0:SO}{cells:List (Str×Nat)}{loc:List (Str×SV)}{pk:List Nat}(hsw:mw F.sc scope t tp.line pos.line=QF)(hok:du scope x=QF)(hcl:d0 F.cells scope.names []=QE cells)
  (hi:ah GK F iter S S1 a)(hitr:aI GK F a S1 S2 it)(hled:S2.led[it]?=QE so)(hT:nZ so)(hacc:bE (.list []) acc0)
  (hloop:aL GK (ej F scope cells (S2.led.length+1)) it S2.led.length elt (.Name x px) ifs S5 n ⟨S2.loc,S2.led++[acc0, .vars []]⟩)
  (hst:aC GK F (.Name t tp) (.ref S2.led.length) S5 S6)(hov:S6.led[S2.led.length+1]?=QE (.vars loc))(hs:dR iter=QF)(hfin:et S.led.length pk ⟨S6.loc,S6.led.set (S2.led.length+1) .any⟩ S'):ae GK F (.Assign [.Name t tp] (.ListComp elt [⟨.Name x px,iter,ifs,0⟩] scope pos) spos) S S' .next:=λc hK H O s m news p=>by
 have sw:=pL (elt:=elt) (gens:=[⟨.Name x px,iter,ifs,0⟩]) (scope:=scope) (pos:=pos) (tp:=tp) (t:=t) (ln:=spos.line) H.fn
 rw[H.sc,hsw]at sw
 rw[exec_Assign_Name_used _ _ _ _ sw]
 refine Qv (QB (Qv ?_))
 show wpAny _ c.A (do let _<-comprehension (.ListComp elt [⟨.Name x px,iter,ifs,0⟩] scope pos) scope c.env _ (newList []) QG (eval iter c.env) (QE (assign (.Name t tp) c.env))) _ _ s
 refine Qv (Qw (nD (pos:=pos) (p0:=firstIterPos [⟨.Name x px,iter,ifs,0⟩] pos) (use:=QE (assign (.Name t tp) c.env)) hK H hok hcl hi hitr hled hT hacc hloop hov (.inr ⟨_,rfl,λO s m news w p r=>hst c hK H O s m news w p r⟩) (jn hs) p) (λw s' z=>Qx (Qx ?_)) λ_ _ z=>z)
 refine aG.el z λO1 m1 news1 pre1 p1 r1=>?_
 obtain⟨O',news',pre',p',onto⟩:=p.fin pre1 p1 hfin
 exact⟨O',m1,news',pre',p',rfl⟩
theorem ae.if_{test:Expr}{body orelse:List Stmt}{pos:Pos}{S S1 S':St}{b:Bool}{fl:XF}(ht:aJ GK F test S S1 b)(hy:b=QF->aa GK F body S1 S' fl)(hn:b=QG->aa GK F orelse S1 S' fl):ae GK F (.If test body orelse pos) S S' fl:=λc hK H O s m news p=>
 wpAny_If (go_ (ht c hK H O s m news p) λO1 m1 n1 v1 s1 p1 q1 r1=>by
  rw[show v1=b from r1]
  cases b with
  |true=>exact Qw (hy rfl c hK H O1 s1 m1 n1 q1) (λ_ _ z=>z.mono p1) λ_ _ z=>z
  |false=>exact Qw (hn rfl c hK H O1 s1 m1 n1 q1) (λ_ _ z=>z.mono p1) λ_ _ z=>z)
end
section
variable{GK:Frag->Prop}{F:Fs}
def bN(loc:List (Str×SV))(led:List SO)(T:String)(l i:Nat)(acc:List Str)(V:List (Str×SV)):St:=⟨loc,led++[bo T l i, .words acc, .vars V]⟩
theorem kC{loc:List (Str×SV)}{led:List SO}{T:String}{l i:Nat}{acc:List Str}{V:List (Str×SV)}:di (bN loc led T l i acc V) (bN loc led T l i acc []):=⟨rfl,(br.refl led).append (.cons (bE.refl _) (.cons (bE.refl _) (.cons (gU V) .nil)))⟩
theorem qO{loc:List (Str×SV)}{led:List SO}{T:String}{ys:List Str}{so:SO}{l:Nat}{x:Str}{px:Pos}{elt:Expr}{ifs:List Expr}{f:Str->Bool}(hS:hH ys T so)(hl:led[l]?=QE so)(hA:∀y i acc,aC GK F (.Name x px) (.str y) (bN loc led T l i acc []) (bN loc led T l i acc [(x, .str y)]))
  (hT:∀y i acc,dy GK F ifs (bN loc led T l i acc [(x, .str y)]) (bN loc led T l i acc [(x, .str y)]) (f y))(hE:∀y i acc,ah GK F elt (bN loc led T l i acc [(x, .str y)]) (bN loc led T l i acc [(x, .str y)]) (.str y))
  (hP:∀y i acc,Nat.ble acc.length 1000=QF->a9 GK F (led.length+1) (.str y) (bN loc led T l i acc [(x, .str y)]) (bN loc led T l i (acc++[y]) [(x, .str y)]))(hlen:ys.length<=1000):
  aL GK F led.length (led.length+1) elt (.Name x px) ifs ⟨loc,led++[.any, .words (ys.filter f), .vars []]⟩ (ys.length+1) (bN loc led T l 0 [] []):=by
 have key:∀k i,i+k=ys.length->∀acc,acc=(ys.take i).filter f->aL GK F led.length (led.length+1) elt (.Name x px) ifs ⟨loc,led++[.any, .words (ys.filter f), .vars []]⟩ (k+1) (bN loc led T l i acc []):=by
  have hlt:l<led.length:=(P7.mp hl).1
  have hl':∀i acc V,(bN loc led T l i acc V).led[l]?=QE so:=λi acc V=>by show(led++_)[l]?=_;rw[List.getElem?_append_left hlt];exact hl
  have hi':∀i acc V,(bN loc led T l i acc V).led[led.length]?=QE (bo T l i):=λi acc V=>by show(led++_)[led.length]?=_;simp
  intro k
  induction k with
  |zero=>
   intro i hi acc ha
   refine .done (ay.end_ hS (hl' _ _ _) (hi' _ _ _) (List.getElem?_eq_none_iff.mpr (by lia)) ?_)
   rw[ha,List.take_of_length_le (by lia)]
   simp[bN]
  |succ k ih=>
   intro i hi acc ha
   have hlt2:i<ys.length:=by lia
   have hb:acc.length<=1000:=by
    rw[ha]
    have:=List.length_filter_le f (ys.take i)
    have:=List.length_take_le' i ys
    lia
   have htake:ys.take (i+1)=ys.take i++[ys[i]]:=by rw[List.take_succ,P9 hlt2];rfl
   refine aL.step (b:=f ys[i]) (S5:=bN loc led T l (i+1) ((ys.take (i+1)).filter f) []) (ay.src hS (hl' _ _ _) (hi' _ _ _) (P9 hlt2) rfl) (S2:=bN loc led T l (i+1) acc [(x, .str ys[i])]) ?_ (hT _ _ _) (λhf=>⟨_,_,hE _ _ _,(hP _ _ _ (PU hb)).soft ?_⟩) (λhf=>?_) (ih (i+1) (by lia) _ rfl)
   .have:=hA ys[i] (i+1) acc
    have e:({ (bN loc led T l i acc [])with led:=(bN loc led T l i acc []).led.set led.length (bo T l (i+1)) }:St)=bN loc led T l (i+1) acc []:=by simp[bN]
    rw[e];exact this
   .rw[htake,List.filter_append,<-ha]
    have:[ys[i]].filter f=[ys[i]]:=by simp[hf]
    rw[this];exact kC
   .rw[htake,List.filter_append,<-ha]
    have:[ys[i]].filter f=[]:=by simp[hf]
    rw[this,List.append_nil];exact kC
 exact key ys.length 0 (by lia) [] rfl
end
section
variable{GK:Frag->Prop}{F:Fs}
theorem oK{α:Type}{it l:Nat}{T:String}{ys:List Str}{so:SO}{t:Expr}{body:List Stmt}{J:Nat->α->St}{B:Nat->α->Str->St}{E:α->St}{f:α->Str->α}{a0:α}(hS:hH ys T so)(hl:∀i a,(J i a).led[l]?=QE so)(hit:∀i a,(J i a).led[it]?=QE (bo T l i))
  (hJ:∀i a,({ (J i a)with led:=(J i a).led.set it (bo T l (i+1)) }:St)=J (i+1) a)(hE:∀i a,({ (J i a)with led:=(J i a).led.set it .any }:St)=E a)
  (hA:∀i a y,aC GK F t (.str y) (J i a) (B i a y))(hB:∀i y,ys[i]?=QE y->aa GK F body (B (i+1) ((ys.take i).foldl f a0) y) (J (i+1) (f ((ys.take i).foldl f a0) y)) .next):
  dQ GK F it t body [] (E (ys.foldl f a0)) .next (ys.length+1) (J 0 a0):=by
 have key:∀k i,i+k=ys.length->dQ GK F it t body [] (E (ys.foldl f a0)) .next (k+1) (J i ((ys.take i).foldl f a0)):=by
  intro k
  induction k with
  |zero=>
   intro i hi
   have:ys.take i=ys:=List.take_of_length_le (by lia)
   rw[this]
   exact .done (ay.end_ hS (hl _ _) (hit _ _) (List.getElem?_eq_none_iff.mpr (by lia)) (hE _ _).symm) .nil
  |succ k ih=>
   intro i hi
   have hlt:i<ys.length:=by lia
   have e:=ih (i+1) (by lia)
   have htake:ys.take (i+1)=ys.take i++[ys[i]]:=by rw[List.take_succ,P9 hlt];rfl
   rw[htake,List.foldl_append]at e
   exact .step (ay.src hS (hl _ _) (hit _ _) (P9 hlt) (hJ _ _).symm) (hA _ _ _) (hB i _ (P9 hlt)) (.inl rfl) e
 exact key ys.length 0 (by lia)
theorem aI.src{S S':St}{T:String}{ys:List Str}{so:SO}{l:Nat}(hS:hH ys T so)(hl:S.led[l]?=QE so)(e:S'=⟨S.loc,S.led++[bo T l 0]⟩):aI GK F (.ref l) S S' S.led.length:=by
 refine aI.ran (x1:=⟨⟨S.loc,S.led++[bo T l 0]⟩,[],0,[],[]⟩) (dz (dz ?_)) e.symm QI
 unfold y6 xrd
 rw[hl]
 cases hS with
 |words=>rfl
 |wtup=>rfl
theorem Cq{x:Str}{p:Pos}:∀it v,letOwnedTupleGo (.Name x p) it v=pure ():=λ_ _=>rfl
end
set_option maxHeartbeats 0
set_option Elab.async false
noncomputable abbrev pw:Program:=PySem.Challenge.pw_nb0350_01
noncomputable abbrev rwl:OpenLaw:=PySem.Challenge.rw_nb0350_01
noncomputable def jV:Pos:=⟨0,0,0,0⟩
def tS(i:Nat):Stmt:=pw.main.body.getD i (.Pass jV)
def mS(i j:Nat):Stmt:=match tS i with
 |.ClassDef _ _ _ b _ _ _ _ _ _ _=>b.getD j (.Pass jV)
 |s=>s
noncomputable def fnG(gl bl:Addr)(s:Stmt)(name qual:Str)(d kd doc pm:Value)(an:Option Addr)(cd ct:Value):FuncData:=match s with
 |.FunctionDef _ args body _ _ _ scope _ _ _=>{ name:=name,qualname:=qual,params:=args,body:= .stmts body,scope:=scope,globals:=gl,closure:=[],defaults:=d,kwdefaults:=kd,doc:=doc,pyModule:=pm,annotations:=an,code:=cd,closureTuple:=ct,builtins:=bl }
 |_=>default
noncomputable def fn(s:Stmt)(qual:Str)(d kd doc pm:Value)(an:Option Addr)(cd ct:Value):FuncData:=match s with
 |.FunctionDef name args body _ _ _ scope _ _ _=>{ name:=name,qualname:=qual,params:=args,body:= .stmts body,scope:=scope,globals:=3,closure:=[],defaults:=d,kwdefaults:=kd,doc:=doc,pyModule:=pm,annotations:=an,code:=cd,closureTuple:=ct,builtins:=0 }
 |_=>default
noncomputable def en(P:Params)(n:Str)(t:Nat)(v:Value):DictEntry:=⟨PyData.keyHash P n, .str n t,v⟩
noncomputable def hdS(x:String)(t:Nat):Value:= .str (QC x) t
noncomputable def hdI(i:Int):Value:= .int i 0
def hdE(P:Params)(n:String)(t:Nat)(v:Value):DictEntry:=en P (QC n) t v
def hdB(P:Params)(n:String)(t:Nat):DictEntry:=hdE P n t (.builtin n)
def hdR(P:Params)(n:String)(t r:Nat):DictEntry:=hdE P n t (.ref r)
def hdC(n q:String)(a:Nat)(l c d m:Int)(r:Nat)(b:Bool)(f:Int)(v1 v2 v3 v4:Value)(x:Nat):Obj:=⟨.type "code",QD, .fields #[hdS n a,hdS q (a+1),hdS "/claim/cut.py" (a+2),hdI l,hdI c,hdI d,hdI 0,hdI m, .ref r, .bool b,hdI f, .ref (r+1),v1,v2,v3,v4,hdI x,hdI l,hdS "/claim/cut.py" (x+1)],#[]⟩
def hdG(s:Stmt)(n q:String):Obj:=⟨.none,QD, .func (fnG 0 0 s (QC n) (QC q) .none .none .none .none QD .none .none),#[]⟩
def hdF(s:Stmt)(q:String)(d:Value)(m:String)(t r:Nat):Obj:=⟨.type "function",QD, .func (fn s (QC q) d .none .none (hdS m t) QD (.ref r) .none),#[]⟩
def hdT(l:List (String×Nat)):Obj:=⟨.type "tuple",QD, .seq (l.map λp=>hdS p.1 p.2).toArray 0,#[]⟩
noncomputable def uR:List Obj->List Obj×List Obj
 |[]=>([],[])
 |x::r=>(x::(uR r).2,(uR r).1)
noncomputable def ir:Nat->List Obj->BT
 |0,_=> .nil
 |n+1,l=>match l with
  |[]=> .nil
  |x::r=> .node x (ir n (uR r).1) (ir n (uR r).2)
def o1(P:Params):Obj:=⟨(.type "dict"),QD,(.dict #[hdR P "builtins" 162 4,hdR P "__main__" 163 5,hdR P "_sre" 244 12,hdR P "_collections" 292 30] 4),#[]⟩
def o2(P:Params):Obj:=⟨.none,QD,(.dict #[hdE P "\x69mport.loaded._sre" 183 (.bool QF),hdR P "class._frozen_importlib.BuiltinImporter" 185 14,hdR P "watched.\x69mport" 206 18,hdR P "class._frozen_importlib.ModuleSpec" 216 22,hdE P "sys.modules.booked-epoch" 245 (hdI 4),hdE P "\x69mport.later-laid._sre" 270 (.bool QF),hdR P "watched.library" 272 27,hdE P "watched.library-objects" 0 (.str (.mk #[12,30]) 0),hdE P "watched.library-deep._sre" 273 (.str (.mk #[4,0,0,11,4,0,0,11,4,0,0,3,4,0,0,11,8,4,100,105,99,116,2]) 0),hdE P "\x69mport.loaded._collections" 280 (.bool QF),hdE P "sys.modules.landed._collections" 294 (.bool QF),hdE P "\x69mport.later-laid._collections" 309 (.bool QF),hdE P "watched.library-deep._collections" 311 (.str (.mk #[4,0,0,29,4,0,0,29,4,0,0,3,4,0,0,29,8,4,100,105,99,116,2]) 0)] 13),#[]⟩
def o2m(P:Params):Obj:=⟨.none,QD,(.dict #[hdE P "\x69mport.loaded._sre" 183 (.bool QF),hdR P "class._frozen_importlib.BuiltinImporter" 185 14,hdR P "watched.\x69mport" 206 18,hdR P "class._frozen_importlib.ModuleSpec" 216 22,hdE P "sys.modules.booked-epoch" 245 (hdI 4),hdE P "\x69mport.later-laid._sre" 270 (.bool QF),hdR P "watched.library" 272 27,hdE P "watched.library-objects" 0 (.str (.mk #[12,30]) 0),hdE P "watched.library-deep._sre" 273 (.str (.mk #[4,0,0,11,4,0,0,11,4,0,0,3,4,0,0,11,8,4,100,105,99,116,2]) 0),hdE P "\x69mport.loaded._collections" 280 (.bool QF),hdE P "sys.modules.landed._collections" 294 (.bool QF),hdE P "\x69mport.later-laid._collections" 309 (.bool QF),hdE P "watched.library-deep._collections" 311 (.str (.mk #[4,0,0,29,4,0,0,29,4,0,0,3,4,0,0,29,8,4,100,105,99,116,2]) 0),hdE P "type.__subclasses__.OSError.0" 601 (hdI 200),hdE P "type.__subclasses__.OSError.n" 602 (hdI 1)] 15),#[]⟩
noncomputable def hdN(P:Params):List DictEntry:=[hdE P "__doc__" 166 .none,hdE P "__package__" 167 .none,hdE P "__loader__" 168 (.builtin "__main__.__loader__#opaque"),hdE P "__spec__" 169 .none,hdR P "__annotations__" 170 6,hdR P "__builtins__" 171 4,hdE P "__file__" 173 (hdS "/claim/cut.py" 172),hdE P "__cached__" 174 .none,hdR P "_sre" 275 12,hdE P "deque" 317 (.type "collections.deque"),hdR P "_wall" 330 44,hdR P "unorderable_list_difference" 342 51,hdE P "_NODE_OUT" 347 (.int (-1) 346),hdE P "_NODE_DONE" 350 (.int (-2) 349),hdR P "_NodeInfo" 387 70,hdR P "CycleError" 405 85,hdR P "TopologicalSorter" 524 167,hdR P "_twin_re_1" 564 176,hdR P "_whence" 574 183,hdR P "_index" 582 190,hdR P "UnsupportedOperation" 604 200,hdR P "IOBase" 636 220,hdR P "BufferedIOBase" 654 235,hdR P "TextIOBase" 672 247,hdR P "BytesIO" 934 477,hdR P "StringIO" 1221 724,hdR P "_kind" 1232 733,hdR P "_fspath" 1241 740,hdR P "_check_arg_types" 1251 747,hdR P "isabs" 1258 754,hdR P "join" 1269 878,hdR P "join_path" 1270 761,hdR P "dirname" 1280 768,hdR P "shlex" 1421 859,hdR P "split" 1431 871,hdR P "join_shlex" 1439 878,hdR P "_find_unsafe" 1441 879,hdR P "quote" 1448 886,hdR P "_law_needs" 1456 891,hdR P "_law_plan" 1462 896,hdR P "_law_told" 1468 901,hdR P "_law_due" 1474 906,hdR P "law" 1480 911]
noncomputable def hdD(P:Params)(n:String)(t k:Nat):Obj:=⟨.type "dict",QD, .dict (hdE P "__name__" 165 (hdS n t)::(hdN P).take k).toArray (k+1),#[]⟩
def o3k(P:Params):Obj:=⟨.type "dict",QD, .dict (hdE P "__name__" 165 (hdS "law_nb0350_01" 1449)::hdN P).toArray 44,#[]⟩
noncomputable def o4(P:Params):Obj:=⟨(.type "module"),(QE 0), .plain,#[]⟩
noncomputable def o6(P:Params):Obj:=⟨(.type "dict"),QD,(.dict #[] 0),#[]⟩
noncomputable def o7(P:Params):Obj:=⟨(.type "tuple"),QD,(.seq #[] 0),#[]⟩
noncomputable def o8(P:Params):Obj:=⟨.none,QD,(.fields #[]),#[]⟩
def o11(P:Params):Obj:=⟨(.type "dict"),QD,(.dict #[hdE P "__name__" 247 (hdS "_sre" 246),hdE P "__doc__" 248 .none,hdE P "__package__" 250 (hdS "" 249),hdR P "__loader__" 251 14,hdR P "__spec__" 252 26,hdE P "compile" 253 (.builtin "_sre.compile"),hdE P "template" 254 (.builtin "_sre.template"),hdE P "getcodesize" 255 (.builtin "_sre.getcodesize"),hdE P "ascii_iscased" 256 (.builtin "_sre.ascii_iscased"),hdE P "unicode_iscased" 257 (.builtin "_sre.unicode_iscased"),hdE P "ascii_tolower" 258 (.builtin "_sre.ascii_tolower"),hdE P "unicode_tolower" 259 (.builtin "_sre.unicode_tolower"),hdE P "MAGIC" 261 (.int 20230612 260),hdE P "CODESIZE" 263 (.int 4 262),hdE P "MAXREPEAT" 265 (.int 4294967295 264),hdE P "MAXGROUPS" 267 (.int 1073741823 266),hdE P "copyright" 269 (hdS " SRE 2.2.2 Copyright (c) 1997-2002 by Secret Labs AB " 268)] 17),#[]⟩
noncomputable def o19(P:Params):Obj:=⟨(.type "list"),QD,(.seq #[] 0),#[]⟩
def o29(P:Params):Obj:=⟨(.type "dict"),QD,(.dict #[hdE P "__name__" 296 (hdS "_collections" 295),hdE P "__doc__" 297 (.builtin "_collections.__doc__:str#opaque"),hdE P "__package__" 299 (hdS "" 298),hdR P "__loader__" 300 14,hdR P "__spec__" 301 33,hdE P "_count_elements" 302 (.builtin "_collections._count_elements"),hdE P "deque" 303 (.type "collections.deque"),hdE P "defaultdict" 304 (.type "collections.defaultdict"),hdE P "_deque_iterator" 305 (.type "collections._deque_iterator"),hdE P "_deque_reverse_iterator" 306 (.type "collections._deque_reverse_iterator"),hdE P "_tuplegetter" 307 (.type "collections._tuplegetter"),hdE P "OrderedDict" 308 (.type "collections.OrderedDict")] 12),#[]⟩
def o50(P:Params):Obj:=hdC "unorderable_list_difference" "unorderable_list_difference" 333 7 2 0 3 45 QF 318 .none (.ref 47) (.ref 48) (.ref 49) 340
def o51(P:Params):Obj:=hdF (tS 4) "unorderable_list_difference" .none "cpy313.unittest.util" 331 50
noncomputable def o53(P:Params):Obj:=⟨(.type "builtin_function_or_method"),QD,(.fields #[(.builtin "type.__prepare__"),(.type "type")]),#[]⟩
def o65(P:Params):Obj:=hdC "__init__" "_NodeInfo.__init__" 367 22 2 0 3 60 QF 318 .none (.ref 62) (.ref 63) (.ref 64) 372
def o66(P:Params):Obj:=hdF (mS 8 1) "_NodeInfo.__init__" .none "cpy313.graphlib" 343 65
def o69(P:Params):Obj:=⟨(.type "dict"),QD,(.dict #[hdE P "__module__" 358 (hdS "cpy313.graphlib" 343),hdE P "__firstlineno__" 362 (.int 19 361),hdR P "__slots__" 366 59,hdR P "__init__" 374 66,hdR P "__static_attributes__" 378 67,hdR P "node" 380 71,hdR P "npredecessors" 382 72,hdR P "successors" 384 73,hdE P "__doc__" 385 .none] 5),#[]⟩
def o70(P:Params):Obj:=⟨(.type "type"),QD,(.cls { name:=(QC "_NodeInfo"),bases:=[(.type "object")],mro:=[(.ref 70),(.type "object")],ns:=69,qualname:=(QC "_NodeInfo"),hasDict:=QG,slotNames:=[(QC "node"),(QC "npredecessors"),(QC "successors")],subclasses:=[],abstract:=QG,collection:=QD,hasDel:=QG }),#[QD,QD,QE (hdS "_NodeInfo" 351),QE (hdS "_NodeInfo" 359),QE (.builtin "object.__new__"),QE (.bool QG)]⟩
def o71(P:Params):Obj:=⟨(.type "member_descriptor"),QD,(.fields #[(hdS "node" 379),(.ref 70),(.builtin "proto.slot"),(.builtin "proto.slot#set"),(hdI 2)]),#[]⟩
def o72(P:Params):Obj:=⟨(.type "member_descriptor"),QD,(.fields #[(hdS "npredecessors" 381),(.ref 70),(.builtin "proto.slot"),(.builtin "proto.slot#set"),(hdI 1)]),#[]⟩
def o73(P:Params):Obj:=⟨(.type "member_descriptor"),QD,(.fields #[(hdS "successors" 383),(.ref 70),(.builtin "proto.slot"),(.builtin "proto.slot#set"),(hdI 0)]),#[]⟩
noncomputable def o96(P:Params):Obj:=⟨(.type "tuple"),QD,(.seq #[.none] 0),#[]⟩
def o102(P:Params):Obj:=hdC "__init__" "TopologicalSorter.__init__" 418 30 2 0 3 97 QF 318 .none (.ref 99) (.ref 100) (.ref 101) 425
def o103(P:Params):Obj:=hdF (mS 10 0) "TopologicalSorter.__init__" (.ref 96) "cpy313.graphlib" 343 102
def o109(P:Params):Obj:=hdC "_get_nodeinfo" "TopologicalSorter._get_nodeinfo" 428 39 2 0 3 104 QF 318 .none (.ref 106) (.ref 107) (.ref 108) 434
def o110(P:Params):Obj:=hdF (mS 10 1) "TopologicalSorter._get_nodeinfo" .none "cpy313.graphlib" 343 109
def o116(P:Params):Obj:=hdC "add" "TopologicalSorter.add" 437 44 2 0 7 111 QF 318 .none (.ref 113) (.ref 114) (.ref 115) 446
def o117(P:Params):Obj:=hdF (mS 10 2) "TopologicalSorter.add" .none "cpy313.graphlib" 343 116
def o121(P:Params):Obj:=hdC "prepare" "TopologicalSorter.prepare" 449 53 1 0 3 118 QF 318 .none .none .none (.ref 120) 452
def o122(P:Params):Obj:=hdF (mS 10 3) "TopologicalSorter.prepare" .none "cpy313.graphlib" 343 121
def o128(P:Params):Obj:=hdC "get_ready" "TopologicalSorter.get_ready" 455 61 1 0 3 123 QF 318 .none (.ref 125) (.ref 126) (.ref 127) 462
def o129(P:Params):Obj:=hdF (mS 10 4) "TopologicalSorter.get_ready" .none "cpy313.graphlib" 343 128
def o149(P:Params):Obj:=hdC "done" "TopologicalSorter.done" 479 80 1 0 7 144 QF 318 .none (.ref 146) (.ref 147) (.ref 148) 490
def o150(P:Params):Obj:=hdF (mS 10 7) "TopologicalSorter.done" .none "cpy313.graphlib" 343 149
def o156(P:Params):Obj:=hdC "_find_cycle" "TopologicalSorter._find_cycle" 493 103 1 0 3 151 QF 318 .none (.ref 153) (.ref 154) (.ref 155) 503
def o157(P:Params):Obj:=hdF (mS 10 8) "TopologicalSorter._find_cycle" .none "cpy313.graphlib" 343 156
def o166(P:Params):Obj:=⟨(.type "dict"),QD,(.dict #[hdE P "__module__" 413 (hdS "cpy313.graphlib" 343),hdE P "__firstlineno__" 417 (.int 28 416),hdR P "__init__" 427 103,hdR P "_get_nodeinfo" 436 110,hdR P "add" 448 117,hdR P "prepare" 454 122,hdR P "get_ready" 464 129,hdR P "is_active" 471 136,hdR P "__bool__" 478 143,hdR P "done" 492 150,hdR P "_find_cycle" 505 157,hdR P "static_order" 512 164,hdR P "__static_attributes__" 517 165,hdR P "__dict__" 519 168,hdR P "__weakref__" 521 169,hdE P "__doc__" 522 .none] 4),#[]⟩
def o167(P:Params):Obj:=⟨(.type "type"),QD,(.cls { name:=(QC "TopologicalSorter"),bases:=[(.type "object")],mro:=[(.ref 167),(.type "object")],ns:=166,qualname:=(QC "TopologicalSorter"),hasDict:=QF,slotNames:=[],subclasses:=[],abstract:=QG,collection:=QD,hasDel:=QG }),#[QD,QD,QE (hdS "TopologicalSorter" 406),QE (hdS "TopologicalSorter" 414),QE (.builtin "object.__new__"),QE (.bool QF)]⟩
def o175(P:Params):Obj:=⟨(.type "tuple"),QD,(.seq #[(hdI 14),(hdI 17),(hdI 4),(hdI 1),(hdI 1),(hdI 21),(hdI 9),(hdI 0),(hdI 604043296),(hdI 1),(hdI 0),(hdI 0),(hdI 0),(hdI 0),(hdI 0),(hdI 8),(hdI 4),(hdI 0),(hdI 13),(hdI 14),(hdI 21),(hdI 9),(hdI 0),(hdI 604043296),(hdI 1),(hdI 0),(hdI 0),(hdI 0),(hdI 0),(hdI 0),(hdI 8),(hdI 4),(hdI 0),(hdI 1)] 0),#[]⟩
def o176(P:Params):Obj:=⟨(.type "re.Pattern"),QD,(.fields #[(hdS "[^\\w@%+=:,./-]" 526),(.int 256 563),(hdI 0), .none, .none,(.ref 175),(hdI 0)]),#[]⟩
def o189(P:Params):Obj:=hdC "_index" "_index" 575 141 2 0 3 184 QF 318 .none (.ref 186) (.ref 187) (.ref 188) 580
def o190(P:Params):Obj:=hdF (tS 14) "_index" .none "io" 565 189
def o216(P:Params):Obj:=hdC "__new__" "IOBase.__new__" 619 153 1 1 15 211 QF 318 .none (.ref 213) (.ref 214) (.ref 215) 625
def o217(P:Params):Obj:=hdF (mS 16 1) "IOBase.__new__" .none "io" 565 216
def o219(P:Params):Obj:=⟨(.type "dict"),QD,(.dict #[hdE P "__module__" 612 (hdS "io" 617),hdE P "__firstlineno__" 616 (.int 150 615),hdR P "__new__" 627 221,hdR P "__static_attributes__" 628 218,hdR P "__dict__" 631 222,hdR P "__weakref__" 633 223,hdE P "__doc__" 634 .none] 4),#[]⟩
def o220(P:Params):Obj:=⟨(.type "type"),QD,(.cls { name:=(QC "IOBase"),bases:=[(.type "object")],mro:=[(.ref 220),(.type "object")],ns:=219,qualname:=(QC "IOBase"),hasDict:=QF,slotNames:=[],subclasses:=[(.ref 235),(.ref 247)],abstract:=QG,collection:=QD,hasDel:=QG }),#[QD,QD,QE (hdS "IOBase" 605),QE (hdS "IOBase" 613),QE .none,QE (.bool QF)]⟩
noncomputable def o221(P:Params):Obj:=⟨(.type "staticmethod"),QD,(.fields #[(.ref 217)]),#[]⟩
noncomputable def o226(P:Params):Obj:=⟨(.type "tuple"),QD,(.seq #[(.ref 220)] 0),#[]⟩
def o235(P:Params):Obj:=⟨(.type "type"),QD,(.cls { name:=(QC "BufferedIOBase"),bases:=[(.ref 220)],mro:=[(.ref 235),(.ref 220),(.type "object")],ns:=234,qualname:=(QC "BufferedIOBase"),hasDict:=QF,slotNames:=[],subclasses:=[],abstract:=QG,collection:=QD,hasDel:=QG }),#[QE (.ref 226),QD,QE (hdS "BufferedIOBase" 637),QE (hdS "BufferedIOBase" 645),QE .none,QE (.bool QF)]⟩
def o246(P:Params):Obj:=⟨(.type "dict"),QD,(.dict #[hdE P "__module__" 662 (hdS "io" 667),hdE P "__firstlineno__" 666 (.int 159 665),hdR P "__static_attributes__" 669 245,hdE P "__doc__" 670 .none] 2),#[]⟩
def o247(P:Params):Obj:=⟨(.type "type"),QD,(.cls { name:=(QC "TextIOBase"),bases:=[(.ref 220)],mro:=[(.ref 247),(.ref 220),(.type "object")],ns:=246,qualname:=(QC "TextIOBase"),hasDict:=QF,slotNames:=[],subclasses:=[],abstract:=QG,collection:=QD,hasDel:=QG }),#[QE (.ref 238),QD,QE (hdS "TextIOBase" 655),QE (hdS "TextIOBase" 663),QE .none,QE (.bool QF)]⟩
def o247k(P:Params):Obj:=⟨(.type "type"),QD,(.cls { name:=(QC "TextIOBase"),bases:=[(.ref 220)],mro:=[(.ref 247),(.ref 220),(.type "object")],ns:=246,qualname:=(QC "TextIOBase"),hasDict:=QF,slotNames:=[],subclasses:=[(.ref 724)],abstract:=QG,collection:=QD,hasDel:=QG }),#[QE (.ref 238),QD,QE (hdS "TextIOBase" 655),QE (hdS "TextIOBase" 663),QE .none,QE (.bool QF)]⟩
def o477(P:Params):Obj:=⟨(.type "type"),QD,(.cls { name:=(QC "BytesIO"),bases:=[(.ref 235)],mro:=[(.ref 477),(.ref 235),(.ref 220),(.type "object")],ns:=476,qualname:=(QC "BytesIO"),hasDict:=QF,slotNames:=[],subclasses:=[],abstract:=QG,collection:=QD,hasDel:=QG }),#[QE (.ref 250),QD,QE (hdS "BytesIO" 673),QE (hdS "BytesIO" 681),QE .none,QE (.bool QF)]⟩
def o487(P:Params):Obj:=⟨(.type "tuple"),QD,(.seq #[(hdS "" 949),(.str (.mk #[10]) 950)] 0),#[]⟩
def o493(P:Params):Obj:=hdC "__init__" "StringIO.__init__" 951 334 3 0 3 488 QF 318 .none (.ref 490) (.ref 491) (.ref 492) 957
def o494(P:Params):Obj:=hdF (mS 20 1) "StringIO.__init__" (.ref 487) "io" 565 493
def o500(P:Params):Obj:=hdC "__translated" "StringIO.__translated" 960 347 2 0 3 495 QF 318 .none (.ref 497) (.ref 498) (.ref 499) 966
def o501(P:Params):Obj:=hdF (mS 20 2) "StringIO.__translated" .none "io" 565 500
def o507(P:Params):Obj:=hdC "__check" "StringIO.__check" 969 355 1 0 3 502 QF 318 .none (.ref 504) (.ref 505) (.ref 506) 973
def o508(P:Params):Obj:=hdF (mS 20 3) "StringIO.__check" .none "io" 565 507
noncomputable def o663(P:Params):Obj:=⟨(.type "tuple"),QD,(.seq #[(.int (-1) 1142)] 0),#[]⟩
def o669(P:Params):Obj:=hdC "read" "StringIO.read" 1143 477 2 2 3 664 QF 318 .none (.ref 666) (.ref 667) (.ref 668) 1150
def o670(P:Params):Obj:=hdF (mS 20 25) "StringIO.read" (.ref 663) "io" 565 669
def o723(P:Params):Obj:=⟨(.type "dict"),QD,(.dict #[hdE P "__module__" 942 (hdS "_io" 947),hdE P "__firstlineno__" 946 (.int 331 945),hdR P "__init__" 959 494,hdR P "_StringIO__translated" 968 501,hdR P "_StringIO__check" 975 508,hdR P "_StringIO__check_dot" 982 515,hdR P "_StringIO__line" 997 522,hdR P "closed" 1005 530,hdR P "line_buffering" 1013 538,hdR P "newlines" 1021 546,hdR P "encoding" 1029 554,hdR P "errors" 1037 562,hdR P "close" 1044 569,hdR P "__enter__" 1051 576,hdR P "__exit__" 1059 583,hdR P "readable" 1066 590,hdR P "writable" 1073 597,hdR P "seekable" 1080 604,hdR P "isatty" 1087 611,hdR P "flush" 1094 618,hdR P "fileno" 1101 625,hdR P "detach" 1108 632,hdR P "getvalue" 1115 639,hdR P "tell" 1122 646,hdR P "seek" 1132 654,hdR P "truncate" 1140 662,hdR P "read" 1152 670,hdR P "readline" 1162 678,hdR P "readlines" 1172 686,hdR P "__iter__" 1179 693,hdR P "__next__" 1187 700,hdR P "write" 1199 707,hdR P "writelines" 1207 714,hdR P "__repr__" 1214 721,hdR P "__static_attributes__" 1218 722,hdE P "__doc__" 1219 .none] 2),#[]⟩
def o724(P:Params):Obj:=⟨(.type "type"),QD,(.cls { name:=(QC "StringIO"),bases:=[(.ref 247)],mro:=[(.ref 724),(.ref 247),(.ref 220),(.type "object")],ns:=723,qualname:=(QC "StringIO"),hasDict:=QF,slotNames:=[],subclasses:=[],abstract:=QG,collection:=QD,hasDel:=QG }),#[QE (.ref 480),QD,QE (hdS "StringIO" 935),QE (hdS "StringIO" 943),QE .none,QE (.bool QF)]⟩
noncomputable def o776(P:Params):Obj:=⟨(.type "tuple"),QD,(.seq #[.none, .none,(.bool QG),(.bool QG)] 0),#[]⟩
def o782(P:Params):Obj:=hdC "__init__" "shlex.__init__" 1295 603 5 0 3 777 QF 318 .none (.ref 779) (.ref 780) (.ref 781) 1304
def o783(P:Params):Obj:=hdF (mS 30 0) "shlex.__init__" (.ref 776) "cpy313.shlex" 1281 782
def o789(P:Params):Obj:=hdC "punctuation_chars" "shlex.punctuation_chars" 1307 644 1 0 3 784 QF 318 .none (.ref 786) (.ref 787) (.ref 788) 1311
def o790(P:Params):Obj:=hdF (mS 30 1) "shlex.punctuation_chars" .none "cpy313.shlex" 1281 789
def o791(P:Params):Obj:=⟨(.type "property"),QD,(.fields #[(.ref 790), .none, .none, .none,(hdS "punctuation_chars" 1314),(.bool QG)]),#[]⟩
def o819(P:Params):Obj:=hdC "get_token" "shlex.get_token" 1339 671 1 0 3 814 QF 318 .none (.ref 816) (.ref 817) (.ref 818) 1348
def o820(P:Params):Obj:=hdF (mS 30 5) "shlex.get_token" .none "cpy313.shlex" 1281 819
def o826(P:Params):Obj:=hdC "read_token" "shlex.read_token" 1351 698 1 0 3 821 QF 318 .none (.ref 823) (.ref 824) (.ref 825) 1359
def o827(P:Params):Obj:=hdF (mS 30 6) "shlex.read_token" .none "cpy313.shlex" 1281 826
def o848(P:Params):Obj:=hdC "__iter__" "shlex.__iter__" 1379 845 1 0 3 843 QF 318 .none (.ref 845) (.ref 846) (.ref 847) 1383
def o849(P:Params):Obj:=hdF (mS 30 9) "shlex.__iter__" .none "cpy313.shlex" 1281 848
def o855(P:Params):Obj:=hdC "__next__" "shlex.__next__" 1386 848 1 0 3 850 QF 318 .none (.ref 852) (.ref 853) (.ref 854) 1391
def o856(P:Params):Obj:=hdF (mS 30 10) "shlex.__next__" .none "cpy313.shlex" 1281 855
def o858(P:Params):Obj:=⟨(.type "dict"),QD,(.dict #[hdE P "__module__" 1290 (hdS "cpy313.shlex" 1281),hdE P "__firstlineno__" 1294 (.int 601 1293),hdR P "__init__" 1306 783,hdR P "punctuation_chars" 1314 791,hdR P "push_token" 1322 798,hdR P "push_source" 1331 806,hdR P "pop_source" 1338 813,hdR P "get_token" 1350 820,hdR P "read_token" 1361 827,hdR P "sourcehook" 1369 834,hdR P "error_leader" 1378 842,hdR P "__iter__" 1385 849,hdR P "__next__" 1393 856,hdR P "__static_attributes__" 1414 857,hdR P "__dict__" 1416 860,hdR P "__weakref__" 1418 861,hdE P "__doc__" 1419 .none] 4),#[]⟩
def o859(P:Params):Obj:=⟨(.type "type"),QD,(.cls { name:=(QC "shlex"),bases:=[(.type "object")],mro:=[(.ref 859),(.type "object")],ns:=858,qualname:=(QC "shlex"),hasDict:=QF,slotNames:=[],subclasses:=[],abstract:=QG,collection:=QD,hasDel:=QG }),#[QD,QD,QE (hdS "shlex" 1283),QE (hdS "shlex" 1291),QE (.builtin "object.__new__"),QE (.bool QF)]⟩
noncomputable def o864(P:Params):Obj:=⟨(.type "tuple"),QD,(.seq #[(.bool QG),(.bool QF)] 0),#[]⟩
def o870(P:Params):Obj:=hdC "split" "split" 1422 853 3 0 3 865 QF 318 .none (.ref 867) (.ref 868) (.ref 869) 1429
def o871(P:Params):Obj:=hdF (tS 31) "split" (.ref 864) "cpy313.shlex" 1281 870
def o877(P:Params):Obj:=hdC "join" "join" 1432 861 1 0 3 872 QF 318 .none (.ref 874) (.ref 875) (.ref 876) 1436
def o878(P:Params):Obj:=hdF (tS 32) "join" .none "cpy313.shlex" 1281 877
noncomputable def o879(P:Params):Obj:=⟨(.type "builtin_function_or_method"),QD,(.fields #[(.builtin "re.Pattern.search"),(.ref 176)]),#[]⟩
def o885(P:Params):Obj:=hdC "quote" "quote" 1442 865 1 0 3 880 QF 318 .none (.ref 882) (.ref 883) (.ref 884) 1446
def o886(P:Params):Obj:=hdF (tS 35) "quote" .none "cpy313.shlex" 1281 885
def o890(P:Params):Obj:=hdC "_law_needs" "_law_needs" 1451 872 1 0 3 887 QF 318 .none .none .none (.ref 889) 1454
def o891(P:Params):Obj:=hdF (tS 37) "_law_needs" .none "law_nb0350_01" 1449 890
def o895(P:Params):Obj:=hdC "_law_plan" "_law_plan" 1457 882 1 0 3 892 QF 318 .none .none .none (.ref 894) 1460
def o896(P:Params):Obj:=hdF (tS 38) "_law_plan" .none "law_nb0350_01" 1449 895
def o900(P:Params):Obj:=hdC "_law_told" "_law_told" 1463 885 2 0 3 897 QF 318 .none .none .none (.ref 899) 1466
def o901(P:Params):Obj:=hdF (tS 39) "_law_told" .none "law_nb0350_01" 1449 900
def o905(P:Params):Obj:=hdC "_law_due" "_law_due" 1469 899 2 0 3 902 QF 318 .none .none .none (.ref 904) 1472
def o906(P:Params):Obj:=hdF (tS 40) "_law_due" .none "law_nb0350_01" 1449 905
def o910(P:Params):Obj:=hdC "law" "law" 1475 908 1 0 3 907 QF 318 .none .none .none (.ref 909) 1478
def o911(P:Params):Obj:=hdF (tS 41) "law" .none "law_nb0350_01" 1449 910
noncomputable def hdW:List Value:=[(3,43),(7,50),(19,57),(26,81),(28,94),(136,182),(141,189),(148,196),(150,209),(157,231),(159,243),(161,255),(331,485),(537,732),(558,739),(563,746),(568,753),(571,760),(592,767),(601,774),(853,870),(861,877),(865,885),(872,890),(882,895),(885,900),(899,905),(908,910)].flatMap λ(p:Int×Nat)=>[hdI p.1,hdI 0, .ref p.2]
noncomputable def hdV(k:Nat):Obj:=⟨.none,QD, .fields (hdW.take k).toArray,#[]⟩
def hdL(P:Params):List Obj:=[⟨(.type "dict"),QD,(.dict #[hdE P "__name__" 1 (hdS "builtins" 160),hdE P "__doc__" 2 (.builtin "builtins.__doc__:str#opaque"),hdE P "__package__" 3 (.builtin "builtins.__package__:str#opaque"),hdE P "__loader__" 4 (.builtin "builtins.__loader__:shared#opaque"),hdE P "__spec__" 5 (.builtin "builtins.__spec__#opaque"),hdB P "__build_class__" 6,hdB P "__import__" 7,hdB P "abs" 8,hdB P "all" 9,hdB P "any" 10,hdB P "ascii" 11,hdB P "bin" 12,hdB P "breakpoint" 13,hdB P "callable" 14,hdB P "chr" 15,hdB P "compile" 16,hdB P "delattr" 17,hdB P "dir" 18,hdB P "divmod" 19,hdB P "eval" 20,hdB P "exec" 21,hdB P "format" 22,hdB P "getattr" 23,hdB P "globals" 24,hdB P "hasattr" 25,hdB P "hash" 26,hdB P "hex" 27,hdB P "id" 28,hdB P "input" 29,hdB P "isinstance" 30,hdB P "issubclass" 31,hdB P "iter" 32,hdB P "aiter" 33,hdB P "len" 34,hdB P "locals" 35,hdB P "max" 36,hdB P "min" 37,hdB P "next" 38,hdB P "anext" 39,hdB P "oct" 40,hdB P "ord" 41,hdB P "pow" 42,hdB P "print" 43,hdB P "repr" 44,hdB P "round" 45,hdB P "setattr" 46,hdB P "sorted" 47,hdB P "sum" 48,hdB P "vars" 49,hdE P "None" 50 .none,hdE P "Ellipsis" 51 .ellipsis,hdE P "NotImplemented" 52 .notImplemented,hdE P "False" 53 (.bool QG),hdE P "True" 54 (.bool QF),hdE P "bool" 55 (.type "bool"),hdE P "memoryview" 56 (.type "memoryview"),hdE P "bytearray" 57 (.type "bytearray"),hdE P "bytes" 58 (.type "bytes"),hdE P "classmethod" 59 (.type "classmethod"),hdE P "complex" 60 (.type "complex"),hdE P "dict" 61 (.type "dict"),hdE P "enumerate" 62 (.type "enumerate"),hdE P "filter" 63 (.type "filter"),hdE P "float" 64 (.type "float"),hdE P "frozenset" 65 (.type "frozenset"),hdE P "property" 66 (.type "property"),hdE P "int" 67 (.type "int"),hdE P "list" 68 (.type "list"),hdE P "map" 69 (.type "map"),hdE P "object" 70 (.type "object"),hdE P "range" 71 (.type "range"),hdE P "reversed" 72 (.type "reversed"),hdE P "set" 73 (.type "set"),hdE P "slice" 74 (.type "slice"),hdE P "staticmethod" 75 (.type "staticmethod"),hdE P "str" 76 (.type "str"),hdE P "super" 77 (.type "super"),hdE P "tuple" 78 (.type "tuple"),hdE P "type" 79 (.type "type"),hdE P "zip" 80 (.type "zip"),hdE P "__debug__" 81 (.bool QF),hdE P "BaseException" 82 (.type "BaseException"),hdE P "BaseExceptionGroup" 83 (.type "BaseExceptionGroup"),hdE P "Exception" 84 (.type "Exception"),hdE P "GeneratorExit" 85 (.type "GeneratorExit"),hdE P "KeyboardInterrupt" 86 (.type "KeyboardInterrupt"),hdE P "SystemExit" 87 (.type "SystemExit"),hdE P "ArithmeticError" 88 (.type "ArithmeticError"),hdE P "AssertionError" 89 (.type "AssertionError"),hdE P "AttributeError" 90 (.type "AttributeError"),hdE P "BufferError" 91 (.type "BufferError"),hdE P "EOFError" 92 (.type "EOFError"),hdE P "ImportError" 93 (.type "ImportError"),hdE P "LookupError" 94 (.type "LookupError"),hdE P "MemoryError" 95 (.type "MemoryError"),hdE P "NameError" 96 (.type "NameError"),hdE P "OSError" 97 (.type "OSError"),hdE P "ReferenceError" 98 (.type "ReferenceError"),hdE P "RuntimeError" 99 (.type "RuntimeError"),hdE P "StopAsyncIteration" 100 (.type "StopAsyncIteration"),hdE P "StopIteration" 101 (.type "StopIteration"),hdE P "SyntaxError" 102 (.type "SyntaxError"),hdE P "SystemError" 103 (.type "SystemError"),hdE P "TypeError" 104 (.type "TypeError"),hdE P "ValueError" 105 (.type "ValueError"),hdE P "Warning" 106 (.type "Warning"),hdE P "FloatingPointError" 107 (.type "FloatingPointError"),hdE P "OverflowError" 108 (.type "OverflowError"),hdE P "ZeroDivisionError" 109 (.type "ZeroDivisionError"),hdE P "BytesWarning" 110 (.type "BytesWarning"),hdE P "DeprecationWarning" 111 (.type "DeprecationWarning"),hdE P "EncodingWarning" 112 (.type "EncodingWarning"),hdE P "FutureWarning" 113 (.type "FutureWarning"),hdE P "ImportWarning" 114 (.type "ImportWarning"),hdE P "PendingDeprecationWarning" 115 (.type "PendingDeprecationWarning"),hdE P "ResourceWarning" 116 (.type "ResourceWarning"),hdE P "RuntimeWarning" 117 (.type "RuntimeWarning"),hdE P "SyntaxWarning" 118 (.type "SyntaxWarning"),hdE P "UnicodeWarning" 119 (.type "UnicodeWarning"),hdE P "UserWarning" 120 (.type "UserWarning"),hdE P "BlockingIOError" 121 (.type "BlockingIOError"),hdE P "ChildProcessError" 122 (.type "ChildProcessError"),hdE P "ConnectionError" 123 (.type "ConnectionError"),hdE P "FileExistsError" 124 (.type "FileExistsError"),hdE P "FileNotFoundError" 125 (.type "FileNotFoundError"),hdE P "InterruptedError" 126 (.type "InterruptedError"),hdE P "IsADirectoryError" 127 (.type "IsADirectoryError"),hdE P "NotADirectoryError" 128 (.type "NotADirectoryError"),hdE P "PermissionError" 129 (.type "PermissionError"),hdE P "ProcessLookupError" 130 (.type "ProcessLookupError"),hdE P "TimeoutError" 131 (.type "TimeoutError"),hdE P "IndentationError" 132 (.type "IndentationError"),hdE P "_IncompleteInputError" 133 (.type "_IncompleteInputError"),hdE P "IndexError" 134 (.type "IndexError"),hdE P "KeyError" 135 (.type "KeyError"),hdE P "ModuleNotFoundError" 136 (.type "ModuleNotFoundError"),hdE P "NotImplementedError" 137 (.type "NotImplementedError"),hdE P "PythonFinalizationError" 138 (.type "PythonFinalizationError"),hdE P "RecursionError" 139 (.type "RecursionError"),hdE P "UnboundLocalError" 140 (.type "UnboundLocalError"),hdE P "UnicodeError" 141 (.type "UnicodeError"),hdE P "BrokenPipeError" 142 (.type "BrokenPipeError"),hdE P "ConnectionAbortedError" 143 (.type "ConnectionAbortedError"),hdE P "ConnectionRefusedError" 144 (.type "ConnectionRefusedError"),hdE P "ConnectionResetError" 145 (.type "ConnectionResetError"),hdE P "TabError" 146 (.type "TabError"),hdE P "UnicodeDecodeError" 147 (.type "UnicodeDecodeError"),hdE P "UnicodeEncodeError" 148 (.type "UnicodeEncodeError"),hdE P "UnicodeTranslateError" 149 (.type "UnicodeTranslateError"),hdE P "ExceptionGroup" 150 (.type "ExceptionGroup"),hdE P "EnvironmentError" 151 (.type "OSError"),hdE P "IOError" 152 (.type "OSError"),hdB P "open" 153,hdE P "quit" 154 (.builtin "builtins.quit#opaque"),hdE P "exit" 155 (.builtin "builtins.exit#opaque"),hdE P "copyright" 156 (.builtin "builtins.copyright#opaque"),hdE P "credits" 157 (.builtin "builtins.credits#opaque"),hdE P "license" 158 (.builtin "builtins.license#opaque"),hdE P "help" 159 (.builtin "builtins.help#opaque")] 159),#[]⟩,o1 P,o2m P,o3k P,o4 P,⟨(.type "module"),(QE 3), .plain,#[]⟩,o6 P,o7 P,o8 P,hdC "<module>" "<module>" 176 1 0 0 0 7 QG 175 .none .none .none .none 179,⟨(.type "frame"),QD, .plain,#[QE (.ref 9),QE (.ref 3),QE (.ref 3),QD,QE (hdS "__main__" 164),QD,QE (.ref 0)]⟩,⟨(.type "dict"),QD,(.dict #[hdE P "__name__" 247 (hdS "_sre" 246),hdE P "__doc__" 248 .none,hdE P "__package__" 250 (hdS "" 249),hdE P "__loader__" 251 (.builtin "off-the-table:_sre.__loader__:shared#opaque"),hdE P "__spec__" 252 (.builtin "off-the-table:_sre.__spec__:shared#opaque"),hdE P "compile" 253 (.builtin "_sre.compile"),hdE P "template" 254 (.builtin "off-the-table:_sre.template:shared#opaque"),hdE P "getcodesize" 255 (.builtin "off-the-table:_sre.getcodesize:shared#opaque"),hdE P "ascii_iscased" 256 (.builtin "off-the-table:_sre.ascii_iscased:shared#opaque"),hdE P "unicode_iscased" 257 (.builtin "off-the-table:_sre.unicode_iscased:shared#opaque"),hdE P "ascii_tolower" 258 (.builtin "off-the-table:_sre.ascii_tolower:shared#opaque"),hdE P "unicode_tolower" 259 (.builtin "off-the-table:_sre.unicode_tolower:shared#opaque"),hdE P "MAGIC" 261 (.int 20230612 260),hdE P "CODESIZE" 263 (.int 4 262),hdE P "MAXREPEAT" 265 (.int 4294967295 264),hdE P "MAXGROUPS" 267 (.int 1073741823 266),hdE P "copyright" 269 (hdS " SRE 2.2.2 Copyright (c) 1997-2002 by Secret Labs AB " 268)] 17),#[]⟩,⟨(.type "module"),(QE 11), .plain,#[]⟩,⟨(.type "dict"),QD,(.dict #[hdE P "__module__" 189 (hdS "_frozen_importlib" 186),hdE P "__firstlineno__" 190 (.int 971 187),hdE P "__doc__" 191 (.builtin "_frozen_importlib.BuiltinImporter.__doc__:str#opaque"),hdE P "_ORIGIN" 192 (hdS "built-in" 188),hdE P "find_spec" 193 (.builtin "_frozen_importlib.BuiltinImporter.find_spec#opaque"),hdE P "create_module" 194 (.builtin "_frozen_importlib.BuiltinImporter.create_module#opaque"),hdE P "exec_module" 195 (.builtin "_frozen_importlib.BuiltinImporter.exec_module#opaque"),hdE P "get_code" 196 (.builtin "_frozen_importlib.BuiltinImporter.get_code#opaque"),hdE P "get_source" 197 (.builtin "_frozen_importlib.BuiltinImporter.get_source#opaque"),hdE P "is_package" 198 (.builtin "_frozen_importlib.BuiltinImporter.is_package#opaque"),hdE P "load_module" 199 (.builtin "_frozen_importlib.BuiltinImporter.load_module#opaque"),hdR P "__static_attributes__" 200 15,hdR P "__dict__" 202 16,hdR P "__weakref__" 204 17] 14),#[]⟩,⟨(.type "type"),QD,(.cls { name:=(QC "BuiltinImporter"),bases:=[(.type "object")],mro:=[(.ref 14),(.type "object")],ns:=13,qualname:=(QC "BuiltinImporter"),hasDict:=QF,slotNames:=[],subclasses:=[],abstract:=QG,collection:=QD,hasDel:=QG }),#[]⟩,o7 P,⟨(.type "getset_descriptor"),QD,(.fields #[(hdS "__dict__" 201),(.ref 14),(.builtin "function.__dict__"),(.builtin "function.__dict__#set")]),#[]⟩,⟨(.type "getset_descriptor"),QD,(.fields #[(hdS "__weakref__" 203),(.ref 14),(.builtin "ExceptionGroup.__weakref__"), .none]),#[]⟩,⟨.none,QD,(.seq #[(hdI 13),(.str (.mk #[6,189,10,95,95,109,111,100,117,108,101,95,95,6,186,17,95,102,114,111,122,101,110,95,105,109,112,111,114,116,108,105,98,6,190,15,95,95,102,105,114,115,116,108,105,110,101,110,111,95,95,4,187,0,971,6,191,7,95,95,100,111,99,95,95,9,52,95,102,114,111,122,101,110,95,105,109,112,111,114,116,108,105,98,46,66,117,105,108,116,105,110,73,109,112,111,114,116,101,114,46,95,95,100,111,99,95,95,58,115,116,114,35,111,112,97,113,117,101,6,192,7,95,79,82,73,71,73,78,6,188,8,98,117,105,108,116,45,105,110,6,193,9,102,105,110,100,95,115,112,101,99,9,50,95,102,114,111,122,101,110,95,105,109,112,111,114,116,108,105,98,46,66,117,105,108,116,105,110,73,109,112,111,114,116,101,114,46,102,105,110,100,95,115,112,101,99,35,111,112,97,113,117,101,6,194,13,99,114,101,97,116,101,95,109,111,100,117,108,101,9,54,95,102,114,111,122,101,110,95,105,109,112,111,114,116,108,105,98,46,66,117,105,108,116,105,110,73,109,112,111,114,116,101,114,46,99,114,101,97,116,101,95,109,111,100,117,108,101,35,111,112,97,113,117,101,6,195,11,101,120,101,99,95,109,111,100,117,108,101,9,52,95,102,114,111,122,101,110,95,105,109,112,111,114,116,108,105,98,46,66,117,105,108,116,105,110,73,109,112,111,114,116,101,114,46,101,120,101,99,95,109,111,100,117,108,101,35,111,112,97,113,117,101,6,196,8,103,101,116,95,99,111,100,101,9,49,95,102,114,111,122,101,110,95,105,109,112,111,114,116,108,105,98,46,66,117,105,108,116,105,110,73,109,112,111,114,116,101,114,46,103,101,116,95,99,111,100,101,35,111,112,97,113,117,101,6,197,10,103,101,116,95,115,111,117,114,99,101,9,51,95,102,114,111,122,101,110,95,105,109,112,111,114,116,108,105,98,46,66,117,105,108,116,105,110,73,109,112,111,114,116,101,114,46,103,101,116,95,115,111,117,114,99,101,35,111,112,97,113,117,101,6,198,10,105,115,95,112,97,99,107,97,103,101,9,51,95,102,114,111,122,101,110,95,105,109,112,111,114,116,108,105,98,46,66,117,105,108,116,105,110,73,109,112,111,114,116,101,114,46,105,115,95,112,97,99,107,97,103,101,35,111,112,97,113,117,101,6,199,11,108,111,97,100,95,109,111,100,117,108,101,9,52,95,102,114,111,122,101,110,95,105,109,112,111,114,116,108,105,98,46,66,117,105,108,116,105,110,73,109,112,111,114,116,101,114,46,108,111,97,100,95,109,111,100,117,108,101,35,111,112,97,113,117,101,6,200,21,95,95,115,116,97,116,105,99,95,97,116,116,114,105,98,117,116,101,115,95,95,4,0,0,15,6,202,8,95,95,100,105,99,116,95,95,4,0,0,16,6,204,11,95,95,119,101,97,107,114,101,102,95,95,4,0,0,17]) 0),(.bool QF),(.bool QF),(hdS "" 205),(hdI 21),(.str (.mk #[6,227,10,95,95,109,111,100,117,108,101,95,95,6,217,17,95,102,114,111,122,101,110,95,105,109,112,111,114,116,108,105,98,6,228,15,95,95,102,105,114,115,116,108,105,110,101,110,111,95,95,4,218,0,562,6,229,7,95,95,100,111,99,95,95,9,47,95,102,114,111,122,101,110,95,105,109,112,111,114,116,108,105,98,46,77,111,100,117,108,101,83,112,101,99,46,95,95,100,111,99,95,95,58,115,116,114,35,111,112,97,113,117,101,6,230,8,95,95,105,110,105,116,95,95,9,44,95,102,114,111,122,101,110,95,105,109,112,111,114,116,108,105,98,46,77,111,100,117,108,101,83,112,101,99,46,95,95,105,110,105,116,95,95,35,111,112,97,113,117,101,6,231,8,95,95,114,101,112,114,95,95,9,44,95,102,114,111,122,101,110,95,105,109,112,111,114,116,108,105,98,46,77,111,100,117,108,101,83,112,101,99,46,95,95,114,101,112,114,95,95,35,111,112,97,113,117,101,6,232,6,95,95,101,113,95,95,9,42,95,102,114,111,122,101,110,95,105,109,112,111,114,116,108,105,98,46,77,111,100,117,108,101,83,112,101,99,46,95,95,101,113,95,95,35,111,112,97,113,117,101,6,233,6,99,97,99,104,101,100,9,42,95,102,114,111,122,101,110,95,105,109,112,111,114,116,108,105,98,46,77,111,100,117,108,101,83,112,101,99,46,99,97,99,104,101,100,35,111,112,97,113,117,101,6,234,6,112,97,114,101,110,116,9,42,95,102,114,111,122,101,110,95,105,109,112,111,114,116,108,105,98,46,77,111,100,117,108,101,83,112,101,99,46,112,97,114,101,110,116,35,111,112,97,113,117,101,6,235,12,104,97,115,95,108,111,99,97,116,105,111,110,9,48,95,102,114,111,122,101,110,95,105,109,112,111,114,116,108,105,98,46,77,111,100,117,108,101,83,112,101,99,46,104,97,115,95,108,111,99,97,116,105,111,110,35,111,112,97,113,117,101,6,236,21,95,95,115,116,97,116,105,99,95,97,116,116,114,105,98,117,116,101,115,95,95,4,0,0,23,6,238,8,95,95,100,105,99,116,95,95,4,0,0,24,6,240,11,95,95,119,101,97,107,114,101,102,95,95,4,0,0,25,6,241,8,95,95,104,97,115,104,95,95,0]) 0),(.bool QF),(.bool QF),(hdS "" 242)] 1),#[]⟩,o19 P,⟨(.type "dict"),QD,(.dict #[hdE P "name" 208 (hdS "_sre" 207),hdR P "loader" 209 14,hdE P "origin" 210 (hdS "built-in" 184),hdE P "loader_state" 211 .none,hdE P "submodule_search_locations" 212 .none,hdR P "_uninitialized_submodules" 213 19,hdE P "_set_fileattr" 214 (.bool QG),hdE P "_cached" 215 .none,hdE P "_initializing" 243 (.bool QG)] 9),#[]⟩,⟨(.type "dict"),QD,(.dict #[hdE P "__module__" 227 (hdS "_frozen_importlib" 217),hdE P "__firstlineno__" 228 (.int 562 218),hdE P "__doc__" 229 (.builtin "_frozen_importlib.ModuleSpec.__doc__:str#opaque"),hdE P "__init__" 230 (.builtin "_frozen_importlib.ModuleSpec.__init__#opaque"),hdE P "__repr__" 231 (.builtin "_frozen_importlib.ModuleSpec.__repr__#opaque"),hdE P "__eq__" 232 (.builtin "_frozen_importlib.ModuleSpec.__eq__#opaque"),hdE P "cached" 233 (.builtin "_frozen_importlib.ModuleSpec.cached#opaque"),hdE P "parent" 234 (.builtin "_frozen_importlib.ModuleSpec.parent#opaque"),hdE P "has_location" 235 (.builtin "_frozen_importlib.ModuleSpec.has_location#opaque"),hdR P "__static_attributes__" 236 23,hdR P "__dict__" 238 24,hdR P "__weakref__" 240 25,hdE P "__hash__" 241 .none] 13),#[]⟩,⟨(.type "type"),QD,(.cls { name:=(QC "ModuleSpec"),bases:=[(.type "object")],mro:=[(.ref 22),(.type "object")],ns:=21,qualname:=(QC "ModuleSpec"),hasDict:=QF,slotNames:=[],subclasses:=[],abstract:=QG,collection:=QD,hasDel:=QG }),#[]⟩,hdT [("_cached",219),("_set_fileattr",220),("_uninitialized_submodules",221),("loader",222),("loader_state",223),("name",224),("origin",225),("submodule_search_locations",226)],⟨(.type "getset_descriptor"),QD,(.fields #[(hdS "__dict__" 237),(.ref 22),(.builtin "function.__dict__"),(.builtin "function.__dict__#set")]),#[]⟩,⟨(.type "getset_descriptor"),QD,(.fields #[(hdS "__weakref__" 239),(.ref 22),(.builtin "ExceptionGroup.__weakref__"), .none]),#[]⟩,⟨(.ref 22),(QE 20), .plain,#[]⟩,⟨.none,QD,(.seq #[(hdI 11),(.str (.mk #[6,247,8,95,95,110,97,109,101,95,95,6,246,4,95,115,114,101,6,248,7,95,95,100,111,99,95,95,0,6,250,11,95,95,112,97,99,107,97,103,101,95,95,6,249,0,6,251,10,95,95,108,111,97,100,101,114,95,95,4,0,0,14,6,252,8,95,95,115,112,101,99,95,95,4,0,0,26,6,253,7,99,111,109,112,105,108,101,9,12,95,115,114,101,46,99,111,109,112,105,108,101,6,254,8,116,101,109,112,108,97,116,101,9,13,95,115,114,101,46,116,101,109,112,108,97,116,101,6,255,11,103,101,116,99,111,100,101,115,105,122,101,9,16,95,115,114,101,46,103,101,116,99,111,100,101,115,105,122,101,6,256,13,97,115,99,105,105,95,105,115,99,97,115,101,100,9,18,95,115,114,101,46,97,115,99,105,105,95,105,115,99,97,115,101,100,6,257,15,117,110,105,99,111,100,101,95,105,115,99,97,115,101,100,9,20,95,115,114,101,46,117,110,105,99,111,100,101,95,105,115,99,97,115,101,100,6,258,13,97,115,99,105,105,95,116,111,108,111,119,101,114,9,18,95,115,114,101,46,97,115,99,105,105,95,116,111,108,111,119,101,114,6,259,15,117,110,105,99,111,100,101,95,116,111,108,111,119,101,114,9,20,95,115,114,101,46,117,110,105,99,111,100,101,95,116,111,108,111,119,101,114,6,261,5,77,65,71,73,67,4,260,0,20230612,6,263,8,67,79,68,69,83,73,90,69,4,262,0,4,6,265,9,77,65,88,82,69,80,69,65,84,4,264,0,4294967295,6,267,9,77,65,88,71,82,79,85,80,83,4,266,0,1073741823,6,269,9,99,111,112,121,114,105,103,104,116,6,268,53,32,83,82,69,32,50,46,50,46,50,32,67,111,112,121,114,105,103,104,116,32,40,99,41,32,49,57,57,55,45,50,48,48,50,32,98,121,32,83,101,99,114,101,116,32,76,97,98,115,32,65,66,32]) 0),(.bool QF),(.bool QG),(hdS "_sre" 271),(hdI 29),(.str (.mk #[6,296,8,95,95,110,97,109,101,95,95,6,295,12,95,99,111,108,108,101,99,116,105,111,110,115,6,297,7,95,95,100,111,99,95,95,9,31,95,99,111,108,108,101,99,116,105,111,110,115,46,95,95,100,111,99,95,95,58,115,116,114,35,111,112,97,113,117,101,6,299,11,95,95,112,97,99,107,97,103,101,95,95,6,298,0,6,300,10,95,95,108,111,97,100,101,114,95,95,4,0,0,14,6,301,8,95,95,115,112,101,99,95,95,4,0,0,33,6,302,15,95,99,111,117,110,116,95,101,108,101,109,101,110,116,115,9,28,95,99,111,108,108,101,99,116,105,111,110,115,46,95,99,111,117,110,116,95,101,108,101,109,101,110,116,115,6,303,5,100,101,113,117,101,8,17,99,111,108,108,101,99,116,105,111,110,115,46,100,101,113,117,101,6,304,11,100,101,102,97,117,108,116,100,105,99,116,8,23,99,111,108,108,101,99,116,105,111,110,115,46,100,101,102,97,117,108,116,100,105,99,116,6,305,15,95,100,101,113,117,101,95,105,116,101,114,97,116,111,114,8,27,99,111,108,108,101,99,116,105,111,110,115,46,95,100,101,113,117,101,95,105,116,101,114,97,116,111,114,6,306,23,95,100,101,113,117,101,95,114,101,118,101,114,115,101,95,105,116,101,114,97,116,111,114,8,35,99,111,108,108,101,99,116,105,111,110,115,46,95,100,101,113,117,101,95,114,101,118,101,114,115,101,95,105,116,101,114,97,116,111,114,6,307,12,95,116,117,112,108,101,103,101,116,116,101,114,8,24,99,111,108,108,101,99,116,105,111,110,115,46,95,116,117,112,108,101,103,101,116,116,101,114,6,308,11,79,114,100,101,114,101,100,68,105,99,116,8,23,99,111,108,108,101,99,116,105,111,110,115,46,79,114,100,101,114,101,100,68,105,99,116]) 0),(.bool QF),(.bool QG),(hdS "_collections" 310)] 1),#[]⟩,hdT [("deque",277)],⟨(.type "dict"),QD,(.dict #[hdE P "__name__" 296 (hdS "_collections" 295),hdE P "__doc__" 297 (.builtin "off-the-table:_collections.__doc__:shared#opaque"),hdE P "__package__" 299 (hdS "" 298),hdE P "__loader__" 300 (.builtin "off-the-table:_collections.__loader__:shared#opaque"),hdE P "__spec__" 301 (.builtin "off-the-table:_collections.__spec__:shared#opaque"),hdE P "_count_elements" 302 (.builtin "_collections._count_elements"),hdE P "deque" 303 (.type "collections.deque"),hdE P "defaultdict" 304 (.type "collections.defaultdict"),hdE P "_deque_iterator" 305 (.builtin "off-the-table:_collections._deque_iterator:shared#opaque"),hdE P "_deque_reverse_iterator" 306 (.builtin "off-the-table:_collections._deque_reverse_iterator:shared#opaque"),hdE P "_tuplegetter" 307 (.type "collections._tuplegetter"),hdE P "OrderedDict" 308 (.type "collections.OrderedDict")] 12),#[]⟩,⟨(.type "module"),(QE 29), .plain,#[]⟩,o19 P,⟨(.type "dict"),QD,(.dict #[hdE P "name" 283 (hdS "_collections" 282),hdR P "loader" 284 14,hdE P "origin" 285 (hdS "built-in" 281),hdE P "loader_state" 286 .none,hdE P "submodule_search_locations" 287 .none,hdR P "_uninitialized_submodules" 288 31,hdE P "_set_fileattr" 289 (.bool QG),hdE P "_cached" 290 .none,hdE P "_initializing" 291 (.bool QG)] 9),#[]⟩,⟨(.ref 22),(QE 32), .plain,#[]⟩,o7 P,⟨.none,QD,(.fields hdW.toArray),#[]⟩,hdC "<module>" "<module>" 319 1 0 0 0 34 QG 318 .none .none .none .none 322,⟨(.type "frame"),QD, .plain,#[QE (.ref 36),QE (.ref 3),QE (.ref 3),QD,QE (hdS "__main__" 164),QD,QE (.ref 0)]⟩,o7 P,o8 P,hdT [("k",327)],o7 P,hdG (tS 2) "_wall" "_wall",hdC "_wall" "_wall" 324 3 1 0 3 38 QF 318 .none (.ref 40) (.ref 41) (.ref 42) 328,hdF (tS 2) "_wall" .none "__main__" 164 43,o7 P,o8 P,hdT [("expected",336),("actual",337),("missing",338),("item",339)],o7 P,hdG (tS 4) "unorderable_list_difference" "unorderable_list_difference",o50 P,o51 P,o7 P,o53 P,⟨(.type "dict"),QD,(.dict #[hdE P "__module__" 358 (hdS "cpy313.graphlib" 343),hdE P "__qualname__" 360 (hdS "_NodeInfo" 359),hdE P "__firstlineno__" 362 (.int 19 361),hdR P "__slots__" 366 59,hdR P "__init__" 374 66,hdR P "__static_attributes__" 378 67] 6),#[]⟩,o7 P,⟨.none,QD,(.fields #[(hdI 22),(hdI 4),(.ref 65)]),#[]⟩,hdC "_NodeInfo" "_NodeInfo" 353 19 0 0 0 55 QG 318 .none .none .none .none 356,⟨(.type "frame"),QD, .plain,#[QE (.ref 57),QE (.ref 3),QE (.ref 54),QD,QE (hdS "cpy313.graphlib" 343),QD,QE (.ref 0)]⟩,hdT [("node",363),("npredecessors",364),("successors",365)],o7 P,o8 P,hdT [("self",370),("node",371)],o7 P,hdG (mS 8 1) "__init__" "_NodeInfo.__init__",o65 P,o66 P,hdT [("node",375),("npredecessors",376),("successors",377)],⟨(.type "list"),QD,(.seq #[(hdS "node" 363),(hdS "npredecessors" 364),(hdS "successors" 365)] 1),#[]⟩,o69 P,o70 P,o71 P,o72 P,o73 P,⟨(.type "super"),QD,(.fields #[(.ref 70),(.ref 70),(.ref 70)]),#[]⟩,⟨(.type "builtin_function_or_method"),QD,(.fields #[(.builtin "object.__init_subclass__"),(.ref 70)]),#[]⟩,⟨(.type "tuple"),QD,(.seq #[(.type "ValueError")] 0),#[]⟩,o53 P,⟨(.type "dict"),QD,(.dict #[hdE P "__module__" 395 (hdS "cpy313.graphlib" 343),hdE P "__qualname__" 397 (hdS "CycleError" 396),hdE P "__firstlineno__" 399 (.int 26 398),hdR P "__static_attributes__" 400 83] 4),#[]⟩,o7 P,o8 P,hdC "CycleError" "CycleError" 390 26 0 0 0 79 QG 318 .none .none .none .none 393,⟨(.type "frame"),QD, .plain,#[QE (.ref 81),QE (.ref 3),QE (.ref 78),QD,QE (hdS "cpy313.graphlib" 343),QD,QE (.ref 0)]⟩,o7 P,⟨(.type "dict"),QD,(.dict #[hdE P "__module__" 395 (hdS "cpy313.graphlib" 343),hdE P "__firstlineno__" 399 (.int 26 398),hdR P "__static_attributes__" 400 83,hdR P "__weakref__" 402 86,hdE P "__doc__" 403 .none] 3),#[]⟩,⟨(.type "type"),QD,(.cls { name:=(QC "CycleError"),bases:=[(.type "ValueError")],mro:=[(.ref 85),(.type "ValueError"),(.type "Exception"),(.type "BaseException"),(.type "object")],ns:=84,qualname:=(QC "CycleError"),hasDict:=QF,slotNames:=[],subclasses:=[],abstract:=QG,collection:=QD,hasDel:=QG }),#[QE (.ref 76),QD,QE (hdS "CycleError" 388),QE (hdS "CycleError" 396),QE (.builtin "ValueError.__new__"),QE (.bool QF)]⟩,⟨(.type "getset_descriptor"),QD,(.fields #[(hdS "__weakref__" 401),(.ref 85),(.builtin "ExceptionGroup.__weakref__"), .none]),#[]⟩,⟨(.type "super"),QD,(.fields #[(.ref 85),(.ref 85),(.ref 85)]),#[]⟩,⟨(.type "builtin_function_or_method"),QD,(.fields #[(.builtin "object.__init_subclass__"),(.ref 85)]),#[]⟩,o7 P,o53 P,⟨(.type "dict"),QD,(.dict #[hdE P "__module__" 413 (hdS "cpy313.graphlib" 343),hdE P "__qualname__" 415 (hdS "TopologicalSorter" 414),hdE P "__firstlineno__" 417 (.int 28 416),hdR P "__init__" 427 103,hdR P "_get_nodeinfo" 436 110,hdR P "add" 448 117,hdR P "prepare" 454 122,hdR P "get_ready" 464 129,hdR P "is_active" 471 136,hdR P "__bool__" 478 143,hdR P "done" 492 150,hdR P "_find_cycle" 505 157,hdR P "static_order" 512 164,hdR P "__static_attributes__" 517 165] 14),#[]⟩,o7 P,⟨.none,QD,(.fields #[(hdI 30),(hdI 4),(.ref 102),(hdI 39),(hdI 4),(.ref 109),(hdI 44),(hdI 4),(.ref 116),(hdI 53),(hdI 4),(.ref 121),(hdI 61),(hdI 4),(.ref 128),(hdI 72),(hdI 4),(.ref 135),(hdI 77),(hdI 4),(.ref 142),(hdI 80),(hdI 4),(.ref 149),(hdI 103),(hdI 4),(.ref 156),(hdI 132),(hdI 4),(.ref 163)]),#[]⟩,hdC "TopologicalSorter" "TopologicalSorter" 408 28 0 0 0 92 QG 318 .none .none .none .none 411,⟨(.type "frame"),QD, .plain,#[QE (.ref 94),QE (.ref 3),QE (.ref 91),QD,QE (hdS "cpy313.graphlib" 343),QD,QE (.ref 0)]⟩,o96 P,o7 P,o8 P,hdT [("self",421),("graph",422),("node",423),("predecessors",424)],o7 P,hdG (mS 10 0) "__init__" "TopologicalSorter.__init__",o102 P,o103 P,o7 P,o8 P,hdT [("self",431),("node",432),("result",433)],o7 P,hdG (mS 10 1) "_get_nodeinfo" "TopologicalSorter._get_nodeinfo",o109 P,o110 P,o7 P,o8 P,hdT [("self",440),("node",441),("predecessors",442),("nodeinfo",443),("pred",444),("pred_info",445)],o7 P,hdG (mS 10 2) "add" "TopologicalSorter.add",o116 P,o117 P,o7 P,o8 P,hdG (mS 10 3) "prepare" "TopologicalSorter.prepare",o121 P,o122 P,o7 P,o8 P,hdT [("self",458),("result",459),("n2i",460),("node",461)],o7 P,hdG (mS 10 4) "get_ready" "TopologicalSorter.get_ready",o128 P,o129 P,o7 P,o8 P,hdT [("self",468)],o7 P,hdG (mS 10 5) "is_active" "TopologicalSorter.is_active",hdC "is_active" "TopologicalSorter.is_active" 465 72 1 0 3 130 QF 318 .none (.ref 132) (.ref 133) (.ref 134) 469,hdF (mS 10 5) "TopologicalSorter.is_active" .none "cpy313.graphlib" 343 135,o7 P,o8 P,hdT [("self",475)],o7 P,hdG (mS 10 6) "__bool__" "TopologicalSorter.__bool__",hdC "__bool__" "TopologicalSorter.__bool__" 472 77 1 0 3 137 QF 318 .none (.ref 139) (.ref 140) (.ref 141) 476,hdF (mS 10 6) "TopologicalSorter.__bool__" .none "cpy313.graphlib" 343 142,o7 P,o8 P,hdT [("self",482),("nodes",483),("n2i",484),("node",485),("nodeinfo",486),("stat",487),("successor",488),("successor_info",489)],o7 P,hdG (mS 10 7) "done" "TopologicalSorter.done",o149 P,o150 P,o7 P,o8 P,hdT [("self",496),("n2i",497),("stack",498),("itstack",499),("seen",500),("node2stacki",501),("node",502)],o7 P,hdG (mS 10 8) "_find_cycle" "TopologicalSorter._find_cycle",o156 P,o157 P,o7 P,o8 P,hdT [("self",509)],o7 P,hdG (mS 10 9) "static_order" "TopologicalSorter.static_order",hdC "static_order" "TopologicalSorter.static_order" 506 132 1 0 3 158 QF 318 .none (.ref 160) (.ref 161) (.ref 162) 510,hdF (mS 10 9) "TopologicalSorter.static_order" .none "cpy313.graphlib" 343 163,hdT [("_nfinished",513),("_node2info",514),("_npassedout",515),("_ready_nodes",516)],o166 P,o167 P,⟨(.type "getset_descriptor"),QD,(.fields #[(hdS "__dict__" 518),(.ref 167),(.builtin "function.__dict__"),(.builtin "function.__dict__#set")]),#[]⟩,⟨(.type "getset_descriptor"),QD,(.fields #[(hdS "__weakref__" 520),(.ref 167),(.builtin "ExceptionGroup.__weakref__"), .none]),#[]⟩,⟨(.type "super"),QD,(.fields #[(.ref 167),(.ref 167),(.ref 167)]),#[]⟩,⟨(.type "builtin_function_or_method"),QD,(.fields #[(.builtin "object.__init_subclass__"),(.ref 167)]),#[]⟩,⟨(.type "list"),QD,(.seq #[(.int 14 528),(.int 17 529),(.int 4 530),(.int 1 531),(.int 1 532),(.int 21 533),(.int 9 534),(.int 0 535),(.int 604043296 536),(.int 1 537),(.int 0 538),(.int 0 539),(.int 0 540),(.int 0 541),(.int 0 542),(.int 8 543),(.int 4 544),(.int 0 545),(.int 13 546),(.int 14 547),(.int 21 548),(.int 9 549),(.int 0 550),(.int 604043296 551),(.int 1 552),(.int 0 553),(.int 0 554),(.int 0 555),(.int 0 556),(.int 0 557),(.int 8 558),(.int 4 559),(.int 0 560),(.int 1 561)] 0),#[]⟩,o6 P,o96 P,o175 P,o176 P,o7 P,o8 P,hdT [("n",570),("what",571)],o7 P,hdG (tS 13) "_whence" "_whence",hdC "_whence" "_whence" 567 136 2 0 3 177 QF 318 .none (.ref 179) (.ref 180) (.ref 181) 572,hdF (tS 13) "_whence" .none "io" 565 182,o7 P,o8 P,hdT [("n",578),("what",579)],o7 P,hdG (tS 14) "_index" "_index",o189 P,o190 P,⟨(.type "tuple"),QD,(.seq #[(.type "OSError"),(.type "ValueError")] 0),#[]⟩,o53 P,⟨(.type "dict"),QD,(.dict #[hdE P "__module__" 590 (hdS "io" 595),hdE P "__qualname__" 592 (hdS "UnsupportedOperation" 591),hdE P "__firstlineno__" 594 (.int 148 593),hdR P "__static_attributes__" 597 198] 4),#[]⟩,o7 P,o8 P,hdC "UnsupportedOperation" "UnsupportedOperation" 585 148 0 0 0 194 QG 318 .none .none .none .none 588,⟨(.type "frame"),QD, .plain,#[QE (.ref 196),QE (.ref 3),QE (.ref 193),QD,QE (hdS "io" 565),QD,QE (.ref 0)]⟩,o7 P,⟨(.type "dict"),QD,(.dict #[hdE P "__module__" 590 (hdS "io" 595),hdE P "__firstlineno__" 594 (.int 148 593),hdR P "__static_attributes__" 597 198,hdR P "__weakref__" 599 201,hdE P "__doc__" 600 .none] 3),#[]⟩,⟨(.type "type"),QD,(.cls { name:=(QC "UnsupportedOperation"),bases:=[(.type "OSError"),(.type "ValueError")],mro:=[(.ref 200),(.type "OSError"),(.type "ValueError"),(.type "Exception"),(.type "BaseException"),(.type "object")],ns:=199,qualname:=(QC "UnsupportedOperation"),hasDict:=QF,slotNames:=[],subclasses:=[],abstract:=QG,collection:=QD,hasDel:=QG }),#[QE (.ref 191),QD,QE (hdS "UnsupportedOperation" 583),QE (hdS "UnsupportedOperation" 591),QE (.builtin "OSError.__new__"),QE (.bool QF)]⟩,⟨(.type "getset_descriptor"),QD,(.fields #[(hdS "__weakref__" 598),(.ref 200),(.builtin "ExceptionGroup.__weakref__"), .none]),#[]⟩,⟨(.type "super"),QD,(.fields #[(.ref 200),(.ref 200),(.ref 200)]),#[]⟩,⟨(.type "builtin_function_or_method"),QD,(.fields #[(.builtin "object.__init_subclass__"),(.ref 200)]),#[]⟩,o7 P,o53 P,⟨(.type "dict"),QD,(.dict #[hdE P "__module__" 612 (hdS "io" 617),hdE P "__qualname__" 614 (hdS "IOBase" 613),hdE P "__firstlineno__" 616 (.int 150 615),hdR P "__new__" 627 217,hdR P "__static_attributes__" 628 218] 5),#[]⟩,o7 P,⟨.none,QD,(.fields #[(hdI 153),(hdI 4),(.ref 216)]),#[]⟩,hdC "IOBase" "IOBase" 607 150 0 0 0 207 QG 318 .none .none .none .none 610,⟨(.type "frame"),QD, .plain,#[QE (.ref 209),QE (.ref 3),QE (.ref 206),QD,QE (hdS "io" 565),QD,QE (.ref 0)]⟩,o7 P,o8 P,hdT [("cls",622),("args",623),("kwargs",624)],o7 P,hdG (mS 16 1) "__new__" "IOBase.__new__",o216 P,o217 P,o7 P,o219 P,o220 P,o221 P,⟨(.type "getset_descriptor"),QD,(.fields #[(hdS "__dict__" 630),(.ref 220),(.builtin "function.__dict__"),(.builtin "function.__dict__#set")]),#[]⟩,⟨(.type "getset_descriptor"),QD,(.fields #[(hdS "__weakref__" 632),(.ref 220),(.builtin "ExceptionGroup.__weakref__"), .none]),#[]⟩,⟨(.type "super"),QD,(.fields #[(.ref 220),(.ref 220),(.ref 220)]),#[]⟩,⟨(.type "builtin_function_or_method"),QD,(.fields #[(.builtin "object.__init_subclass__"),(.ref 220)]),#[]⟩,o226 P,o53 P,⟨(.type "dict"),QD,(.dict #[hdE P "__module__" 644 (hdS "io" 649),hdE P "__qualname__" 646 (hdS "BufferedIOBase" 645),hdE P "__firstlineno__" 648 (.int 157 647),hdR P "__static_attributes__" 651 233] 4),#[]⟩,o7 P,o8 P,hdC "BufferedIOBase" "BufferedIOBase" 639 157 0 0 0 229 QG 318 .none .none .none .none 642,⟨(.type "frame"),QD, .plain,#[QE (.ref 231),QE (.ref 3),QE (.ref 228),QD,QE (hdS "io" 565),QD,QE (.ref 0)]⟩,o7 P,⟨(.type "dict"),QD,(.dict #[hdE P "__module__" 644 (hdS "io" 649),hdE P "__firstlineno__" 648 (.int 157 647),hdR P "__static_attributes__" 651 233,hdE P "__doc__" 652 .none] 2),#[]⟩,⟨(.type "type"),QD,(.cls { name:=(QC "BufferedIOBase"),bases:=[(.ref 220)],mro:=[(.ref 235),(.ref 220),(.type "object")],ns:=234,qualname:=(QC "BufferedIOBase"),hasDict:=QF,slotNames:=[],subclasses:=[(.ref 477)],abstract:=QG,collection:=QD,hasDel:=QG }),#[QE (.ref 226),QD,QE (hdS "BufferedIOBase" 637),QE (hdS "BufferedIOBase" 645),QE .none,QE (.bool QF)]⟩,⟨(.type "super"),QD,(.fields #[(.ref 235),(.ref 235),(.ref 235)]),#[]⟩,⟨(.type "builtin_function_or_method"),QD,(.fields #[(.builtin "object.__init_subclass__"),(.ref 235)]),#[]⟩,o226 P,o53 P,⟨(.type "dict"),QD,(.dict #[hdE P "__module__" 662 (hdS "io" 667),hdE P "__qualname__" 664 (hdS "TextIOBase" 663),hdE P "__firstlineno__" 666 (.int 159 665),hdR P "__static_attributes__" 669 245] 4),#[]⟩,o7 P,o8 P,hdC "TextIOBase" "TextIOBase" 657 159 0 0 0 241 QG 318 .none .none .none .none 660,⟨(.type "frame"),QD, .plain,#[QE (.ref 243),QE (.ref 3),QE (.ref 240),QD,QE (hdS "io" 565),QD,QE (.ref 0)]⟩,o7 P,o246 P,o247k P,⟨(.type "super"),QD,(.fields #[(.ref 247),(.ref 247),(.ref 247)]),#[]⟩,⟨(.type "builtin_function_or_method"),QD,(.fields #[(.builtin "object.__init_subclass__"),(.ref 247)]),#[]⟩,⟨(.type "tuple"),QD,(.seq #[(.ref 235)] 0),#[]⟩,o53 P,⟨(.type "dict"),QD,(.dict #[hdE P "__module__" 680 (hdS "_io" 685),hdE P "__qualname__" 682 (hdS "BytesIO" 681),hdE P "__firstlineno__" 684 (.int 161 683),hdR P "__init__" 694 264,hdR P "_BytesIO__check" 701 271,hdR P "_BytesIO__line" 712 278,hdR P "closed" 720 286,hdR P "close" 727 293,hdR P "__enter__" 734 300,hdR P "__exit__" 742 307,hdR P "readable" 749 314,hdR P "writable" 756 321,hdR P "seekable" 763 328,hdR P "isatty" 770 335,hdR P "flush" 777 342,hdR P "fileno" 784 349,hdR P "detach" 791 356,hdR P "getvalue" 798 363,hdR P "getbuffer" 805 370,hdR P "tell" 812 377,hdR P "seek" 822 385,hdR P "truncate" 830 393,hdR P "read" 842 401,hdR P "read1" 852 409,hdR P "readinto" 862 416,hdR P "readinto1" 870 423,hdR P "readline" 880 431,hdR P "readlines" 888 439,hdR P "__iter__" 895 446,hdR P "__next__" 903 453,hdR P "write" 913 460,hdR P "writelines" 921 467,hdR P "__repr__" 928 474,hdR P "__static_attributes__" 931 475] 34),#[]⟩,o7 P,⟨.none,QD,(.fields #[(hdI 164),(hdI 4),(.ref 263),(hdI 170),(hdI 4),(.ref 270),(hdI 174),(hdI 4),(.ref 277),(hdI 188),(hdI 4),(.ref 284),(hdI 191),(hdI 4),(.ref 292),(hdI 194),(hdI 4),(.ref 299),(hdI 198),(hdI 4),(.ref 306),(hdI 201),(hdI 4),(.ref 313),(hdI 205),(hdI 4),(.ref 320),(hdI 209),(hdI 4),(.ref 327),(hdI 213),(hdI 4),(.ref 334),(hdI 217),(hdI 4),(.ref 341),(hdI 220),(hdI 4),(.ref 348),(hdI 223),(hdI 4),(.ref 355),(hdI 226),(hdI 4),(.ref 362),(hdI 229),(hdI 4),(.ref 369),(hdI 232),(hdI 4),(.ref 376),(hdI 236),(hdI 4),(.ref 384),(hdI 253),(hdI 4),(.ref 392),(hdI 256),(hdI 4),(.ref 400),(hdI 270),(hdI 4),(.ref 408),(hdI 273),(hdI 4),(.ref 415),(hdI 287),(hdI 4),(.ref 422),(hdI 290),(hdI 4),(.ref 430),(hdI 297),(hdI 4),(.ref 438),(hdI 300),(hdI 4),(.ref 445),(hdI 303),(hdI 4),(.ref 452),(hdI 310),(hdI 4),(.ref 459),(hdI 326),(hdI 4),(.ref 466),(hdI 329),(hdI 4),(.ref 473)]),#[]⟩,hdC "BytesIO" "BytesIO" 675 161 0 0 0 253 QG 318 .none .none .none .none 678,⟨(.type "frame"),QD, .plain,#[QE (.ref 255),QE (.ref 3),QE (.ref 252),QD,QE (hdS "io" 565),QD,QE (.ref 0)]⟩,o96 P,o7 P,o8 P,hdT [("self",690),("initial_bytes",691)],o7 P,hdG (mS 19 1) "__init__" "BytesIO.__init__",hdC "__init__" "BytesIO.__init__" 687 164 2 0 3 258 QF 318 .none (.ref 260) (.ref 261) (.ref 262) 692,hdF (mS 19 1) "BytesIO.__init__" (.ref 257) "io" 565 263,o7 P,o8 P,hdT [("self",698)],o7 P,hdG (mS 19 2) "__check" "BytesIO.__check",hdC "__check" "BytesIO.__check" 695 170 1 0 3 265 QF 318 .none (.ref 267) (.ref 268) (.ref 269) 699,hdF (mS 19 2) "BytesIO.__check" .none "io" 565 270,o7 P,o8 P,hdT [("self",705),("limit",706),("start",707),("stop",708),("i",709)],o7 P,hdG (mS 19 3) "__line" "BytesIO.__line",hdC "__line" "BytesIO.__line" 702 174 2 0 3 272 QF 318 .none (.ref 274) (.ref 275) (.ref 276) 710,hdF (mS 19 3) "BytesIO.__line" .none "io" 565 277,o7 P,o8 P,hdT [("self",716)],o7 P,hdG (mS 19 4) "closed" "BytesIO.closed",hdC "closed" "BytesIO.closed" 713 187 1 0 3 279 QF 318 .none (.ref 281) (.ref 282) (.ref 283) 717,hdF (mS 19 4) "BytesIO.closed" .none "io" 565 284,⟨(.type "property"),QD,(.fields #[(.ref 285), .none, .none, .none,(hdS "closed" 720),(.bool QG)]),#[]⟩,o7 P,o8 P,hdT [("self",724)],o7 P,hdG (mS 19 5) "close" "BytesIO.close",hdC "close" "BytesIO.close" 721 191 1 0 3 287 QF 318 .none (.ref 289) (.ref 290) (.ref 291) 725,hdF (mS 19 5) "BytesIO.close" .none "io" 565 292,o7 P,o8 P,hdT [("self",731)],o7 P,hdG (mS 19 6) "__enter__" "BytesIO.__enter__",hdC "__enter__" "BytesIO.__enter__" 728 194 1 0 3 294 QF 318 .none (.ref 296) (.ref 297) (.ref 298) 732,hdF (mS 19 6) "BytesIO.__enter__" .none "io" 565 299,o7 P,o8 P,hdT [("self",738),("args",739)],o7 P,hdG (mS 19 7) "__exit__" "BytesIO.__exit__",hdC "__exit__" "BytesIO.__exit__" 735 198 1 0 7 301 QF 318 .none (.ref 303) (.ref 304) (.ref 305) 740,hdF (mS 19 7) "BytesIO.__exit__" .none "io" 565 306,o7 P,o8 P,hdT [("self",746)],o7 P,hdG (mS 19 8) "readable" "BytesIO.readable",hdC "readable" "BytesIO.readable" 743 201 1 0 3 308 QF 318 .none (.ref 310) (.ref 311) (.ref 312) 747,hdF (mS 19 8) "BytesIO.readable" .none "io" 565 313,o7 P,o8 P,hdT [("self",753)],o7 P,hdG (mS 19 9) "writable" "BytesIO.writable",hdC "writable" "BytesIO.writable" 750 205 1 0 3 315 QF 318 .none (.ref 317) (.ref 318) (.ref 319) 754,hdF (mS 19 9) "BytesIO.writable" .none "io" 565 320,o7 P,o8 P,hdT [("self",760)],o7 P,hdG (mS 19 10) "seekable" "BytesIO.seekable",hdC "seekable" "BytesIO.seekable" 757 209 1 0 3 322 QF 318 .none (.ref 324) (.ref 325) (.ref 326) 761,hdF (mS 19 10) "BytesIO.seekable" .none "io" 565 327,o7 P,o8 P,hdT [("self",767)],o7 P,hdG (mS 19 11) "isatty" "BytesIO.isatty",hdC "isatty" "BytesIO.isatty" 764 213 1 0 3 329 QF 318 .none (.ref 331) (.ref 332) (.ref 333) 768,hdF (mS 19 11) "BytesIO.isatty" .none "io" 565 334,o7 P,o8 P,hdT [("self",774)],o7 P,hdG (mS 19 12) "flush" "BytesIO.flush",hdC "flush" "BytesIO.flush" 771 217 1 0 3 336 QF 318 .none (.ref 338) (.ref 339) (.ref 340) 775,hdF (mS 19 12) "BytesIO.flush" .none "io" 565 341,o7 P,o8 P,hdT [("self",781)],o7 P,hdG (mS 19 13) "fileno" "BytesIO.fileno",hdC "fileno" "BytesIO.fileno" 778 220 1 0 3 343 QF 318 .none (.ref 345) (.ref 346) (.ref 347) 782,hdF (mS 19 13) "BytesIO.fileno" .none "io" 565 348,o7 P,o8 P,hdT [("self",788)],o7 P,hdG (mS 19 14) "detach" "BytesIO.detach",hdC "detach" "BytesIO.detach" 785 223 1 0 3 350 QF 318 .none (.ref 352) (.ref 353) (.ref 354) 789,hdF (mS 19 14) "BytesIO.detach" .none "io" 565 355,o7 P,o8 P,hdT [("self",795)],o7 P,hdG (mS 19 15) "getvalue" "BytesIO.getvalue",hdC "getvalue" "BytesIO.getvalue" 792 226 1 0 3 357 QF 318 .none (.ref 359) (.ref 360) (.ref 361) 796,hdF (mS 19 15) "BytesIO.getvalue" .none "io" 565 362,o7 P,o8 P,hdT [("self",802)],o7 P,hdG (mS 19 16) "getbuffer" "BytesIO.getbuffer",hdC "getbuffer" "BytesIO.getbuffer" 799 229 1 0 3 364 QF 318 .none (.ref 366) (.ref 367) (.ref 368) 803,hdF (mS 19 16) "BytesIO.getbuffer" .none "io" 565 369,o7 P,o8 P,hdT [("self",809)],o7 P,hdG (mS 19 17) "tell" "BytesIO.tell",hdC "tell" "BytesIO.tell" 806 232 1 0 3 371 QF 318 .none (.ref 373) (.ref 374) (.ref 375) 810,hdF (mS 19 17) "BytesIO.tell" .none "io" 565 376,⟨(.type "tuple"),QD,(.seq #[(.int 0 813)] 0),#[]⟩,o7 P,o8 P,hdT [("self",817),("pos",818),("whence",819)],o7 P,hdG (mS 19 18) "seek" "BytesIO.seek",hdC "seek" "BytesIO.seek" 814 236 3 3 3 379 QF 318 .none (.ref 381) (.ref 382) (.ref 383) 820,hdF (mS 19 18) "BytesIO.seek" (.ref 378) "io" 565 384,o96 P,o7 P,o8 P,hdT [("self",826),("size",827)],o7 P,hdG (mS 19 19) "truncate" "BytesIO.truncate",hdC "truncate" "BytesIO.truncate" 823 253 2 2 3 387 QF 318 .none (.ref 389) (.ref 390) (.ref 391) 828,hdF (mS 19 19) "BytesIO.truncate" (.ref 386) "io" 565 392,⟨(.type "tuple"),QD,(.seq #[(.int (-1) 832)] 0),#[]⟩,o7 P,o8 P,hdT [("self",836),("size",837),("start",838),("stop",839)],o7 P,hdG (mS 19 20) "read" "BytesIO.read",hdC "read" "BytesIO.read" 833 256 2 2 3 395 QF 318 .none (.ref 397) (.ref 398) (.ref 399) 840,hdF (mS 19 20) "BytesIO.read" (.ref 394) "io" 565 400,⟨(.type "tuple"),QD,(.seq #[(.int (-1) 844)] 0),#[]⟩,o7 P,o8 P,hdT [("self",848),("size",849)],o7 P,hdG (mS 19 21) "read1" "BytesIO.read1",hdC "read1" "BytesIO.read1" 845 270 2 2 3 403 QF 318 .none (.ref 405) (.ref 406) (.ref 407) 850,hdF (mS 19 21) "BytesIO.read1" (.ref 402) "io" 565 408,o7 P,o8 P,hdT [("self",856),("buffer",857),("start",858),("n",859)],o7 P,hdG (mS 19 22) "readinto" "BytesIO.readinto",hdC "readinto" "BytesIO.readinto" 853 273 2 2 3 410 QF 318 .none (.ref 412) (.ref 413) (.ref 414) 860,hdF (mS 19 22) "BytesIO.readinto" .none "io" 565 415,o7 P,o8 P,hdT [("self",866),("buffer",867)],o7 P,hdG (mS 19 23) "readinto1" "BytesIO.readinto1",hdC "readinto1" "BytesIO.readinto1" 863 287 2 2 3 417 QF 318 .none (.ref 419) (.ref 420) (.ref 421) 868,hdF (mS 19 23) "BytesIO.readinto1" .none "io" 565 422,⟨(.type "tuple"),QD,(.seq #[(.int (-1) 872)] 0),#[]⟩,o7 P,o8 P,hdT [("self",876),("size",877)],o7 P,hdG (mS 19 24) "readline" "BytesIO.readline",hdC "readline" "BytesIO.readline" 873 290 2 2 3 425 QF 318 .none (.ref 427) (.ref 428) (.ref 429) 878,hdF (mS 19 24) "BytesIO.readline" (.ref 424) "io" 565 430,o96 P,o7 P,o8 P,hdT [("self",884),("size",885)],o7 P,hdG (mS 19 25) "readlines" "BytesIO.readlines",hdC "readlines" "BytesIO.readlines" 881 297 2 2 3 433 QF 318 .none (.ref 435) (.ref 436) (.ref 437) 886,hdF (mS 19 25) "BytesIO.readlines" (.ref 432) "io" 565 438,o7 P,o8 P,hdT [("self",892)],o7 P,hdG (mS 19 26) "__iter__" "BytesIO.__iter__",hdC "__iter__" "BytesIO.__iter__" 889 300 1 0 3 440 QF 318 .none (.ref 442) (.ref 443) (.ref 444) 893,hdF (mS 19 26) "BytesIO.__iter__" .none "io" 565 445,o7 P,o8 P,hdT [("self",899),("line",900)],o7 P,hdG (mS 19 27) "__next__" "BytesIO.__next__",hdC "__next__" "BytesIO.__next__" 896 303 1 0 3 447 QF 318 .none (.ref 449) (.ref 450) (.ref 451) 901,hdF (mS 19 27) "BytesIO.__next__" .none "io" 565 452,o7 P,o8 P,hdT [("self",907),("b",908),("n",909),("start",910)],o7 P,hdG (mS 19 28) "write" "BytesIO.write",hdC "write" "BytesIO.write" 904 310 2 2 3 454 QF 318 .none (.ref 456) (.ref 457) (.ref 458) 911,hdF (mS 19 28) "BytesIO.write" .none "io" 565 459,o7 P,o8 P,hdT [("self",917),("lines",918)],o7 P,hdG (mS 19 29) "writelines" "BytesIO.writelines",hdC "writelines" "BytesIO.writelines" 914 326 2 2 3 461 QF 318 .none (.ref 463) (.ref 464) (.ref 465) 919,hdF (mS 19 29) "BytesIO.writelines" .none "io" 565 466,o7 P,o8 P,hdT [("self",925)],o7 P,hdG (mS 19 30) "__repr__" "BytesIO.__repr__",hdC "__repr__" "BytesIO.__repr__" 922 329 1 0 3 468 QF 318 .none (.ref 470) (.ref 471) (.ref 472) 926,hdF (mS 19 30) "BytesIO.__repr__" .none "io" 565 473,hdT [("__buf",929),("__pos",930)],⟨(.type "dict"),QD,(.dict #[hdE P "__module__" 680 (hdS "_io" 685),hdE P "__firstlineno__" 684 (.int 161 683),hdR P "__init__" 694 264,hdR P "_BytesIO__check" 701 271,hdR P "_BytesIO__line" 712 278,hdR P "closed" 720 286,hdR P "close" 727 293,hdR P "__enter__" 734 300,hdR P "__exit__" 742 307,hdR P "readable" 749 314,hdR P "writable" 756 321,hdR P "seekable" 763 328,hdR P "isatty" 770 335,hdR P "flush" 777 342,hdR P "fileno" 784 349,hdR P "detach" 791 356,hdR P "getvalue" 798 363,hdR P "getbuffer" 805 370,hdR P "tell" 812 377,hdR P "seek" 822 385,hdR P "truncate" 830 393,hdR P "read" 842 401,hdR P "read1" 852 409,hdR P "readinto" 862 416,hdR P "readinto1" 870 423,hdR P "readline" 880 431,hdR P "readlines" 888 439,hdR P "__iter__" 895 446,hdR P "__next__" 903 453,hdR P "write" 913 460,hdR P "writelines" 921 467,hdR P "__repr__" 928 474,hdR P "__static_attributes__" 931 475,hdE P "__doc__" 932 .none] 2),#[]⟩,o477 P,⟨(.type "super"),QD,(.fields #[(.ref 477),(.ref 477),(.ref 477)]),#[]⟩,⟨(.type "builtin_function_or_method"),QD,(.fields #[(.builtin "object.__init_subclass__"),(.ref 477)]),#[]⟩,⟨(.type "tuple"),QD,(.seq #[(.ref 247)] 0),#[]⟩,o53 P,⟨(.type "dict"),QD,(.dict #[hdE P "__module__" 942 (hdS "_io" 947),hdE P "__qualname__" 944 (hdS "StringIO" 943),hdE P "__firstlineno__" 946 (.int 331 945),hdR P "__init__" 959 494,hdR P "_StringIO__translated" 968 501,hdR P "_StringIO__check" 975 508,hdR P "_StringIO__check_dot" 982 515,hdR P "_StringIO__line" 997 522,hdR P "closed" 1005 530,hdR P "line_buffering" 1013 538,hdR P "newlines" 1021 546,hdR P "encoding" 1029 554,hdR P "errors" 1037 562,hdR P "close" 1044 569,hdR P "__enter__" 1051 576,hdR P "__exit__" 1059 583,hdR P "readable" 1066 590,hdR P "writable" 1073 597,hdR P "seekable" 1080 604,hdR P "isatty" 1087 611,hdR P "flush" 1094 618,hdR P "fileno" 1101 625,hdR P "detach" 1108 632,hdR P "getvalue" 1115 639,hdR P "tell" 1122 646,hdR P "seek" 1132 654,hdR P "truncate" 1140 662,hdR P "read" 1152 670,hdR P "readline" 1162 678,hdR P "readlines" 1172 686,hdR P "__iter__" 1179 693,hdR P "__next__" 1187 700,hdR P "write" 1199 707,hdR P "writelines" 1207 714,hdR P "__repr__" 1214 721,hdR P "__static_attributes__" 1218 722] 36),#[]⟩,o7 P,⟨.none,QD,(.fields #[(hdI 334),(hdI 4),(.ref 493),(hdI 347),(hdI 4),(.ref 500),(hdI 355),(hdI 4),(.ref 507),(hdI 359),(hdI 4),(.ref 514),(hdI 363),(hdI 4),(.ref 521),(hdI 396),(hdI 4),(.ref 528),(hdI 400),(hdI 4),(.ref 536),(hdI 404),(hdI 4),(.ref 544),(hdI 408),(hdI 4),(.ref 552),(hdI 412),(hdI 4),(.ref 560),(hdI 415),(hdI 4),(.ref 568),(hdI 418),(hdI 4),(.ref 575),(hdI 422),(hdI 4),(.ref 582),(hdI 425),(hdI 4),(.ref 589),(hdI 429),(hdI 4),(.ref 596),(hdI 433),(hdI 4),(.ref 603),(hdI 437),(hdI 4),(.ref 610),(hdI 441),(hdI 4),(.ref 617),(hdI 444),(hdI 4),(.ref 624),(hdI 447),(hdI 4),(.ref 631),(hdI 450),(hdI 4),(.ref 638),(hdI 453),(hdI 4),(.ref 645),(hdI 457),(hdI 4),(.ref 653),(hdI 474),(hdI 4),(.ref 661),(hdI 477),(hdI 4),(.ref 669),(hdI 491),(hdI 4),(.ref 677),(hdI 498),(hdI 4),(.ref 685),(hdI 501),(hdI 4),(.ref 692),(hdI 505),(hdI 4),(.ref 699),(hdI 512),(hdI 4),(.ref 706),(hdI 531),(hdI 4),(.ref 713),(hdI 534),(hdI 4),(.ref 720)]),#[]⟩,hdC "StringIO" "StringIO" 937 331 0 0 0 483 QG 318 .none .none .none .none 940,⟨(.type "frame"),QD, .plain,#[QE (.ref 485),QE (.ref 3),QE (.ref 482),QD,QE (hdS "io" 565),QD,QE (.ref 0)]⟩,o487 P,o7 P,o8 P,hdT [("self",954),("initial_value",955),("newline",956)],o7 P,hdG (mS 20 1) "__init__" "StringIO.__init__",o493 P,o494 P,o7 P,o8 P,hdT [("self",963),("s",964),("newline",965)],o7 P,hdG (mS 20 2) "__translated" "StringIO.__translated",o500 P,o501 P,o7 P,o8 P,hdT [("self",972)],o7 P,hdG (mS 20 3) "__check" "StringIO.__check",o507 P,o508 P,o7 P,o8 P,hdT [("self",979)],o7 P,hdG (mS 20 4) "__check_dot" "StringIO.__check_dot",hdC "__check_dot" "StringIO.__check_dot" 976 359 1 0 3 509 QF 318 .none (.ref 511) (.ref 512) (.ref 513) 980,hdF (mS 20 4) "StringIO.__check_dot" .none "io" 565 514,o7 P,o8 P,hdT [("self",986),("limit",987),("start",988),("stop",989),("cut",990),("newline",991),("i",992),("j",993),("end",994)],o7 P,hdG (mS 20 5) "__line" "StringIO.__line",hdC "__line" "StringIO.__line" 983 363 2 0 3 516 QF 318 .none (.ref 518) (.ref 519) (.ref 520) 995,hdF (mS 20 5) "StringIO.__line" .none "io" 565 521,o7 P,o8 P,hdT [("self",1001)],o7 P,hdG (mS 20 6) "closed" "StringIO.closed",hdC "closed" "StringIO.closed" 998 395 1 0 3 523 QF 318 .none (.ref 525) (.ref 526) (.ref 527) 1002,hdF (mS 20 6) "StringIO.closed" .none "io" 565 528,⟨(.type "property"),QD,(.fields #[(.ref 529), .none, .none, .none,(hdS "closed" 1005),(.bool QG)]),#[]⟩,o7 P,o8 P,hdT [("self",1009)],o7 P,hdG (mS 20 7) "line_buffering" "StringIO.line_buffering",hdC "line_buffering" "StringIO.line_buffering" 1006 399 1 0 3 531 QF 318 .none (.ref 533) (.ref 534) (.ref 535) 1010,hdF (mS 20 7) "StringIO.line_buffering" .none "io" 565 536,⟨(.type "property"),QD,(.fields #[(.ref 537), .none, .none, .none,(hdS "line_buffering" 1013),(.bool QG)]),#[]⟩,o7 P,o8 P,hdT [("self",1017)],o7 P,hdG (mS 20 8) "newlines" "StringIO.newlines",hdC "newlines" "StringIO.newlines" 1014 403 1 0 3 539 QF 318 .none (.ref 541) (.ref 542) (.ref 543) 1018,hdF (mS 20 8) "StringIO.newlines" .none "io" 565 544,⟨(.type "property"),QD,(.fields #[(.ref 545), .none, .none, .none,(hdS "newlines" 1021),(.bool QG)]),#[]⟩,o7 P,o8 P,hdT [("self",1025)],o7 P,hdG (mS 20 9) "encoding" "StringIO.encoding",hdC "encoding" "StringIO.encoding" 1022 407 1 0 3 547 QF 318 .none (.ref 549) (.ref 550) (.ref 551) 1026,hdF (mS 20 9) "StringIO.encoding" .none "io" 565 552,⟨(.type "property"),QD,(.fields #[(.ref 553), .none, .none, .none,(hdS "encoding" 1029),(.bool QG)]),#[]⟩,o7 P,o8 P,hdT [("self",1033)],o7 P,hdG (mS 20 10) "errors" "StringIO.errors",hdC "errors" "StringIO.errors" 1030 411 1 0 3 555 QF 318 .none (.ref 557) (.ref 558) (.ref 559) 1034,hdF (mS 20 10) "StringIO.errors" .none "io" 565 560,⟨(.type "property"),QD,(.fields #[(.ref 561), .none, .none, .none,(hdS "errors" 1037),(.bool QG)]),#[]⟩,o7 P,o8 P,hdT [("self",1041)],o7 P,hdG (mS 20 11) "close" "StringIO.close",hdC "close" "StringIO.close" 1038 415 1 0 3 563 QF 318 .none (.ref 565) (.ref 566) (.ref 567) 1042,hdF (mS 20 11) "StringIO.close" .none "io" 565 568,o7 P,o8 P,hdT [("self",1048)],o7 P,hdG (mS 20 12) "__enter__" "StringIO.__enter__",hdC "__enter__" "StringIO.__enter__" 1045 418 1 0 3 570 QF 318 .none (.ref 572) (.ref 573) (.ref 574) 1049,hdF (mS 20 12) "StringIO.__enter__" .none "io" 565 575,o7 P,o8 P,hdT [("self",1055),("args",1056)],o7 P,hdG (mS 20 13) "__exit__" "StringIO.__exit__",hdC "__exit__" "StringIO.__exit__" 1052 422 1 0 7 577 QF 318 .none (.ref 579) (.ref 580) (.ref 581) 1057,hdF (mS 20 13) "StringIO.__exit__" .none "io" 565 582,o7 P,o8 P,hdT [("self",1063)],o7 P,hdG (mS 20 14) "readable" "StringIO.readable",hdC "readable" "StringIO.readable" 1060 425 1 0 3 584 QF 318 .none (.ref 586) (.ref 587) (.ref 588) 1064,hdF (mS 20 14) "StringIO.readable" .none "io" 565 589,o7 P,o8 P,hdT [("self",1070)],o7 P,hdG (mS 20 15) "writable" "StringIO.writable",hdC "writable" "StringIO.writable" 1067 429 1 0 3 591 QF 318 .none (.ref 593) (.ref 594) (.ref 595) 1071,hdF (mS 20 15) "StringIO.writable" .none "io" 565 596,o7 P,o8 P,hdT [("self",1077)],o7 P,hdG (mS 20 16) "seekable" "StringIO.seekable",hdC "seekable" "StringIO.seekable" 1074 433 1 0 3 598 QF 318 .none (.ref 600) (.ref 601) (.ref 602) 1078,hdF (mS 20 16) "StringIO.seekable" .none "io" 565 603,o7 P,o8 P,hdT [("self",1084)],o7 P,hdG (mS 20 17) "isatty" "StringIO.isatty",hdC "isatty" "StringIO.isatty" 1081 437 1 0 3 605 QF 318 .none (.ref 607) (.ref 608) (.ref 609) 1085,hdF (mS 20 17) "StringIO.isatty" .none "io" 565 610,o7 P,o8 P,hdT [("self",1091)],o7 P,hdG (mS 20 18) "flush" "StringIO.flush",hdC "flush" "StringIO.flush" 1088 441 1 0 3 612 QF 318 .none (.ref 614) (.ref 615) (.ref 616) 1092,hdF (mS 20 18) "StringIO.flush" .none "io" 565 617,o7 P,o8 P,hdT [("self",1098)],o7 P,hdG (mS 20 19) "fileno" "StringIO.fileno",hdC "fileno" "StringIO.fileno" 1095 444 1 0 3 619 QF 318 .none (.ref 621) (.ref 622) (.ref 623) 1099,hdF (mS 20 19) "StringIO.fileno" .none "io" 565 624,o7 P,o8 P,hdT [("self",1105)],o7 P,hdG (mS 20 20) "detach" "StringIO.detach",hdC "detach" "StringIO.detach" 1102 447 1 0 3 626 QF 318 .none (.ref 628) (.ref 629) (.ref 630) 1106,hdF (mS 20 20) "StringIO.detach" .none "io" 565 631,o7 P,o8 P,hdT [("self",1112)],o7 P,hdG (mS 20 21) "getvalue" "StringIO.getvalue",hdC "getvalue" "StringIO.getvalue" 1109 450 1 0 3 633 QF 318 .none (.ref 635) (.ref 636) (.ref 637) 1113,hdF (mS 20 21) "StringIO.getvalue" .none "io" 565 638,o7 P,o8 P,hdT [("self",1119)],o7 P,hdG (mS 20 22) "tell" "StringIO.tell",hdC "tell" "StringIO.tell" 1116 453 1 0 3 640 QF 318 .none (.ref 642) (.ref 643) (.ref 644) 1120,hdF (mS 20 22) "StringIO.tell" .none "io" 565 645,⟨(.type "tuple"),QD,(.seq #[(.int 0 1123)] 0),#[]⟩,o7 P,o8 P,hdT [("self",1127),("pos",1128),("whence",1129)],o7 P,hdG (mS 20 23) "seek" "StringIO.seek",hdC "seek" "StringIO.seek" 1124 457 3 3 3 648 QF 318 .none (.ref 650) (.ref 651) (.ref 652) 1130,hdF (mS 20 23) "StringIO.seek" (.ref 647) "io" 565 653,o96 P,o7 P,o8 P,hdT [("self",1136),("pos",1137)],o7 P,hdG (mS 20 24) "truncate" "StringIO.truncate",hdC "truncate" "StringIO.truncate" 1133 474 2 2 3 656 QF 318 .none (.ref 658) (.ref 659) (.ref 660) 1138,hdF (mS 20 24) "StringIO.truncate" (.ref 655) "io" 565 661,o663 P,o7 P,o8 P,hdT [("self",1146),("size",1147),("start",1148),("stop",1149)],o7 P,hdG (mS 20 25) "read" "StringIO.read",o669 P,o670 P,⟨(.type "tuple"),QD,(.seq #[(.int (-1) 1154)] 0),#[]⟩,o7 P,o8 P,hdT [("self",1158),("size",1159)],o7 P,hdG (mS 20 26) "readline" "StringIO.readline",hdC "readline" "StringIO.readline" 1155 491 2 2 3 672 QF 318 .none (.ref 674) (.ref 675) (.ref 676) 1160,hdF (mS 20 26) "StringIO.readline" (.ref 671) "io" 565 677,⟨(.type "tuple"),QD,(.seq #[(.int (-1) 1164)] 0),#[]⟩,o7 P,o8 P,hdT [("self",1168),("hint",1169)],o7 P,hdG (mS 20 27) "readlines" "StringIO.readlines",hdC "readlines" "StringIO.readlines" 1165 498 2 2 3 680 QF 318 .none (.ref 682) (.ref 683) (.ref 684) 1170,hdF (mS 20 27) "StringIO.readlines" (.ref 679) "io" 565 685,o7 P,o8 P,hdT [("self",1176)],o7 P,hdG (mS 20 28) "__iter__" "StringIO.__iter__",hdC "__iter__" "StringIO.__iter__" 1173 501 1 0 3 687 QF 318 .none (.ref 689) (.ref 690) (.ref 691) 1177,hdF (mS 20 28) "StringIO.__iter__" .none "io" 565 692,o7 P,o8 P,hdT [("self",1183),("line",1184)],o7 P,hdG (mS 20 29) "__next__" "StringIO.__next__",hdC "__next__" "StringIO.__next__" 1180 505 1 0 3 694 QF 318 .none (.ref 696) (.ref 697) (.ref 698) 1185,hdF (mS 20 29) "StringIO.__next__" .none "io" 565 699,o7 P,o8 P,hdT [("self",1191),("s",1192),("n",1193),("m",1194),("start",1195),("buf",1196)],o7 P,hdG (mS 20 30) "write" "StringIO.write",hdC "write" "StringIO.write" 1188 512 2 2 3 701 QF 318 .none (.ref 703) (.ref 704) (.ref 705) 1197,hdF (mS 20 30) "StringIO.write" .none "io" 565 706,o7 P,o8 P,hdT [("self",1203),("lines",1204)],o7 P,hdG (mS 20 31) "writelines" "StringIO.writelines",hdC "writelines" "StringIO.writelines" 1200 531 2 2 3 708 QF 318 .none (.ref 710) (.ref 711) (.ref 712) 1205,hdF (mS 20 31) "StringIO.writelines" .none "io" 565 713,o7 P,o8 P,hdT [("self",1211)],o7 P,hdG (mS 20 32) "__repr__" "StringIO.__repr__",hdC "__repr__" "StringIO.__repr__" 1208 534 1 0 3 715 QF 318 .none (.ref 717) (.ref 718) (.ref 719) 1212,hdF (mS 20 32) "StringIO.__repr__" .none "io" 565 720,hdT [("__buf",1215),("__newline",1216),("__pos",1217)],o723 P,o724 P,⟨(.type "super"),QD,(.fields #[(.ref 724),(.ref 724),(.ref 724)]),#[]⟩,⟨(.type "builtin_function_or_method"),QD,(.fields #[(.builtin "object.__init_subclass__"),(.ref 724)]),#[]⟩,o7 P,o8 P,hdT [("name",1227),("x",1228),("t",1229)],o7 P,hdG (tS 22) "_kind" "_kind",hdC "_kind" "_kind" 1224 537 2 0 3 727 QF 318 .none (.ref 729) (.ref 730) (.ref 731) 1230,hdF (tS 22) "_kind" .none "os.path" 1222 732,o7 P,o8 P,hdT [("name",1236),("x",1237),("k",1238)],o7 P,hdG (tS 23) "_fspath" "_fspath",hdC "_fspath" "_fspath" 1233 558 2 0 3 734 QF 318 .none (.ref 736) (.ref 737) (.ref 738) 1239,hdF (tS 23) "_fspath" .none "os.path" 1222 739,o7 P,o8 P,hdT [("funcname",1245),("args",1246),("s",1247),("k",1248)],o7 P,hdG (tS 24) "_check_arg_types" "_check_arg_types",hdC "_check_arg_types" "_check_arg_types" 1242 563 1 0 7 741 QF 318 .none (.ref 743) (.ref 744) (.ref 745) 1249,hdF (tS 24) "_check_arg_types" .none "os.path" 1222 746,o7 P,o8 P,hdT [("s",1255)],o7 P,hdG (tS 25) "isabs" "isabs",hdC "isabs" "isabs" 1252 568 1 0 3 748 QF 318 .none (.ref 750) (.ref 751) (.ref 752) 1256,hdF (tS 25) "isabs" .none "os.path" 1222 753,o7 P,o8 P,hdT [("a",1262),("p",1263),("b",1264),("sep",1265),("path",1266)],o7 P,hdG (tS 26) "join" "join",hdC "join" "join" 1259 571 1 0 7 755 QF 318 .none (.ref 757) (.ref 758) (.ref 759) 1267,hdF (tS 26) "join" .none "os.path" 1222 760,o7 P,o8 P,hdT [("p",1274),("sep",1275),("i",1276),("head",1277)],o7 P,hdG (tS 28) "dirname" "dirname",hdC "dirname" "dirname" 1271 592 1 0 3 762 QF 318 .none (.ref 764) (.ref 765) (.ref 766) 1278,hdF (tS 28) "dirname" .none "os.path" 1222 767,o7 P,o53 P,⟨(.type "dict"),QD,(.dict #[hdE P "__module__" 1290 (hdS "cpy313.shlex" 1281),hdE P "__qualname__" 1292 (hdS "shlex" 1291),hdE P "__firstlineno__" 1294 (.int 601 1293),hdR P "__init__" 1306 783,hdR P "punctuation_chars" 1314 791,hdR P "push_token" 1322 798,hdR P "push_source" 1331 806,hdR P "pop_source" 1338 813,hdR P "get_token" 1350 820,hdR P "read_token" 1361 827,hdR P "sourcehook" 1369 834,hdR P "error_leader" 1378 842,hdR P "__iter__" 1385 849,hdR P "__next__" 1393 856,hdR P "__static_attributes__" 1414 857] 15),#[]⟩,o7 P,⟨.none,QD,(.fields #[(hdI 603),(hdI 4),(.ref 782),(hdI 645),(hdI 4),(.ref 789),(hdI 648),(hdI 4),(.ref 797),(hdI 651),(hdI 4),(.ref 805),(hdI 664),(hdI 4),(.ref 812),(hdI 671),(hdI 4),(.ref 819),(hdI 698),(hdI 4),(.ref 826),(hdI 835),(hdI 4),(.ref 833),(hdI 842),(hdI 4),(.ref 841),(hdI 845),(hdI 4),(.ref 848),(hdI 848),(hdI 4),(.ref 855)]),#[]⟩,hdC "shlex" "shlex" 1285 601 0 0 0 772 QG 318 .none .none .none .none 1288,⟨(.type "frame"),QD, .plain,#[QE (.ref 774),QE (.ref 3),QE (.ref 771),QD,QE (hdS "cpy313.shlex" 1281),QD,QE (.ref 0)]⟩,o776 P,o7 P,o8 P,hdT [("self",1298),("instream",1299),("infile",1300),("posix",1301),("punctuation_chars",1302),("t",1303)],o7 P,hdG (mS 30 0) "__init__" "shlex.__init__",o782 P,o783 P,o7 P,o8 P,hdT [("self",1310)],o7 P,hdG (mS 30 1) "punctuation_chars" "shlex.punctuation_chars",o789 P,o790 P,o791 P,o7 P,o8 P,hdT [("self",1318),("tok",1319)],o7 P,hdG (mS 30 2) "push_token" "shlex.push_token",hdC "push_token" "shlex.push_token" 1315 648 2 0 3 792 QF 318 .none (.ref 794) (.ref 795) (.ref 796) 1320,hdF (mS 30 2) "shlex.push_token" .none "cpy313.shlex" 1281 797,o96 P,o7 P,o8 P,hdT [("self",1326),("newstream",1327),("newfile",1328)],o7 P,hdG (mS 30 3) "push_source" "shlex.push_source",hdC "push_source" "shlex.push_source" 1323 651 3 0 3 800 QF 318 .none (.ref 802) (.ref 803) (.ref 804) 1329,hdF (mS 30 3) "shlex.push_source" (.ref 799) "cpy313.shlex" 1281 805,o7 P,o8 P,hdT [("self",1335)],o7 P,hdG (mS 30 4) "pop_source" "shlex.pop_source",hdC "pop_source" "shlex.pop_source" 1332 664 1 0 3 807 QF 318 .none (.ref 809) (.ref 810) (.ref 811) 1336,hdF (mS 30 4) "shlex.pop_source" .none "cpy313.shlex" 1281 812,o7 P,o8 P,hdT [("self",1342),("tok",1343),("raw",1344),("spec",1345),("newfile",1346),("newstream",1347)],o7 P,hdG (mS 30 5) "get_token" "shlex.get_token",o819 P,o820 P,o7 P,o8 P,hdT [("self",1354),("quoted",1355),("escapedstate",1356),("nextchar",1357),("result",1358)],o7 P,hdG (mS 30 6) "read_token" "shlex.read_token",o826 P,o827 P,o7 P,o8 P,hdT [("self",1365),("newfile",1366)],o7 P,hdG (mS 30 7) "sourcehook" "shlex.sourcehook",hdC "sourcehook" "shlex.sourcehook" 1362 835 2 0 3 828 QF 318 .none (.ref 830) (.ref 831) (.ref 832) 1367,hdF (mS 30 7) "shlex.sourcehook" .none "cpy313.shlex" 1281 833,⟨(.type "tuple"),QD,(.seq #[.none, .none] 0),#[]⟩,o7 P,o8 P,hdT [("self",1373),("infile",1374),("lineno",1375)],o7 P,hdG (mS 30 8) "error_leader" "shlex.error_leader",hdC "error_leader" "shlex.error_leader" 1370 842 3 0 3 836 QF 318 .none (.ref 838) (.ref 839) (.ref 840) 1376,hdF (mS 30 8) "shlex.error_leader" (.ref 835) "cpy313.shlex" 1281 841,o7 P,o8 P,hdT [("self",1382)],o7 P,hdG (mS 30 9) "__iter__" "shlex.__iter__",o848 P,o849 P,o7 P,o8 P,hdT [("self",1389),("token",1390)],o7 P,hdG (mS 30 10) "__next__" "shlex.__next__",o855 P,o856 P,hdT [("_punctuation_chars",1394),("_pushback_chars",1395),("commenters",1396),("debug",1397),("eof",1398),("escape",1399),("escapedquotes",1400),("filestack",1401),("infile",1402),("instream",1403),("lineno",1404),("posix",1405),("pushback",1406),("quotes",1407),("source",1408),("state",1409),("token",1410),("whitespace",1411),("whitespace_split",1412),("wordchars",1413)],o858 P,o859 P,⟨(.type "getset_descriptor"),QD,(.fields #[(hdS "__dict__" 1415),(.ref 859),(.builtin "function.__dict__"),(.builtin "function.__dict__#set")]),#[]⟩,⟨(.type "getset_descriptor"),QD,(.fields #[(hdS "__weakref__" 1417),(.ref 859),(.builtin "ExceptionGroup.__weakref__"), .none]),#[]⟩,⟨(.type "super"),QD,(.fields #[(.ref 859),(.ref 859),(.ref 859)]),#[]⟩,⟨(.type "builtin_function_or_method"),QD,(.fields #[(.builtin "object.__init_subclass__"),(.ref 859)]),#[]⟩,o864 P,o7 P,o8 P,hdT [("s",1425),("comments",1426),("posix",1427),("lex",1428)],o7 P,hdG (tS 31) "split" "split",o870 P,o871 P,o7 P,o8 P,hdT [("split_command",1435)],o7 P,hdG (tS 32) "join" "join",o877 P,o878 P,o879 P,o7 P,o8 P,hdT [("s",1445)],o7 P,hdG (tS 35) "quote" "quote",o885 P,o886 P,o7 P,o8 P,hdG (tS 37) "_law_needs" "_law_needs",o890 P,o891 P,o7 P,o8 P,hdG (tS 38) "_law_plan" "_law_plan",o895 P,o896 P,o7 P,o8 P,hdG (tS 39) "_law_told" "_law_told",o900 P,o901 P,o7 P,o8 P,hdG (tS 40) "_law_due" "_law_due",o905 P,o906 P,o7 P,o8 P,hdG (tS 41) "law" "law",o910 P,o911 P]
def Os(P:Params):List Obj:=((((((hdL P).take 34).set 2 (o2 P)).set 3 (hdD P "__main__" 164 10)).set 11 (o11 P)).set 29 (o29 P))
def h_e(P:Params):Heap:=⟨(Os P).toArray,{}⟩
def Pd(P:Params):List Obj:=((((hdL P).take 34).set 2 (o2 P)).set 3 (hdD P "__main__" 164 10))
def h_z(P:Params):Heap:=⟨(Pd P).toArray,{}⟩
def Nt(P:Params):List Obj:=(((((hdL P).take 38).set 2 (o2 P)).set 3 (hdD P "__main__" 164 10)).set 35 (o8 P))
def h_b(P:Params):Heap:=⟨(Nt P).toArray,{}⟩
def t_b(P:Params):BT:=ir 12 (Nt P)
def Mr(P:Params):List Obj:=((((((hdL P).take 250).set 3 (hdD P "io" 565 24)).set 35 (hdV 33)).set 235 (o235 P)).set 247 (o247 P))
def h_m(P:Params):Heap:=⟨(Mr P).toArray,{}⟩
def t_m(P:Params):BT:=ir 12 (Mr P)
noncomputable def t_p(P:Params):BT:=ir 12 ((((hdL P).take 480).set 3 (hdD P "io" 565 25)|>.set 35 (hdV 36)).set 247 (o247 P))
noncomputable def t_q(P:Params):BT:=ir 12 (((hdL P).take 727).set 3 (hdD P "io" 565 26)|>.set 35 (hdV 39))
def h_k(P:Params):Heap:=⟨(hdL P).toArray,{}⟩
def t_k(P:Params):BT:=ir 12 (hdL P)
noncomputable abbrev gq:List Stmt:=behindTheImports pw
def tF:Env:={ scope:=pw.main.scope,locals:=mainNs,globals:=mainNs,cells:=[],code:= .ref 36,frame:=QE 37 }
def cdT:Code:= .body gq tF
noncomputable abbrev Br:Pos:=⟨0,0,0,0⟩
noncomputable abbrev Nx:Pos:=⟨159,0,160,21⟩
noncomputable abbrev Mp:Pos:=⟨161,0,330,17⟩
noncomputable abbrev Lh:Pos:=⟨331,0,535,17⟩
noncomputable abbrev Nj:Pos:=⟨908,0,911,83⟩
noncomputable abbrev BT0:List Frame:=[topFrame Br]
noncomputable def sT(t:BT)(n tk:Nat)(os:OsState):SharedT:=⟨t,n,{},#[],⟨0,0,0,0⟩,tk,os⟩
section
variable(w:World)(os:OsState)
theorem Kw:PySem.W.Fast.tw10110043849684766642 PySem.W.Fast.tw14364793385576792824 pw w 34 (QE (.ref 6)) 1 2129 (sT (t_b w.params) 38 324 os) (piecesOf (gq.take 17) tF cdT Br BT0)=QE (.next,sT (t_m w.params) 250 673 os,cdT,Nx):=by kernel_rfl
theorem Mi:PySem.W.Fast.tw10110043849684766642 PySem.W.Fast.tw14364793385576792824 pw w 34 (QE (.ref 6)) 1 1278 (sT (t_m w.params) 250 673 os) (piecesOf ((gq.drop 17).take 1) tF cdT Nx BT0)=QE (.next,sT (t_p w.params) 480 935 os,cdT,Mp):=by kernel_rfl
theorem Mu:PySem.W.Fast.tw10110043849684766642 PySem.W.Fast.tw14364793385576792824 pw w 34 (QE (.ref 6)) 1 1578 (sT (t_p w.params) 480 935 os) (piecesOf (((gq.drop 17).drop 1).take 1) tF cdT Mp BT0)=QE (.next,sT (t_q w.params) 727 1222 os,cdT,Lh):=by kernel_rfl
theorem Lj:PySem.W.Fast.tw10110043849684766642 PySem.W.Fast.tw14364793385576792824 pw w 34 (QE (.ref 6)) 1 1116 (sT (t_q w.params) 727 1222 os) (piecesOf (((gq.drop 17).drop 1).drop 1) tF cdT Lh BT0)=QE (.next,sT (t_k w.params) 912 1481 os,cdT,Nj):=by kernel_rfl
theorem KI:PySem.W.Fast.tw15667345088766844465 PySem.W.Fast.tw14364793385576792824 pw w 34 (QE (.ref 6)) 12 ⟨h_z w.params,#[],⟨0,0,0,0⟩,318,os⟩ (topStub pw)=QE (⟨h_b w.params,#[],⟨0,0,0,0⟩,324,os⟩,⟨PySem.W.Fast.tw11892475500146522536 PySem.W.Fast.tw14364793385576792824 cdT,cdT,Br,BT0⟩):=by kernel_rfl
theorem Mg:segRun treeTable pw w 34 (QE (.ref 6)) 1 1 ⟨h_b w.params,#[],⟨0,0,0,0⟩,324,os⟩ (blockOf gq tF cdT Br BT0)=QE (.next,(sT (t_b w.params) 38 324 os).abs,cdT,Br):=by kernel_rfl
theorem NR:topRun treeTable pw w 34 (QE (.ref 6)) 2 (sT (t_k w.params) 912 1481 os).abs ⟨doneF .next,cdT,Nj,BT0⟩=QE ⟨h_k w.params,#[],⟨0,0,0,0⟩,1481,os⟩:=by kernel_rfl
end
theorem E9(w:World)(os:OsState):topRun treeTable pw w 34 (QE (.ref 6)) (12+(1+(2129+(1278+(1578+(1116+2)))))) ⟨h_z w.params,#[],⟨0,0,0,0⟩,318,os⟩ (topStub pw)=QE ⟨h_k w.params,#[],⟨0,0,0,0⟩,1481,os⟩:=by
 have m:=Kw w os
 have k:=Lj w os
 have x:=Mi w os
 have y:=Mu w os
 have p:=KI w os
 rw[<-PySem.W.Fast.te10110043849684766642,<-PySem.W.Fast.te14364793385576792824]at m k x y
 rw[<-PySem.W.Fast.te15667345088766844465,<-PySem.W.Fast.te11892475500146522536,<-PySem.W.Fast.te14364793385576792824]at p
 refine go_top p (piece_block (Mg w os) ?_)
 have e:gq=gq.take 17++((gq.drop 17).take 1++(((gq.drop 17).drop 1).take 1++(((gq.drop 17).drop 1).drop 1++[]))):=by rw[List.append_nil,List.take_append_drop,List.take_append_drop,List.take_append_drop]
 have r:=piece_app (segRun_of m) (piece_app (segRun_of x) (piece_app (segRun_of y) (piece_app (segRun_of k) (piece_nil (env:=tF) (NR w os)))))
 rw[<-e]at r
 exact r
set_option maxHeartbeats 0
set_option Elab.async false
def KS(P:Params):Frag:=[(3,o3k P),(2,o2m P),(51,o51 P),(50,o50 P),(66,o66 P),(65,o65 P),(103,o103 P),(102,o102 P),(96,o96 P),(110,o110 P),(109,o109 P),(117,o117 P),(116,o116 P),(122,o122 P),(121,o121 P),(129,o129 P),(128,o128 P),(150,o150 P),(149,o149 P),(157,o157 P),(156,o156 P),(190,o190 P),(189,o189 P),(217,o217 P),(216,o216 P),(494,o494 P),(493,o493 P),(487,o487 P),(501,o501 P),(500,o500 P),(508,o508 P),(507,o507 P),(670,o670 P),(669,o669 P),(663,o663 P),(783,o783 P),(782,o782 P),(776,o776 P),(790,o790 P),(789,o789 P),(820,o820 P),(819,o819 P),(827,o827 P),(826,o826 P),(849,o849 P),(848,o848 P),(856,o856 P),(855,o855 P),(871,o871 P),(870,o870 P),(864,o864 P),(878,o878 P),(877,o877 P),(886,o886 P),(885,o885 P),(891,o891 P),(890,o890 P),(896,o896 P),(895,o895 P),(901,o901 P),(900,o900 P),(906,o906 P),(905,o905 P),(911,o911 P),(910,o910 P),(70,o70 P),(69,o69 P),(71,o71 P),(72,o72 P),(73,o73 P),(167,o167 P),(166,o166 P),(220,o220 P),(219,o219 P),(247,o247k P),(246,o246 P),(724,o724 P),(723,o723 P),(859,o859 P),(858,o858 P),(791,o791 P),(176,o176 P),(879,o879 P),(175,o175 P),(4,o4 P),(221,o221 P),(477,o477 P)]
def GKS(K:Frag):Prop:=∃P,K=KS P
noncomputable def IS:Stmt->Str
 |.FunctionDef name _ _ _ _ _ _ _ _ _=>name
 |_=>""
noncomputable def pK:Stmt->Arguments
 |.FunctionDef _ args _ _ _ _ _ _ _ _=>args
 |_=>default
noncomputable def oy:Stmt->List Stmt
 |.FunctionDef _ _ body _ _ _ _ _ _ _=>body
 |_=>[]
noncomputable def cz:Stmt->Scope
 |.FunctionDef _ _ _ _ _ _ scope _ _ _=>scope
 |_=>default
noncomputable def vsN{α:Type}:Nat->(Nat->α)->List α
 |0,_=>[]
 |n+1,g=>g 0::vsN n λi=>g (i+1)
theorem eqR{α:Type}{L R:Nat->α}{n:Nat}(h:(PZ n).map L=(PZ n).map R)(k:Nat)(hk:k<n):L k=R k:=Qk.mp h k (List.mem_range.mpr hk)
noncomputable def kwZ:List Str->(Nat->Value)->List (Str×Value)
 |[],_=>[]
 |n::r,g=>(n,g 0)::kwZ r λi=>g (i+1)
noncomputable def GR{α:Type}(a:α)(g:Nat->α):Nat->α
 |0=>a
 |i+1=>g i
theorem tW{α:Type}(z:α)(vs:List α):∃g,vs=vsN vs.length g:=by
 induction vs with
 |nil=>exact⟨λ_=>z,rfl⟩
 |cons a r ih=>exact ih.elim λg h=>⟨GR a g,QJ (a:: ·) h⟩
theorem Ip(kw:List (Str×Value)):∃g,kw=kwZ (kw.map (·.1)) g:=by
 induction kw with
 |nil=>exact⟨λ_=> .none,rfl⟩
 |cons a r ih=>exact ih.elim λg h=>⟨GR a.2 g,QJ (a:: ·) h⟩
noncomputable def dV:SV->Value
 |.bool b=> .bool b
 |.str x=> .str x 950
 |_=> .none
noncomputable def dOk:SV->Bool
 |.bool _=>QF
 |.str _=>QF
 |.none=>QF
 |_=>QG
def bV(vs:List Value)(kw:List (Str×Value)):ic->Value
 |.arg i=>vs[i]?.getD .none
 |.kw n=>(kw.lookup n).getD .none
 |.dflt v=>dV v
def bOk(vs:List Value)(kw:List (Str×Value)):ic->Bool
 |.arg i=>vs[i]?.isSome
 |.kw n=>(kw.lookup n).isSome
 |.dflt v=>dOk v
def bL(vs:List Value)(kw:List (Str×Value))(l:List (Str×ic)):List (Str×Value):=l.map λp=>(p.1,bV vs kw p.2)
theorem Lk(v:SV)(h:dOk v=QF):aA [] v (dV v):=by
 cases v<;>first|exact rfl|exact⟨950,rfl⟩|cases h
theorem GU{vs:List Value}{kw:List (Str×Value)}{l:List (Str×ic)}(h:l.all (λp=>bOk vs kw p.2)=QF):jJ vs kw l (bL vs kw l):=by
 induction l with
 |nil=>exact rfl
 |cons p r ih=>
  rw[List.all_cons,Qp]at h
  refine⟨_,_,rfl,?_,ih h.2⟩
  have h1:=h.1
  cases p with|mk n b=>
  cases b with
  |arg i=>exact(Option.some_get h1).symm.trans (QJ QE (Option.get_eq_getD _))
  |kw m=>exact(Option.some_get h1).symm.trans (QJ QE (Option.get_eq_getD _))
  |dflt v=>exact Lk v h1
def D2(t:Stmt)(r:Str×Value×Value×Nat):FuncData:=fnOf (IS t) r.1 (pK t) (oy t) (cz t) r.2.1 .none .none r.2.2.1 QD (.ref r.2.2.2) .none
abbrev cV:Type:=(Addr×Nat×List Str×List (Str×ic))×Stmt×Str×Value×Value×Nat
def eR(r:cV):FnE:=⟨r.1.1,r.1.2.1,r.1.2.2.1,r.1.2.2.2,oy r.2.1,cz r.2.1⟩
def tb(x:Scope->Bool)(K:Frag)(g h:Nat->Value)(S:Setting)(r:cV):=(K.lookup r.1.1,codeIn K (.ref r.2.2.2.2.2) r.2.2.1,peek K S (bindArgs (D2 r.2.1 r.2.2) ⟨vsN r.1.2.1 g,kwZ r.1.2.2.1 h⟩),r.1.2.2.2.all (λp=>bOk (vsN r.1.2.1 g) (kwZ r.1.2.2.1 h) p.2),(r.1.2.2.2.all λy=>decide ((cz r.2.1).names.lookup y.1=QE .local)),x (cz r.2.1),(cz r.2.1).isCoroutine,(cz r.2.1).isGenerator,(cz r.2.1).kind)
def xD(x:Scope->Bool)(K:Frag)(g h:Nat->Value)(S:Setting)(r:cV):type_of% (tb x K g h S r):=(QE ⟨.type "function",QD, .func (D2 r.2.1 r.2.2),#[]⟩,QF,QE (bL (vsN r.1.2.1 g) (kwZ r.1.2.2.1 h) r.1.2.2.2),QF,QF,QF,QG,QG, .function)
noncomputable def xFn(sc:Scope):Bool:=sc.names.all λx=>decide (x.2≠ .cell)
noncomputable def xFc(sc:Scope):Bool:=decide ((cellsFrom 0 sc.names []).map (·.1)).Nodup
section
variable(S0:Setting){x:Scope->Bool}{K:Frag}{r:cV}(H:∀g h S,tb x K g h S r=xD x K g h S r)
include S0 H
theorem kY:tb x K (λ_=> .none) (λ_=> .none) S0 r=xD x K (λ_=> .none) (λ_=> .none) S0 r:=H _ _ _
theorem GD:∃name qual params dV kV doc pm cdv ct oc an od osl,K.lookup (eR r).f=QE ⟨oc,od, .func (fnOf name qual params (eR r).body (eR r).sc dV kV doc pm an cdv ct),osl⟩/\codeIn K cdv qual=QF/\
  ∀s:Shared,K.In s.heap->∀vs kw,vs.length=(eR r).na->kw.map (·.1)=(eR r).kws->∃b,jJ vs kw (eR r).binds b/\BindsTo s (fnOf name qual params (eR r).body (eR r).sc dV kV doc pm an cdv ct) ⟨vs,kw⟩ b:=
 ⟨_,_,_,_,_,_,_,_,_,_,_,_,_,QJ (·.1) (kY S0 H),QJ (·.2.1) (kY S0 H),λs X vs kw h1 h2=>by
  refine(tW .none vs).elim λg hg=>(Ip kw).elim λh hh=>?_
  rw[h1]at hg
  rw[h2]at hh
  subst hg hh
  exact⟨_,GU (QJ (·.2.2.2.1) (H g h S0)),kp_binds X λS=>QJ (·.2.2.1) (H g h S)⟩⟩
theorem zC:∀y∈(eR r).binds,(eR r).sc.names.lookup y.1=QE .local:=λy hy=>of_decide_eq_true (List.all_eq_true.mp (QJ (·.2.2.2.2.1) (kY S0 H)) y hy)
end
theorem D3(S0:Setting){K:Frag}{r:cV}(H:∀g h S,tb xFn K g h S r=xD xFn K g h S r):eT K (eR r):=⟨GD S0 H,zC S0 H,λx hx=>of_decide_eq_true (List.all_eq_true.mp (QJ (·.2.2.2.2.2.1) (kY S0 H)) x hx),QJ (·.2.2.2.2.2.2.1) (kY S0 H),QJ (·.2.2.2.2.2.2.2.1) (kY S0 H),QJ (·.2.2.2.2.2.2.2.2) (kY S0 H)⟩
theorem BD(S0:Setting){K:Frag}{r:cV}(H:∀g h S,tb xFc K g h S r=xD xFc K g h S r):g0 K (eR r):=⟨GD S0 H,zC S0 H,of_decide_eq_true (QJ (·.2.2.2.2.2.1) (kY S0 H)),QJ (·.2.2.2.2.2.2.1) (kY S0 H),QJ (·.2.2.2.2.2.2.2.1) (kY S0 H),QJ (·.2.2.2.2.2.2.2.2) (kY S0 H)⟩
abbrev tT:Type:=(Addr×Nat×Nat×Str×List (Str×ic))×Stmt×Str×Value×Value×Nat
def eV(r:tT):FnV:=⟨r.1.1,r.1.2.1,r.1.2.2.1,r.1.2.2.2.1,r.1.2.2.2.2,oy r.2.1,cz r.2.1⟩
def Jw(K:Frag)(g:Nat->Value)(S:Setting)(r:tT):=(K.lookup r.1.1,codeIn K (.ref r.2.2.2.2.2) r.2.2.1,peek1 K S (bindArgs (D2 r.2.1 r.2.2) ⟨vsN r.1.2.1 g,[]⟩),r.1.2.2.2.2.all (λp=>bOk (vsN r.1.2.1 g) [] p.2),(r.1.2.2.2.2.all λy=>decide ((cz r.2.1).names.lookup y.1=QE .local)),xFn (cz r.2.1),(cz r.2.1).isCoroutine,(cz r.2.1).isGenerator,(cz r.2.1).kind,(cz r.2.1).names.lookup r.1.2.2.2.1)
def Lx(K:Frag)(g:Nat->Value)(S:Setting)(r:tT):type_of% (Jw K g S r):=(QE ⟨.type "function",QD, .func (D2 r.2.1 r.2.2),#[]⟩,QF,QE (({ cls:= .type "tuple",data:= .seq ((vsN r.1.2.1 g).drop r.1.2.2.1).toArray }:Obj),λD=>QE (bL (vsN r.1.2.1 g) [] r.1.2.2.2.2++[(r.1.2.2.2.1,Value.ref D)])),QF,QF,QF,QG,QG, .function,QE .local)
theorem Bb(S0:Setting){K:Frag}{r:tT}(H:∀g S,Jw K g S r=Lx K g S r):lJ K (eV r):=
 have h0:=H (λ_=> .none) S0
 ⟨⟨_,_,_,_,_,_,_,_,_,_,_,_,_,QJ (·.1) h0,QJ (·.2.1) h0,λS vs h1=>by
  refine(tW .none vs).elim λg hg=>?_
  rw[h1]at hg
  subst hg
  exact⟨_,GU (QJ (·.2.2.2.1) (H g S)),_,QJ (·.2.2.1) (H g S),λD=>rfl⟩⟩,
  λy hy=>of_decide_eq_true (List.all_eq_true.mp (QJ (·.2.2.2.2.1) h0) y hy),QJ (·.2.2.2.2.2.2.2.2.2) h0,λx hx=>of_decide_eq_true (List.all_eq_true.mp (QJ (·.2.2.2.2.2.1) h0) x hx),QJ (·.2.2.2.2.2.2.1) h0,QJ (·.2.2.2.2.2.2.2.1) h0,QJ (·.2.2.2.2.2.2.2.2.1) h0⟩
def r51:cV:=((51,2,[],[((QC "expected"), .arg 0),((QC "actual"), .arg 1)]),tS 4,(QC "unorderable_list_difference"), .none,(.str (QC "cpy313.unittest.util") 331),50)
def r66:cV:=((66,2,[],[((QC "self"), .arg 0),((QC "node"), .arg 1)]),mS 8 1,(QC "_NodeInfo.__init__"), .none,(.str (QC "cpy313.graphlib") 343),65)
def Pl:cV:=((103,1,[],[((QC "self"), .arg 0),((QC "graph"), .dflt .none)]),mS 10 0,(QC "TopologicalSorter.__init__"),(.ref 96),(.str (QC "cpy313.graphlib") 343),102)
def N3:cV:=((110,2,[],[((QC "self"), .arg 0),((QC "node"), .arg 1)]),mS 10 1,(QC "TopologicalSorter._get_nodeinfo"), .none,(.str (QC "cpy313.graphlib") 343),109)
def My:cV:=((122,1,[],[((QC "self"), .arg 0)]),mS 10 3,(QC "TopologicalSorter.prepare"), .none,(.str (QC "cpy313.graphlib") 343),121)
def Ln:cV:=((129,1,[],[((QC "self"), .arg 0)]),mS 10 4,(QC "TopologicalSorter.get_ready"), .none,(.str (QC "cpy313.graphlib") 343),128)
def KV:cV:=((157,1,[],[((QC "self"), .arg 0)]),mS 10 8,(QC "TopologicalSorter._find_cycle"), .none,(.str (QC "cpy313.graphlib") 343),156)
def OI:cV:=((190,2,[],[((QC "n"), .arg 0),((QC "what"), .arg 1)]),tS 14,(QC "_index"), .none,(.str (QC "io") 565),189)
def Nd:cV:=((494,2,[],[((QC "self"), .arg 0),((QC "initial_value"), .arg 1),((QC "newline"), .dflt (.str (.mk #[10])))]),mS 20 1,(QC "StringIO.__init__"),(.ref 487),(.str (QC "io") 565),493)
def PG:cV:=((501,2,[],[((QC "self"), .arg 0),((QC "s"), .arg 1)]),mS 20 2,(QC "StringIO.__translated"), .none,(.str (QC "io") 565),500)
def Og:cV:=((508,1,[],[((QC "self"), .arg 0)]),mS 20 3,(QC "StringIO.__check"), .none,(.str (QC "io") 565),507)
def Np:cV:=((670,2,[],[((QC "self"), .arg 0),((QC "size"), .arg 1)]),mS 20 25,(QC "StringIO.read"),(.ref 663),(.str (QC "io") 565),669)
def Ow:cV:=((783,2,[(QC "posix")],[((QC "self"), .arg 0),((QC "instream"), .arg 1),((QC "infile"), .dflt .none),((QC "posix"), .kw (QC "posix")),((QC "punctuation_chars"), .dflt (.bool QG))]),mS 30 0,(QC "shlex.__init__"),(.ref 776),(.str (QC "cpy313.shlex") 1281),782)
def Oh:cV:=((790,1,[],[((QC "self"), .arg 0)]),mS 30 1,(QC "shlex.punctuation_chars"), .none,(.str (QC "cpy313.shlex") 1281),789)
def KF:cV:=((820,1,[],[((QC "self"), .arg 0)]),mS 30 5,(QC "shlex.get_token"), .none,(.str (QC "cpy313.shlex") 1281),819)
def Na:cV:=((827,1,[],[((QC "self"), .arg 0)]),mS 30 6,(QC "shlex.read_token"), .none,(.str (QC "cpy313.shlex") 1281),826)
def Nk:cV:=((849,1,[],[((QC "self"), .arg 0)]),mS 30 9,(QC "shlex.__iter__"), .none,(.str (QC "cpy313.shlex") 1281),848)
def Kz:cV:=((856,1,[],[((QC "self"), .arg 0)]),mS 30 10,(QC "shlex.__next__"), .none,(.str (QC "cpy313.shlex") 1281),855)
def Mq:cV:=((871,1,[],[((QC "s"), .arg 0),((QC "comments"), .dflt (.bool QG)),((QC "posix"), .dflt (.bool QF))]),tS 31,(QC "split"),(.ref 864),(.str (QC "cpy313.shlex") 1281),870)
def M1:cV:=((886,1,[],[((QC "s"), .arg 0)]),tS 35,(QC "quote"), .none,(.str (QC "cpy313.shlex") 1281),885)
def NT:cV:=((891,1,[],[((QC "script"), .arg 0)]),tS 37,(QC "_law_needs"), .none,(.str (QC "law_nb0350_01") 1449),890)
def MU:cV:=((878,1,[],[((QC "split_command"), .arg 0)]),tS 32,(QC "join"), .none,(.str (QC "cpy313.shlex") 1281),877)
def fnR:List cV:=[r51,r66,Pl,N3,My,Ln,KV,OI,Nd,PG,Og,Np,Ow,Oh,KF,Na,Nk,Kz,Mq,M1,NT,MU]
theorem H9(P:Params)(g h:Nat->Value)(S:Setting):fnR.map (tb xFn (KS P) g h S)=fnR.map (xD xFn (KS P) g h S):=by kernel_rfl
def fnS:List FnE:=fnR.map eR
theorem eP(P:Params):∀e∈fnS,eT (KS P) e:=λe m=>(Qe.mp m).elim λr h=>h.2▸D3 ⟨pw,P⟩ λg h1 S=>Qk.mp (H9 P g h1 S) r h.1
def e51:FnE:=eR r51
theorem OB(P:Params):eT (KS P) e51:=eP P _ (P8 (i:=0) (by kernel_rfl))
def v7:FnE:=eR My
theorem KA(P:Params):eT (KS P) v7:=eP P _ (P8 (i:=4) (by kernel_rfl))
def hX:FnE:=eR Ln
theorem Ml(P:Params):eT (KS P) hX:=eP P _ (P8 (i:=5) (by kernel_rfl))
def tm:FnE:=eR KV
theorem Mo(P:Params):eT (KS P) tm:=eP P _ (P8 (i:=6) (by kernel_rfl))
def JU:FnE:=eR Nd
theorem Ku(P:Params):eT (KS P) JU:=eP P _ (P8 (i:=8) (by kernel_rfl))
def sx:FnE:=eR Np
theorem Kh(P:Params):eT (KS P) sx:=eP P _ (P8 (i:=11) (by kernel_rfl))
def DA:FnE:=eR KF
theorem Gv(P:Params):eT (KS P) DA:=eP P _ (P8 (i:=14) (by kernel_rfl))
def FT:FnE:=eR Na
theorem MY(P:Params):eT (KS P) FT:=eP P _ (P8 (i:=15) (by kernel_rfl))
def Io:FnE:=eR Nk
theorem Nl(P:Params):eT (KS P) Io:=eP P _ (P8 (i:=16) (by kernel_rfl))
def pB:FnE:=eR Kz
theorem Gf(P:Params):eT (KS P) pB:=eP P _ (P8 (i:=17) (by kernel_rfl))
def Hq:FnE:=eR Mq
theorem Mm(P:Params):eT (KS P) Hq:=eP P _ (P8 (i:=18) (by kernel_rfl))
def lP:FnE:=eR M1
theorem LB(P:Params):eT (KS P) lP:=eP P _ (P8 (i:=19) (by kernel_rfl))
def fZ:FnE:=eR NT
theorem MI(P:Params):eT (KS P) fZ:=eP P _ (P8 (i:=20) (by kernel_rfl))
def Bw:FnE:=eR MU
theorem L9(P:Params):eT (KS P) Bw:=eP P _ (P8 (i:=21) (by kernel_rfl))
def LZ:cV:=((896,1,[],[((QC "steps"), .arg 0)]),tS 38,(QC "_law_plan"), .none,(.str (QC "law_nb0350_01") 1449),895)
def Mt:cV:=((901,2,[],[((QC "rows"), .arg 0),((QC "lines"), .arg 1)]),tS 39,(QC "_law_told"), .none,(.str (QC "law_nb0350_01") 1449),900)
def Mv:cV:=((906,2,[],[((QC "rows"), .arg 0),((QC "plan"), .arg 1)]),tS 40,(QC "_law_due"), .none,(.str (QC "law_nb0350_01") 1449),905)
def MA:cV:=((911,1,[],[((QC "script"), .arg 0)]),tS 41,(QC "law"), .none,(.str (QC "law_nb0350_01") 1449),910)
def fnC:List cV:=[LZ,Mt,Mv,MA]
theorem HY(P:Params)(g h:Nat->Value)(S:Setting):fnC.map (tb xFc (KS P) g h S)=fnC.map (xD xFc (KS P) g h S):=by kernel_rfl
def Nb:List FnE:=fnC.map eR
theorem lG(P:Params):∀e∈Nb,g0 (KS P) e:=λe m=>(Qe.mp m).elim λr h=>h.2▸BD ⟨pw,P⟩ λg h1 S=>Qk.mp (HY P g h1 S) r h.1
def qn:FnE:=eR LZ
theorem MO(P:Params):g0 (KS P) qn:=lG P _ (P8 (i:=0) (by kernel_rfl))
def cJ:FnE:=eR Mt
theorem KQ(P:Params):g0 (KS P) cJ:=lG P _ (P8 (i:=1) (by kernel_rfl))
def cK:FnE:=eR Mv
theorem MV(P:Params):g0 (KS P) cK:=lG P _ (P8 (i:=2) (by kernel_rfl))
def dW:FnE:=eR MA
theorem MS(P:Params):g0 (KS P) dW:=lG P _ (P8 (i:=3) (by kernel_rfl))
def Ob(k:Nat):tT:=((117,k,2,(QC "predecessors"),[((QC "self"), .arg 0),((QC "node"), .arg 1)]),mS 10 2,(QC "TopologicalSorter.add"), .none,(.str (QC "cpy313.graphlib") 343),116)
def L5(k:Nat):tT:=((150,k,1,(QC "nodes"),[((QC "self"), .arg 0)]),mS 10 7,(QC "TopologicalSorter.done"), .none,(.str (QC "cpy313.graphlib") 343),149)
def fnW:List tT:=[2,3,4,5,6].map Ob++(List.range' 1 6).map L5
theorem IZ(P:Params)(g:Nat->Value)(S:Setting):fnW.map (Jw (KS P) g S)=fnW.map (Lx (KS P) g S):=by kernel_rfl
def Ms:List FnV:=fnW.map eV
theorem Ax(P:Params):∀e∈Ms,lJ (KS P) e:=λe m=>(Qe.mp m).elim λr h=>h.2▸Bb ⟨pw,P⟩ λg S=>Qk.mp (IZ P g S) r h.1
def ku(k:Nat):FnV:=eV (L5 k)
theorem Kj(P:Params)(k:Nat)(h:k<6):lJ (KS P) (ku (k+1)):=Ax P _ (List.mem_map_of_mem (List.mem_append_right _ (List.mem_map_of_mem (List.mem_range'_1.mpr ⟨Nat.succ_pos k,by lia⟩))))
set_option maxHeartbeats 0
set_option Elab.async false
def tX{α:Type}(n:Str)(l:List (Str×α)):Option α:=(l.find? λp=>aQ p.1 n).map (·.2)
theorem jC{α:Type}{n:Str}{a:α}{l:List (Str×α)}(h:tX n l=QE a):(n,a)∈l:=by
 refine Qq (Qm.mp h) λp q=>?_
 have e:p.1=n:=aM.mp (List.find?_some (p:=λp:Str×α=>aQ p.1 n) q.1)
 cases e
 cases q.2
 exact List.mem_of_find?_eq_some q.1
noncomputable def Ai{α:Type}(C:Addr)(l:List (Addr×α)):Option α:=(l.find? λp=>Nat.beq p.1 C).map (·.2)
theorem nj{α:Type}{C:Addr}{a:α}{l:List (Addr×α)}(h:Ai C l=QE a):(C,a)∈l:=by
 refine Qq (Qm.mp h) λp q=>?_
 have e:p.1=C:=PV (List.find?_some (p:=λp:Addr×α=>Nat.beq p.1 C) q.1)
 cases e
 cases q.2
 exact List.mem_of_find?_eq_some q.1
def pj{α:Type}(T:List (Addr×List (Str×α)))(C:Addr)(n:Str):Option α:=(Ai C T).bind (tX n)
theorem nC{α:Type}{T:List (Addr×List (Str×α))}{C:Addr}{n:Str}{a:α}(h:pj T C n=QE a):∃l,(C,l)∈T/\(n,a)∈l:=bK h λl e1 e2=>⟨l,nj e1,jC e2⟩
theorem oY{α:Type}{Q:α->Prop}{a b:α}(h1:Q a)(h2:Q b):∀x∈[a,b],Q x:=List.forall_mem_cons.mpr ⟨h1,List.forall_mem_cons.mpr ⟨h2,List.forall_mem_nil _⟩⟩
noncomputable def akS:List (Addr×List (Str×AK×Addr)):=[(70,[((QC "node"), .slot 0,71),((QC "npredecessors"), .slot 1,72),((QC "successors"), .slot 2,73)]),(167,[((QC "_node2info"), .own,0),((QC "_ready_nodes"), .own,0),((QC "_npassedout"), .own,0),((QC "_nfinished"), .own,0),((QC "_get_nodeinfo"), .fn 110,0),((QC "add"), .fn 117,0),((QC "prepare"), .fn 122,0),((QC "get_ready"), .fn 129,0),((QC "done"), .fn 150,0),((QC "_find_cycle"), .fn 157,0)]),(724,[((QC "_StringIO__newline"), .own,0),((QC "_StringIO__buf"), .own,0),((QC "_StringIO__pos"), .own,0),((QC "_StringIO__translated"), .fn 501,0),((QC "_StringIO__check"), .fn 508,0),((QC "read"), .fn 670,0)]),(859,[((QC "state"), .own,0),((QC "token"), .own,0),((QC "instream"), .own,0),((QC "posix"), .own,0),((QC "debug"), .own,0),((QC "eof"), .own,0),((QC "whitespace"), .own,0),((QC "quotes"), .own,0),((QC "escape"), .own,0),((QC "escapedquotes"), .own,0),((QC "wordchars"), .own,0),((QC "commenters"), .own,0),((QC "whitespace_split"), .own,0),((QC "lineno"), .own,0),((QC "infile"), .own,0),((QC "pushback"), .own,0),((QC "filestack"), .own,0),((QC "source"), .own,0),((QC "_punctuation_chars"), .own,0),((QC "punctuation_chars"), .prop 790,791),((QC "get_token"), .fn 820,0),((QC "read_token"), .fn 827,0),((QC "__iter__"), .fn 849,0),((QC "__next__"), .fn 856,0)])]
noncomputable def akL(K:Frag)(C:Addr)(n:Str)(p:Addr)(k:AK):=(plainGet K C n,findIn K (.ref C) n,match k with
 |.own=>(hasDictIn K C&&noGet K QD,QD,QD,QD,QD)
 |.slot _=>(isClsIn K C,specialIn K (.ref p) "__get__",takesIn K (.ref p),slotIn K p C,QD)
 |.prop _=>(hasDictIn K C,specialIn K (.ref p) "__get__",takesIn K (.ref p),QD,(recIn K p "property").bind List.head?)
 |.fn f=>(isFn K (.ref f),QD,QD,QD,QD))
noncomputable def akR(K:Frag)(C:Addr)(n:Str)(p:Addr)(k:AK):type_of% (akL K C n p k):=(QF,match k with
 |.own=>(QE QD,QF,QD,QD,QD,QD)
 |.slot i=>(QE (QE (.ref p)),QF,QE (QE (.builtin "member_descriptor.__get__")),QE QF,QE i,QD)
 |.prop f=>(QE (QE (.ref p)),QF,QE (QE (.builtin "property.__get__")),QE QF,QD,QE (.ref f))
 |.fn f=>(QE (QE (.ref f)),QF,QD,QD,QD,QD))
theorem KU{K:Frag}{C p:Addr}{n:Str}{k:AK}(h:akL K C n p k=akR K C n p k):Ib K C n k:=by
 cases k with
 |own=>exact⟨QJ (·.1) h,(Qo.mp (QJ (·.2.2.1) h)).1,QD,QJ (·.2.1) h,(Qo.mp (QJ (·.2.2.1) h)).2⟩
 |slot i=>exact⟨QJ (·.1) h,QJ (·.2.2.1) h,p,QJ (·.2.1) h,QJ (·.2.2.2.1) h,QJ (·.2.2.2.2.1) h,QJ (·.2.2.2.2.2.1) h⟩
 |prop f=>
  refine(Qn.mp (QJ (·.2.2.2.2.2.2) h)).elim λl hl=>(List.head?_eq_some_iff.mp hl.2).elim λys e=>?_
  exact⟨QJ (·.1) h,QJ (·.2.2.1) h,p,ys,QJ (·.2.1) h,QJ (·.2.2.2.1) h,QJ (·.2.2.2.2.1) h,hl.1.trans (QJ QE e)⟩
 |fn f=>exact⟨QJ (·.1) h,QJ (·.2.1) h,QJ (·.2.2.1) h⟩
theorem M7(P:Params):akS.map (λt=>t.2.map λr=>akL (KS P) t.1 r.1 r.2.2 r.2.1)=akS.map λt=>t.2.map λr=>akR (KS P) t.1 r.1 r.2.2 r.2.1:=by kernel_rfl
noncomputable def skS:List (Addr×List (Str×SK×Addr)):=[(70,[((QC "node"), .slot 0,71),((QC "npredecessors"), .slot 1,72),((QC "successors"), .slot 2,73)]),(167,[((QC "_node2info"), .own,0),((QC "_ready_nodes"), .own,0),((QC "_npassedout"), .own,0),((QC "_nfinished"), .own,0)]),(724,[((QC "_StringIO__newline"), .own,0),((QC "_StringIO__buf"), .own,0),((QC "_StringIO__pos"), .own,0)]),(859,[((QC "state"), .own,0),((QC "token"), .own,0),((QC "instream"), .own,0),((QC "posix"), .own,0),((QC "debug"), .own,0),((QC "eof"), .own,0),((QC "whitespace"), .own,0),((QC "quotes"), .own,0),((QC "escape"), .own,0),((QC "escapedquotes"), .own,0),((QC "wordchars"), .own,0),((QC "commenters"), .own,0),((QC "whitespace_split"), .own,0),((QC "lineno"), .own,0),((QC "infile"), .own,0),((QC "pushback"), .own,0),((QC "filestack"), .own,0),((QC "source"), .own,0),((QC "_punctuation_chars"), .own,0)])]
noncomputable def skL(K:Frag)(C:Addr)(n:Str)(p:Addr)(k:SK):=(findIn K (.ref C) "__setattr__",plainOver K C,takerIn K C n,match k with
 |.own=>(hasDictIn K C,QD,QD)
 |.slot i=>(Nat.blt i 1000,typeIn K (.ref p),slotIn K p C))
noncomputable def skR(K:Frag)(C:Addr)(n:Str)(p:Addr)(k:SK):type_of% (skL K C n p k):=(QE (QE (.builtin "object.__setattr__")),QF,match k with
 |.own=>(QE QD,QF,QD,QD)
 |.slot i=>(QE (QE (.ref p)),QF,QE (.type "member_descriptor"),QE i))
theorem Mb{K:Frag}{C p:Addr}{n:Str}{k:SK}(h:skL K C n p k=skR K C n p k):Mn K C n k:=by
 cases k with
 |own=>exact⟨QJ (·.1) h,QJ (·.2.1) h,QJ (·.2.2.1) h,QJ (·.2.2.2.1) h⟩
 |slot i=>exact⟨QJ (·.1) h,QJ (·.2.1) h,Nat.blt_eq.mp (QJ (·.2.2.2.1) h),p,QJ (·.2.2.1) h,QJ (·.2.2.2.2.1) h,QJ (·.2.2.2.2.2) h⟩
theorem K3(P:Params):skS.map (λt=>t.2.map λr=>skL (KS P) t.1 r.1 r.2.2 r.2.1)=skS.map λt=>t.2.map λr=>skR (KS P) t.1 r.1 r.2.2 r.2.1:=by kernel_rfl
def Bk:gw where
 ak:=λC n=>(pj akS C n).map (·.1)
 sk:=λC n=>(pj skS C n).map (·.1)
theorem qR{α β:Type}{T:List (Addr×List (Str×α×Addr))}{L R:Addr->Str->Addr->α->β}(e:T.map (λt=>t.2.map λr=>L t.1 r.1 r.2.2 r.2.1)=T.map λt=>t.2.map λr=>R t.1 r.1 r.2.2 r.2.1){C:Addr}{n:Str}{k:α}(h:(pj T C n).map (·.1)=QE k):∃p,L C n p k=R C n p k:=
 (Qm.mp h).elim λa h=>(nC h.1).elim λl m=>⟨a.2,h.2▸Qk.mp (Qk.mp e (C,l) m.1) (n,a) m.2⟩
theorem C7(P:Params):gA Bk (KS P):=⟨λC n k h=>(qR (M7 P) h).elim λ_ e=>KU e,λC n k h=>(qR (K3 P) h).elim λ_ e=>Mb e⟩
noncomputable def gS:List (Str×Value×Bool):=[((QC "unorderable_list_difference"), .ref 51,QG),((QC "_NodeInfo"), .ref 70,QG),((QC "TopologicalSorter"), .ref 167,QG),((QC "_index"), .ref 190,QG),((QC "BytesIO"), .ref 477,QG),((QC "StringIO"), .ref 724,QG),((QC "shlex"), .ref 859,QG),((QC "split"), .ref 871,QG),((QC "join_shlex"), .ref 878,QG),((QC "_find_unsafe"), .ref 879,QG),((QC "quote"), .ref 886,QG),((QC "_law_needs"), .ref 891,QG),((QC "_law_plan"), .ref 896,QG),((QC "_law_told"), .ref 901,QG),((QC "_law_due"), .ref 906,QG),((QC "deque"), .type "collections.deque",QG),((QC "len"), .builtin "len",QF),((QC "sorted"), .builtin "sorted",QF),((QC "sum"), .builtin "sum",QF),((QC "isinstance"), .builtin "isinstance",QF),((QC "iter"), .builtin "iter",QF),((QC "list"), .type "list",QF),((QC "tuple"), .type "tuple",QF),((QC "range"), .type "range",QF),((QC "type"), .type "type",QF),((QC "int"), .type "int",QF),((QC "str"), .type "str",QF),((QC "bool"), .type "bool",QF),((QC "set"), .type "set",QF),((QC "object"), .type "object",QF),((QC "StopIteration"), .type "StopIteration",QF),((QC "ValueError"), .type "ValueError",QF)]
noncomputable def gI:List (Str×Int×Nat):=[((QC "_NODE_OUT"),(-1),346),((QC "_NODE_DONE"),(-2),349)]
def Gb:List (Str×SV):=gS.map (λr=>(r.1, .top r.2.1))++gI.map λr=>(r.1, .int r.2.1)
noncomputable def gL(K:Frag)(x:Str)(v:Value)(b:Bool):=(x==("__debug__":Str),nsIn K mainGlobals x,cond b (bootBuiltins x) (QE v),cond b (x==("__name__":Str)) QG)
noncomputable def gR(K:Frag)(x:Str)(v:Value)(b:Bool):type_of% (gL K x v b):=(QG,cond b (QE QD) (QE (QE v)),QE v,QG)
theorem u6{K:Frag}{x:Str}{v:Value}{b:Bool}{sv:SV}(h:gL K x v b=gR K x v b)(hv:aA [] sv v):By K x sv:=
 ⟨v,hv,QJ (·.1) h,by
  cases b with
  |true=>exact .inr ⟨QJ (·.2.1) h,QJ (·.2.2.1) h,ne_of_beq_false (QJ (·.2.2.2) h)⟩
  |false=>exact .inl (QJ (·.2.1) h)⟩
theorem KR(P:Params):gS.map (λr=>gL (KS P) r.1 r.2.1 r.2.2)=gS.map λr=>gR (KS P) r.1 r.2.1 r.2.2:=by kernel_rfl
theorem KM(P:Params):gI.map (λr=>gL (KS P) r.1 (.int r.2.1 r.2.2) QG)=gI.map λr=>gR (KS P) r.1 (.int r.2.1 r.2.2) QG:=by kernel_rfl
theorem H3(P:Params){p:Str×SV}(h:p∈Gb):By (KS P) p.1 p.2:=(Qd.mp h).elim
 (λm=>(Qe.mp m).elim λr h=>h.2▸u6 (Qk.mp (KR P) r h.1) rfl)
 λm=>(Qe.mp m).elim λr h=>h.2▸u6 (Qk.mp (KM P) r h.1) ⟨_,rfl⟩
noncomputable def GS:qA:=⟨70,66⟩
noncomputable def zj:qA:=⟨167,103⟩
noncomputable def Bo:qA:=⟨859,783⟩
theorem E8(P:Params):nA (KS P) GS:=⟨by kernel_rfl,by kernel_rfl,by kernel_rfl⟩
theorem A8(P:Params):nA (KS P) zj:=⟨by kernel_rfl,by kernel_rfl,by kernel_rfl⟩
theorem Bi(P:Params):nA (KS P) Bo:=⟨by kernel_rfl,by kernel_rfl,by kernel_rfl⟩
noncomputable def bdS:List (Addr×List (Str×Addr)):=[(167,[((QC "add"),117),((QC "done"),150)])]
theorem zU(P:Params):gQ (KS P) 167 (QC "add") 117:=⟨by kernel_rfl,by kernel_rfl,by kernel_rfl,by kernel_rfl,by kernel_rfl,by kernel_rfl,by kernel_rfl,by kernel_rfl⟩
theorem ye(P:Params):gQ (KS P) 167 (QC "done") 150:=⟨by kernel_rfl,by kernel_rfl,by kernel_rfl,by kernel_rfl,by kernel_rfl,by kernel_rfl,by kernel_rfl,by kernel_rfl⟩
noncomputable def Lz:List Addr:=[51,66,103,110,122,129,157,190,494,501,508,670,783,790,820,827,849,856,871,886,891,896,901,906,911,70,167,859,724,117,150,878]
theorem Nh(P:Params):(Lz.all λf=>keepIn (KS P) (.ref f))=QF:=by kernel_rfl
def AN(f:Addr)(n:Nat)(kw:List Str)(l:List FnE):Option FnE:=l.find? λe=>Nat.beq e.f f&&(Nat.beq e.na n&&jg aQ e.kws kw)
theorem mX{f:Addr}{n:Nat}{kw:List Str}{e:FnE}{l:List FnE}(h:AN f n kw l=QE e):e∈l/\e.f=f/\e.na=n/\e.kws=kw:=
 have z:=Qo.mp (List.find?_some (p:=λe:FnE=>Nat.beq e.f f&&(Nat.beq e.na n&&jg aQ e.kws kw)) h)
 have y:=Qo.mp z.2
 ⟨List.mem_of_find?_eq_some h,PV z.1,PV y.1,(lR λ_ _=>aM).mp y.2⟩
noncomputable def FY(f:Addr)(n:Nat)(l:List FnV):Option FnV:=l.find? λe=>Nat.beq e.f f&&Nat.beq e.na n
theorem vz{f:Addr}{n:Nat}{e:FnV}{l:List FnV}(h:FY f n l=QE e):e∈l/\e.f=f/\e.na=n:=
 have z:=Qo.mp (List.find?_some (p:=λe:FnV=>Nat.beq e.f f&&Nat.beq e.na n) h)
 ⟨List.mem_of_find?_eq_some h,PV z.1,PV z.2⟩
noncomputable def MZ:List (Str×String):=[(QC "ValueError","ValueError"),(QC "StopIteration","StopIteration")]
theorem FZ(P:Params):∀p∈MZ,eA (KS P) p.1 p.2:=oY ⟨by kernel_rfl,by kernel_rfl,by kernel_rfl,ne_of_beq_false (by kernel_rfl),by rw[isSubtype_type];kernel_rfl,by rw[isSubtype_type];kernel_rfl,by rw[isSubtype_type];kernel_rfl⟩ ⟨by kernel_rfl,by kernel_rfl,by kernel_rfl,ne_of_beq_false (by kernel_rfl),by rw[isSubtype_type];kernel_rfl,by rw[isSubtype_type];kernel_rfl,by rw[isSubtype_type];kernel_rfl⟩
def Gs:xX where
 fn:=λf n kw=>AN f n kw fnS
 fnV:=λf n=>FY f n Ms
 fnC:=λf n kw=>AN f n kw Nb
 cls:=λf=>Ai f [(70,GS),(167,zj),(859,Bo)]
 facts:=Bk
 glob:=λx=>tX x Gb
 bd:=pj bdS
 callee:=λf=>jS f Lz
 exc:=λx=>tX x MZ
theorem I8(P:Params):dN Gs (KS P) where
 fn:=λf n kw e h=>let⟨a,b⟩:=mX h;⟨eP P e a,b⟩
 fnV:=λf n e h=>let⟨a,b⟩:=vz h;⟨Ax P e a,b⟩
 fnC:=λf n kw e h=>let⟨a,b⟩:=mX h;⟨lG P e a,b⟩
 cls:=λf e h=>by
  exact(List.forall_mem_cons (p:=λq:Addr×qA=>nA (KS P) q.2/\q.2.C=q.1)).mpr ⟨⟨E8 P,rfl⟩,oY ⟨A8 P,rfl⟩ ⟨Bi P,rfl⟩⟩ (f,e) (nj h)
 facts:=C7 P
 glob:=λx sv h=>H3 P (jC h)
 bd:=λC n f h=>by
  refine Qq (nC h) λl z=>?_
  cases Qc.mp z.1
  exact oY (Q:=λp:Str×Addr=>gQ (KS P) 167 p.1 p.2) (zU P) (ye P) (n,f) z.2
 callee:=λf h=>List.all_eq_true.mp (Nh P) f (of_decide_eq_true ((kK ..).symm.trans h))
 exc:=λx T h=>FZ P (x,T) (jC h)
def TT(k:Nat)(F:Fs):Tab:=l0 Gs GKS k F
theorem nq(k:Nat)(F:Fs)(c:Cx)(hK:GKS c.K)(H:aD c F):bM (TT k F) c F:=by
 obtain⟨P,hP⟩:=hK
 exact i9 k c F ⟨P,hP⟩ (by rw[hP];exact I8 P) H
noncomputable def gW{α:Type}(r:Option (α×XS)):Nat:=match r with
 |some (_,x)=>x.st.led.length
 |none=>0
def fU(r:Option (XF×XS))(n0:Nat)(pk:List Nat)(S':St)(fl:XF)(C:Prop):Prop:=
 ko (at_ pk (gW r)) fl=ko (at_ pk (gW r)) fl/\PZ n0=PZ n0/\QF=QF/\bI (mapLed (at_ pk (gW r)) S'.led)=bI (mapLed (at_ pk (gW r)) S'.led)/\(S'.loc.map λq=>QE (aU (at_ pk (gW r)) q.2))=(S'.loc.map λq=>QE (aU (at_ pk (gW r)) q.2))/\C
def b8(r:Option (SV×XS))(n0:Nat)(pk:List Nat)(S':St)(v:SV)(C:Prop):Prop:=
 aU (at_ pk (gW r)) v=aU (at_ pk (gW r)) v/\PZ n0=PZ n0/\QF=QF/\bI (mapLed (at_ pk (gW r)) S'.led)=bI (mapLed (at_ pk (gW r)) S'.led)/\(S'.loc.map λq=>QE (aU (at_ pk (gW r)) q.2))=(S'.loc.map λq=>QE (aU (at_ pk (gW r)) q.2))/\C
def dP(r:Option (Bool×XS))(n0:Nat)(pk:List Nat)(S':St)(v:Bool)(C:Prop):Prop:=
 v=v/\PZ n0=PZ n0/\QF=QF/\bI (mapLed (at_ pk (gW r)) S'.led)=bI (mapLed (at_ pk (gW r)) S'.led)/\(S'.loc.map λq=>QE (aU (at_ pk (gW r)) q.2))=(S'.loc.map λq=>QE (aU (at_ pk (gW r)) q.2))/\C
theorem aw{F:Fs}{k n:Nat}{l:List Stmt}{S S':St}{hs:List (Nat×Bool)}{orc:List Orc}{fl:XF}(pk:List Nat)(C:Prop)(h:Ran (c9 (TT k F) F n l ⟨S,hs,0,[],orc⟩) S.led.length pk S' fl=fU (c9 (TT k F) F n l ⟨S,hs,0,[],orc⟩) S.led.length pk S' fl C)(hC:C):aa GKS F l S S' fl:=
 .of_ran (nq k F) (h.mpr ⟨rfl,rfl,rfl,rfl,rfl,hC⟩)
theorem hV{F:Fs}{k n:Nat}{l:Stmt}{S S':St}{hs:List (Nat×Bool)}{orc:List Orc}{fl:XF}(pk:List Nat)(C:Prop)(h:Ran (exN (TT k F) F n l ⟨S,hs,0,[],orc⟩) S.led.length pk S' fl=fU (exN (TT k F) F n l ⟨S,hs,0,[],orc⟩) S.led.length pk S' fl C)(hC:C):ae GKS F l S S' fl:=
 .of_ran (nq k F) (h.mpr ⟨rfl,rfl,rfl,rfl,rfl,hC⟩)
theorem bp{F:Fs}{k n:Nat}{e:Expr}{S S':St}{hs:List (Nat×Bool)}{orc:List Orc}{v:SV}(pk:List Nat)(C:Prop)(h:dq (evN (TT k F) F n e ⟨S,hs,0,[],orc⟩) S.led.length pk S' v=b8 (evN (TT k F) F n e ⟨S,hs,0,[],orc⟩) S.led.length pk S' v C)(hC:C):ah GKS F e S S' v:=
 .of_ran (nq k F) (h.mpr ⟨rfl,rfl,rfl,rfl,rfl,hC⟩)
theorem d4{F:Fs}{k n:Nat}{e:Expr}{S S':St}{hs:List (Nat×Bool)}{orc:List Orc}{b:Bool}(pk:List Nat)(C:Prop)(h:fC (tsN (TT k F) F n e ⟨S,hs,0,[],orc⟩) S.led.length pk S' b=dP (tsN (TT k F) F n e ⟨S,hs,0,[],orc⟩) S.led.length pk S' b C)(hC:C):aJ GKS F e S S' b:=
 .of_ran (nq k F) (h.mpr ⟨rfl,rfl,rfl,rfl,rfl,hC⟩)
def ao(n:Nat):Prop:=Nat.ble n 1000=QF
def bJ(F:Fs)(t:Str)(v:SV)(S S':St):Prop:=match cO F t v ⟨S,[],0,[],[]⟩with
 |some (_,x1)=>x1.st.led=S'.led/\S'.loc.map (λq=>x1.st.loc.lookup q.1)=S'.loc.map (λq=>QE q.2)/\x1.cs=[]
 |none=>False
def b6(S':St):Prop:=S'.led=S'.led/\S'.loc.map (λq=>QE q.2)=S'.loc.map (λq=>QE q.2)/\([]:List Prop)=[]
theorem qf{l1:List (Str×SV)}:∀{l:List (Str×SV)},l.map (λq=>l1.lookup q.1)=l.map (λq=>QE q.2)->∀x v,l.lookup x=QE v->l1.lookup x=QE v
 |[],_,_,_,e=>by cases e
 |p::r,h,x,v,e=>by
  rw[List.map_cons,List.map_cons,List.cons.injEq]at h
  rw[List.lookup_cons]at e
  cases q:(x==p.1)with
  |true=>
   rw[q]at e
   have:x=p.1:=by simpa using q
   rw[this,h.1,<-QH e]
  |false=>rw[q]at e;exact qf h.2 x v e
theorem Pre.reloc{S S':St}(p:Pre c F O S s m news)(h1:S.led=S'.led)(h2:S'.loc.map (λq=>S.loc.lookup q.1)=S'.loc.map (λq=>QE q.2)):Pre c F O S' s m news:=by
 obtain⟨loc,led⟩:=S'
 have h1:S.led=led:=h1
 subst h1
 refine⟨⟨p.rep.fr,p.rep.nw,p.rep.at_,p.rep.nd,p.rep.ob,λx=>?_⟩,p.below,p.turn,p.cell,p.vars,p.side⟩
 show eQ O (loc.lookup x) _
 cases e:loc.lookup x with
 |none=>trivial
 |some v=>
  have:=p.rep.lc x
  rw[qf h2 x v e]at this
  exact this
theorem assign_k{GK:Frag->Prop}{F:Fs}{t:Str}{tp:Pos}{v:SV}{S S':St}(h:bJ F t v S S'=b6 S'):aC GK F (.Name t tp) v S S':=λc hK H O s m news u p hv=>by
 have h:bJ F t v S S':=h.mpr ⟨rfl,rfl,rfl⟩
 unfold bJ at h
 split at h
 .rename_i a x1 run
  obtain⟨h1,h2,h3⟩:=h
  refine Qw ((gc H v _ _ _ run (by rw[h3];trivial)).2 O s m news u p hv) (λ_ _ z=>?_) λ_ _ z=>z
  refine aG.el z λO' m' n' a1 a2 a3=>?_
  exact⟨O',m',n',a1,a2.reloc h1 h2,a3⟩
 .exact h.elim
def cQ(it:Nat)(S S':St)(r:Option SV):Prop:=match pE it ⟨S,[],0,[],[]⟩with
 |some (r1,x1)=>r1=r/\x1.st.led=S'.led/\S'.loc.map (λq=>x1.st.loc.lookup q.1)=S'.loc.map (λq=>QE q.2)/\x1.cs=[]
 |none=>False
def dd(S':St)(r:Option SV):Prop:=r=r/\S'.led=S'.led/\S'.loc.map (λq=>QE q.2)=S'.loc.map (λq=>QE q.2)/\([]:List Prop)=[]
theorem dc{GK:Frag->Prop}{F:Fs}{it:Nat}{S S':St}{r:Option SV}(h:cQ it S S' r=dd S' r):ay GK F it S S' r:=λc hK H O s m news u p hv=>by
 have h:cQ it S S' r:=h.mpr ⟨rfl,rfl,rfl,rfl⟩
 unfold cQ at h
 split at h
 .rename_i a x1 run
  obtain⟨rfl,h1,h2,h3⟩:=h
  refine Qw ((jw H it _ _ _ run (by rw[h3];trivial)).2 O s m news u p hv) (λ_ _ z=>?_) λ_ _ z=>z
  refine aG.el z λO' m' n' a1 a2 a3=>?_
  exact⟨O',m',n',a1,a2.reloc h1 h2,a3⟩
 .exact h.elim
section
variable{GK:Frag->Prop}{F:Fs}
theorem ae.soft{st:Stmt}{S S1 S':St}{fl:XF}(h:ae GK F st S S1 fl)(hs:di S1 S'):ae GK F st S S' fl:=λc hK H O s m news p=>
 Qw (h c hK H O s m news p) (λ_ _ z=>by obtain⟨O',m',n',a1,a2,a3⟩:=z;exact⟨O',m',n',a1,hs.pre a2,a3⟩) λ_ _ z=>z
theorem aa.soft{st:List Stmt}{S S1 S':St}{fl:XF}(h:aa GK F st S S1 fl)(hs:di S1 S'):aa GK F st S S' fl:=λc hK H O s m news p=>
 Qw (h c hK H O s m news p) (λ_ _ z=>by obtain⟨O',m',n',a1,a2,a3⟩:=z;exact⟨O',m',n',a1,hs.pre a2,a3⟩) λ_ _ z=>z
theorem ae.weak{st:Stmt}{S S1 S':St}{fl:XF}(hs:di S S1)(h:ae GK F st S1 S' fl):ae GK F st S S' fl:=λc hK H O s m news p=>h c hK H O s m news (hs.pre p)
theorem aa.weak{st:List Stmt}{S S1 S':St}{fl:XF}(hs:di S S1)(h:aa GK F st S1 S' fl):aa GK F st S S' fl:=λc hK H O s m news p=>h c hK H O s m news (hs.pre p)
theorem qG{k:Nat}{o o':SO}(h:S.led[k]?=QE o)(hl:bE o o'):di S ⟨S.loc,S.led.set k o'⟩:=by
 refine⟨rfl,?_⟩
 have:∀(l:List SO)(k:Nat),l[k]?=QE o->br l (l.set k o'):=by
  intro l
  induction l with
  |nil=>intro k h;simp at h
  |cons a r ih=>
   intro k h
   cases k with
   |zero=>simp at h;subst h;exact .cons hl (br.refl _)
   |succ k=>exact .cons (bE.refl _) (ih k (by simpa using h))
 exact this _ _ h
end
def nth(l:List Stmt)(i:Nat):Stmt:=l.getD i (.Pass jV)
noncomputable def aT:Stmt->List Stmt
 |.While _ b _ _=>b
 |.For _ _ b _ _=>b
 |.If _ b _ _=>b
 |_=>[]
noncomputable def iW:Stmt->List Stmt
 |.While _ _ b _=>b
 |.For _ _ _ b _=>b
 |.If _ _ b _=>b
 |_=>[]
def bj:Stmt->Expr
 |.While t _ _ _=>t
 |.If t _ _ _=>t
 |.For _ t _ _ _=>t
 |.Assign _ t _=>t
 |.Expr t _=>t
 |_=> .Name (QC "") jV
def bg:Stmt->Expr
 |.For t _ _ _ _=>t
 |_=> .Name (QC "") jV
noncomputable def lS(s:Stmt):Pos:=s.pos
noncomputable def nm:Nat->Str
 |0=>⟨#[97]⟩
 |1=>⟨#[98,32,99]⟩
 |2=>⟨#[105,116,39,115]⟩
 |3=>⟨#[100]⟩
 |_=>⟨#[42]⟩
def nms:List Str:=[nm 0,nm 1,nm 2,nm 3,nm 4]
noncomputable def upd{α:Type}(p:Nat->α)(j:Nat)(v:α):Nat->α:=λk=>match Nat.beq k j with
 |true=>v
 |false=>p k
def bG(y:Str):Nat:=match aQ y (nm 0),aQ y (nm 1),aQ y (nm 2),aQ y (nm 3)with
 |true,_,_,_=>0
 |_,QF,_,_=>1
 |_,_,QF,_=>2
 |_,_,_,QF=>3
 |_,_,_,_=>4
noncomputable def nsS(rd:SV)(po fi:Int):SO:= .ns [(QC "_node2info", .ref 2),(QC "_ready_nodes",rd),(QC "_npassedout", .int po),(QC "_nfinished", .int fi)]
def rv(j:Nat)(k:Int)(s:List Str):List SO:=[.ns [], .slots 70 (3*j+3) [QE (.str (nm j)),QE (.int k),QE (.ref (3*j+5))], .words s]
def sd(p:Nat->Int)(s:Nat->List Str):List SO:=rv 0 (p 0) (s 0)++rv 1 (p 1) (s 1)++rv 2 (p 2) (s 2)++rv 3 (p 3) (s 3)++rv 4 (p 4) (s 4)
def Fv:List (Str×SV):=[(nm 0, .ref 4),(nm 1, .ref 7),(nm 2, .ref 10),(nm 3, .ref 13),(nm 4, .ref 16)]
def bO(po fi:Int)(p:Nat->Int)(s:Nat->List Str)(ready:List Str):List SO:=[.inst 167 1,nsS (.ref 18) po fi, .ns Fv]++sd p s++[.words ready]
theorem ng{y:Str}{P:Str->Prop}(h:y∈nms)(h0:P (nm 0))(h1:P (nm 1))(h2:P (nm 2))(h3:P (nm 3))(h4:P (nm 4)):P y:=by
 simp only[nms,Qb,Qi,or_false]at h
 rcases h with rfl|rfl|rfl|rfl|rfl<;>assumption
def wO:Fs:=⟨hX.sc,[],4,QD⟩
noncomputable def qX(V:List (Str×SV)):List (Str×SV):=V++[(QC "self", .ref 0),(QC "n2i", .ref 2),(QC "result", .ref 19)]
def k9(p:Nat->Int)(y:Str):Nat->Int:=upd p (bG y) (-1)
theorem Fd(po fi:Int)(p:Nat->Int)(s:Nat->List Str)(rd:List Str)(h:ao rd.length):aa GKS wO (hX.body.take 3) ⟨[(QC "self", .ref 0)],bO po fi p s rd⟩ ⟨qX [],bO po fi p s rd++[.wtup rd]⟩ .next:=
 aw (k:=20) (n:=nF) (hs:=[]) (orc:=[]) (PZ 20) (ao rd.length/\True) (by kernel_rfl) ⟨h,QI⟩
theorem Fz(po fi:Int)(p:Nat->Int)(s:Nat->List Str)(rd:List Str)(h:ao rd.length):aa GKS wO (hX.body.drop 4) ⟨qX [],bO po fi p s rd++[.wtup rd]⟩ ⟨[],bO (po+rd.length) fi p s []++[.wtup rd]⟩ (.ret (.ref 19)):=
 aw (k:=20) (n:=nF) (hs:=[]) (orc:=[]) (PZ 20) (ao rd.length/\ao rd.length/\True) (by kernel_rfl) ⟨h,h,QI⟩
def oZ(po fi:Int)(s:Nat->List Str)(rd:List Str)(V:List (Str×SV))(i:Nat)(p:Nat->Int):St:=⟨qX V,bO po fi p s rd++[.wtup rd,bo "tuple_iterator" 19 i]⟩
theorem Eb(po fi:Int)(s:Nat->List Str)(rd:List Str)(i:Nat)(p:Nat->Int){y:Str}(hy:y∈nms):aa GKS wO (aT (nth hX.body 3)) (oZ po fi s rd [(QC "node", .str y)] i p) (oZ po fi s rd [] i (k9 p y)) .next:=by
 refine ng (P:=λy=>aa GKS wO (aT (nth hX.body 3)) (oZ po fi s rd [(QC "node", .str y)] i p) (oZ po fi s rd [] i (k9 p y)) .next) hy ?_ ?_ ?_ ?_ ?_<;>
 exact aw (k:=20) (n:=nF) (hs:=[]) (orc:=[]) (PZ 21) True (by kernel_rfl) QI
theorem zf(po fi:Int)(s:Nat->List Str)(rd:List Str)(i:Nat)(p:Nat->Int)(y:Str):aC GKS wO (bg (nth hX.body 3)) (.str y) (oZ po fi s rd [] i p) (oZ po fi s rd [(QC "node", .str y)] i p):=by
 have:bg (nth hX.body 3)= .Name (QC "node") (bg (nth hX.body 3)).pos:=by kernel_rfl
 rw[this]
 exact assign_k (by kernel_rfl)
section
variable{P:Params}{prog:Program}{w:World}{A:Around}{h:Heap}{g:Array GenState}{d:Drawn}{t:Nat}{os:OsState}{R:Result->Shared->Prop}
theorem Fw(X:(KS P).In h):Looks (model prog w) h (Bind.madeBy (.ref 724)) QD:=Looks.of_peek X (by kernel_rfl)
theorem C5(X:(KS P).In h):Looks (model prog w) h (isSubtype (.ref 724) (.ref 724)) QF:=Looks.of_peek X (by kernel_rfl)
theorem Od(X:(KS P).In h):Looks (model prog w) h (isSubtype (.ref 724) (.type "object")) QF:=Looks.of_peek X (by kernel_rfl)
theorem HV(X:(KS P).In h):Looks (model prog w) h (isInstance (.ref 724) (.type "type")) QF:=Looks.of_peek X (by kernel_rfl)
theorem DE(X:(KS P).In h):Looks (model prog w) h (specialOf (.ref 724) "__call__") (QE (.builtin "type.__call__")):=Looks.of_peek X (by kernel_rfl)
theorem NW(X:(KS P).In h):Looks (model prog w) h (typeLookup (.ref 724) "__init__") (QE (.ref 494)):=looks_findIn X (by kernel_rfl)
noncomputable def pk2{α:Type}(x:Option (Obj×(Addr->Sem α))):Addr->Sem α:=match x with
 |some p=>p.2
 |none=>λ_=>unsupported "none"
theorem qh{α:Type}{x:Option (Obj×(Addr->Sem α))}{o:Obj}(h:x.map (·.1)=QE o):x=QE (o,pk2 x):=by
 cases x with
 |none=>cases h
 |some p=>cases h;rfl
theorem mM{α:Type}{M:Model}{A:Around}{E:Value->Shared->Prop}{Q:α->Shared->Prop}{K:Frag}{h₀:Heap}{L:Addr}{m:Str->Option Value}{o1:Obj}{o2:Addr->Obj}{r:Addr->Addr->α}
  (F:Fr h₀ L s.heap m)(N:News h₀ L s.heap news)(X:K.In h₀)(hf1:o1.isFreed=QG)(hf2:∀D,(o2 D).isFreed=QG){t:Sem α}(h1:(peekA K ⟨M.prog,M.w.params⟩ t).map (·.1)=QE o1)(h2:∀D,(peekA K ⟨M.prog,M.w.params⟩ (pk2 (peekA K ⟨M.prog,M.w.params⟩ t) D)).map (·.1)=QE (o2 D))
  (h3:∀D D',peek K ⟨M.prog,M.w.params⟩ (pk2 (peekA K ⟨M.prog,M.w.params⟩ (pk2 (peekA K ⟨M.prog,M.w.params⟩ t) D)) D')=QE (r D D'))
  (q:∀D D' h',Fr h₀ L h' m->News h₀ L h' ((D',o2 D)::(D,o1)::news)->(∀p∈news,p.1<D)->D<D'->Q (r D D') { s with heap:=h' }):wpAny M A t Q E s:=by
 refine wp_of_peekA F N (X.keeps F.keep) hf1 t _ (qh h1) λh' F1 N1 l1=>?_
 refine wp_of_peekA (s:={ s with heap:=h' }) F1 N1 (X.keeps F1.keep) (hf2 _) _ _ (qh (h2 _)) λh'' F2 N2 l2=>?_
 exact(Looks.of_peek (X.keeps F2.keep) (h3 _ _)).here (s:={ s with heap:=h'' }) (q _ _ h'' F2 N2 l1 (l2 _ (.head _)))
theorem A1:entryFor table "object.__new__"=QE Builtin.«object.__new__»:=PySem.F.objNew.entry
theorem J0{h₀:Heap}{L:Addr}{m:Str->Option Value}(F:Fr h₀ L s.heap m)(N:News h₀ L s.heap news)(X:(KS P).In h₀)
  (hq:∀D D' h',Fr h₀ L h' m->News h₀ L h' ((D',instObj 724 D)::(D,emptyDict)::news)->(∀p∈news,p.1<D)->D<D'->R (.ok (.ret (.ref D'))) { s with heap:=h' }):
  codeAny (model prog w) A (.call (.builtin "object.__new__") ⟨[.ref 724],[]⟩) R s:=by
 refine codeAny_call_builtin_code (Code.quiet_builtin _ PySem.F.objNew.quiet) ((Looks.of_peek (r:=()) (X.keeps F.keep) (by kernel_rfl)).here ?_)
 refine codeAny_builtin A1 ?_
 refine mM (K:=KS P) (o1:=emptyDict) (o2:=λD=>instObj 724 D) (r:=λD D'=>Fin.done (.ret (.ref D'))) F N X rfl (λD=>rfl) (by kernel_rfl) (λD=>by kernel_rfl) (λD D'=>by kernel_rfl) λD D' h' F' N' l1 l2=>hq D D' h' F' N' l1 l2
end
def sR:List Stmt:=oy (mS 16 1)
def eK:Scope:=cz (mS 16 1)
def jt:Fs:=⟨eK,[],4,QD⟩
noncomputable def jX(x:Str):St:=⟨[(QC "kwargs", .ref 1),(QC "args", .ref 0),(QC "cls", .top (.ref 724))],[.tup [.str x], .ns []]⟩
noncomputable def qY(x:Str):St:=⟨[(QC "cls", .top (.ref 724))],[.tup [.str x], .ns [], .ns [], .inst 724 2]⟩
noncomputable def F8:Expr:= .Name (QC "object") ⟨156,15,156,21⟩
noncomputable def Ca:Expr:= .Name (QC "cls") ⟨156,30,156,33⟩
def wC:Expr:= .Call (.Attribute F8 (QC "__new__") ⟨156,15,156,29⟩) [Ca] [] ⟨156,15,156,34⟩
theorem NZ:sR=[nth sR 0, .Return (QE wC) ⟨156,8,156,34⟩]:=by kernel_rfl
def yH(op:CmpOp)(a b:SV):XM SV:=match op,a,b with
 |.IsNot, .top (.ref x), .top (.ref y)=>(match Nat.beq x 724,Nat.beq y 724,Nat.beq y 477 with
  |true,QF,_=>aH (.bool QG)
  |true,QG,QF=>aH (.bool QF)
  |_,_,_=>ar)
 |_,_,_=>ar
theorem wG(hK:GKS c.K)(H:aD c F)(op:CmpOp)(a b:SV):aj c F (P2 a b) (yH op a b) (λv=>compareOp op v.1 v.2) rV:=by
 obtain⟨P,hP⟩:=hK
 unfold yH
 split
 .rename_i x y
  split
  .rename_i h1 h2
   intro z r z' e hc
   cases bf e
   refine⟨hc,λO s m news g p hg=>?_⟩
   obtain⟨g1,g2⟩:=g
   obtain⟨rfl,rfl⟩:g1=_/\g2=_:=hg
   rw[PV h1,PV h2]
   exact(Looks.of_peek (r:= .bool QG) (hP▸(p.kin H.toCxW).keeps p.rep.fr.keep) (by kernel_rfl)).here (show aG c F O z.st (rV (.bool QG)) (.bool QG) s from p.now rfl)
  .rename_i h1 h2 h3
   intro z r z' e hc
   cases bf e
   refine⟨hc,λO s m news g p hg=>?_⟩
   obtain⟨g1,g2⟩:=g
   obtain⟨rfl,rfl⟩:g1=_/\g2=_:=hg
   rw[PV h1,PV h3]
   exact(Looks.of_peek (r:= .bool QF) (hP▸(p.kin H.toCxW).keeps p.rep.fr.keep) (by kernel_rfl)).here (show aG c F O z.st (rV (.bool QF)) (.bool QF) s from p.now rfl)
  .exact aX
 .exact aX
def TT2(k:Nat)(F:Fs):Tab:={ TT k F with cmp:=λop a b=>bQ ((TT k F).cmp op a b) (yH op a b) }
theorem Je(k:Nat)(F:Fs)(c:Cx)(hK:GKS c.K)(H:aD c F):bM (TT2 k F) c F:=
 let T:=nq k F c hK H
 { glob:=T.glob,cmp:=λop a b=>aO (T.cmp op a b) (wG hK H op a b),bin:=T.bin,inp:=T.inp,truth:=T.truth,attr:=T.attr,setattr:=T.setattr,meth:=T.meth,callee:=T.callee,call:=T.call,item:=T.item,spec:=T.spec,specS:=T.specS,setitem:=T.setitem }
theorem rq(x:Str):ah GKS jt F8 (jX x) (jX x) (.top (.type "object")):=@bp _ 20 nF _ _ _ [] [] _ [0,1] True (by kernel_rfl) QI
theorem rf(x:Str):ah GKS jt Ca (jX x) (jX x) (.top (.ref 724)):=@bp _ 20 nF _ _ _ [] [] _ [0,1] True (by kernel_rfl) QI
theorem mt1:typeOf (.type "object")=pure (.type "type"):=by first|rfl|kernel_rfl
theorem mt2(P:Params):findCls (KS P) (.type "object") (.type "type") (QC "__new__")=QE (.val (.builtin "object.__new__")):=by kernel_rfl
theorem mt3:Manifest.isStub "object"=QG:=by decide+kernel
theorem mt4:handedIn (.builtin "object.__new__")=QF:=by kernel_rfl
theorem Aa{P:Params}{prog:Program}{w:World}{A:Around}{E:Value->Shared->Prop}{h₀:Heap}{L:Addr}{m:Str->Option Value}{pl:Sem Bool}{Q:Value×List Value->Shared->Prop}(F:Fr h₀ L s.heap m)(X:(KS P).In h₀)(h:Q (.builtin "object.__new__",[]) { s with toks:=s.toks+1 }):
  wpAny (model prog w) A (getMethod (.type "object") (QC "__new__") pl) Q E s:=@method_type _ _ _ _ _ _ _ _ _ _ _ _ _ _ F X mt1 mt3 (mt2 P) mt4 h
theorem rR(x:Str):ah GKS jt wC (jX x) (qY x) (.ref 3):=by
 intro c hK H O s m news p
 obtain⟨P,hP⟩:=hK
 have hKc:GKS c.K:=⟨P,hP⟩
 refine df (n:=QC "__new__") (apos:=⟨156,15,156,29⟩) (pos:=⟨156,15,156,34⟩) (args:=[Ca]) (kws:=[]) rfl rfl (by decide) rfl rfl (go_ (rq x c hKc H O s m news p) λO1 m1 n1 v1 s1 p1 q1 r1=>?_)
 rw[show v1=Value.type "object" from r1]
 have X1:(KS P).In m1.g:=hP▸q1.kin H.toCxW
 refine Aa q1.rep.fr X1 ?_
 refine callWith_of (P:=λ_=>True) rfl (λh _=>⟨.machine, .inr (.inl rfl), .now⟩) ?_
 have q2:=q1.toks (s1.toks+1)
 refine evalArgs_kw2 (kws:=[]) rfl (wpAny_items_cons (go_ (rf x c hKc H O1 _ m1 n1 q2) λO3 m3 n3 v3 s3 p3 q3 r3=>wpAny_items_nil ?_) rfl) rfl
 rw[show v3=Value.ref 724 from r3]
 refine Qx ⟨QI,?_⟩
 have X3:(KS P).In m3.g:=hP▸q3.kin H.toCxW
 refine wpAny_call (J0 q3.rep.fr q3.rep.nw X3 λD D' h' F' N' l1 l2=>?_)
 exact⟨_,m3,_,p1.trans (p3.trans ((P6 _ _).trans (P6 _ _))),(q3.made2 F' N' l1 l2).reloc rfl (by kernel_rfl),D',q3.len2 (o:= .ns []),rfl⟩
theorem HO(x:Str):aa GKS jt sR (jX x) ⟨[],[.tup [.str x], .ns [], .ns [], .inst 724 2]⟩ (.ret (.ref 3)):=
 .of_ran (Je 20 jt) (n:=nF) (hs:=[]) (orc:=[.expr (iq wC) (qY x) (.ref 3)]) (pk:=[0,1,2,3])
  ((by kernel_rfl:Ran (c9 (TT2 20 jt) jt nF sR ⟨jX x,[],0,[],[.expr (iq wC) (qY x) (.ref 3)]⟩) (jX x).led.length [0,1,2,3] ⟨[],[.tup [.str x], .ns [], .ns [], .inst 724 2]⟩ (.ret (.ref 3))=fU (c9 (TT2 20 jt) jt nF sR ⟨jX x,[],0,[],[.expr (iq wC) (qY x) (.ref 3)]⟩) (jX x).led.length [0,1,2,3] ⟨[],[.tup [.str x], .ns [], .ns [], .inst 724 2]⟩ (.ret (.ref 3)) (ah GKS jt wC (jX x) (qY x) (.ref 3)/\True)).mpr ⟨rfl,rfl,rfl,rfl,rfl,rR x,QI⟩)
noncomputable abbrev q8:FuncData:=fnOf (QC "__new__") (QC "IOBase.__new__") (pK (mS 16 1)) sR eK .none .none .none (.str (QC "io") 565) QD (.ref 216) .none
theorem Lp(P:Params):(KS P).lookup 217=QE ⟨.type "function",QD, .func q8,#[]⟩:=by kernel_rfl
theorem MH(P:Params):codeIn (KS P) (.ref 216) (QC "IOBase.__new__")=QF:=by kernel_rfl
noncomputable def AD(vs:List Value):Obj:={ cls:= .type "tuple",data:= .seq vs.toArray }
theorem bd1(P:Params)(S:Setting)(x:Str)(t:Tok):(peekA (KS P) S (bindArgs q8 ⟨[.ref 724, .str x t],[]⟩)).map (·.1)=QE (AD [.str x t]):=by kernel_rfl
theorem bd2(P:Params)(S:Setting)(x:Str)(t:Tok):∀D,(peekA (KS P) S (pk2 (peekA (KS P) S (bindArgs q8 ⟨[.ref 724, .str x t],[]⟩)) D)).map (·.1)=QE emptyDict:=λD=>by kernel_rfl
theorem bd3(P:Params)(S:Setting)(x:Str)(t:Tok):∀D D',peek (KS P) S (pk2 (peekA (KS P) S (pk2 (peekA (KS P) S (bindArgs q8 ⟨[.ref 724, .str x t],[]⟩)) D)) D')=QE [(QC "cls", .ref 724),(QC "args", .ref D),(QC "kwargs", .ref D')]:=λD D'=>by kernel_rfl
theorem IV:([QC "cls",QC "args",QC "kwargs"].all λy=>decide (eK.names.lookup y=QE .local))=QF:=by kernel_rfl
theorem wc:(eK.names.all λx=>decide (x.2≠ .cell))=QF:=by kernel_rfl
theorem t9:eK.kind= .function:=by kernel_rfl
theorem M4:eK.isCoroutine=QG:=by kernel_rfl
theorem Hm:eK.isGenerator=QG:=by kernel_rfl
theorem Dm{A:Around}(hK:GKS c.K)(H:aD c F)(hl:6<=F.lvl)(HA:AOk c F A){mm:Fm}(p:Pre c F O S s mm news)(x:Str)(t:Tok):
  codeAny c.M A (.call (.ref 217) ⟨[.ref 724, .str x t],[]⟩) (Bs c F O ⟨S.loc,S.led++[.ns [], .inst 724 S.led.length]⟩ (rV (.ref (S.led.length+1)))) s:=by
 obtain⟨P,hP⟩:=hK
 have hKc:GKS c.K:=⟨P,hP⟩
 have X₀:(KS P).In mm.g:=hP▸p.kin H.toCxW
 have X:=X₀.keeps p.rep.fr.keep
 refine codeAny_call_function (fd:=q8) (body:=sR) (by have:=H.depth;have:=HA.depth;lia) (X _ _ (Lp P)) rfl M4 Hm rfl (codeRec_of X (MH P)) ?_
 have nil:News mm.g c.L s.heap []:=λq hq=>nomatch hq
 refine mM (K:=KS P) (o1:=AD [.str x t]) (o2:=λ_=>emptyDict) (r:=λD D'=>[(QC "cls", .ref 724),(QC "args", .ref D),(QC "kwargs", .ref D')]) p.rep.fr p.rep.nw X₀ rfl (λ_=>rfl) (bd1 P _ x t) (bd2 P _ x t) (bd3 P _ x t) (λD D' h' F' N' l1 l2=>?_)
 have hNs:News mm.g c.L h' [(D,AD [.str x t]),(D',emptyDict)]:=λq hq=>by
  simp only[Qb,Qi,or_false]at hq
  rcases hq with rfl|rfl
  .exact N' _ (.tail _ (.head _))
  .exact N' _ (.head _)
 have p0:Pre c F (O++[D]++[D']) ⟨S.loc,S.led++[.any]++[.any]⟩ { s with heap:=h' } mm _:=p.two F' N' l1 l2 QI QI
 refine jj (s:={ s with heap:=h' }) (sub:=[(D,AD [.str x t]),(D',emptyDict)]) (env:=c.fenv) p.below F' hNs (p.top H.toCxW).nolimit (by rw[HA.frames];exact H.frames) rfl H.ffn (λy hy=>?_) (λgh L' h₁ FG FL NG BG hg=>?_) (λx hx=>of_decide_eq_true (List.all_eq_true.mp wc x hx)) t9
 .have:=List.all_eq_true.mp IV
  simp only[Qb,Qi,or_false]at hy
  rcases hy with rfl|rfl|rfl<;>exact of_decide_eq_true (this _ (by simp))
 .have HC:aD (c.callee A (envX (QC "IOBase.__new__") eK L' 217 (.ref 216) []) gh L' (QC "IOBase.__new__") eK 217 (.ref 216) []) jt:=gF p0 H.toCxW FG rfl t9 HA.frames HA.depth HA.units HA.handled hl
  have hDD:[D,D'].Nodup:=by simp;exact PY l2
  have P':Pre (c.callee A (envX (QC "IOBase.__new__") eK L' 217 (.ref 216) []) gh L' (QC "IOBase.__new__") eK 217 (.ref 216) []) jt [D,D'] (jX x) { s with heap:=h₁,toks:=s.toks+3 } ⟨gh,λy=>[(QC "cls", .ref 724),(QC "args", .ref D),(QC "kwargs", .ref D')].reverse.lookup y⟩ [(D,AD [.str x t]),(D',emptyDict)]:=by
   refine⟨⟨FL,NG,rfl,hDD,⟨_,_,rfl,⟨[.str x t],0,rfl,_,_,rfl,⟨t,rfl⟩,rfl⟩,_,_,rfl,⟨[],0,rfl,rfl⟩,rfl⟩,?_⟩,BG,KtsTurn.refl,(λy k q=>nomatch q),(λk q=>nomatch q),⟨p.side.os,p.side.gens,PW p.side.tk (Nat.le_add_right _ _)⟩⟩
   exact bP.look (O:=[D,D']) (show bP [D,D'] [(QC "kwargs", .ref 1),(QC "args", .ref 0),(QC "cls", .top (.ref 724))] [(QC "kwargs", .ref D'),(QC "args", .ref D),(QC "cls", .ref 724)]from⟨_,_,rfl,⟨_,rfl,rfl⟩,_,_,rfl,⟨_,rfl,rfl⟩,_,_,rfl,rfl,rfl⟩)
  refine Qw (HO x (c.callee A (envX (QC "IOBase.__new__") eK L' 217 (.ref 216) []) gh L' (QC "IOBase.__new__") eK 217 (.ref 216) []) hKc HC _ _ _ _ P') (λfl' s' z=>?_) λ_ _ z=>z.elim
  refine aG.el z λτ' m' sub' pre q' r'=>?_
  have P0:Pre (c.callee A (envX (QC "IOBase.__new__") eK L' 217 (.ref 216) []) gh L' (QC "IOBase.__new__") eK 217 (.ref 216) []) jt [] ⟨[],[]⟩ { s with heap:=h₁,toks:=s.toks+3 } ⟨gh,λy=>[(QC "cls", .ref 724),(QC "args", .ref D),(QC "kwargs", .ref D')].reverse.lookup y⟩ []:=
   ⟨⟨FL,(λq hq=>nomatch hq),rfl,List.nodup_nil,rfl,λx=>trivial⟩,BG,KtsTurn.refl,(λy k q=>nomatch q),(λk q=>nomatch q),⟨p.side.os,p.side.gens,PW p.side.tk (Nat.le_add_right _ _)⟩⟩
  obtain⟨O2,news2,_,q2,onto⟩:=P0.fin List.nil_prefix q' (S':=⟨[],[.ns [], .inst 724 0]⟩) (pk:=[2,3]) ⟨rfl,⟨rfl,rfl⟩,rfl⟩
  obtain⟨u,rfl,hu⟩:=r'
  have hu2:aA O2 (.ref 1) u:=aA.unmap onto (show aA τ' (aU (at_ [2,3] 4) (.ref 1)) u from hu)
  obtain⟨g1,F2,B2,T2,N2,keep,none1⟩:=p.leave FG rfl rfl q2
  have hnf:∀q∈news,q.1∉c.L::c.fs:=λq hq h=>by
   rcases Qb.mp h with h|h
   .exact(p.rep.nw q hq).2.1 h
   .obtain⟨_,o,ho,_⟩:=p.below.frames.mem h
    rw[(p.rep.nw q hq).2.2]at ho;cases ho
  have hkeepg:∀q∈news,gh.get? q.1=QE q.2:=λq hq=>hg _ _ (N' q (.tail _ (.tail _ hq))).1 (by
   simp only[List.map_cons,List.map_nil,Qb,Qi,or_false]
   rintro(h|h)
   .exact Nat.lt_irrefl _ (h▸l1 q hq)
   .exact Nat.lt_irrefl _ (Nat.lt_trans (h▸l1 q hq) l2))
  obtain⟨O',news',pre2,p2,into2⟩:=p.back (pk:=[]) (τ:=[]) (Sout:=[.ns [], .inst 724 0]) rfl rfl List.nil_prefix q2.rep.at_ q2.rep.nd q2.rep.ob F2 B2 T2 N2 (λq hq hn=>keep _ _ (hkeepg q hq) (hnf q hq)) (λq hq hn hin=>by
   rw[<-p.rep.at_]at hin
   obtain⟨r,hr,er⟩:=Qe.mp hin
   have h1:=hkeepg r hr
   have h2:=(KtsTurn.other q2.turn) _ _ h1 (hnf r hr)
   rw[er,(q2.rep.nw q hq).2.2]at h2;cases h2) ⟨q2.side.os,q2.side.gens,q2.side.tk⟩ none1
  exact⟨O',_,news',pre2,p2,aA.map into2 hu2⟩
def Oi:Fs:=⟨JU.sc,[],6,QD⟩
noncomputable def dt(x:Str)(i:Int):SO:= .ns [(QC "_StringIO__newline", .str ⟨#[10]⟩),(QC "_StringIO__buf", .str x),(QC "_StringIO__pos", .int i)]
noncomputable def PR(x:Str):St:=⟨[(QC "newline", .str ⟨#[10]⟩),(QC "initial_value", .str x),(QC "self", .ref 1)],[.ns [], .inst 724 0]⟩
theorem EU(x:Str):ab GKS 6 494 [.ns [], .inst 724 0] [.ref 1, .str x] [dt x 0, .inst 724 0] .none:=
 ab.plain (e:=JU) (fl:= .next) (b:=[(QC "self", .ref 1),(QC "initial_value", .str x),(QC "newline", .str ⟨#[10]⟩)]) (S':=⟨[],[dt x 0, .inst 724 0]⟩) (λK⟨P,hP⟩=>hP▸Ku P) (by kernel_rfl) (by kernel_rfl) (by kernel_rfl)
  (@aw Oi 20 nF _ _ _ [] [] _ [0,1] True (by kernel_rfl) QI) rfl (.inr ⟨rfl,rfl⟩)
section
variable{A:Around}
noncomputable def Cx.within(c:Cx)(A:Around):Cx:={ c with A:=A }
noncomputable def Fs.less(F:Fs):Fs:={ F with lvl:=F.lvl-1 }
theorem fw(H:aD c F)(HA:AOk c F A)(hl:1<=F.lvl):aD (c.within A) F.less:=by
 refine⟨⟨H.sc,H.kin,H.top,HA.frames.trans H.frames,H.fn,H.ffn,H.cpn,?_,?_,H.sysm,H.dicts⟩,HA.handled⟩
 .have h1:=H.depth
  have h2:=HA.depth
  show A.depth+(F.lvl-1)<recursionLimit
  lia
 .have h1:=H.units
  have h2:=HA.units
  show A.units+16*(F.lvl-1)+16<cLine
  lia
theorem Pre.within(p:Pre c F O S s m news):Pre (c.within A) F.less O S s m news:=⟨p.rep,p.below,p.turn,p.cell,p.vars,⟨p.side.os,p.side.gens,p.side.tk⟩⟩
theorem Pre.without(p:Pre (c.within A) F.less O S s m news):Pre c F O S s m news:=⟨p.rep,p.below,p.turn,p.cell,p.vars,⟨p.side.os,p.side.gens,p.side.tk⟩⟩
theorem wU(HA:AOk c F A)(cd:Code)(h1:(A.under cd).frames=A.frames)(h2:(A.under cd).depth<=A.depth+1)(h3:(A.under cd).units<=A.units+6)(h4:(A.under cd).handled=A.handled):AOk (c.within A) F.less (A.under cd):=⟨h1,h2,h3,h4.trans HA.handled⟩
end
theorem gn1(P:Params):typeIn (KS P) (.ref 724)=QE (.type "type"):=by kernel_rfl
theorem gn2(P:Params):readsIn (KS P) 724 (.type "type")=QF:=by kernel_rfl
theorem gn3(P:Params):findCls (KS P) (.ref 724) (.type "type") (QC "__new__")=QE (.get (.builtin "staticmethod.__get__") (.ref 221) .none (.ref 724)):=by kernel_rfl
theorem gn4(P:Params):recIn (KS P) 221 "staticmethod"=QE [.ref 217]:=by kernel_rfl
theorem gn5:handedIn (.ref 217)=QF:=by kernel_rfl
theorem II{P:Params}{prog:Program}{w:World}{A:Around}{E:Value->Shared->Prop}{h₀:Heap}{L:Addr}{m:Str->Option Value}{ex:Bool}{Q:Value->Shared->Prop}(F:Fr h₀ L s.heap m)(X:(KS P).In h₀)(h:Q (.ref 217) { s with toks:=s.toks+1 }):
  wpAny (model prog w) A (getAttr (.ref 724) (QC "__new__") ex) Q E s:=@cls_sm _ _ _ _ _ _ _ _ _ _ _ _ _ _ _ _ _ F X (gn1 P) (gn2 P) (gn3 P) (gn4 P) gn5 h
theorem gi1(P:Params):findIn (KS P) (.ref 724) (QC "__init__")=QE (QE (.ref 494)):=by kernel_rfl
theorem gi2(P:Params):typeIn (KS P) (.ref 494)=QE (.type "function"):=by kernel_rfl
theorem El{A:Around}(hK:GKS c.K)(H:aD c F)(hl:9<=F.lvl)(HA:AOk c F A){mm:Fm}(p:Pre c F O S s mm news)(x:Str)(t:Tok):
  codeAny c.M A (.call (.ref 724) ⟨[.str x t],[]⟩) (Bs c F O ⟨S.loc,S.led++[dt x 0, .inst 724 S.led.length]⟩ (rV (.ref (S.led.length+1)))) s:=by
 obtain⟨P,hP⟩:=hK
 have hKc:GKS c.K:=⟨P,hP⟩
 have X₀:(KS P).In mm.g:=hP▸p.kin H.toCxW
 have X:=X₀.keeps p.rep.fr.keep
 have hC:s.heap.get? 724=QE (o724 P):=X 724 _ (by kernel_rfl)
 have call:=DE (prog:=c.pr) (w:=c.w) X
 have typ:=HV (prog:=c.pr) (w:=c.w) X
 have made:=Fw (prog:=c.pr) (w:=c.w) X
 have HW:=fw H HA (by lia)
 have HU:AOk (c.within A) F.less (A.under (.builtin "type.__call__" ⟨[.ref 724, .str x t],[]⟩)):=wU HA _ rfl (by show A.depth+1<=_;lia) (by show A.units+1<=_;lia) rfl
 refine codeAny_of_tree ?_
 show wpAny _ _ (callAny (.ref 724) _) _ _ _
 refine nd_load hC ?_
 show wpAny _ _ (callAny.viaDunder (.ref 724) _) _ _ _
 unfold callAny.viaDunder
 refine Qv (call.at ?_)
 dsimp only
 rw[tc_bind]
 refine Qv (Qx (Qv (Qx ?_)))
 refine Qx (a:=Fin.again (.call (.builtin "type.__call__") ⟨[.ref 724, .str x t],[]⟩)) (And.intro rfl ?_)
 refine codeAny_call_builtin_at (Code.quiet_builtin _ (by decide+kernel)) entry_typeCall (check_slot tc_kind tc_split typ (tc_args _ _ _) ?_)
 unfold Builtin.«type.__call__»
 have hm:Looks (model c.pr c.w) s.heap (mroOf (.ref 724)) [.ref 724, .ref 247, .ref 220, .type "object"]:=Looks.of_peek X (by kernel_rfl)
 iterate 5 (first|rw[List.isEmpty_cons,if_neg Bool.false_ne_true]|lk)
 refine Qv (made.here ?_)
 refine Qv (II p.rep.fr X₀ ?_)
 refine Qv (Qy (wpAny_call ?_))
 have p1:=p.toks (s.toks+1)
 refine codeAny_mono (Dm (c:=c.within A) hKc HW (by show 6<=F.lvl-1;lia) HU p1.within x t) λr s1 z=>?_
 rcases r with ee|fl
 .exact z.elim
 cases fl with
 |ret v=>
  have z':aG (c.within A) F.less O ⟨S.loc,S.led++[.ns [], .inst 724 S.led.length]⟩ (rV (.ref (S.led.length+1))) v s1:=z
  refine aG.el z' λO1 m1 n1 pr1 q1 r1=>?_
  obtain⟨a1,ha1,rfl⟩:=r1
  show wpAny _ _ _ _ _ _
  have hi:(S.led++[SO.ns [], .inst 724 S.led.length])[S.led.length+1]?=QE (.inst 724 S.led.length):=by rw[Qa (by lia)];simp
  have hd:(S.led++[SO.ns [], .inst 724 S.led.length])[S.led.length]?=QE (.ns []):=by rw[Qa (by lia)];simp
  refine q1.inst hi rfl hd ha1 λdx sl od g3 g4 g2 g5 g6 I=>?_
  have X1:(KS P).In m1.g:=hP▸q1.kin HW.toCxW
  have t1:Looks (model c.pr c.w) s1.heap (typeOf (.ref a1)) (.ref 724):=I.type
  have sf:=C5 (prog:=c.pr) (w:=c.w) (X1.keeps q1.rep.fr.keep)
  have ii:Looks (model c.pr c.w) s1.heap (isInstance (.ref a1) (.ref 724)) QF:=t1.andThen sf
  refine Qv (ii.here ?_)
  rw[if_neg (by decide)]
  refine Qv (Qy (special_fn (X1.keeps q1.rep.fr.keep) I (gi1 P) (gi2 P) ?_))
  have hlen:(S.led++[SO.ns [], .inst 724 S.led.length]).length=S.led.length+2:=by simp
  have hpk:dF [S.led.length,S.led.length+1] [SO.ns [], .inst 724 0] (S.led++[SO.ns [], .inst 724 S.led.length]):=by
   refine⟨?_,?_⟩
   .have h:Nat.beq S.led.length (S.led.length+1)=QG:=by
     cases z:Nat.beq S.led.length (S.led.length+1)with
     |false=>rfl
     |true=>exact absurd (PV z) (by lia)
    show cond (!(cond (Nat.beq S.led.length (S.led.length+1)) QF QG)) QF QG=QF
    rw[h];rfl
   .exact List.cons_eq_cons.mpr ⟨hd.symm,List.cons_eq_cons.mpr ⟨hi.symm,rfl⟩⟩
  have hself:aA O1 (.ref (S.led.length+1)) (.ref a1):=⟨a1,ha1,rfl⟩
  refine wpAny_call (codeAny_mono (EU x (c.within A) F.less _ hKc HW (by show 8<=F.lvl-1;lia) HU O1 _ s1 m1 n1 _ q1 hpk [.ref a1, .str x t] ⟨_,_,rfl,hself,_,_,rfl,⟨t,rfl⟩,rfl⟩) λr s2 z2=>?_)
  rcases r with ee|fl
  .exact z2.elim
  cases fl with
  |ret v2=>
   have z3:aG (c.within A) F.less O1 ⟨S.loc,back [S.led.length,S.led.length+1] [dt x 0, .inst 724 0] (S.led++[.ns [], .inst 724 S.led.length])⟩ (rV .none) v2 s2:=z2
   obtain⟨O2,m2,n2,pr2,q2,hv2⟩:=z3
   rw[show v2=Value.none from hv2]
   show wpAny _ _ _ _ _ _
   refine Qx ?_
   have hb:back [S.led.length,S.led.length+1] [dt x 0, .inst 724 0] (S.led++[SO.ns [], .inst 724 S.led.length])=S.led++[dt x 0, .inst 724 S.led.length]:=by
    show((S.led++[SO.ns [], .inst 724 S.led.length]).set S.led.length (dt x 0)).set (S.led.length+1) (.inst 724 S.led.length)++[]=_
    rw[List.append_nil,List.set_append_right _ _ (PX _),List.set_append_right _ _ (by lia)]
    simp
   rw[hb]at q2
   exact⟨O2,m2,n2,pr1.trans pr2,q2.without,a1,aY pr2 ha1,rfl⟩
  |_=>exact z2.elim
 |_=>exact z.elim
theorem C9(x:Str):ab GKS 7 724 [] [.str x] [dt x 0, .inst 724 0] (.ref 1):=by
 intro c F A hK H hl HA O S s m news pk p hpk vs hvs
 have e0:pk=[]:=by
  have:=hpk.eq
  cases pk with
  |nil=>rfl
  |cons a r=>cases this
 subst e0
 obtain⟨v,r,rfl,⟨t,rfl⟩,hr⟩:=hvs
 obtain rfl:r=[]:=hr
 have:=El hK H (by lia) HA p x t
 exact this
noncomputable def MQ(x:Str):XM SV:=λy=>QE (.int x.cps.toList.length,{ y with cs:=(Nat.ble x.cps.toList.length 1000000=QF)::y.cs })
def Ha(x:Str)(q:Nat):XM SV:=xrd q j4 λr=>cI [Nat.ble x.cps.toList.length 1000000=QF] (.str ⟨(bx x.cps.toList r.1 r.2).toArray⟩)
noncomputable def uF:SV->Bool
 |.top v=>(match v with
  |.builtin id=>decide (id="len")
  |_=>QG)
 |_=>QG
theorem zb{f:SV}(h:uF f=QF):f= .top (.builtin "len"):=by
 cases f with
 |top v=>cases v<;>first|exact ff h|exact of_decide_eq_true h▸rfl
 |_=>exact ff h
def NA(T:Tab)(lv:Nat)(f:SV)(vs:List SV)(kw:List (Str×SV)):XM SV:=cond (uF f) (match vs with
 |[a]=>(match a with
  |.str x=>(match kw with
   |[]=>MQ x
   |_::_=>T.call lv f vs kw)
  |_=>T.call lv f vs kw)
 |_=>T.call lv f vs kw) (T.call lv f vs kw)
def Ja(T:Tab)(a b:SV):XM SV:=match a with
 |.str x=>(match b with
  |.ref q=>Ha x q
  |_=>T.item a b)
 |_=>T.item a b
section
variable{c:Cx}{F:Fs}
theorem BL(x:Str):aj c F (rV (.str x)) (MQ x) (λg=>PySem.call (.builtin "len") [g]) rV:=by
 intro y r y' e hc
 cases e
 obtain⟨h,hc⟩:=hc
 have:=rD (c:=c) (F:=F) (a:= .str x) y (.int x.cps.toList.length) y (by unfold JV;dsimp only;rw[h];rfl) hc
 exact this
theorem yp(sl:Expr)(y:Str)(q:Nat):aj c F (P2 (.str y) (.ref q)) (Ha y q) (λv=>getitemInPython v.1 >>=λp=>subscripted sl p v.1 v.2) rV:=λx=>At.rd λso r hq hr=>At.say λhb=>qC λO s m news ad t p h2=>
 p.objAt hq h2 λos g1 g3 g4=>gg hr g4 λvl vu e pl pu=>mu (e▸g3) pl pu (PT hb.1) λu tk h=>(p.toks tk h).now ⟨u,rfl⟩
end
def TT3(k:Nat)(F:Fs):Tab:={ TT k F with call:=NA (TT k F),item:=Ja (TT k F) }
theorem IH(k:Nat)(F:Fs)(c:Cx)(hK:GKS c.K)(H:aD c F):bM (TT3 k F) c F:=
 let T:=nq k F c hK H
 {
  glob:=T.glob,cmp:=T.cmp,bin:=T.bin,inp:=T.inp,truth:=T.truth,attr:=T.attr,setattr:=T.setattr,meth:=T.meth,callee:=T.callee,
  call:=λf vs kw=>by
   show aj c F _ (cond (uF f) _ _) _ _
   cases h:uF f with
   |false=>exact T.call _ _ _
   |true=>
    cases zb h
    rcases vs with _|⟨a,_|⟨b,vs⟩⟩
    .exact T.call _ _ _
    .cases a with
     |str x=>
      rcases kw with _|⟨k,kw⟩
      .exact b1 (BL x)
      .exact T.call _ _ _
     |_=>exact T.call _ _ _
    .exact T.call _ _ _,
  item:=λsl a b=>by
   cases a with
   |str x=>
    cases b with
    |ref q=>exact yp sl x q
    |_=>exact T.item sl _ _
   |_=>exact T.item sl _ _,
  spec:=T.spec,specS:=T.specS,setitem:=T.setitem }
def FO:Fs:=⟨sx.sc,[],6,QD⟩
def EF(x:Str)(i:Nat):St:=⟨[(QC "size", .int 1),(QC "self", .ref 1)],[dt x (.ofNat i), .inst 724 0]⟩
theorem lL{F:Fs}{k n:Nat}{l:List Stmt}{S S':St}{hs:List (Nat×Bool)}{orc:List Orc}{fl:XF}(pk:List Nat)(C:Prop)(h:Ran (c9 (TT3 k F) F n l ⟨S,hs,0,[],orc⟩) S.led.length pk S' fl=fU (c9 (TT3 k F) F n l ⟨S,hs,0,[],orc⟩) S.led.length pk S' fl C)(hC:C):aa GKS F l S S' fl:=
 .of_ran (IH k F) (h.mpr ⟨rfl,rfl,rfl,rfl,rfl,hC⟩)
noncomputable abbrev lnS(x:Str):Nat:=x.cps.toList.length
def Ft(x:Str)(i:Nat)(j:Int):Str:=⟨(bx x.cps.toList (QE (.ofNat i)) (QE j)).toArray⟩
theorem JQ(x:Str)(i:Nat)(h1:Nat.ble (lnS x) 1000000=QF)(h2:decide (Int.ofNat i+1<(lnS x:Int))=QF)(h3:decide ((lnS x:Int)<=Int.ofNat i)=QG):aa GKS FO sx.body (EF x i) ⟨[],[dt x (.ofNat i+1), .inst 724 0]⟩ (.ret (.str (Ft x i (.ofNat i+1)))):=
 @lL _ 20 nF _ _ _ [(5,QG),(7,QF)] [] _ [0,1] (Nat.ble (lnS x) 1000000=QF/\decide (Int.ofNat i+1<(lnS x:Int))=QF/\decide ((lnS x:Int)<=Int.ofNat i)=QG/\Nat.ble (lnS x) 1000000=QF/\True) (by kernel_rfl) ⟨h1,h2,h3,h1,QI⟩
theorem D6(x:Str)(i:Nat)(h1:Nat.ble (lnS x) 1000000=QF)(h2:decide (Int.ofNat i+1<(lnS x:Int))=QG)(h3:decide ((lnS x:Int)<=Int.ofNat i)=QG):aa GKS FO sx.body (EF x i) ⟨[],[dt x (lnS x:Int), .inst 724 0]⟩ (.ret (.str (Ft x i (lnS x:Int)))):=
 @lL _ 20 nF _ _ _ [(5,QG),(7,QG)] [] _ [0,1] (Nat.ble (lnS x) 1000000=QF/\decide (Int.ofNat i+1<(lnS x:Int))=QG/\decide ((lnS x:Int)<=Int.ofNat i)=QG/\Nat.ble (lnS x) 1000000=QF/\True) (by kernel_rfl) ⟨h1,h2,h3,h1,QI⟩
theorem Fj(x:Str)(i:Nat)(h1:Nat.ble (lnS x) 1000000=QF)(h3:decide ((lnS x:Int)<=Int.ofNat i)=QF):aa GKS FO sx.body (EF x i) ⟨[],[dt x (.ofNat i), .inst 724 0]⟩ (.ret (.str ⟨#[]⟩)):=
 @lL _ 20 nF _ _ _ [(5,QF)] [] _ [0,1] (decide ((lnS x:Int)<=Int.ofNat i)=QF/\Nat.ble (lnS x) 1000000=QF/\True) (by kernel_rfl) ⟨h3,h1,QI⟩
theorem uX(x:Str)(i:Nat)(j:Int)(ch:Nat)(h:x.cps.toList[i]?=QE ch)(hj:j=((i+1:Nat):Int)):Ft x i j=⟨#[ch]⟩:=by
 subst hj
 have hi:=(P7.mp h).1
 have:bx x.cps.toList (QE (.ofNat i)) (QE ((i+1:Nat):Int))=[ch]:=by
  unfold bx
  have e1:∀n:Nat,i<n->kms_lo (QE (.ofNat i)) n=i:=λn hn=>by
   show(if(i:Int)<0 then n-(-(i:Int)).toNat else min (i:Int).toNat n)=i
   rw[if_neg (by lia)];simp;lia
  have e2:∀n:Nat,i<n->kms_hi (QE ((i+1:Nat):Int)) n=i+1:=λn hn=>by
   show(if((i+1:Nat):Int)<0 then n-(-((i+1:Nat):Int)).toNat else min ((i+1:Nat):Int).toNat n)=i+1
   rw[if_neg (by lia)];simp;lia
  rw[e1 _ hi,e2 _ hi,show i+1-i=1 by lia,List.drop_eq_getElem_cons hi]
  have:=(P7.mp h).2
  simp[this]
 unfold Ft
 rw[this]
theorem oQ(x:Str)(S':St)(i:Nat)(r:Str)(j:Int)(h:aa GKS FO sx.body (EF x i) ⟨[],[dt x j, .inst 724 0]⟩ (.ret (.str r))):ab GKS 6 670 [dt x (.ofNat i), .inst 724 0] [.ref 1, .int 1] [dt x j, .inst 724 0] (.str r):=
 ab.plain (e:=sx) (fl:= .ret (.str r)) (b:=[(QC "self", .ref 1),(QC "size", .int 1)]) (S':=⟨[],[dt x j, .inst 724 0]⟩) (λK⟨P,hP⟩=>hP▸Kh P) (by kernel_rfl) (by kernel_rfl) (by kernel_rfl) @h rfl (.inl rfl)
theorem DI(x:Str)(i ch:Nat)(h:x.cps.toList[i]?=QE ch)(hl:lnS x<=1000000):ab GKS 6 670 [dt x (.ofNat i), .inst 724 0] [.ref 1, .int 1] [dt x (.ofNat (i+1)), .inst 724 0] (.str ⟨#[ch]⟩):=by
 have hi:=(P7.mp h).1
 have h1:Nat.ble (lnS x) 1000000=QF:=PU hl
 have h3:decide ((lnS x:Int)<=Int.ofNat i)=QG:=decide_eq_false (by show¬((lnS x:Int)<=(i:Int));simp only[lnS];lia)
 by_cases hlt:i+1<lnS x
 .have:=JQ x i h1 (decide_eq_true (by show(i:Int)+1<(lnS x:Int);lia)) h3
  rw[uX x i _ ch h (by show(i:Int)+1=_;lia)]at this
  exact oQ x ⟨[],[]⟩ i _ _ this
 .have e:(lnS x:Int)= .ofNat (i+1):=by
   show(lnS x:Int)=((i+1:Nat):Int)
   have:lnS x=i+1:=by simp only[lnS]at *;lia
   rw[this]
  have:=D6 x i h1 (decide_eq_false (by show¬((i:Int)+1<(lnS x:Int));lia)) h3
  rw[uX x i _ ch h (by rw[e];rfl),e]at this
  exact oQ x ⟨[],[]⟩ i _ _ this
theorem I7(x:Str)(i:Nat)(h:lnS x<=i)(hl:lnS x<=1000000):ab GKS 6 670 [dt x (.ofNat i), .inst 724 0] [.ref 1, .int 1] [dt x (.ofNat i), .inst 724 0] (.str ⟨#[]⟩):=
 oQ x ⟨[],[]⟩ i _ _ (Fj x i (PU hl) (decide_eq_true (by show(lnS x:Int)<=(i:Int);lia)))
def O9:Fs:=⟨FT.sc,[],8,QD⟩
noncomputable def Lr:Str:=⟨#[97,98,99,100,102,101,103,104,105,106,107,108,109,110,111,112,113,114,115,116,117,118,119,120,121,122,65,66,67,68,69,70,71,72,73,74,75,76,77,78,79,80,81,82,83,84,85,86,87,88,89,90,48,49,50,51,52,53,54,55,56,57,95,223,224,225,226,227,228,229,230,231,232,233,234,235,236,237,238,239,240,241,242,243,244,245,246,248,249,250,251,252,253,254,255,192,193,194,195,196,197,198,199,200,201,202,203,204,205,206,207,208,209,210,211,212,213,214,216,217,218,219,220,221,222]⟩
noncomputable def dqO:SO:= .fields "collections.deque" [.none, .int 0]
def mR(st:SV)(tk:Str):SO:= .ns [(QC "instream", .ref 3),(QC "infile", .none),(QC "posix", .bool QF),(QC "eof", .none),(QC "commenters", .str ⟨#[]⟩),(QC "wordchars", .str Lr),(QC "whitespace", .str ⟨#[32,9,13,10]⟩),(QC "whitespace_split", .bool QF),(QC "quotes", .str ⟨#[39,34]⟩),(QC "escape", .str ⟨#[92]⟩),(QC "escapedquotes", .str ⟨#[34]⟩),(QC "state",st),(QC "pushback", .ref 4),(QC "lineno", .int 1),(QC "debug", .int 0),(QC "token", .str tk),(QC "filestack", .ref 5),(QC "source", .none),(QC "_punctuation_chars", .str ⟨#[]⟩)]
def aF(x:Str)(i:Nat)(st:SV):List SO:=[mR st ⟨#[]⟩, .inst 859 0,dt x (.ofNat i), .inst 724 2,dqO,dqO]
noncomputable def spS:SV:= .str ⟨#[32]⟩
def rdC(x:Str)(i:Nat)(ch:Nat):Orc:= .call 670 [2,3] [dt x (.ofNat i), .inst 724 0] [.ref 1, .int 1] [dt x (.ofNat (i+1)), .inst 724 0] (.str ⟨#[ch]⟩)
def rdE(x:Str)(i:Nat):Orc:= .call 670 [2,3] [dt x (.ofNat i), .inst 724 0] [.ref 1, .int 1] [dt x (.ofNat i), .inst 724 0] (.str ⟨#[]⟩)
noncomputable def rds(x:Str):Nat->List Nat->List Orc
 |_,[]=>[]
 |i,ch::r=>rdC x i ch::rds x (i+1) r
def Oy(x:Str)(i:Nat)(st:SV):St:=⟨[(QC "self", .ref 1)],aF x i st⟩
def Oo(x:Str)(i:Nat)(st:SV)(tk:Str):List SO:=[mR st tk, .inst 859 0,dt x (.ofNat i), .inst 724 2,dqO,dqO]
noncomputable def NL:Nat->List SO
 |0=>[]
 |n+1=>NL n++[.tup [.str ⟨#[97]⟩, .str ⟨#[99]⟩]]
abbrev RdC(x:Str)(i j:Nat)(ch:Str):Prop:=ab GKS 6 670 [dt x (.ofNat i), .inst 724 0] [.ref 1, .int 1] [dt x (.ofNat j), .inst 724 0] (.str ch)
def bZ(x:Str)(i ch:Nat):Prop:=Wh (RdC x i (i+1) ⟨#[ch]⟩)
def iD(x:Str)(i:Nat):Prop:=Wh (RdC x i i ⟨#[]⟩)
def RdH(x:Str)(i j:Nat)(ch:Str)(st:SV)(tk:Str)(g:Nat)(rest:Prop):Prop:=
 dF [2,3] [dt x (.ofNat i), .inst 724 0] (Oo x i st tk++NL g)/\([SV.ref 3,SV.int 1]=[SV.ref 3,SV.int 1])/\(([]:List (Str×SV))=[])/\RdC x i j ch/\rest
theorem Aq{x:Str}{i j:Nat}{ch:Str}{st:SV}{tk:Str}{g:Nat}{rest:Prop}(h:RdC x i j ch)(hr:rest):RdH x i j ch st tk g rest:=⟨⟨rfl,rfl⟩,rfl,rfl,@h,hr⟩
def ji(x:Str)(i:Nat)(st:SV)(j:Nat)(st':SV)(r:SV):Prop:=Wh (aa GKS O9 FT.body (Oy x i st) ⟨[],aF x j st'⟩ (.ret r))
theorem bc{x:Str}{i ch:Nat}{st:SV}{tk:Str}{g:Nat}{rest:Prop}(h:bZ x i ch)(hr:rest):RdH x i (i+1) ⟨#[ch]⟩ st tk g rest:=Aq (@Wh.h _ h) hr
theorem nB{x:Str}{i:Nat}{st:SV}{tk:Str}{g:Nat}{rest:Prop}(h:iD x i)(hr:rest):RdH x i i ⟨#[]⟩ st tk g rest:=Aq (@Wh.h _ h) hr
theorem JK(x:Str)(i:Nat)(h0:bZ x (i) 97)(h1:bZ x (i+1) 32):ji x i (.str ⟨#[32]⟩) (i+1+1) (.str ⟨#[32]⟩) (.str ⟨#[97]⟩):=Wh.mk (@aw _ 20 nF _ _ _ [] [rdC x (i) 97,rdC x (i+1) 32] _ [0,1,2,3,4,5] (RdH x (i+1) (i+1+1) ⟨#[32]⟩ (.str ⟨#[97]⟩) ⟨#[97]⟩ 0 (RdH x (i) (i+1) ⟨#[97]⟩ (.str ⟨#[32]⟩) ⟨#[]⟩ 0 (True))) (by kernel_rfl) (bc h1 (bc h0 (QI))))
theorem Fl(x:Str)(i:Nat)(h0:bZ x (i) 97)(he:iD x (i+1)):ji x i (.str ⟨#[32]⟩) (i+1) .none (.str ⟨#[97]⟩):=Wh.mk (@aw _ 20 nF _ _ _ [] [rdC x (i) 97,rdE x (i+1)] _ [0,1,2,3,4,5] (RdH x (i+1) (i+1) ⟨#[]⟩ (.str ⟨#[97]⟩) ⟨#[97]⟩ 0 (RdH x (i) (i+1) ⟨#[97]⟩ (.str ⟨#[32]⟩) ⟨#[]⟩ 0 (True))) (by kernel_rfl) (nB he (bc h0 (QI))))
theorem IP(x:Str)(i:Nat)(h0:bZ x (i) 39)(h1:bZ x (i+1) 98)(h2:bZ x (i+1+1) 32)(h3:bZ x (i+1+1+1) 99)(h4:bZ x (i+1+1+1+1) 39)(h5:bZ x (i+1+1+1+1+1) 32):ji x i (.str ⟨#[32]⟩) (i+1+1+1+1+1+1) (.str ⟨#[32]⟩) (.str ⟨#[98,32,99]⟩):=Wh.mk (@aw _ 20 nF _ _ _ [] [rdC x (i) 39,rdC x (i+1) 98,rdC x (i+1+1) 32,rdC x (i+1+1+1) 99,rdC x (i+1+1+1+1) 39,rdC x (i+1+1+1+1+1) 32] _ [0,1,2,3,4,5] (RdH x (i+1+1+1+1+1) (i+1+1+1+1+1+1) ⟨#[32]⟩ (.str ⟨#[97]⟩) ⟨#[98,32,99]⟩ 0 (RdH x (i+1+1+1+1) (i+1+1+1+1+1) ⟨#[39]⟩ (.str ⟨#[39]⟩) ⟨#[98,32,99]⟩ 0 (RdH x (i+1+1+1) (i+1+1+1+1) ⟨#[99]⟩ (.str ⟨#[39]⟩) ⟨#[98,32]⟩ 0 (RdH x (i+1+1) (i+1+1+1) ⟨#[32]⟩ (.str ⟨#[39]⟩) ⟨#[98]⟩ 0 (RdH x (i+1) (i+1+1) ⟨#[98]⟩ (.str ⟨#[39]⟩) ⟨#[]⟩ 0 (RdH x (i) (i+1) ⟨#[39]⟩ (.str ⟨#[32]⟩) ⟨#[]⟩ 0 (True))))))) (by kernel_rfl) (bc h5 (bc h4 (bc h3 (bc h2 (bc h1 (bc h0 (QI))))))))
theorem D9(x:Str)(i:Nat)(h0:bZ x (i) 39)(h1:bZ x (i+1) 98)(h2:bZ x (i+1+1) 32)(h3:bZ x (i+1+1+1) 99)(h4:bZ x (i+1+1+1+1) 39)(he:iD x (i+1+1+1+1+1)):ji x i (.str ⟨#[32]⟩) (i+1+1+1+1+1) .none (.str ⟨#[98,32,99]⟩):=Wh.mk (@aw _ 20 nF _ _ _ [] [rdC x (i) 39,rdC x (i+1) 98,rdC x (i+1+1) 32,rdC x (i+1+1+1) 99,rdC x (i+1+1+1+1) 39,rdE x (i+1+1+1+1+1)] _ [0,1,2,3,4,5] (RdH x (i+1+1+1+1+1) (i+1+1+1+1+1) ⟨#[]⟩ (.str ⟨#[97]⟩) ⟨#[98,32,99]⟩ 0 (RdH x (i+1+1+1+1) (i+1+1+1+1+1) ⟨#[39]⟩ (.str ⟨#[39]⟩) ⟨#[98,32,99]⟩ 0 (RdH x (i+1+1+1) (i+1+1+1+1) ⟨#[99]⟩ (.str ⟨#[39]⟩) ⟨#[98,32]⟩ 0 (RdH x (i+1+1) (i+1+1+1) ⟨#[32]⟩ (.str ⟨#[39]⟩) ⟨#[98]⟩ 0 (RdH x (i+1) (i+1+1) ⟨#[98]⟩ (.str ⟨#[39]⟩) ⟨#[]⟩ 0 (RdH x (i) (i+1) ⟨#[39]⟩ (.str ⟨#[32]⟩) ⟨#[]⟩ 0 (True))))))) (by kernel_rfl) (nB he (bc h4 (bc h3 (bc h2 (bc h1 (bc h0 (QI))))))))
theorem JY(x:Str)(i:Nat)(h0:bZ x (i) 39)(h1:bZ x (i+1) 105)(h2:bZ x (i+1+1) 116)(h3:bZ x (i+1+1+1) 39)(h4:bZ x (i+1+1+1+1) 34)(h5:bZ x (i+1+1+1+1+1) 39)(h6:bZ x (i+1+1+1+1+1+1) 34)(h7:bZ x (i+1+1+1+1+1+1+1) 39)(h8:bZ x (i+1+1+1+1+1+1+1+1) 115)(h9:bZ x (i+1+1+1+1+1+1+1+1+1) 39)(h10:bZ x (i+1+1+1+1+1+1+1+1+1+1) 32):ji x i (.str ⟨#[32]⟩) (i+1+1+1+1+1+1+1+1+1+1+1) (.str ⟨#[32]⟩) (.str ⟨#[105,116,39,115]⟩):=Wh.mk (@aw _ 20 nF _ _ _ [] [rdC x (i) 39,rdC x (i+1) 105,rdC x (i+1+1) 116,rdC x (i+1+1+1) 39,rdC x (i+1+1+1+1) 34,rdC x (i+1+1+1+1+1) 39,rdC x (i+1+1+1+1+1+1) 34,rdC x (i+1+1+1+1+1+1+1) 39,rdC x (i+1+1+1+1+1+1+1+1) 115,rdC x (i+1+1+1+1+1+1+1+1+1) 39,rdC x (i+1+1+1+1+1+1+1+1+1+1) 32] _ [0,1,2,3,4,5] (RdH x (i+1+1+1+1+1+1+1+1+1+1) (i+1+1+1+1+1+1+1+1+1+1+1) ⟨#[32]⟩ (.str ⟨#[97]⟩) ⟨#[105,116,39,115]⟩ 2 (RdH x (i+1+1+1+1+1+1+1+1+1) (i+1+1+1+1+1+1+1+1+1+1) ⟨#[39]⟩ (.str ⟨#[39]⟩) ⟨#[105,116,39,115]⟩ 2 (RdH x (i+1+1+1+1+1+1+1+1) (i+1+1+1+1+1+1+1+1+1) ⟨#[115]⟩ (.str ⟨#[39]⟩) ⟨#[105,116,39]⟩ 2 (RdH x (i+1+1+1+1+1+1+1) (i+1+1+1+1+1+1+1+1) ⟨#[39]⟩ (.str ⟨#[97]⟩) ⟨#[105,116,39]⟩ 1 (RdH x (i+1+1+1+1+1+1) (i+1+1+1+1+1+1+1) ⟨#[34]⟩ (.str ⟨#[34]⟩) ⟨#[105,116,39]⟩ 1 (RdH x (i+1+1+1+1+1) (i+1+1+1+1+1+1) ⟨#[39]⟩ (.str ⟨#[34]⟩) ⟨#[105,116]⟩ 1 (RdH x (i+1+1+1+1) (i+1+1+1+1+1) ⟨#[34]⟩ (.str ⟨#[97]⟩) ⟨#[105,116]⟩ 0 (RdH x (i+1+1+1) (i+1+1+1+1) ⟨#[39]⟩ (.str ⟨#[39]⟩) ⟨#[105,116]⟩ 0 (RdH x (i+1+1) (i+1+1+1) ⟨#[116]⟩ (.str ⟨#[39]⟩) ⟨#[105]⟩ 0 (RdH x (i+1) (i+1+1) ⟨#[105]⟩ (.str ⟨#[39]⟩) ⟨#[]⟩ 0 (RdH x (i) (i+1) ⟨#[39]⟩ (.str ⟨#[32]⟩) ⟨#[]⟩ 0 (True)))))))))))) (by kernel_rfl) (bc h10 (bc h9 (bc h8 (bc h7 (bc h6 (bc h5 (bc h4 (bc h3 (bc h2 (bc h1 (bc h0 (QI)))))))))))))
theorem Ew(x:Str)(i:Nat)(h0:bZ x (i) 39)(h1:bZ x (i+1) 105)(h2:bZ x (i+1+1) 116)(h3:bZ x (i+1+1+1) 39)(h4:bZ x (i+1+1+1+1) 34)(h5:bZ x (i+1+1+1+1+1) 39)(h6:bZ x (i+1+1+1+1+1+1) 34)(h7:bZ x (i+1+1+1+1+1+1+1) 39)(h8:bZ x (i+1+1+1+1+1+1+1+1) 115)(h9:bZ x (i+1+1+1+1+1+1+1+1+1) 39)(he:iD x (i+1+1+1+1+1+1+1+1+1+1)):ji x i (.str ⟨#[32]⟩) (i+1+1+1+1+1+1+1+1+1+1) .none (.str ⟨#[105,116,39,115]⟩):=Wh.mk (@aw _ 20 nF _ _ _ [] [rdC x (i) 39,rdC x (i+1) 105,rdC x (i+1+1) 116,rdC x (i+1+1+1) 39,rdC x (i+1+1+1+1) 34,rdC x (i+1+1+1+1+1) 39,rdC x (i+1+1+1+1+1+1) 34,rdC x (i+1+1+1+1+1+1+1) 39,rdC x (i+1+1+1+1+1+1+1+1) 115,rdC x (i+1+1+1+1+1+1+1+1+1) 39,rdE x (i+1+1+1+1+1+1+1+1+1+1)] _ [0,1,2,3,4,5] (RdH x (i+1+1+1+1+1+1+1+1+1+1) (i+1+1+1+1+1+1+1+1+1+1) ⟨#[]⟩ (.str ⟨#[97]⟩) ⟨#[105,116,39,115]⟩ 2 (RdH x (i+1+1+1+1+1+1+1+1+1) (i+1+1+1+1+1+1+1+1+1+1) ⟨#[39]⟩ (.str ⟨#[39]⟩) ⟨#[105,116,39,115]⟩ 2 (RdH x (i+1+1+1+1+1+1+1+1) (i+1+1+1+1+1+1+1+1+1) ⟨#[115]⟩ (.str ⟨#[39]⟩) ⟨#[105,116,39]⟩ 2 (RdH x (i+1+1+1+1+1+1+1) (i+1+1+1+1+1+1+1+1) ⟨#[39]⟩ (.str ⟨#[97]⟩) ⟨#[105,116,39]⟩ 1 (RdH x (i+1+1+1+1+1+1) (i+1+1+1+1+1+1+1) ⟨#[34]⟩ (.str ⟨#[34]⟩) ⟨#[105,116,39]⟩ 1 (RdH x (i+1+1+1+1+1) (i+1+1+1+1+1+1) ⟨#[39]⟩ (.str ⟨#[34]⟩) ⟨#[105,116]⟩ 1 (RdH x (i+1+1+1+1) (i+1+1+1+1+1) ⟨#[34]⟩ (.str ⟨#[97]⟩) ⟨#[105,116]⟩ 0 (RdH x (i+1+1+1) (i+1+1+1+1) ⟨#[39]⟩ (.str ⟨#[39]⟩) ⟨#[105,116]⟩ 0 (RdH x (i+1+1) (i+1+1+1) ⟨#[116]⟩ (.str ⟨#[39]⟩) ⟨#[105]⟩ 0 (RdH x (i+1) (i+1+1) ⟨#[105]⟩ (.str ⟨#[39]⟩) ⟨#[]⟩ 0 (RdH x (i) (i+1) ⟨#[39]⟩ (.str ⟨#[32]⟩) ⟨#[]⟩ 0 (True)))))))))))) (by kernel_rfl) (nB he (bc h9 (bc h8 (bc h7 (bc h6 (bc h5 (bc h4 (bc h3 (bc h2 (bc h1 (bc h0 (QI)))))))))))))
theorem Jv(x:Str)(i:Nat)(h0:bZ x (i) 100)(h1:bZ x (i+1) 32):ji x i (.str ⟨#[32]⟩) (i+1+1) (.str ⟨#[32]⟩) (.str ⟨#[100]⟩):=Wh.mk (@aw _ 20 nF _ _ _ [] [rdC x (i) 100,rdC x (i+1) 32] _ [0,1,2,3,4,5] (RdH x (i+1) (i+1+1) ⟨#[32]⟩ (.str ⟨#[97]⟩) ⟨#[100]⟩ 0 (RdH x (i) (i+1) ⟨#[100]⟩ (.str ⟨#[32]⟩) ⟨#[]⟩ 0 (True))) (by kernel_rfl) (bc h1 (bc h0 (QI))))
theorem Ee(x:Str)(i:Nat)(h0:bZ x (i) 100)(he:iD x (i+1)):ji x i (.str ⟨#[32]⟩) (i+1) .none (.str ⟨#[100]⟩):=Wh.mk (@aw _ 20 nF _ _ _ [] [rdC x (i) 100,rdE x (i+1)] _ [0,1,2,3,4,5] (RdH x (i+1) (i+1) ⟨#[]⟩ (.str ⟨#[97]⟩) ⟨#[100]⟩ 0 (RdH x (i) (i+1) ⟨#[100]⟩ (.str ⟨#[32]⟩) ⟨#[]⟩ 0 (True))) (by kernel_rfl) (nB he (bc h0 (QI))))
theorem Jh(x:Str)(i:Nat)(h0:bZ x (i) 39)(h1:bZ x (i+1) 42)(h2:bZ x (i+1+1) 39)(h3:bZ x (i+1+1+1) 32):ji x i (.str ⟨#[32]⟩) (i+1+1+1+1) (.str ⟨#[32]⟩) (.str ⟨#[42]⟩):=Wh.mk (@aw _ 20 nF _ _ _ [] [rdC x (i) 39,rdC x (i+1) 42,rdC x (i+1+1) 39,rdC x (i+1+1+1) 32] _ [0,1,2,3,4,5] (RdH x (i+1+1+1) (i+1+1+1+1) ⟨#[32]⟩ (.str ⟨#[97]⟩) ⟨#[42]⟩ 0 (RdH x (i+1+1) (i+1+1+1) ⟨#[39]⟩ (.str ⟨#[39]⟩) ⟨#[42]⟩ 0 (RdH x (i+1) (i+1+1) ⟨#[42]⟩ (.str ⟨#[39]⟩) ⟨#[]⟩ 0 (RdH x (i) (i+1) ⟨#[39]⟩ (.str ⟨#[32]⟩) ⟨#[]⟩ 0 (True))))) (by kernel_rfl) (bc h3 (bc h2 (bc h1 (bc h0 (QI))))))
theorem DS(x:Str)(i:Nat)(h0:bZ x (i) 39)(h1:bZ x (i+1) 42)(h2:bZ x (i+1+1) 39)(he:iD x (i+1+1+1)):ji x i (.str ⟨#[32]⟩) (i+1+1+1) .none (.str ⟨#[42]⟩):=Wh.mk (@aw _ 20 nF _ _ _ [] [rdC x (i) 39,rdC x (i+1) 42,rdC x (i+1+1) 39,rdE x (i+1+1+1)] _ [0,1,2,3,4,5] (RdH x (i+1+1+1) (i+1+1+1) ⟨#[]⟩ (.str ⟨#[97]⟩) ⟨#[42]⟩ 0 (RdH x (i+1+1) (i+1+1+1) ⟨#[39]⟩ (.str ⟨#[39]⟩) ⟨#[42]⟩ 0 (RdH x (i+1) (i+1+1) ⟨#[42]⟩ (.str ⟨#[39]⟩) ⟨#[]⟩ 0 (RdH x (i) (i+1) ⟨#[39]⟩ (.str ⟨#[32]⟩) ⟨#[]⟩ 0 (True))))) (by kernel_rfl) (nB he (bc h2 (bc h1 (bc h0 (QI))))))
theorem EE(x:Str)(i:Nat)(he:iD x (i)):ji x i .none (i) .none .none:=Wh.mk (@aw _ 20 nF _ _ _ [] [rdE x (i)] _ [0,1,2,3,4,5] (RdH x (i) (i) ⟨#[]⟩ .none ⟨#[]⟩ 0 (True)) (by kernel_rfl) (nB he (QI)))
theorem uT{x:Str}{i j:Nat}{st st' r:SV}(h:ji x i st j st' r):ab GKS 8 827 (aF x i st) [.ref 1] (aF x j st') r:=
 ab.plain (e:=FT) (fl:= .ret r) (b:=[(QC "self", .ref 1)]) (S':=⟨[],aF x j st'⟩) (λK⟨P,hP⟩=>hP▸MY P) (by kernel_rfl) (by kernel_rfl) (by kernel_rfl) (@Wh.h _ h) rfl (.inl rfl)
def yN:Fs:=⟨DA.sc,[],10,QD⟩
def PQ(x:Str)(i:Nat)(st:SV):St:=⟨[(QC "self", .ref 1)],aF x i st⟩
noncomputable def stB:Bool->SV
 |true=> .str ⟨#[32]⟩
 |false=> .none
def l7(f:Addr)(x:Str)(i j:Nat)(b b':Bool)(r:SV):Orc:= .call f [0,1,2,3,4,5] (aF x i (stB b)) [.ref 1] (aF x j (stB b')) r
def lK(f:Addr)(l:Nat)(x:Str)(i j:Nat)(b b':Bool)(r:SV):Prop:=dF [0,1,2,3,4,5] (aF x i (stB b)) (aF x i (stB b))/\([SV.ref 1]=[SV.ref 1])/\(([]:List (Str×SV))=[])/\ab GKS l f (aF x i (stB b)) [.ref 1] (aF x j (stB b')) r/\True
theorem j9{f:Addr}{l:Nat}{x:Str}{i j:Nat}{b b':Bool}{r:SV}(h:ab GKS l f (aF x i (stB b)) [.ref 1] (aF x j (stB b')) r):lK f l x i j b b' r:=by
 cases b<;>exact⟨⟨by kernel_rfl,by kernel_rfl⟩,rfl,rfl,@h,QI⟩
theorem JR(x y:Str)(i j:Nat)(b b':Bool)(h:ab GKS 8 827 (aF x i (stB b)) [.ref 1] (aF x j (stB b')) (.str y)):ab GKS 10 820 (aF x i (stB b)) [.ref 1] (aF x j (stB b')) (.str y):=by
 refine ab.plain (e:=DA) (fl:= .ret (.str y)) (b:=[(QC "self", .ref 1)]) (S':=⟨[],aF x j (stB b')⟩) (λK⟨P,hP⟩=>hP▸Gv P) (by kernel_rfl) (by kernel_rfl) (by kernel_rfl) ?_ rfl (.inl rfl)
 have hc:=j9 @h
 revert hc
 cases b<;>cases b'<;>intro hc
 .exact@aw yN 20 nF _ _ _ [] [l7 827 x i j QG QG (.str y)] _ [0,1,2,3,4,5] (lK 827 8 x i j QG QG (.str y)) (by kernel_rfl) hc
 .exact@aw yN 20 nF _ _ _ [] [l7 827 x i j QG QF (.str y)] _ [0,1,2,3,4,5] (lK 827 8 x i j QG QF (.str y)) (by kernel_rfl) hc
 .exact@aw yN 20 nF _ _ _ [] [l7 827 x i j QF QG (.str y)] _ [0,1,2,3,4,5] (lK 827 8 x i j QF QG (.str y)) (by kernel_rfl) hc
 .exact@aw yN 20 nF _ _ _ [] [l7 827 x i j QF QF (.str y)] _ [0,1,2,3,4,5] (lK 827 8 x i j QF QF (.str y)) (by kernel_rfl) hc
theorem FI(x:Str)(i:Nat)(h:ab GKS 8 827 (aF x i (stB QG)) [.ref 1] (aF x i (stB QG)) .none):ab GKS 10 820 (aF x i (stB QG)) [.ref 1] (aF x i (stB QG)) .none:=
 ab.plain (e:=DA) (fl:= .ret .none) (b:=[(QC "self", .ref 1)]) (S':=⟨[],aF x i (stB QG)⟩) (λK⟨P,hP⟩=>hP▸Gv P) (by kernel_rfl) (by kernel_rfl) (by kernel_rfl)
  (@aw yN 20 nF _ _ _ [] [l7 827 x i i QG QG .none] _ [0,1,2,3,4,5] (lK 827 8 x i i QG QG .none) (by kernel_rfl) (j9 @h)) rfl (.inl rfl)
def xA:Fs:=⟨pB.sc,[],12,QD⟩
theorem Hz(x y:Str)(i j:Nat)(b b':Bool)(h:ab GKS 10 820 (aF x i (stB b)) [.ref 1] (aF x j (stB b')) (.str y)):ab GKS 12 856 (aF x i (stB b)) [.ref 1] (aF x j (stB b')) (.str y):=by
 refine ab.plain (e:=pB) (fl:= .ret (.str y)) (b:=[(QC "self", .ref 1)]) (S':=⟨[],aF x j (stB b')⟩) (λK⟨P,hP⟩=>hP▸Gf P) (by kernel_rfl) (by kernel_rfl) (by kernel_rfl) ?_ rfl (.inl rfl)
 have hc:=j9 @h
 revert hc
 cases b<;>cases b'<;>intro hc
 .exact@aw xA 20 nF _ _ _ [] [l7 820 x i j QG QG (.str y)] _ [0,1,2,3,4,5] (lK 820 10 x i j QG QG (.str y)) (by kernel_rfl) hc
 .exact@aw xA 20 nF _ _ _ [] [l7 820 x i j QG QF (.str y)] _ [0,1,2,3,4,5] (lK 820 10 x i j QG QF (.str y)) (by kernel_rfl) hc
 .exact@aw xA 20 nF _ _ _ [] [l7 820 x i j QF QG (.str y)] _ [0,1,2,3,4,5] (lK 820 10 x i j QF QG (.str y)) (by kernel_rfl) hc
 .exact@aw xA 20 nF _ _ _ [] [l7 820 x i j QF QF (.str y)] _ [0,1,2,3,4,5] (lK 820 10 x i j QF QF (.str y)) (by kernel_rfl) hc
def Pg:Fs:=⟨Io.sc,[],12,QD⟩
theorem EG(x:Str)(i:Nat):ab GKS 12 849 (aF x i (stB QF)) [.ref 1] (aF x i (stB QF)) (.ref 1):=
 ab.plain (e:=Io) (fl:= .ret (.ref 1)) (b:=[(QC "self", .ref 1)]) (S':=⟨[],aF x i (stB QF)⟩) (λK⟨P,hP⟩=>hP▸Nl P) (by kernel_rfl) (by kernel_rfl) (by kernel_rfl)
  (@aw Pg 20 nF _ _ _ [] [] _ [0,1,2,3,4,5] True (by kernel_rfl) QI) rfl (.inl rfl)
def ID(c:Cx)(F:Fs)(O:List Addr)(S':St)(e:Value)(s':Shared):Prop:=
 ∃O' m' news' s0 h' ea,O <+:O'/\Pre c F O' S' s0 m' news'/\e= .ref ea/\sN s0.heap h' ea "StopIteration"/\s'={ s0 with heap:=h' }
def dw(F:Fs)(l:List Stmt)(S S':St):Prop:=∀c:Cx,GKS c.K->aD c F->∀O s m news,Pre c F O S s m news->wpAny c.M c.A (execs l c.env) (λ_ _=>False) (ID c F O S') s
def ew(lvl:Nat)(f:Addr)(Sin:List SO)(args:List SV)(Sout:List SO):Prop:=
 ∀(c:Cx)(F:Fs)(A:Around),GKS c.K->aD c F->lvl+2<=F.lvl->AOk c F A->∀O S s m news pk,Pre c F O S s m news->dF pk Sin S.led->∀vs,au O (args.map (aU (at_ pk S.led.length))) vs->
  codeAny c.M A (.call (.ref f) ⟨vs,[]⟩) (λr s'=>∃ea,r= .error (.ref ea)/\s'.TypeIs (.ref ea) "StopIteration"/\aG c F O ⟨S.loc,back pk Sout S.led⟩ (λ_(_:Unit)=>True) () s') s
theorem yn{h h':Heap}{e:Addr}(x:Heap.MadeExc h h' e "StopIteration" []):sN h h' e "StopIteration":=
 ⟨x.keeps,x.new,let⟨t,ht,_⟩:=x.there;⟨_,_, .ref t,ht,rfl,rfl,rfl,rfl⟩⟩
theorem dw.cons{st:Stmt}{l:List Stmt}{S S1 S':St}(h1:ae GKS F st S S1 .next)(h2:dw F l S1 S'):dw F (st::l) S S':=λc hK H O s m news p=>
 QA (Qw (h1 c hK H O s m news p) (λv s' z=>by
  refine aG.el z λO1 m1 n1 p1 q1 r1=>?_
  rw[show v=Flow.next from r1]
  exact Qw (h2 c hK H O1 s' m1 n1 q1) (λ_ _ z=>z) λe s'' z=>by
   obtain⟨a1,a2,a3,a4,a5,a6,b1,b2⟩:=z
   exact⟨a1,a2,a3,a4,a5,a6,p1.trans b1,b2⟩) λ_ _ z=>z.elim)
theorem dw.raise{test:Expr}{np rp ip:Pos}{l:List Stmt}{S S1:St}(h1:aJ GKS F test S S1 QF)(hx:F.sc.names.lookup (QC "StopIteration")=QE .globalImplicit):
  dw F (.If test [.Raise (QE (.Name (QC "StopIteration") np)) QD rp] [] ip::l) S S1:=λc hK H O s m news p=>by
 refine QA (wpAny_If (Qw (h1 c hK H O s m news p) (λv s' z=>?_) λ_ _ z=>z.elim))
 refine aG.el z λO1 m1 n1 p1 q1 r1=>?_
 rw[show v=QF from r1]
 refine QA ?_
 obtain⟨P,hP⟩:=hK
 have HN:eA c.K (QC "StopIteration") "StopIteration":=by rw[hP];exact FZ P _ (.tail _ (.head _))
 refine owsi_raiseC H.handled (Name_function_global H.fn (by show c.env.scope.names.lookup _=_;rw[H.sc];exact hx) (loadGlobal_builtin (by rw[c.globals];exact(q1.top H.toCxW).g.keeps q1.rep.fr.keep) (mg_none_of (q1.kin H.toCxW) (q1.top H.toCxW).g HN.none_) (by rw[c.builtins];exact(q1.top H.toCxW).b.keeps q1.rep.fr.keep) ((H.top.builtins _ HN.nm).trans HN.boot) ⟨rfl,rfl⟩) HN.dbg) λh' e hn=>?_
 exact⟨O1,m1,n1,s',h',e,p1,q1,rfl,yn hn,rfl⟩
theorem ew.plain{lvl:Nat}{e:FnE}{Sin Sout:List SO}{args:List SV}{b:List (Str×SV)}{S':St}(he:∀K,GKS K->eT K e)(hna:args.length=e.na)(hkw:e.kws=[])(hb:eX args [] e.binds=QE b)
  (hrun:dw ⟨e.sc,[],lvl,QD⟩ e.body ⟨b.reverse,Sin⟩ S')(hS:S'.led=Sout):ew lvl e.f Sin args Sout:=λc F A hK H hl HA O S s mm news pk p hpk vs hvs=>hS▸eD p hpk λτ sub hτ onto u=>
 gM (kw:=[]) H hl HA (he c.K hK) p u hna hkw.symm (hvs.unmap onto) ⟨rfl,rfl⟩ hb λc' s1 m1 hs HC _ P' home=>Qw (hrun c' (hs.K.symm▸hK) HC _ _ _ _ P') (λ_ _ z=>z.elim) λev s' z=>by
  obtain⟨τ',m',sub',s0,h',ea,pre,q0,rfl,hx,rfl⟩:=z
  unfold leaving
  have henv:c'.env=c'.fenv:=by unfold Cx.env;rw[HC.cpn rfl]
  rw[henv]
  refine Qv (mG HC.toCxW q0 (tk:=s0.toks) hx λh₅ B a0 hfl hB hU=>?_)
  obtain⟨f1,f2,f3,f4⟩:=id hfl
  obtain⟨ob,hob,hobc⟩:=hfl.there
  obtain⟨g₅,q'⟩:=q0.landed (λb o e hb=>f1 _ _ (hB b o e hb)) hU
  exact⟨ea,rfl,⟨ob,hob,hobc⟩,Qq (home _ _ _ _ _ pre q') λg h=>fE p hpk.nd hτ h λ_ _=>trivial⟩
theorem DZ(x:Str)(i:Nat)(h:ab GKS 10 820 (aF x i (stB QG)) [.ref 1] (aF x i (stB QG)) .none):ew 12 856 (aF x i (stB QG)) [.ref 1] (aF x i (stB QG)):=by
 refine ew.plain (e:=pB) (b:=[(QC "self", .ref 1)]) (S':=⟨[(QC "self", .ref 1),(QC "token", .none)],aF x i (stB QG)⟩) (λK⟨P,hP⟩=>hP▸Gf P) (by kernel_rfl) (by kernel_rfl) (by kernel_rfl) ?_ rfl
 have hb:pB.body=nth pB.body 0:: .If (bj (nth pB.body 1)) [.Raise (QE (.Name (QC "StopIteration") ⟨851,18,851,31⟩)) QD ⟨851,12,851,31⟩] [] ⟨850,8,851,31⟩::pB.body.drop 2:=by kernel_rfl
 rw[hb]
 refine dw.cons (S1:=⟨[(QC "self", .ref 1),(QC "token", .none)],aF x i (stB QG)⟩) (@hV xA 20 nF _ _ _ [] [l7 820 x i i QG QG .none] _ [0,1,2,3,4,5] (lK 820 10 x i i QG QG .none) (by kernel_rfl) (j9 @h)) (dw.raise (@d4 xA 20 nF _ _ _ [] [] _ [0,1,2,3,4,5] True (by kernel_rfl) QI) (by kernel_rfl))
inductive nY (x:Str):Nat->Bool->List Str->Prop
 |done {i:Nat}:ew 12 856 (aF x i (stB false)) [.ref 1] (aF x i (stB false))->nY x i false []
 |step {i j:Nat} {b b':Bool} {y:Str} {ys:List Str}:ab GKS 12 856 (aF x i (stB b)) [.ref 1] (aF x j (stB b')) (.str y)->nY x j b' ys->nY x i b (y::ys)
theorem nx1(P:Params):findIn (KS P) (.ref 859) (QC "__next__")=QE (QE (.ref 856)):=by kernel_rfl
theorem nx2(P:Params):isFn (KS P) (.ref 856)=QF:=by kernel_rfl
theorem nx3(P:Params):findIn (KS P) (.ref 859) (QC "__iter__")=QE (QE (.ref 849)):=by kernel_rfl
theorem nx4(P:Params):isFn (KS P) (.ref 849)=QF:=by kernel_rfl
theorem nx5(P:Params):findIn (KS P) (.ref 859) (QC "__len__")=QE QD:=by kernel_rfl
theorem nx6(P:Params):findIn (KS P) (.ref 859) (QC "__length_hint__")=QE QD:=by kernel_rfl
theorem zi:isSubtype (.type "StopIteration") (.type "StopIteration")=pure QF:=by rw[isSubtype_type];kernel_rfl
noncomputable def pk6:List Nat:=[0,1,2,3,4,5]
theorem oB(x:Str)(i:Nat)(b:Bool)(o:SO):dF pk6 (aF x i (stB b)) (aF x i (stB b)++[o]):=by
 cases b<;>exact⟨by kernel_rfl,by kernel_rfl⟩
theorem zK(x:Str)(i j:Nat)(b b':Bool)(o:SO):back pk6 (aF x j (stB b')) (aF x i (stB b)++[o])=aF x j (stB b')++[o]:=by
 cases b<;>cases b'<;>kernel_rfl
section
variable{A₀:Around}
theorem A5{x:Str}{i j:Nat}{b b':Bool}{y:Str}(hK:GKS c.K)(H:aD c F)(hl:14<=F.lvl){L:List (Str×SV)}{o:SO}(p:Pre c F O ⟨L,aF x i (stB b)++[o]⟩ s m news){a:Addr}(ha:O[1]?=QE a)
  (h:ab GKS 12 856 (aF x i (stB b)) [.ref 1] (aF x j (stB b')) (.str y)):wpAny c.M c.A (pyNext (.ref a)) (λr s'=>∃v,r=QE v/\aG c F O ⟨L,aF x j (stB b')++[o]⟩ (rV (.str y)) v s') NoE s:=by
 obtain⟨P,hP⟩:=hK
 have hKc:GKS c.K:=⟨P,hP⟩
 refine p.inst (k:=1) (x:= .inst 859 0) (q:=mR (stB b) ⟨#[]⟩) rfl rfl rfl ha λdx sl od g3 g4 g2 g5 g6 I=>?_
 have X:(KS P).In m.g:=hP▸p.kin H.toCxW
 refine owit_next p.rep.fr X I (nx1 P) (nx2 P) (wpAny_call (codeAny_mono (h c F c.A hKc H hl (gb H) O _ s m news pk6 p (oB x i b o) [.ref a] ⟨_,_,rfl,⟨a,ha,rfl⟩,rfl⟩) λr s' z=>?_))
 rcases r with ee|fl
 .exact z.elim
 cases fl with
 |ret v=>
  have z':aG c F O ⟨L,back pk6 (aF x j (stB b')) (aF x i (stB b)++[o])⟩ (rV (.str y)) v s':=z
  rw[zK]at z'
  exact⟨v,rfl,z'⟩
 |_=>exact z.elim
theorem xR{x:Str}{i:Nat}(hK:GKS c.K)(H:aD c F)(hl:14<=F.lvl){L:List (Str×SV)}{o:SO}(p:Pre c F O ⟨L,aF x i (stB QG)++[o]⟩ s m news){a:Addr}(ha:O[1]?=QE a)
  (h:ew 12 856 (aF x i (stB QG)) [.ref 1] (aF x i (stB QG))):wpAny c.M c.A (pyNext (.ref a)) (λr s'=>r=QD/\aG c F O ⟨L,aF x i (stB QG)++[o]⟩ (λ_(_:Unit)=>True) () s') NoE s:=by
 obtain⟨P,hP⟩:=hK
 have hKc:GKS c.K:=⟨P,hP⟩
 refine p.inst (k:=1) (x:= .inst 859 0) (q:=mR (stB QG) ⟨#[]⟩) rfl rfl rfl ha λdx sl od g3 g4 g2 g5 g6 I=>?_
 have X:(KS P).In m.g:=hP▸p.kin H.toCxW
 refine owit_next p.rep.fr X I (nx1 P) (nx2 P) (wpAny_call (codeAny_mono (h c F c.A hKc H hl (gb H) O _ s m news pk6 p (oB x i QG o) [.ref a] ⟨_,_,rfl,⟨a,ha,rfl⟩,rfl⟩) λr s' z=>?_))
 obtain⟨ea,rfl,hT,z'⟩:=z
 rw[zK]at z'
 show OwitStop _ _ _ _ _ _
 unfold OwitStop
 refine wpAny_isInstance hT zi ?_
 rw[if_pos rfl]
 exact⟨rfl,z'⟩
theorem AY{x:Str}(hK:GKS c.K)(H:aD c F)(HA:AOk c F A₀)(hl:16<=F.lvl){L:List (Str×SV)}{Sx ax:Addr}{R:Result->Shared->Prop}:∀{i:Nat}{b:Bool}{ys:List Str},nY x i b ys->∀(acc:List Str),acc.length+ys.length<=1000->∀O s m news,Pre c F O ⟨L,aF x i (stB b)++[.words acc]⟩ s m news->O[1]?=QE ax->O[6]?=QE Sx->
  (∀i' O' s' m' n',O <+:O'->Pre c F O' ⟨L,aF x i' (stB QG)++[.words (acc++ys)]⟩ s' m' n'->R (.ok (.ret .none)) s')->codeAny c.M A₀ (.builtin "list.extend.loop" ⟨[.ref Sx, .ref ax, .none],[]⟩) R s:=by
 intro i b ys ht
 have HW:=fw H HA (by lia)
 have HU:AOk (c.within A₀) F.less A₀.in1:=iN HW
 have HX:=fw HW HU (by show 1<=F.lvl-1;lia)
 have hl2:14<=F.less.less.lvl:=by show 14<=F.lvl-1-1;lia
 have hentry:=PySem.F.entry_extend_loop
 induction ht with
 | @done i0 h=>
  intro acc hn O s m news p hax hS hR
  refine codeAny_builtin hentry ?_
  rw[Around.under_plainId PySem.F.plain_extend_loop _]
  show wpAny _ A₀.in1 (pyNext (.ref ax) >>=_) _ _ s
  refine Qv (Qw (xR (c:=(c.within A₀).within A₀.in1) (F:=F.less.less) hK HX hl2 p.within.within hax h) (λr s' z=>?_) λ_ _ z=>z.elim)
  obtain⟨rfl,O',m',n',pr,q,_⟩:=z
  refine Qx (hR i0 O' s' m' n' pr ?_)
  rw[List.append_nil]
  exact q.without.without
 | @step i j b b' y ys h ht ih=>
  intro acc hn O s m news p hax hS hR
  refine codeAny_builtin hentry ?_
  rw[Around.under_plainId PySem.F.plain_extend_loop _]
  show wpAny _ A₀.in1 (pyNext (.ref ax) >>=_) _ _ s
  refine Qv (Qw (A5 (c:=(c.within A₀).within A₀.in1) (F:=F.less.less) hK HX hl2 p.within.within hax h) (λr s' z=>?_) λ_ _ z=>z.elim)
  obtain⟨v,rfl,O',m',n',pr,q,t,rfl⟩:=z
  have q:=q.without.without
  obtain⟨Sx',ol,e1,e2,e3,vs,nn,rfl,hvs⟩:=q.rep.get (k:=6) (x:= .words acc) (by cases b'<;>kernel_rfl)
  rw[aY pr hS]at e2;cases e2
  have hlen:=az hvs
  have hn':acc.length+1+ys.length<=1000:=by simp only[Qg]at hn;lia
  show wpAny _ A₀.in1 (updateSeq Sx (·.push (.str y t)) >>=_) _ _ _
  refine Qv (wpAny_updateSeq e3 rfl (Qx ⟨plainId_quiet PySem.F.plain_extend_loop _,?_⟩) ?_)
  .have hget:=Qt (Obj.mapSeq (·.push (.str y t))) e3 rfl
   have q2:=q.heap' (P5 _) (q.rep.same e1 (Heap.SameBut.update ..) hget (y:= .words (acc++[y])) ⟨vs++[.str y t],_,by rw[<-List.push_toArray];rfl,strsAre_append hvs (.cons y t .nil)⟩)
   have e:({ (⟨L,aF x j (stB b')++[.words acc]⟩:St)with led:=(aF x j (stB b')++[SO.words acc]).set 6 (.words (acc++[y])) }:St)=⟨L,aF x j (stB b')++[.words (acc++[y])]⟩:=by cases b'<;>kernel_rfl
   rw[e]at q2
   refine ih (acc++[y]) (by simp;lia) O' _ m' _ q2 (aY pr hax) (aY pr hS) λi' O'' s'' m'' n'' pr' q''=>?_
   rw[List.append_assoc]at q''
   exact hR i' O'' s'' m'' n'' (pr.trans pr') q''
  .rw[List.size_toArray,hlen,sizeLine_eq]
   lia
end
theorem yT{a b:Array Value}{n:Nat}(h:a=b):∃k,QE ({ cls:= .type "list",data:= .seq a n }:Obj)=QE (W.listOf b k):=⟨n,by rw[h]⟩
section
variable{A₀:Around}
theorem qq{x:Str}{i:Nat}{b:Bool}{acc:List Str}{L:List (Str×SV)}(p:Pre c F O ⟨L,aF x i (stB b)++[.words acc]⟩ s m news){Sx:Addr}(hS:O[6]?=QE Sx):
  ∃(vs:List Value)(nn:Nat),news[6]?=QE (Sx,listOf vs.toArray nn)/\s.heap.get? Sx=QE (listOf vs.toArray nn)/\StrsAre vs acc:=by
 obtain⟨Sx',ol,e1,e2,e3,vs,nn,rfl,hvs⟩:=p.rep.get (k:=6) (x:= .words acc) (by cases b<;>kernel_rfl)
 rw[hS]at e2;cases e2
 exact⟨vs,nn,e1,e3,hvs⟩
theorem nu{x:Str}{i:Nat}{b:Bool}{acc:List Str}{L:List (Str×SV)}(p:Pre c F O ⟨L,aF x i (stB b)++[.words acc]⟩ s m news){Sx:Addr}{vs:List Value}{nn:Nat}(e1:news[6]?=QE (Sx,listOf vs.toArray nn))(hvs:StrsAre vs acc){h':Heap}(hs:Heap.SameBut Sx s.heap h'){n':Nat}(hg:h'.get? Sx=QE (listOf vs.toArray n')):
  ∃news',Pre c F O ⟨L,aF x i (stB b)++[.words acc]⟩ { s with heap:=h' } m news':=by
 have q2:=p.heap' (P5 _) (p.rep.same e1 hs hg (y:= .words acc) ⟨vs,n',rfl,hvs⟩)
 have e:({ (⟨L,aF x i (stB b)++[.words acc]⟩:St)with led:=(aF x i (stB b)++[SO.words acc]).set 6 (.words acc) }:St)=⟨L,aF x i (stB b)++[.words acc]⟩:=by cases b<;>kernel_rfl
 rw[e]at q2
 exact⟨_,q2⟩
theorem Cn{x:Str}{ys:List Str}(hK:GKS c.K)(H:aD c F)(HA:AOk c F A₀)(hl:16<=F.lvl){L:List (Str×SV)}{Sx ax:Addr}{R:Result->Shared->Prop}(ht:nY x 0 QF ys)(hn:ys.length<=1000)(p:Pre c F O ⟨L,aF x 0 (stB QF)++[.words []]⟩ s m news)(hax:O[1]?=QE ax)(hS:O[6]?=QE Sx)
  (hR:∀i' O' s' m' n',O <+:O'->Pre c F O' ⟨L,aF x i' (stB QG)++[.words ys]⟩ s' m' n'->R (.ok (.ret .none)) s'):
  wpAny c.M A₀.in1 (Builtin.List.listExtendWith (.ref Sx) (.ref ax) .none) (λfin s'=>match fin with | .done f=>R (.ok f) s' | .again c'=>c'.quiet=QF/\codeAny c.M A₀ c' R s') (λe s'=>R (.error e) s') s:=by
 have HW:=fw H HA (by lia)
 have HU:AOk (c.within A₀) F.less A₀.in1:=iN HW
 have HX:=fw HW HU (by show 1<=F.lvl-1;lia)
 have hl2:14<=F.less.less.lvl:=by show 14<=F.lvl-1-1;lia
 obtain⟨P,hP⟩:=hK
 have hKc:GKS c.K:=⟨P,hP⟩
 refine p.inst (k:=1) (x:= .inst 859 0) (q:=mR (stB QF) ⟨#[]⟩) rfl rfl rfl hax λdx sl od g3 g4 g2 g5 g6 I=>?_
 have X:(KS P).In m.g:=hP▸p.kin H.toCxW
 have hne:Sx≠ax:=λe=>by
  subst e
  have:=(List.getElem?_inj (P7.mp hS).1 p.rep.nd).mp (hS.trans hax.symm)
  cases this
 have T1:Looks c.M s.heap (typeOf (.ref ax)) (.ref 859):=I.type
 unfold Builtin.List.listExtendWith
 refine Qv (T1.here ?_)
 have h1:Builtin.List.listSameRef (.ref Sx) (.ref ax)=QG:=by simp[Builtin.List.listSameRef,hne]
 have h2:(Value.ref 859==Value.type "list")=QG:=rfl
 have h3:(Value.ref 859==Value.type "tuple")=QG:=rfl
 rw[h1,h2,h3,Bool.or_false,Bool.or_false,if_neg Bool.false_ne_true]
 refine Qv (owit_iter p.rep.fr X I (nx3 P) (nx4 P) (wpAny_call (codeAny_mono (EG x 0 ((c.within A₀).within A₀.in1) F.less.less A₀.in1 hKc HX hl2 (gb HX) O _ s m news pk6 p.within.within (oB x 0 QF (.words [])) [.ref ax] ⟨_,_,rfl,⟨ax,hax,rfl⟩,rfl⟩) λr s' z=>?_)))
 rcases r with ee|fl
 .exact z.elim
 cases fl with
 |ret v=>
  have z':aG ((c.within A₀).within A₀.in1) F.less.less O ⟨L,back pk6 (aF x 0 (stB QF)) (aF x 0 (stB QF)++[.words []])⟩ (rV (.ref 1)) v s':=z
  rw[zK]at z'
  refine aG.el z' λO1 m1 n1 pr1 q r1=>?_
  obtain⟨a1,ha1,rfl⟩:=r1
  rw[aY pr1 hax]at ha1;cases ha1
  have q:=q.without.without
  have hax1:=aY pr1 hax
  have hS1:=aY pr1 hS
  refine q.inst (k:=1) (x:= .inst 859 0) (q:=mR (stB QF) ⟨#[]⟩) rfl rfl rfl hax1 λdx2 sl2 od2 f3 f4 f2 f5 f6 I2=>?_
  have X2:(KS P).In m1.g:=hP▸q.kin H.toCxW
  refine owit_it q.rep.fr X2 I2 (nx1 P) ?_
  have T2:Looks c.M s'.heap (typeOf (.ref ax)) (.ref 859):=I2.type
  have X3:=X2.keeps q.rep.fr.keep
  refine Qv (Qy ?_)
  unfold Builtin.List.listLengthHint
  have L1:Looks c.M s'.heap (specialOf (.ref ax) (QC "__len__")) QD:=T2.andThen (looks_findIn X3 (nx5 P))
  have L2:Looks c.M s'.heap (specialOf (.ref ax) (QC "__length_hint__")) QD:=T2.andThen (looks_findIn X3 (nx6 P))
  refine Qv (L1.here ?_)
  show wpAny _ A₀.in1 (specialOf (.ref ax) (QC "__length_hint__") >>=_) _ _ _
  refine Qv (L2.here ?_)
  refine Qx ?_
  obtain⟨vs,nn,e1,e3,hvs⟩:=qq q hS1
  have hlen:=az hvs
  show wpAny _ A₀.in1 (rule "list.extend.makes-room" >>=λ_=>Builtin.List.listTouch (.ref Sx) >>=λ_=>
   again (.builtin "list.extend.loop" ⟨[.ref Sx, .ref ax, .none],[]⟩)) _ _ _
  refine Qv (wpAny_rule ?_)
  refine Qv ?_
  show wpAny _ A₀.in1 (updateSeq Sx (·.push .none) >>=λ_=>updateSeq Sx (·.pop)) _ _ _
  refine Qv (wpAny_updateSeq e3 rfl ?_ (by rw[List.size_toArray,hlen];decide))
  have hg1:=Qt (Obj.mapSeq (·.push Value.none)) e3 rfl
  refine wpAny_updateSeq hg1 rfl ?_ (by show(vs.toArray.push _).size<=_;rw[Array.size_push,List.size_toArray,hlen];decide)
  have hg2:=Qt (Obj.mapSeq (·.pop)) hg1 rfl
  have hv:(vs.toArray.push Value.none).pop=vs.toArray:=by simp
  obtain⟨k2,hg3⟩:∃k2,((s'.heap.update Sx (Obj.mapSeq (·.push Value.none))).update Sx (Obj.mapSeq (·.pop))).get? Sx=QE (listOf vs.toArray k2):=by
   rw[hg2]
   exact yT hv
  obtain⟨n3,q3⟩:=nu q e1 hvs ((Heap.SameBut.update ..).trans (Heap.SameBut.update ..)) hg3
  refine Qx ⟨plainId_quiet PySem.F.plain_extend_loop _,AY hKc H HA hl ht [] (by simpa using hn) O1 _ m1 _ q3 hax1 hS1 λi' O' s'' m' n' pr q'=>?_⟩
  exact hR i' O' s'' m' n' (pr1.trans pr) q'
 |_=>exact z.elim
end
section
variable{c:Cx}{F:Fs}{E:Value->Shared->Prop}
theorem BE{x:Str}{ys:List Str}(hK:GKS c.K)(H:aD c F)(hl:18<=F.lvl){L:List (Str×SV)}{ax:Addr}(ht:nY x 0 QF ys)(hn:ys.length<=1000)(p:Pre c F O ⟨L,aF x 0 (stB QF)⟩ s m news)(hax:O[1]?=QE ax):
  wpAny c.M c.A (call (.type "list") [.ref ax]) (λv s'=>∃i',aG c F O ⟨L,aF x i' (stB QG)++[.words ys]⟩ (rV (.ref 6)) v s') E s:=by
 refine callType_codes (Q₁:=λobj s₁=>obj= .ref s.heap.objs.size/\s₁={ s with heap:=s.heap.push { cls:= .type "list",data:= .seq #[] } }) PySem.F.called_list (PySem.F.typeCall_list_1 _) PySem.F.entry_list_init
  (code_list_new _ ⟨rfl,rfl⟩) λobj s₁ h₁=>?_
 obtain⟨rfl,rfl⟩:=h₁
 have hS:(s.heap.push ({ cls:= .type "list",data:= .seq #[] }:Obj)).get? s.heap.objs.size=QE (W.listOf ([]:List Value).toArray 0):=Qu _ rfl
 refine⟨⟨_,hS,rfl⟩,PySem.F.args_list_init_2 _ _,?_⟩
 have pre:O <+:O++[s.heap.objs.size]:=P6 _ _
 have p1:Pre c F (O++[s.heap.objs.size]) ⟨L,aF x 0 (stB QF)++[.words []]⟩ { s with heap:=s.heap.push ({ cls:= .type "list",data:= .seq #[] }:Obj) } m _:=
  p.heap' pre (p.rep.alloc (x:= .words []) (p.rep.fr.push _) (News.push p.rep.fr p.rep.nw _ rfl) (λq hq=>Qs (p.rep.nw q hq).1) ⟨[],0,rfl, .nil⟩)
 have hlen:O.length=6:=p.len
 have hS1:(O++[s.heap.objs.size])[6]?=QE s.heap.objs.size:=by rw[Qa (by lia),hlen];rfl
 have hax1:=aY pre hax
 obtain⟨vs,nn,e1,e3,hvs⟩:=qq p1 hS1
 have e3':(s.heap.push ({ cls:= .type "list",data:= .seq #[] }:Obj)).get? s.heap.objs.size=QE (W.listOf vs.toArray nn):=e3
 obtain rfl:vs=[]:=by cases hvs;rfl
 show wpAny _ c.A.in1.in1 (do let old<-Builtin.List.listItems (.ref s.heap.objs.size);Builtin.List.listUpdate (.ref s.heap.objs.size) (λ_=>#[]);letGo old.toList.reverse;Builtin.List.listExtendWith (.ref s.heap.objs.size) (.ref ax) .none) _ _ _
 refine Qv ?_
 unfold Builtin.List.listItems
 refine Qv (wpAny_seqItems hS rfl (Qx ?_))
 show wpAny _ c.A.in1.in1 (updateSeq s.heap.objs.size (λ_=>#[]) >>=λ_=>letGo (#[]:Array Value).toList.reverse >>=λ_=>Builtin.List.listExtendWith (.ref s.heap.objs.size) (.ref ax) .none) _ _ _
 refine Qv (wpAny_updateSeq hS rfl ?_)
 have hS₂:=Qt (Obj.mapSeq (λ_=>(#[]:Array Value))) hS rfl
 obtain⟨k2,hg3⟩:∃k2,((s.heap.push ({ cls:= .type "list",data:= .seq #[] }:Obj)).update s.heap.objs.size (Obj.mapSeq (λ_=>(#[]:Array Value)))).get? s.heap.objs.size=QE (W.listOf ([]:List Value).toArray k2):=⟨_,hS₂⟩
 obtain⟨n3,q3⟩:=nu p1 e1 hvs (Heap.SameBut.update ..) hg3
 refine Qv (wpAny_letGo ?_)
 refine Cn (A₀:=c.A.in1) hK H (iN H) (by lia) ht hn q3 hax1 hS1 λi' O' s' m' n' pr q'=>?_
 exact⟨rfl,i',O',m',n',pre.trans pr,q',s.heap.objs.size,aY pr hS1,rfl⟩
end
def BW:Fs:=⟨Hq.sc,[],18,QD⟩
noncomputable def AO:Expr:= .Name (QC "list") ⟨860,11,860,15⟩
noncomputable def AI:Expr:= .Name (QC "lex") ⟨860,16,860,19⟩
def Dn:Expr:= .Call AO [AI] [] ⟨860,11,860,20⟩
def vE(x:Str):St:=⟨[(QC "posix", .bool QF),(QC "comments", .bool QG),(QC "s", .str x),(QC "lex", .ref 1)],aF x 0 (stB QF)⟩
noncomputable def vo(ys:List Str):St:=⟨[],[.any, .any, .any, .any, .any, .any, .words ys]⟩
theorem Fo(x:Str):ah GKS BW AO (vE x) (vE x) (.top (.type "list")):=@bp _ 20 nF _ _ _ [] [] _ pk6 True (by kernel_rfl) QI
theorem DH(x:Str):ah GKS BW AI (vE x) (vE x) (.ref 1):=@bp _ 20 nF _ _ _ [] [] _ pk6 True (by kernel_rfl) QI
theorem DV(x:Str)(i:Nat)(ys:List Str):br (aF x i (stB QG)++[.words ys]) (vo ys).led:=
 .cons (λ_ _ _ _=>trivial) (.cons (λ_ _ _ _=>trivial) (.cons (λ_ _ _ _=>trivial) (.cons (λ_ _ _ _=>trivial) (.cons (λ_ _ _ _=>trivial) (.cons (λ_ _ _ _=>trivial) (br.refl _))))))
theorem Ih{x:Str}{ys:List Str}(ht:nY x 0 QF ys)(hn:ys.length<=1000):ah GKS BW Dn (vE x) (vo ys) (.ref 6):=by
 intro c hK H O s m news p
 unfold Dn AO AI
 refine Call_Name1 (go_ (@Fo x c hK H O s m news p) λO1 m1 n1 v1 s1 p1 q1 r1=>?_) rfl
 rw[show v1=Value.type "list" from r1]
 refine PySem.callWith_type rfl (evalArgs_plain (spliced_cons (go_ (@DH x c hK H O1 s1 m1 n1 q1) λO2 m2 n2 v2 s2 p2 q2 r2=>spliced_nil ?_)))
 obtain⟨ax,hax,rfl⟩:=r2
 refine Qw (BE hK H (PX 18) ht hn q2 hax) (λv s' z=>?_) λ_ _ z=>z
 obtain⟨i',O',m',n',pr,q',r'⟩:=z
 refine⟨O',m',n',p1.trans (p2.trans pr),?_,r'⟩
 have q'':=q'.soft (DV x i' ys)
 exact⟨⟨q''.rep.fr,q''.rep.nw,q''.rep.at_,q''.rep.nd,q''.rep.ob,λ_=>trivial⟩,q''.below,q''.turn,q''.cell,q''.vars,q''.side⟩
def o724c(x:Str):Orc:= .call 724 [] [] [.str x] [dt x 0, .inst 724 0] (.ref 1)
def Oe(x:Str)(l:Nat)(led:List SO)(r:Prop):Prop:=dF [] [] led/\([SV.str x]=[SV.str x])/\(([]:List (Str×SV))=[])/\ab GKS l 724 [] [.str x] [dt x 0, .inst 724 0] (.ref 1)/\r
theorem sA{x:Str}{ys:List Str}(ht:nY x 0 QF ys)(hn:ys.length<=1000):ab GKS 18 871 [] [.str x] [.words ys] (.ref 0):=by
 refine ab.plain (e:=Hq) (fl:= .ret (.ref 0)) (b:=[(QC "s", .str x),(QC "comments", .bool QG),(QC "posix", .bool QF)]) (S':=⟨[],[.words ys]⟩) (λK⟨P,hP⟩=>hP▸Mm P) (by kernel_rfl) (by kernel_rfl) (by kernel_rfl) ?_ rfl (.inl rfl)
 exact@aw BW 20 nF _ _ _ [] [o724c x, .expr (iq Dn) (vo ys) (.ref 6)] _ [6] (ah GKS BW Dn (vE x) (vo ys) (.ref 6)/\Oe x 14 [.ns [], .inst 859 0] True) (by kernel_rfl) ⟨@Ih x ys ht hn,⟨rfl,rfl⟩,rfl,rfl,ab.mono (C9 x) (by decide),QI⟩
open Sem (wp)
namespace Rx
noncomputable def steps:Nat->Sre.M->Option Sre.M
 |0,_=>QD
 |n+1,m=>match(m.runFor 4).outcome.isSome with
  |true=>QE (m.runFor 4)
  |false=>steps n (m.runFor 4)
section
variable{prog:Program}{w:World}{A:Around}{E:Value->Shared->Prop}
theorem qi{Q:Sre.M->Shared->Prop}:∀(n k:Nat)(m m':Sre.M),n<=k->steps n m=QE m'->Q m' s->wpAny (model prog w) A (Builtin.Re.reDrive k m) Q E s
 |0,_,_,_,_,e,_=>by cases e
 |n+1,0,_,_,hk,_,_=>by lia
 |n+1,k+1,m,m',hk,e,h=>by
  show wpAny (model prog w) A (if(m.runFor 4).outcome.isSome=QF then pure (m.runFor 4)else(do rule "sre.turn";Builtin.Re.reDrive k (m.runFor 4))) Q E s
  unfold steps at e
  cases q:(m.runFor 4).outcome.isSome with
  |true=>
   rw[q]at e
   cases e
   rw[if_pos rfl]
   exact Qx h
  |false=>
   rw[q]at e
   rw[if_neg (by decide)]
   exact Qv (wpAny_rule (qi n k _ _ (by lia) e h))
theorem jE{α:Type}{f:α->PUnit->Sem (ForInStep PUnit)}{Q:PUnit->Shared->Prop}(h:∀a r(K:ForInStep PUnit->Shared->Prop),K (.yield ⟨⟩) s->wpAny (model prog w) A (f a r) K E s)(hQ:Q ⟨⟩ s):∀l:List α,wpAny (model prog w) A (forIn l PUnit.unit f) Q E s
 |[]=>Qx hQ
 |a::l=>by
  rw[List.forIn_cons]
  exact Qv (h a _ _ (jE h hQ l))
theorem Ag{Q:Option Sre.M->Shared->Prop}{n:Nat}{m m':Sre.M}{r:Option Sre.M}(hn:n<=2^64)(e:steps n m=QE m')(ho:(m'.outcome=QE .matched/\r=QE m')\/(m'.outcome=QE .failed/\r=QD))(h:Q r s):wpAny (model prog w) A (Builtin.Re.reRunToEnd m) Q E s:=by
 unfold Builtin.Re.reRunToEnd
 refine Qv (qi n _ m m' hn e ?_)
 refine Qv (jE (λa _ K hK=>?_) ?_ _)
 .split
  .exact Qv (wpAny_rule (Qx hK))
  .exact Qv (Qx (Qx hK))
 .rcases ho with⟨o,rfl⟩|⟨o,rfl⟩<;>(rw[o];exact Qx h)
noncomputable def F0:Array Value:=#[(.int 14 0),(.int 17 0),(.int 4 0),(.int 1 0),(.int 1 0),(.int 21 0),(.int 9 0),(.int 0 0),(.int 604043296 0),(.int 1 0),(.int 0 0),(.int 0 0),(.int 0 0),(.int 0 0),(.int 0 0),(.int 8 0),(.int 4 0),(.int 0 0),(.int 13 0),(.int 14 0),(.int 21 0),(.int 9 0),(.int 0 0),(.int 604043296 0),(.int 1 0),(.int 0 0),(.int 0 0),(.int 0 0),(.int 0 0),(.int 0 0),(.int 8 0),(.int 4 0),(.int 0 0),(.int 1 0)]
noncomputable def codeN:Array Nat:=(F0.map Builtin.Re.reRawOf).map (·.toNat)
noncomputable def pV:Array Value:=#[(.str (QC "[^\\w@%+=:,./-]") 526),(.int 256 563),(.int 0 0), .none, .none,(.ref 175),(.int 0 0)]
noncomputable def Reads(s:Shared):Prop:=s.heap.get? 176=QE ⟨(.type "re.Pattern"),QD, .fields pV,#[]⟩/\s.heap.get? 175=QE ⟨(.type "tuple"),QD, .seq F0 0,#[]⟩
theorem KE(v:Value):Builtin.Re.reNamed "re.Pattern.search" "search" ["string","pos","endpos"] 1 [v] []=pure [QE v,QD,QD]:=by
 first|rfl|kernel_rfl
theorem target{y:Str}{t:Tok}{Q:Builtin.Re.ReTarget->Shared->Prop}(hr:Reads s)(h:Q ⟨.ref 176, .str y t,codeN,y.cps,0,0,0,min (2^63-1) y.cps.size⟩ s):
  wpAny (model prog w) A (Builtin.Re.reTarget "re.Pattern.search" "search" ⟨[.ref 176, .str y t],[]⟩) Q E s:=by
 unfold Builtin.Re.reTarget
 dsimp only
 refine Qv (Qz (KE _) ?_)
 dsimp only
 refine Qv (Qx ?_)
 refine Qv (Qx ?_)
 refine Qv (wpAny_fieldsOf hr.1 rfl ?_)
 refine Qv (m:=Builtin.Re.reTextOf (.str y t)) (Qz (a:=(y.cps,0)) (by first|rfl|kernel_rfl) ?_)
 dsimp only
 refine Qv (Qx ?_)
 refine Qv (m:=Builtin.Re.reRawItems (.ref 175)) ?_
 unfold Builtin.Re.reRawItems
 refine Qv (wpAny_seqItems hr.2 rfl (Qx ?_))
 exact Qx h
theorem search_none{y:Str}{t:Tok}{Q:Fin->Shared->Prop}{n:Nat}(hr:Reads s)(hn:n<=2^64)(e:(steps n (Sre.forSearch codeN y.cps 0 0 (min (2^63-1) y.cps.size) QG)).map (·.outcome)=QE (QE .failed))(h:Q (.done (.ret .none)) s):
  wpAny (model prog w) A (Builtin.«re.Pattern.search» ⟨[.ref 176, .str y t],[]⟩) Q E s:=by
 obtain⟨m',e,ho⟩:=Qm.mp e
 unfold Builtin.«re.Pattern.search»
 refine Qv (target hr ?_)
 unfold Builtin.Re.reAnswer
 refine Qv (Ag hn e (.inr ⟨ho,rfl⟩) ?_)
 exact Qx h
theorem search_some{y:Str}{t:Tok}{Q:Fin->Shared->Prop}{n:Nat}(hr:Reads s)(hn:n<=2^64)(e:(steps n (Sre.forSearch codeN y.cps 0 0 (min (2^63-1) y.cps.size) QG)).map (·.outcome)=QE (QE .matched))(h:∀a h',(∀b o,s.heap.get? b=QE o->h'.get? b=QE o)->Q (.done (.ret (.ref a))) { s with heap:=h' }):
  wpAny (model prog w) A (Builtin.«re.Pattern.search» ⟨[.ref 176, .str y t],[]⟩) Q E s:=by
 obtain⟨m',e,ho⟩:=Qm.mp e
 unfold Builtin.«re.Pattern.search»
 refine Qv (target hr ?_)
 unfold Builtin.Re.reAnswer
 refine Qv (Ag hn e (.inl ⟨ho,rfl⟩) ?_)
 dsimp only
 refine Qv ?_
 unfold Builtin.Re.reNewMatch
 show wpAny _ _ (if(QG=QF)then _ else _) _ _ _
 rw[if_neg Bool.false_ne_true]
 unfold newTuple newFields
 refine Qv (wpAny_newObj_type ?_ (by show(2:Nat)<=_;decide))
 refine wpAny_newObj_type ?_ (by size_fits)
 exact Qx (h _ _ λb o e=>Qr _ (Qr _ e))
theorem tv:Manifest.signature? "re.Pattern.search"=QE ⟨.keywords,"Pattern.search","search", .self,[⟨"string", .posOrKw,QF⟩,⟨"pos", .posOrKw,QG⟩,⟨"endpos", .posOrKw,QG⟩]⟩:=by kernel_rfl
theorem qL:builtinKind "re.Pattern.search"=QE .method:=by kernel_rfl
theorem qe(v:Value):Bind.checkArgs "re.Pattern.search" { (⟨.keywords,"Pattern.search","search", .self,[⟨"string", .posOrKw,QF⟩,⟨"pos", .posOrKw,QG⟩,⟨"endpos", .posOrKw,QG⟩]⟩:Manifest.Signature)with full:=s!"{Bind.lastOf "re.Pattern"}.{Bind.lastOf "re.Pattern.search"}" } ⟨[.ref 176,v],[]⟩=pure ():=by first|rfl|kernel_rfl
theorem wQ:Manifest.varargsMethods.contains "re.Pattern.search"=QG:=by kernel_rfl
theorem rS:isSubtype (.type "re.Pattern") (.type "module")=pure QG:=by rw[isSubtype_type];kernel_rfl
theorem oX{v:Value}{Q:Unit->Shared->Prop}(hr:Reads s)(h:Q () s):wpAny (model prog w) A (checkBoundCall "re.Pattern.search" ⟨[.ref 176,v],[]⟩) Q E s:=by
 have hT:s.TypeIs (.ref 176) "re.Pattern":=⟨_,hr.1,rfl⟩
 unfold checkBoundCall
 rw[tv]
 dsimp only
 rw[qL]
 dsimp only
 refine Qv (wpAny_isInstance hT rS ?_)
 rw[wQ,if_neg (by decide)]
 refine Qv ?_
 unfold isType
 refine Qv (wpAny_load hr.1 (Qx ?_))
 rw[if_neg (by decide)]
 refine Qv (wpAny_typeOf hT ?_)
 exact Qz (qe v) h
theorem iG:plainId "re.Pattern.search"=QF:=by decide+kernel
theorem nR:entryFor table "re.Pattern.search"=QE Builtin.«re.Pattern.search»:=entryFor_of_tree (by kernel_rfl)
theorem call_search{v:Value}{Q:Value->Shared->Prop}(hr:Reads s)(ho:s.heap.get? 879=QE ⟨.type "builtin_function_or_method",QD, .fields #[.builtin "re.Pattern.search", .ref 176],#[]⟩)
  (h:wpAny (model prog w) A.in1 (Builtin.«re.Pattern.search» ⟨[.ref 176,v],[]⟩) (λfin s'=>∃u,fin= .done (.ret u)/\Q u s') E s):wpAny (model prog w) A (call (.ref 879) [v]) Q E s:=by
 refine wpAny_call (codeAny_of_tree ?_)
 show wpAny _ _ (callAny (.ref 879) ⟨[v],[]⟩) _ _ _
 unfold callAny
 refine Qv (wpAny_load ho ?_)
 show wpAny _ _ (do checkBoundCall "re.Pattern.search" ⟨[.ref 176,v],[]⟩;again (.builtin "re.Pattern.search" ⟨[.ref 176,v],[]⟩)) _ _ _
 refine Qv (oX hr (Qx ⟨plainId_quiet iG _,codeAny_builtin nR ?_⟩))
 rw[Around.under_plainId iG _]
 refine Qw h (λfin s' z=>?_) λ_ _ z=>z
 obtain⟨u,rfl,hq⟩:=z
 exact hq
end
end Rx
noncomputable def quo:Nat->Str
 |0=>⟨#[97]⟩
 |1=>⟨#[39,98,32,99,39]⟩
 |2=>⟨#[39,105,116,39,34,39,34,39,115,39]⟩
 |3=>⟨#[100]⟩
 |_=>⟨#[39,42,39]⟩
def CS:Nat->Str
 |1=>nm 1
 |2=>⟨#[105,116,39,34,39,34,39,115]⟩
 |_=>nm 4
theorem fK(s:Shared):Keeps s s:=⟨s.heap,s.toks,rfl,λ_ _ e=>e⟩
theorem eZ{s s' s'':Shared}(a:Keeps s s')(b:Keeps s' s''):Keeps s s'':=by
 obtain⟨h1,t1,rfl,k1⟩:=a
 obtain⟨h2,t2,rfl,k2⟩:=b
 exact⟨h2,t2,rfl,λb o e=>k2 b o (k1 b o e)⟩
theorem hO(s:Shared)(t:Nat):Keeps s { s with toks:=t }:=⟨s.heap,t,rfl,λ_ _ e=>e⟩
theorem wM{s s':Shared}(a:Keeps s s'){b:Addr}{o:Obj}(e:s.heap.get? b=QE o):s'.heap.get? b=QE o:=by
 obtain⟨h1,t1,rfl,k1⟩:=a
 exact k1 b o e
def PN:List Stmt:=lP.body
theorem EK(P:Params):keepIn (KS P) (.ref 886)=QF:=by kernel_rfl
theorem CV(P:Params):nsIn (KS P) mainGlobals (QC "_find_unsafe")=QE (QE (.ref 879)):=by kernel_rfl
theorem FW(P:Params):nsIn (KS P) mainGlobals (QC "quote")=QE (QE (.ref 886)):=by kernel_rfl
section
variable{prog:Program}{w:World}{A:Around}{E:Value->Shared->Prop}{P:Params}{p:Program}{loose:List Str}{mg mb:Str->Option Value}{base:Heap}
structure Gnd(P:Params)(p:Program)(loose:List Str)(mg mb:Str->Option Value)(base:Heap)(s:Shared):Prop where
 kin:(KS P).In base
 top:TopRead p loose mg mb base
 keep:∀b o,base.get? b=QE o->s.heap.get? b=QE o
theorem Gnd.next{s s':Shared}(G:Gnd P p loose mg mb base s)(k:Keeps s s'):Gnd P p loose mg mb base s':=⟨G.kin,G.top,λb o e=>wM k (G.keep b o e)⟩
theorem Gnd.reads(G:Gnd P p loose mg mb base s):Rx.Reads s:=⟨G.keep _ _ (G.kin 176 _ (by kernel_rfl)),G.keep _ _ (G.kin 175 _ (by kernel_rfl))⟩
theorem Ea{C:Nat->Prop}(h0:C 0)(h1:C 1)(h2:C 2)(h3:C 3)(h4:C 4){j:Nat}(h:j<5):C j:=by
 rcases j with _|_|_|_|_|j
 .exact h0
 .exact h1
 .exact h2
 .exact h3
 .exact h4
 .exact absurd h (Nat.not_lt.mpr (Nat.le_add_left 5 j))
theorem Ji:∀j,j<5->¬((nm j).length:Int)>=2^63/\(((nm j).length:Int)!=0)=QF/\(nm j).length<=4:=by decide+kernel
theorem Iu:∀j,j<5->(j==0||j==3)=QF->nm j=quo j:=by decide+kernel
theorem FK:∀j,j<5->(j==0||j==3)=QG->Txt.replace (nm j) ⟨#[39]⟩ ⟨#[39,34,39,34,39]⟩=CS j/\(⟨#[39]⟩++CS j++⟨#[39]⟩:Str)=quo j/\(⟨#[39]⟩:Str).length+(CS j).length<=sizeLine/\(⟨#[39]⟩++CS j:Str).length+(⟨#[39]⟩:Str).length<=sizeLine:=by decide+kernel
theorem Eo{j:Nat}(h:j<5):(Rx.steps 40 (Sre.forSearch Rx.codeN (nm j).cps 0 0 (min (2^63-1) (nm j).cps.size) QG)).map (·.outcome)=QE (QE (cond (j==0||j==3) .failed .matched)):=Ea (C:=λj=>(Rx.steps 40 (Sre.forSearch Rx.codeN (nm j).cps 0 0 (min (2^63-1) (nm j).cps.size) QG)).map (·.outcome)=QE (QE (cond (j==0||j==3) .failed .matched))) (by kernel_rfl) (by kernel_rfl) (by kernel_rfl) (by kernel_rfl) (by kernel_rfl) h
theorem CZ(G:Gnd P p loose mg mb base s)(j:Nat)(hj:j<5)(t:Tok):wpAny (model prog w) A (call (.ref 879) [.str (nm j) t]) (λv s'=>((v==Value.none)=(j==0||j==3))/\Keeps s s') E s:=by
 refine Rx.call_search G.reads (G.keep _ _ (G.kin 879 _ (by kernel_rfl))) ?_
 have z:=Eo hj
 cases q:(j==0||j==3)with
 |true=>rw[q]at z;exact Rx.search_none (n:=40) G.reads (by decide) z ⟨_,rfl,rfl,fK _⟩
 |false=>rw[q]at z;exact Rx.search_some (n:=40) G.reads (by decide) z λa h' k=>⟨_,rfl,rfl,_,_,rfl,k⟩
theorem Du{env:Env}{np pos:Pos}{e:Expr}{v:Value}{Q:Value->Shared->Prop}(G:Gnd P p loose mg mb base s)(hk:env.scope.kind= .function)(hx:env.kindOf (QC "_find_unsafe")=QE .globalImplicit)(hg:env.globals=mainGlobals)(hs:bq e=QG)
  (he:wpAny (model prog w) A (eval e env) (λu s₁=>u=v/\Keeps s s₁/\wpAny (model prog w) A (call (.ref 879) [v]) Q E s₁) E s):wpAny (model prog w) A (eval (.Call (.Name (QC "_find_unsafe") np) [e] [] pos) env) Q E s:=by
 have h879:∀{s:Shared},Gnd P p loose mg mb base s->s.heap.get? 879=QE (o879 P):=λG=>G.keep _ _ (G.kin 879 _ (by kernel_rfl))
 refine Call_Name1 (Name_function_global hk hx (loadGlobal_global (by rw[hg];exact G.top.g.keeps G.keep) (mg_of G.kin G.top.g (CV P)) ?_)) (bu hs)
 refine callWith_of (P:=λh=>h.get? 879=QE (o879 P)) rfl (λh X=>⟨.machine, .inr (.inl rfl),(Looks.ld (part:=QD) X).andThen .now⟩) ?_
 refine evalArgs_plain (spliced_cons (Qw he (λu s₁ z=>?_) λ_ _ z=>z))
 obtain⟨rfl,k,z⟩:=z
 exact spliced_nil ⟨h879 (G.next k),z⟩
theorem yU{s s':Shared}{L:Addr}{m:Str->Option Value}(n:s.heap.Ns L m)(k:Keeps s s'):s'.heap.Ns L m:=by
 obtain⟨h1,t1,rfl,k1⟩:=k
 exact n.keeps k1
theorem sS{env:Env}{m:Str->Option Value}{t:Tok}(G:Gnd P p loose mg mb base s)(hsc:env.scope=lP.sc)(hg:env.globals=mainGlobals)(j:Nat)(hj:j<5)(hn:s.heap.Ns env.locals m)(hm:m (QC "s")=QE (.str (nm j) t)):
  wpAny (model prog w) A (execs lP.body env) (λfl s'=>(∃t',fl= .ret (.str (quo j) t'))/\Keeps s s') E s:=by
 have hk:env.scope.kind= .function:=by rw[hsc];kernel_rfl
 have hs:env.kindOf (QC "s")=QE .local:=by show env.scope.names.lookup _=_;rw[hsc];kernel_rfl
 have hf:env.kindOf (QC "_find_unsafe")=QE .globalImplicit:=by show env.scope.names.lookup _=_;rw[hsc];kernel_rfl
 have nameS:∀{s₁:Shared}{np:Pos}{Q:Value->Shared->Prop},Keeps s s₁->Q (.str (nm j) t) s₁->wpAny (model prog w) A (eval (.Name (QC "s") np) env) Q E s₁:=λk q=>wpAny_Name (wpAny_loadName_local hk hs (yU hn k) hm q) (by kernel_rfl)
 show wpAny (model prog w) A (execs [nth lP.body 0,nth lP.body 1,nth lP.body 2] env) _ E s
 refine QA ?_
 show wpAny (model prog w) A (exec (.If (.UnaryOp .Not (.Name (QC "s") ⟨866,11,866,12⟩) ⟨866,7,866,12⟩) (aT (nth lP.body 0)) [] ⟨866,4,867,19⟩) env) _ E s
 refine wpAny_If (wpAny_isTrue_Not (isTrue_plain (nameS (fK _) ?_)))
 have hnm:=Ji j hj
 refine PySem.P.truthy_str hnm.1 ?_
 rw[hnm.2.1,if_neg (by decide)]
 refine wpAny_execs_nil ?_
 dsimp only
 have k1:=hO s (s.toks+1+1)
 refine QA ?_
 show wpAny (model prog w) A (exec (.If (.Compare (.Call (.Name (QC "_find_unsafe") ⟨868,7,868,19⟩) [.Name (QC "s") ⟨868,20,868,21⟩] [] ⟨868,7,868,22⟩) [.Is] [.Constant .none 0 ⟨868,26,868,30⟩] ⟨868,7,868,30⟩) [.Return (QE (.Name (QC "s") ⟨869,15,869,16⟩)) ⟨869,8,869,16⟩] [] ⟨868,4,869,16⟩) env) _ E _
 refine wpAny_If (wpAny_isTrue_Compare1 (Du (G.next k1) hk hf hg rfl (nameS k1 ⟨rfl,fK _,Qw (CZ (G.next k1) j hj t) (λv s₂ z=>?_) λ_ _ z=>z⟩)))
 obtain⟨z,k2⟩:=z
 refine wpAny_Constant_none (is_none ?_)
 refine wpAny_truthy_bool ?_
 rw[z]
 have k3:=eZ k1 k2
 cases q:(j==0||j==3)with
 |true=>
  rw[if_pos rfl]
  refine QA (wpAny_Return_some (nameS k3 ⟨⟨t,QJ (λx=>Flow.ret (.str x t)) (Iu j hj q)⟩,k3⟩))
 |false=>
  rw[if_neg (by decide)]
  refine wpAny_execs_nil ?_
  dsimp only
  refine QA ?_
  show wpAny (model prog w) A (exec (.Return (QE (.BinOp (.BinOp (.Constant (.str ⟨#[39]⟩) 0 ⟨870,11,870,14⟩) .Add (.Call (.Attribute (.Name (QC "s") ⟨870,17,870,18⟩) (QC "replace") ⟨870,17,870,26⟩) [.Constant (.str ⟨#[39]⟩) 0 ⟨870,27,870,30⟩, .Constant (.str ⟨#[39,34,39,34,39]⟩) 0 ⟨870,32,870,42⟩] [] ⟨870,17,870,43⟩) ⟨870,11,870,43⟩) .Add (.Constant (.str ⟨#[39]⟩) 0 ⟨870,46,870,49⟩) ⟨870,11,870,49⟩)) ⟨870,4,870,49⟩) env) _ E _
  refine wpAny_Return_some (wpAny_BinOp (wpAny_BinOp (wpAny_Constant_str ?_)))
  have k4:=eZ k3 (hO s₂ (s₂.toks+1))
  refine df rfl rfl (by decide) rfl rfl (nameS k4 (PySem.GM.replace ?_))
  refine callWith_of (P:=λ_=>True) rfl (λh _=>⟨.machine, .inr (.inl rfl), .now⟩) ?_
  refine evalArgs_kw2 (kws:=[]) rfl (wpAny_items_cons (wpAny_Constant_str (wpAny_items_cons (wpAny_Constant_str (wpAny_items_nil ?_)) rfl)) rfl) rfl
  refine Qx ⟨QI,?_⟩
  have hr:=FK j hj q
  refine PySem.SC.replaceW (Nat.succ_ne_zero _) (Nat.succ_ne_zero _) (PY (Nat.lt_succ_self _)) (by decide) (PW hnm.2.2 (by decide)) (by decide) λt' k=>?_
  rw[hr.1]
  exact add_str (λt1 k1=>wpAny_Constant_str (add_str (λt2 k2=>⟨⟨t2,QJ (λx=>Flow.ret (.str x t2)) hr.2.1⟩,eZ k4 (hO _ _)⟩) hr.2.2.2)) hr.2.2.1
theorem s7{t:Tok}(G:Gnd P p loose mg mb base s)(j:Nat)(hj:j<5)(hd:A.depth<recursionLimit):
  wpAny (model prog w) A (call (.ref 886) [.str (nm j) t]) (λv s'=>(∃t',v= .str (quo j) t')/\Keeps s s') E s:=by
 have HE:=LB P
 have X:(KS P).In s.heap:=G.kin.keeps G.keep
 obtain⟨name,qual,params,dV,kV,doc,pm,cdv,ct,oc,an,od,osl,hlook,hcode,hbind⟩:=HE.fn
 obtain⟨bv,hbv,hto⟩:=hbind s X [.str (nm j) t] [] rfl rfl
 have hb:bv=[(QC "s", .str (nm j) t)]:=by
  obtain⟨v,r,rfl,hv,rfl⟩:=hbv
  cases hv
  rfl
 subst hb
 refine wpAny_call (codeAny_call_function (fd:=fnOf name qual params lP.body lP.sc dV kV doc pm an cdv ct) (body:=lP.body) hd (X _ _ hlook) rfl HE.co HE.gen rfl (codeRec_of X hcode) (hto _ _ _ _ ?_))
 refine wpAny_newFunctionEnv HE.nocell (λy hy=>?_) (λh₁ hns hsb=>⟨(G.top.nolimit.keeps G.keep).fresh _ hsb,codeAny_func ?_⟩) HE.kind
 .rw[Qc.mp hy];exact HE.loc _ (.head _)
 .have hk₁:∀b o,s.heap.get? b=QE o->h₁.get? b=QE o:=λb o e=>hsb.extBut b o (PY (Qs e)) (Qr _ e)
  have k1:Keeps s { s with heap:=h₁,toks:=s.toks+1 }:=⟨_,_,rfl,hk₁⟩
  refine Qw (sS (E:=NoE) (t:=t) (G.next k1) rfl rfl j hj hns rfl) (λfl s' z=>?_) λ_ _ z=>z.elim
  .obtain⟨⟨t',rfl⟩,k⟩:=z
   exact⟨⟨t',rfl⟩,eZ k1 k⟩
theorem yc{env:Env}{np ap pos:Pos}{x:Str}{m:Str->Option Value}{t:Tok}(G:Gnd P p loose mg mb base s)(hk:env.scope.kind= .function)(hq:env.kindOf (QC "quote")=QE .globalImplicit)(hx:env.kindOf x=QE .local)(hxd:(x==("__debug__":Str))=QG)(hg:env.globals=mainGlobals)
  (j:Nat)(hj:j<5)(hd:A.depth<recursionLimit)(hn:s.heap.Ns env.locals m)(hm:m x=QE (.str (nm j) t)):
  wpAny (model prog w) A (eval (.Call (.Name (QC "quote") np) [.Name x ap] [] pos) env) (λv s'=>(∃t',v= .str (quo j) t')/\Keeps s s') E s:=by
 refine Call_Name1 (Name_function_global hk hq (loadGlobal_global (by rw[hg];exact G.top.g.keeps G.keep) (mg_of G.kin G.top.g (FW P)) ?_)) rfl
 refine callWith_of (P:=(KS P).In) rfl (keeps_K (EK P)) ?_
 refine evalArgs_plain (spliced_cons (wpAny_Name (wpAny_loadName_local hk hx hn hm ?_) hxd))
 exact spliced_nil ⟨G.kin.keeps G.keep,s7 G j hj hd⟩
end
theorem ey{st:Stmt}{S S':St}{fl:XF}(h:ae GKS F (.For (bg st) (bj st) (aT st) [] (lS st)) S S' fl)(e:st= .For (bg st) (bj st) (aT st) [] (lS st)):ae GKS F st S S' fl:=by rw[e];exact h
theorem H6(po fi:Int)(p:Nat->Int)(s:Nat->List Str)(rd:List Str)(hn:∀y∈rd,y∈nms):ae GKS wO (nth hX.body 3) ⟨qX [],bO po fi p s rd++[.wtup rd]⟩ ⟨qX [],bO po fi (rd.foldl k9 p) s rd++[.wtup rd]⟩ .next:=by
 refine ey ?_ (by kernel_rfl)
 refine ae.for_ (it:=20) (a:= .ref 19) (S1:=⟨qX [],bO po fi p s rd++[.wtup rd]⟩) (S2:=oZ po fi s rd [] 0 p) (pk:=PZ 20) (S3:=⟨qX [],bO po fi (rd.foldl k9 p) s rd++[.wtup rd, .any]⟩) (n:=rd.length+1) ?_ ?_ ?_ ?_ ?_ ?_
 .exact bp (k:=20) (n:=nF) (hs:=[]) (orc:=[]) (PZ 20) True (by kernel_rfl) QI
 .exact aI.src (ys:=rd) (T:="tuple_iterator") (so:= .wtup rd) .wtup rfl rfl
 .refine oK (α:=Nat->Int) (it:=20) (l:=19) (T:="tuple_iterator") (so:= .wtup rd) (J:=oZ po fi s rd []) (B:=λi p y=>oZ po fi s rd [(QC "node", .str y)] i p) (E:=λp=>⟨qX [],bO po fi p s rd++[.wtup rd, .any]⟩) (f:=k9) .wtup (λ_ _=>rfl) (λ_ _=>rfl) (λ_ _=>rfl) (λ_ _=>rfl) (λi p y=>zf po fi s rd i p y) (λi y hy=>Eb po fi s rd (i+1) _ (hn _ (P8 hy)))
 .intro env x;rfl
 .intro it v;rfl
 .exact⟨by kernel_rfl,⟨by kernel_rfl,by kernel_rfl⟩,by kernel_rfl⟩
theorem uZ(po fi:Int)(p:Nat->Int)(s:Nat->List Str)(rd:List Str)(hn:∀y∈rd,y∈nms)(h:rd.length<=1000):ab GKS 4 129 (bO po fi p s rd) [.ref 0] (bO (po+rd.length) fi (rd.foldl k9 p) s []++[.wtup rd]) (.ref 19):=by
 have hb:ao rd.length:=PU h
 refine ab.plain (e:=hX) (fl:= .ret (.ref 19)) (b:=[(QC "self", .ref 0)]) (S':=⟨[],bO (po+rd.length) fi (rd.foldl k9 p) s []++[.wtup rd]⟩) (λK⟨P,hP⟩=>hP▸Ml P) (by kernel_rfl) (by kernel_rfl) (by kernel_rfl) ?_ rfl (.inl rfl)
 have:hX.body=hX.body.take 3++(nth hX.body 3::hX.body.drop 4):=by kernel_rfl
 rw[this]
 exact(Fd po fi p s rd hb).append (.cons (H6 po fi p s rd hn) (Fz po fi _ s rd hb))
theorem hM{P:Nat->Str->Prop}{j:Nat}{y:Str}(h:y∈nms.drop (j+1))(h01:P 0 (nm 1))(h02:P 0 (nm 2))(h03:P 0 (nm 3))(h04:P 0 (nm 4))(h12:P 1 (nm 2))(h13:P 1 (nm 3))(h14:P 1 (nm 4))(h23:P 2 (nm 3))(h24:P 2 (nm 4))(h34:P 3 (nm 4)):P j y:=by
 match j,h with
 |0,h=>simp only[nms,List.drop,Qb,Qi,or_false]at h;rcases h with rfl|rfl|rfl|rfl<;>assumption
 |1,h=>simp only[nms,List.drop,Qb,Qi,or_false]at h;rcases h with rfl|rfl|rfl<;>assumption
 |2,h=>simp only[nms,List.drop,Qb,Qi,or_false]at h;rcases h with rfl|rfl<;>assumption
 |3,h=>simp only[nms,List.drop,Qb,Qi,or_false]at h;rcases h with rfl;assumption
 |4,h=>simp[nms]at h
 |j+5,h=>simp[nms]at h
def gX:Fs:=⟨(ku 1).sc,[],4,QD⟩
def fG:List Stmt:=aT (nth (ku 1).body 2)
noncomputable def rh(V:List (Str×SV)):List (Str×SV):=V++[(QC "self", .ref 0),(QC "n2i", .ref 2),(QC "nodes", .ref 19)]
def fx(a:(Nat->Int)×List Str)(y:Str):(Nat->Int)×List Str:=(upd a.1 (bG y) (a.1 (bG y)-1),match a.1 (bG y)-1==0 with|true=>a.2++[y]|false=>a.2)
def d2(po fi:Int)(s:Nat->List Str)(ns:List Str)(i j:Nat)(V:List (Str×SV))(k:Nat)(a:(Nat->Int)×List Str):St:=⟨rh V,bO po fi a.1 s a.2++[.wtup ns,bo "tuple_iterator" 19 i,bo "list_iterator" (3*j+5) k]⟩
theorem OG(po fi:Int)(s:Nat->List Str)(ns:List Str)(i k:Nat)(p:Nat->Int)(rd:List Str){j:Nat}{y:Str}(h:y∈nms.drop (j+1)):ao rd.length->(p (bG y)-1==0)=QF->
  aa GKS gX (aT (nth fG 4)) (d2 po fi s ns i j [(QC "successor", .str y)] k (p,rd)) (d2 po fi s ns i j [] k (upd p (bG y) (p (bG y)-1),rd++[y])) .next:=by
 refine hM (P:=λj y=>ao rd.length->(p (bG y)-1==0)=QF->aa GKS gX (aT (nth fG 4)) (d2 po fi s ns i j [(QC "successor", .str y)] k (p,rd)) (d2 po fi s ns i j [] k (upd p (bG y) (p (bG y)-1),rd++[y])) .next) h ?_ ?_ ?_ ?_ ?_ ?_ ?_ ?_ ?_ ?_<;>intro h1 h2
 all_goals exact aw (k:=20) (n:=nF) (hs:=[(0,QF)]) (orc:=[]) (PZ 22) (ao rd.length/\(_:Prop)/\True) (by kernel_rfl) ⟨h1,h2,QI⟩
theorem Pf(po fi:Int)(s:Nat->List Str)(ns:List Str)(i k:Nat)(p:Nat->Int)(rd:List Str){j:Nat}{y:Str}(h:y∈nms.drop (j+1)):(p (bG y)-1==0)=QG->
  aa GKS gX (aT (nth fG 4)) (d2 po fi s ns i j [(QC "successor", .str y)] k (p,rd)) (d2 po fi s ns i j [] k (upd p (bG y) (p (bG y)-1),rd)) .next:=by
 refine hM (P:=λj y=>(p (bG y)-1==0)=QG->aa GKS gX (aT (nth fG 4)) (d2 po fi s ns i j [(QC "successor", .str y)] k (p,rd)) (d2 po fi s ns i j [] k (upd p (bG y) (p (bG y)-1),rd)) .next) h ?_ ?_ ?_ ?_ ?_ ?_ ?_ ?_ ?_ ?_<;>intro h2
 all_goals exact aw (k:=20) (n:=nF) (hs:=[(0,QG)]) (orc:=[]) (PZ 22) ((_:Prop)/\True) (by kernel_rfl) ⟨h2,QI⟩
theorem L6(po fi:Int)(s:Nat->List Str)(ns:List Str)(i k:Nat)(a:(Nat->Int)×List Str){j:Nat}{y:Str}(h:y∈nms.drop (j+1))(hl:a.2.length<=1000):
  aa GKS gX (aT (nth fG 4)) (d2 po fi s ns i j [(QC "successor", .str y)] k a) (d2 po fi s ns i j [] k (fx a y)) .next:=by
 obtain⟨p,rd⟩:=a
 cases hb:(p (bG y)-1==0)with
 |true=>
  have e:fx (p,rd) y=(upd p (bG y) (p (bG y)-1),rd++[y]):=by unfold fx;dsimp only;rw[hb]
  rw[e];exact OG po fi s ns i k p rd h (PU hl) hb
 |false=>
  have e:fx (p,rd) y=(upd p (bG y) (p (bG y)-1),rd):=by unfold fx;dsimp only;rw[hb]
  rw[e];exact Pf po fi s ns i k p rd h hb
theorem An(po fi:Int)(s:Nat->List Str)(ns:List Str)(i k:Nat)(a:(Nat->Int)×List Str)(y:Str){j:Nat}:aC GKS gX (bg (nth fG 4)) (.str y) (d2 po fi s ns i j [] k a) (d2 po fi s ns i j [(QC "successor", .str y)] k a):=by
 have:bg (nth fG 4)= .Name (QC "successor") (bg (nth fG 4)).pos:=by kernel_rfl
 rw[this]
 exact assign_k (by kernel_rfl)
theorem qP(l:List Str):∀a:(Nat->Int)×List Str,(l.foldl fx a).2.length<=a.2.length+l.length:=by
 induction l with
 |nil=>intro a;exact PX _
 |cons y r ih=>
  intro a
  have h1:=ih (fx a y)
  have h2:(fx a y).2.length<=a.2.length+1:=by
   unfold fx
   dsimp only
   split<;>simp
  simp only[List.foldl_cons,Qg];lia
theorem cg{P:Nat->Prop}{j:Nat}(h:j<5)(h0:P 0)(h1:P 1)(h2:P 2)(h3:P 3)(h4:P 4):P j:=by
 match j,h with
 |0,_=>exact h0
 |1,_=>exact h1
 |2,_=>exact h2
 |3,_=>exact h3
 |4,_=>exact h4
def eU(po fi:Int)(s:Nat->List Str)(ns:List Str)(V:List (Str×SV))(i:Nat)(a:(Nat->Int)×List Str):St:=⟨rh V,bO po fi a.1 s a.2++[.wtup ns,bo "tuple_iterator" 19 i]⟩
theorem Hi(po fi:Int)(s:Nat->List Str)(ns:List Str)(i:Nat)(a:(Nat->Int)×List Str){j:Nat}(hj:j<5)(hs:∀y∈s j,y∈nms.drop (j+1))(hl:a.2.length+(s j).length<=1000):
  ae GKS gX (nth fG 4) (eU po fi s ns [(QC "nodeinfo", .ref (3*j+4))] i a) (eU po fi s ns [] i ((s j).foldl fx a)) .next:=by
 refine ey ?_ (by kernel_rfl)
 have key:∀j,j<5->ah GKS gX (bj (nth fG 4)) (eU po fi s ns [(QC "nodeinfo", .ref (3*j+4))] i a) (eU po fi s ns [] i a) (.ref (3*j+5))/\
   (eU po fi s ns [] i a).led[3*j+5]?=QE (.words (s j))/\(∀k a,(d2 po fi s ns i j [] k a).led[3*j+5]?=QE (.words (s j))):=λj hj=>by
  refine cg (P:=λj=>ah GKS gX (bj (nth fG 4)) (eU po fi s ns [(QC "nodeinfo", .ref (3*j+4))] i a) (eU po fi s ns [] i a) (.ref (3*j+5))/\
   (eU po fi s ns [] i a).led[3*j+5]?=QE (.words (s j))/\(∀k a,(d2 po fi s ns i j [] k a).led[3*j+5]?=QE (.words (s j)))) hj ?_ ?_ ?_ ?_ ?_
  all_goals exact⟨bp (k:=20) (n:=nF) (hs:=[]) (orc:=[]) (PZ 21) True (by kernel_rfl) QI,rfl,λ_ _=>rfl⟩
 obtain⟨k1,k2,k3⟩:=key j hj
 refine ae.for_ (it:=21) (a:= .ref (3*j+5)) (S1:=eU po fi s ns [] i a) (S2:=d2 po fi s ns i j [] 0 a) (pk:=PZ 21) (S3:=⟨rh [],bO po fi ((s j).foldl fx a).1 s ((s j).foldl fx a).2++[.wtup ns,bo "tuple_iterator" 19 i, .any]⟩) (n:=(s j).length+1) k1 ?_ ?_ ?_ ?_ ?_
 .exact aI.src (ys:=s j) (T:="list_iterator") (so:= .words (s j)) .words k2 rfl
 .refine oK (α:=(Nat->Int)×List Str) (it:=21) (l:=3*j+5) (T:="list_iterator") (so:= .words (s j)) (J:=d2 po fi s ns i j []) (B:=λk a y=>d2 po fi s ns i j [(QC "successor", .str y)] k a) (E:=λa=>⟨rh [],bO po fi a.1 s a.2++[.wtup ns,bo "tuple_iterator" 19 i, .any]⟩) (f:=fx) .words k3 (λ_ _=>rfl) (λ_ _=>rfl) (λ_ _=>rfl) (λk a y=>An po fi s ns i k a y) (λk y hy=>?_)
  have hlt:=(P7.mp hy).1
  have h1:=qP ((s j).take k) a
  have h2:=List.length_take_le k (s j)
  exact L6 po fi s ns i (k+1) _ (hs _ (P8 hy)) (by lia)
 .intro env x;rfl
 .intro it v;rfl
 .exact⟨by kernel_rfl,⟨by kernel_rfl,by kernel_rfl⟩,by kernel_rfl⟩
theorem C4(po fi:Int)(s:Nat->List Str)(ns:List Str)(i:Nat)(p:Nat->Int)(rd:List Str){j:Nat}(hj:j<5):(!p j==-1)=QG->aa GKS gX (fG.take 4) (eU po fi s ns [(QC "node", .str (nm j))] i (p,rd)) (eU po fi s ns [(QC "nodeinfo", .ref (3*j+4))] i (upd p j (-2),rd)) .next:=by
 refine cg (P:=λj=>(!p j==-1)=QG->aa GKS gX (fG.take 4) (eU po fi s ns [(QC "node", .str (nm j))] i (p,rd)) (eU po fi s ns [(QC "nodeinfo", .ref (3*j+4))] i (upd p j (-2),rd)) .next) hj ?_ ?_ ?_ ?_ ?_<;>intro h
 all_goals exact aw (k:=20) (n:=nF) (hs:=[(1,QG)]) (orc:=[]) (PZ 21) ((_:Prop)/\True) (by kernel_rfl) ⟨h,QI⟩
theorem DT(po fi:Int)(s:Nat->List Str)(ns:List Str)(i:Nat)(a:(Nat->Int)×List Str):aa GKS gX (fG.drop 5) (eU po fi s ns [] i a) (eU po (fi+1) s ns [] i a) .next:=
 aw (k:=20) (n:=nF) (hs:=[]) (orc:=[]) (PZ 21) True (by kernel_rfl) QI
theorem j3{y:Str}(h:y∈nms):∃j,j<5/\y=nm j/\bG y=j:=
 ng (P:=λy=>∃j,j<5/\y=nm j/\bG y=j) h ⟨0,by decide,rfl,by kernel_rfl⟩ ⟨1,by decide,rfl,by kernel_rfl⟩ ⟨2,by decide,rfl,by kernel_rfl⟩ ⟨3,by decide,rfl,by kernel_rfl⟩ ⟨4,by decide,rfl,by kernel_rfl⟩
def bX(s:Nat->List Str)(a:Int×(Nat->Int)×List Str)(y:Str):Int×(Nat->Int)×List Str:=(a.1+1,(s (bG y)).foldl fx (upd a.2.1 (bG y) (-2),a.2.2))
theorem Dw(po:Int)(s:Nat->List Str)(ns:List Str)(i:Nat)(a:Int×(Nat->Int)×List Str){y:Str}(hy:y∈nms)(hs:∀y∈s (bG y),y∈nms.drop (bG y+1))(hs':∀j,∀y∈s j,y∈nms.drop (j+1))(hl:a.2.2.length+(s (bG y)).length<=1000)(ho:a.2.1 (bG y)=-1):
  aa GKS gX fG (eU po a.1 s ns [(QC "node", .str y)] i a.2) (eU po (bX s a y).1 s ns [] i (bX s a y).2) .next:=by
 obtain⟨j,hj,e1,e2⟩:=j3 hy
 obtain⟨fi,p,rd⟩:=a
 have:fG=fG.take 4++(nth fG 4::fG.drop 5):=by kernel_rfl
 rw[this]
 unfold bX
 rw[e2]at hl ho ⊢
 rw[e1]
 exact(C4 po fi s ns i p rd hj (by rw[show p j=-1 from ho];rfl)).append (.cons (Hi po fi s ns i _ hj (hs' j) hl) (DT po fi s ns i _))
theorem vU(s:Nat->List Str)(hs:∀j,(s j).length<=5)(l:List Str):∀a:Int×(Nat->Int)×List Str,(l.foldl (bX s) a).2.2.length<=a.2.2.length+5*l.length:=by
 induction l with
 |nil=>intro a;exact PX _
 |cons y r ih=>
  intro a
  have h1:=ih (bX s a y)
  have h2:=qP (s (bG y)) (upd a.2.1 (bG y) (-2),a.2.2)
  have h3:=hs (bG y)
  have h4:(bX s a y).2.2.length<=a.2.2.length+5:=by unfold bX;dsimp only at h2 ⊢;lia
  simp only[List.foldl_cons,Qg];lia
theorem xw(po:Int)(s:Nat->List Str)(ns:List Str)(i:Nat)(a:Int×(Nat->Int)×List Str)(y:Str):aC GKS gX (bg (nth (ku 1).body 2)) (.str y) (eU po a.1 s ns [] i a.2) (eU po a.1 s ns [(QC "node", .str y)] i a.2):=by
 have:bg (nth (ku 1).body 2)= .Name (QC "node") (bg (nth (ku 1).body 2)).pos:=by kernel_rfl
 rw[this]
 exact assign_k (by kernel_rfl)
theorem Hu(po:Int)(s:Nat->List Str)(ns:List Str)(a:Int×(Nat->Int)×List Str)(hn:∀y∈ns,y∈nms)(hs:∀j,∀y∈s j,y∈nms.drop (j+1))(hs5:∀j,(s j).length<=5)(hl:a.2.2.length+5*ns.length<=1000)
  (ho:∀i y,ns[i]?=QE y->((ns.take i).foldl (bX s) a).2.1 (bG y)=-1):aa GKS gX (ku 1).body ⟨[(QC "nodes", .ref 19),(QC "self", .ref 0)],bO po a.1 a.2.1 s a.2.2++[.wtup ns]⟩ ⟨[],bO po (ns.foldl (bX s) a).1 (ns.foldl (bX s) a).2.1 s (ns.foldl (bX s) a).2.2++[.wtup ns]⟩ .next:=by
 have hb:(ku 1).body=(ku 1).body.take 2++[nth (ku 1).body 2]:=by kernel_rfl
 rw[hb]
 refine aa.append (S1:=⟨rh [],bO po a.1 a.2.1 s a.2.2++[.wtup ns]⟩) (aw (k:=20) (n:=nF) (hs:=[]) (orc:=[]) (PZ 20) True (by kernel_rfl) QI) (.cons ?_ .nil)
 refine ey ?_ (by kernel_rfl)
 refine ae.for_ (it:=20) (a:= .ref 19) (S1:=⟨rh [],bO po a.1 a.2.1 s a.2.2++[.wtup ns]⟩) (S2:=eU po a.1 s ns [] 0 a.2) (pk:=PZ 20) (S3:=⟨rh [],bO po (ns.foldl (bX s) a).1 (ns.foldl (bX s) a).2.1 s (ns.foldl (bX s) a).2.2++[.wtup ns, .any]⟩) (n:=ns.length+1) ?_ ?_ ?_ ?_ ?_ ?_
 .exact bp (k:=20) (n:=nF) (hs:=[]) (orc:=[]) (PZ 20) True (by kernel_rfl) QI
 .exact aI.src (ys:=ns) (T:="tuple_iterator") (so:= .wtup ns) .wtup rfl rfl
 .refine oK (α:=Int×(Nat->Int)×List Str) (it:=20) (l:=19) (T:="tuple_iterator") (so:= .wtup ns) (J:=λi a=>eU po a.1 s ns [] i a.2) (B:=λi a y=>eU po a.1 s ns [(QC "node", .str y)] i a.2) (E:=λa=>⟨rh [],bO po a.1 a.2.1 s a.2.2++[.wtup ns, .any]⟩) (f:=bX s) .wtup (λ_ _=>rfl) (λ_ _=>rfl) (λ_ _=>rfl) (λ_ _=>rfl) (λi a y=>xw po s ns i a y) (λi y hy=>?_)
  have hlt:=(P7.mp hy).1
  have h1:=vU s hs5 (ns.take i) a
  have h2:(ns.take i).length=i:=by rw[List.length_take];lia
  have h3:=hs5 (bG y)
  exact Dw po s ns (i+1) _ (hn _ (P8 hy)) (λz hz=>hs _ _ hz) hs (by rw[h2]at h1;lia) (ho i y hy)
 .intro env x;rfl
 .intro it v;rfl
 .exact⟨by kernel_rfl,⟨by kernel_rfl,by kernel_rfl⟩,by kernel_rfl⟩
theorem ES(po:Int)(s:Nat->List Str)(ns:List Str)(a:Int×(Nat->Int)×List Str)(hn5:ns.length<=5)(hn:∀y∈ns,y∈nms)(hs:∀j,∀y∈s j,y∈nms.drop (j+1))(hs5:∀j,(s j).length<=5)(hl:a.2.2.length+5*ns.length<=1000)
  (ho:∀i y,ns[i]?=QE y->((ns.take i).foldl (bX s) a).2.1 (bG y)=-1):ab GKS 4 150 (bO po a.1 a.2.1 s a.2.2) (.ref 0::ns.map SV.str) (bO po (ns.foldl (bX s) a).1 (ns.foldl (bX s) a).2.1 s (ns.foldl (bX s) a).2.2++[.wtup ns]) .none:=by
 have main:=Hu po s ns a hn hs hs5 hl ho
 have w:br (bO po a.1 a.2.1 s a.2.2++[SO.tup (List.drop 1 (SV.ref 0::List.map SV.str ns))]) (bO po a.1 a.2.1 s a.2.2++[.wtup ns]):=(br.refl _).append (.cons (vD ns) .nil)
 refine ab.star (e:=ku (ns.length+1)) (fl:= .next) (b:=[(QC "self", .ref 0)]) (S':=⟨[],bO po (ns.foldl (bX s) a).1 (ns.foldl (bX s) a).2.1 s (ns.foldl (bX s) a).2.2++[SO.wtup ns]⟩) (λK⟨P,hP⟩=>hP▸Kj P ns.length (Nat.lt_succ_of_le hn5)) (QJ (·+1) (Qh ..)) rfl (aa.weak (F:=gX) (S1:=⟨[(QC "nodes", .ref 19),(QC "self", .ref 0)],bO po a.1 a.2.1 s a.2.2++[SO.wtup ns]⟩) ?_ main) rfl (.inr ⟨rfl,rfl⟩)
 exact⟨rfl,w⟩
theorem Pre.tabbed{s s':Shared}(p:Pre c F O S s m news){k:Nat}{A:Addr}(hk:S.led[k]?=QE (.tab A k))(hkeep:∀b o,b≠A->s.heap.get? b=QE o->s'.heap.get? b=QE o)
  {ps:Array Value}(hA:s'.heap.get? A=QE { cls:= .none,data:= .fields ps })(ht:TriplesOk ps.toList)(hs:E2 c s'):∃news',Pre c F O S s' m news':=by
 obtain⟨a,o,g1,g2,g3,g4,ps0,g5,g6⟩:=p.rep.get hk
 rw[g2]at g4
 obtain rfl:a=A:=QH g4
 have mem:=p.rep.mem g1
 obtain⟨n1,n2,n3⟩:=p.rep.nw _ mem
 have keepg:∀b o,m.g.get? b=QE o->s'.heap.get? b=QE o:=λb o e=>hkeep b o (λz=>by rw[z,n3]at e;cases e) (p.rep.fr.keep b o e)
 have nd:∀q,q∈news.set k (a,({ cls:= .none,data:= .fields ps }:Obj))->q=(a,({ cls:= .none,data:= .fields ps }:Obj))\/(q∈news/\q.1≠a):=λq hq=>by
  obtain⟨i,hi⟩:=List.mem_iff_getElem?.mp hq
  rw[List.getElem?_set]at hi
  by_cases z:k=i
  .subst z
   rw[if_pos rfl]at hi
   split at hi
   .exact .inl (QH hi).symm
   .cases hi
  .rw[if_neg z]at hi
   refine .inr ⟨P8 hi,λe=>?_⟩
   have e1:O[i]?=QE q.1:=by rw[<-p.rep.at_,List.getElem?_map,hi];rfl
   have:i=k:=(List.getElem?_inj (P7.mp e1).1 p.rep.nd).mp (e1.trans ((QJ QE e).trans g2.symm))
   exact z this.symm
 have R:=p.rep.upd (o':=({ cls:= .none,data:= .fields ps }:Obj)) (y:= .tab a k) (h':=s'.heap) g1
  ⟨let⟨oL,es,ep,h1,h2⟩:=p.rep.fr.ns;⟨oL,es,ep,hkeep _ _ (λe=>n2 e.symm) h1,h2⟩,keepg,p.rep.fr.above⟩
  (λq hq=>by
   rcases nd q hq with rfl|⟨h1,h2⟩
   .exact⟨hA,n2,n3⟩
   .exact⟨hkeep _ _ h2 (p.rep.nw q h1).1,(p.rep.nw q h1).2⟩)
  (⟨g2,ps,rfl,ht⟩:aP c.P O (.tab a k) _)
 have e:({ S with led:=S.led.set k (.tab a k) }:St)=S:=by rw[qD hk]
 rw[e]at R
 exact⟨_,R,p.below,p.turn,p.cell,p.vars,hs⟩
def BS:Fs:=⟨Bw.sc,[],4,QD⟩
def jD(y:Str):Str:=quo (bG y)
def cu(ns:List Str):Str:=Txt.join ⟨#[32]⟩ (ns.map jD)
noncomputable def LS:Expr:= .Call (.Name (QC "quote") ⟨862,21,862,26⟩) [.Name (QC "arg") ⟨862,27,862,30⟩] [] ⟨862,21,862,31⟩
noncomputable def gSc:Scope:=⟨.function,[(QC ".0", .local),(QC "arg", .local),(QC "quote", .globalImplicit)],QF,QG,[]⟩
def Df:Expr:= .GeneratorExp LS [⟨.Name (QC "arg") ⟨862,36,862,39⟩, .Name (QC "split_command") ⟨862,43,862,56⟩,[],0⟩] gSc ⟨862,20,862,57⟩
theorem Fb:Bw.body=[.Return (QE (.Call (.Attribute (.Constant (.str ⟨#[32]⟩) 0 ⟨862,11,862,14⟩) (QC "join") ⟨862,11,862,19⟩) [Df] [] ⟨862,11,862,58⟩)) ⟨862,4,862,58⟩]:=by kernel_rfl
def Bp(ns:List Str)(j:Nat)(y:Value):Prop:=∃t,y= .str (jD (ns.getD j ⟨#[]⟩)) t
structure LD (c:Cx) (ns:List Str) (s:Shared) (v:Value) (s5:Shared):Prop where
 gen:∃a fp wr g n Pi St,v= .ref a/\n=ns.length/\(∀j v,Pi j v->Bp ns j v)/\WalksS c.pr c.w c.A.in4 a fp wr (GenOnlyQ g) n Pi St/\St 0 s5/\(∀i s',St i s'->s'.TypeIs (.ref a) "generator")/\a∈fp/\(∀b∈fp,b<s5.heap.objs.size)/\∀b∈wr,s.heap.objs.size<=b
 keep:∀b o,b≠873->s.heap.get? b=QE o->s5.heap.get? b=QE o
 tab:∃ps:Array Value,s5.heap.get? 873=QE { cls:= .none,data:= .fields ps }/\TriplesOk ps.toList
 gens:AllBare s5.gens
 os:s5.os=s.os
 tk:1<=s5.toks
theorem jI(n:Nat):passing (λ_=>QF) n 0=PZ n:=by
 unfold passing;simp
theorem DY(P:Params):(KS P).lookup 873=QD:=by kernel_rfl
section
variable{E:Value->Shared->Prop}
theorem za{ns:List Str}{V:List (Str×SV)}(hK:GKS c.K)(H:aD c BS)(hcd:c.cd= .ref 877)(hns:∀y∈ns,y∈nms)(p:Pre c BS O ⟨(QC "split_command", .ref 0)::V,[.words ns, .tab 873 1]⟩ s m news):wpAny c.M c.A (eval Df c.env) (LD c ns s) E s:=by
 obtain⟨P,hP⟩:=hK
 have hcp:c.cp=QD:=H.cpn rfl
 have henv:c.env=c.fenv:=by unfold Cx.env;rw[hcp]
 have hloc:c.env.locals=c.L:=by rw[henv]
 have hglob:c.env.globals=mainGlobals:=c.globals
 have hcode:c.env.code= .ref 877:=by rw[henv];exact hcd
 have hkin:=p.kin H.toCxW
 have htop:=p.top H.toCxW
 have G:Gnd P c.p c.loose c.mg c.mb m.g s:=⟨hP▸hkin,htop,p.rep.fr.keep⟩
 obtain⟨l,ol,e1,e2,e3,vs,nn,rfl,hvs⟩:=p.rep.get (k:=0) rfl
 obtain⟨ta,ot,t1,t2,t3,t4,ps,rfl,htr⟩:=p.rep.get (k:=1) rfl
 rw[t2]at t4
 obtain rfl:ta=873:=QH t4
 obtain⟨_,n2,n3⟩:=p.rep.nw _ (p.rep.mem t1)
 obtain⟨u,hu,hul,hua,rfl⟩:∃u,m.m (QC "split_command")=QE u/\∃a,O[0]?=QE a/\u= .ref a:=by
  have:=p.rep.lc (QC "split_command")
  exact this
 rw[e2]at hua;cases hua
 have hl:s.heap.IsList l vs.toArray:=aW e3
 have hkind:c.env.kindOf (QC "split_command")=QE .local:=by show c.env.scope.names.lookup _=_;rw[H.sc];kernel_rfl
 have hcodeAt:∀{h:Heap},(∀b o,b≠873->s.heap.get? b=QE o->h.get? b=QE o)->∀{ps:Array Value},h.get? 873=QE { cls:= .none,data:= .fields ps }->TriplesOk ps.toList->h.IsCode 877 873 ps/\h.TableAt 877 873 ps:=λ{h}hk{ps}h1 h2=>by
  have ho:h.get? 877=QE (o877 P):=hk _ _ (by decide) (G.keep _ _ (G.kin 877 _ (by kernel_rfl)))
  exact⟨⟨o877 P,_,_,_,_,_,_,_,_,_,ho,rfl,rfl,rfl,rfl,rfl,rfl,h1,rfl,h2,by decide⟩,⟨o877 P,_,ho,rfl,rfl,rfl⟩,h1⟩
 have sz:∀b o,m.g.get? b=QE o->b<s.heap.objs.size:=λb o e=>Qs (p.rep.fr.keep _ _ e)
 unfold Df
 refine wpAny_with_toks (n:=s.toks) (PX _) (wpAny_GeneratorExp_walksQD (cl:=[]) H.handled rfl rfl (by intro y hy;simp[gSc]at hy;rcases hy with rfl|rfl|rfl<;>simp) (by kernel_rfl) (by kernel_rfl) rfl (by have:c.A.depth+4<recursionLimit:=H.depth;lia) ?_ (λ_=>rfl))
 refine wpAny_Name (wpAny_loadName_local H.fn hkind (hloc▸p.rep.fr.ns) hu ?_) (by kernel_rfl)
 have I:=s.heap.objs.size
 have hk2:∀b o,s.heap.get? b=QE o->(s.heap.push ({ cls:= .type "list_iterator",data:= .fields #[.ref l, .int 0 0] }:Obj)).get? b=QE o:=λb o e=>Qr _ e
 refine wpAny_pyIter_list hl ⟨((htop.nolimit.keeps p.rep.fr.keep).push _),?_⟩
 have build:∀(code:Value)(s₃:Shared)(ps':Array Value),s₃.os=s.os->s₃.gens=s.gens->1<=s₃.toks->(∀b o,b≠873->(s.heap.push ({ cls:= .type "list_iterator",data:= .fields #[.ref l, .int 0 0] }:Obj)).get? b=QE o->s₃.heap.get? b=QE o)->s.heap.objs.size+1<=s₃.heap.objs.size->
   s₃.heap.get? 873=QE { cls:= .none,data:= .fields ps' }->TriplesOk ps'.toList->wpAny c.M c.A (builtinsFor c.env.globals c.env.builtins) (λbi s₄=>
    ∃I fp wr n₀ P St₀ pz F,Value.ref s.heap.objs.size= .ref I/\(∀A':Around,A'.handled=QD->Walks c.pr c.w A' I fp wr n₀ P St₀)/\St₀ 0 s₄.heap/\(∀b∈fp,b<s₄.heap.objs.size)/\s₄.heap.NoLimit/\cStatics∉wr/\
     (∀href:Heap,(∀b o,s₄.heap.get? b=QE o->href.get? b=QE o)->
      QuietGenD c.pr c.w (genEnv gSc [] s₄.heap.objs.size code bi c.env) (QC "arg") [] LS (PZ s₄.heap.objs.size) wr P pz F href (c.A.depth+1) (c.A.units+8))/\
     (∀a h₅ tk gs,gs.bare=QF->s₄.heap.objs.size<a->h₅.objs.size=a+1->(∀b o,s₄.heap.get? b=QE o->h₅.get? b=QE o)->
      WalksS c.pr c.w c.A.in4 a (a::s₄.heap.objs.size::PZ s₄.heap.objs.size) (s₄.heap.objs.size::wr) (GenOnlyQ s₄.gens.size) (passing pz n₀ 0).length
       (λj y=>∃i,(passing pz n₀ 0)[j]?=QE i/\F i y) (GenAt c.pr c.w c.A.in4 a s₄.gens.size s₄.heap.objs.size (PZ s₄.heap.objs.size) wr pz n₀ F)->
      GenAt c.pr c.w c.A.in4 a s₄.gens.size s₄.heap.objs.size (PZ s₄.heap.objs.size) wr pz n₀ F 0 { s₄ with gens:=s₄.gens.push gs,toks:=tk,heap:=h₅ }->
      s.toks<=tk->LD c ns s (.ref a) { s₄ with gens:=s₄.gens.push gs,toks:=tk,heap:=h₅ })) (λe s'=>s.toks<=s'.toks->E e s') s₃:=λcode s₃ ps' hos hg htk hk hsz hps htr'=>by
  have hk':∀b o,b≠873->s.heap.get? b=QE o->s₃.heap.get? b=QE o:=λb o hb e=>hk b o hb (hk2 b o e)
  have keepg:∀b o,m.g.get? b=QE o->s₃.heap.get? b=QE o:=λb o e=>hk' b o (λz=>by rw[z,n3]at e;cases e) (p.rep.fr.keep b o e)
  have hg3:=htop.g.keeps keepg
  refine wpAny_builtinsFor (bm:=4) (o:=o4 P) (m:=c.mg) (by rw[hglob];exact hg3) (by exact mg_of G.kin htop.g (by kernel_rfl)) (by decide) (keepg _ _ (G.kin 4 _ (by kernel_rfl))) rfl rfl rfl ?_
  have hIne:s.heap.objs.size≠873:=Nat.ne_of_gt (Qs t3)
  have hlI:l≠s.heap.objs.size:=PY (Qs e3)
  have hl873:l≠873:=λz=>by rw[z,t3]at e3;cases e3
  have hIt:s₃.heap.IsListIter s.heap.objs.size l 0:=⟨_,hk _ _ hIne (Qu _ rfl),rfl,rfl⟩
  have hL3:s₃.heap.IsList l vs.toArray:=let⟨o,a1,a2⟩:=hl;⟨o,hk' _ _ hl873 a1,a2⟩
  have hLlt:∀b o,m.g.get? b=QE o->b≠s.heap.objs.size:=λb o e=>PY (sz b o e)
  have hcs:cStatics<s.heap.objs.size:=let⟨_,h1,_⟩:=htop.nolimit;by
   obtain⟨o,es,ep,h1,_⟩:=h1
   exact sz _ _ h1
  refine⟨s.heap.objs.size,[s.heap.objs.size,l],[s.heap.objs.size],vs.toArray.size,(λi v=>vs.toArray[i]?=QE v),(λi h=>h.IsListIter s.heap.objs.size l i/\h.IsList l vs.toArray),(λ_=>QF),Bp ns,rfl,λA' hA=>Walks.list hA _ _ hlI _,⟨hIt,hL3⟩,?_,htop.nolimit.keeps keepg,?_,?_,?_⟩
  .intro b hb
   simp only[Qb,Qi,or_false]at hb
   rcases hb with rfl|rfl
   .exact hsz
   .exact Nat.lt_of_lt_of_le (Qs e3) (Nat.le_of_succ_le hsz)
  .simp only[Qb,Qi,or_false]
   exact PY hcs
  .intro href hhref
   refine⟨λA' E' i v s₂ m₂ h1 h2 h3 h4 h5 h6 h7=>wpAny_tests_nil ⟨rfl,fK _⟩,λA' E' i v s₂ m₂ h1 h2 h3 h4 h5 h6 h7 h8=>?_⟩
   have hv:vs[i]?=QE v:=by simpa using h4
   have hi:i<vs.length:=(P7.mp hv).1
   have hin:i<ns.length:=by rw[<-az hvs];exact hi
   obtain⟨t,ht⟩:=gv hvs hin
   rw[hv]at ht
   obtain rfl:=QH ht
   have hy:ns.getD i ⟨#[]⟩∈nms:=hns _ (by rw[List.getD_eq_getElem?_getD,P9 hin];exact List.getElem_mem hin)
   obtain⟨j,hj,hj1,hj2⟩:=j3 hy
   rw[hj1]at h7
   have G₂:Gnd P c.p c.loose c.mg c.mb m.g s₂:=⟨hP▸hkin,htop,λb o e=>h8 b (List.mem_range.mpr (Nat.lt_of_lt_of_le (sz b o e) (Nat.le_of_succ_le hsz))) (by simpa using hLlt b o e) o (hhref b o (keepg b o e))⟩
   refine Qw (yc (A:=A') (env:=genEnv gSc [] s₃.heap.objs.size code builtinsNs c.env) (x:=QC "arg") G₂ rfl (by show gSc.names.lookup (QC "quote")=_;kernel_rfl) (by show gSc.names.lookup (QC "arg")=_;kernel_rfl) (by kernel_rfl) hglob j hj (by have:c.A.depth+4<recursionLimit:=H.depth;lia) h6 h7) (λy s' z=>?_) λ_ _ z=>z
   obtain⟨⟨t',rfl⟩,k⟩:=z
   exact⟨⟨t',by rw[jD,hj2]⟩,k⟩
  .intro a h₅ tk gs hgb hlt hsz5 hk5 W hat htk5
   have hlen:(passing (λ_=>QF) vs.toArray.size 0).length=ns.length:=by rw[jI];simp[az hvs]
   have hlt':s.heap.objs.size<a:=Nat.lt_of_le_of_lt (Nat.le_of_succ_le hsz) hlt
   refine⟨⟨a,_,_,_,_,_,_,rfl,hlen,λj v hv=>?_,W,hat,(λi s' st=>st.1.typeIs),Qj,λb hb=>?_,λb hb=>?_⟩,λb o hb e=>hk5 b o (hk' b o hb e),⟨ps',hk5 _ _ hps,htr'⟩,?_,hos,?_⟩
   .obtain⟨i,hi,hq⟩:=hv
    rw[jI]at hi
    have:i=j:=by
     have:=(P7.mp hi)
     obtain⟨_,e⟩:=this
     simpa using e.symm
    subst this;exact hq
   .show b<h₅.objs.size
    rw[hsz5]
    rcases Qb.mp hb with rfl|hb
    .exact Nat.lt_succ_self _
    .rcases Qb.mp hb with rfl|hb
     .exact Nat.lt_succ_of_lt hlt
     .exact Nat.lt_succ_of_lt (Nat.lt_trans (List.mem_range.mp hb) hlt)
   .rcases Qb.mp hb with rfl|hb
    .exact Nat.le_of_succ_le hsz
    .rw[Qc.mp hb];exact PX _
   .show AllBare (s₃.gens.push gs)
    rw[hg];exact p.side.gens.push hgb
   .exact PW p.side.tk htk5
 cases hc:codeAmong ⟨862,20,862,57⟩ ps.toList with
 |some c'=>
  obtain⟨k1,k2⟩:=hcodeAt (h:=s.heap.push ({ cls:= .type "list_iterator",data:= .fields #[.ref l, .int 0 0] }:Obj)) (λb o _ e=>hk2 b o e) (hk2 _ _ t3) htr
  exact wpAny_genexprCode_hit hcode k1 hc (build c' _ ps rfl rfl p.side.tk (λb o _ e=>e) (by rw[Heap.size_push];exact PX _) (hk2 _ _ t3) htr)
 |none=>
  obtain⟨k1,k2⟩:=hcodeAt (h:=s.heap.push ({ cls:= .type "list_iterator",data:= .fields #[.ref l, .int 0 0] }:Obj)) (λb o _ e=>hk2 b o e) (hk2 _ _ t3) htr
  refine wpAny_with_toks (n:=s.toks) (PX _) (wpAny_genexprCodeX hcode k1 k2 hc λc' h' tk hx h1 h2 h3 h4 h5 h6 htk=>?_)
  obtain⟨_,_,_,_,_,_,_,_,_,op,_,_,_,_,_,_,_,hop,hpd,htr',_⟩:=h3
  exact build (.ref c') { s with heap:=h',toks:=tk } _ rfl rfl (PW p.side.tk htk) (λb o hb e=>hx b o hb e) (by
   have:(s.heap.push ({ cls:= .type "list_iterator",data:= .fields #[.ref l, .int 0 0] }:Obj)).objs.size<=c':=h1
   rw[Heap.size_push]at this
   exact PW this (Nat.le_of_lt h2)) h5.2 htr'
end
theorem xx{ns:List Str}{lt:List (Str×Tok)}{P:Nat->Value->Prop}(hP:∀j v,P j v->Bp ns j v)(h:ItemsOf P (strValues lt).toArray ns.length):lt.map (·.1)=ns.map jD:=by
 apply List.ext_getElem?
 intro j
 have hsz:lt.length=ns.length:=by simpa[strValues]using h.1
 by_cases hj:j<ns.length
 .have hj':j<lt.length:=hsz▸hj
  obtain⟨u,hv⟩:=hP j _ (h.2 j (.str lt[j].1 lt[j].2) (by simp[strValues,P9 hj']))
  injection hv with h1 _
  simp[P9 hj',hj,h1]
 .rw[List.getElem?_eq_none (by simpa[hsz]using Nat.le_of_not_lt hj),List.getElem?_eq_none (by simpa using Nat.le_of_not_lt hj)]
theorem xv{ns:List Str}{V:List (Str×SV)}(hK:GKS c.K)(H:aD c BS)(hcd:c.cd= .ref 877)(hns:∀y∈ns,y∈nms)(hok:JoinOk ⟨#[32]⟩ (ns.map jD)=QF)(hlen:ns.length<=100)(p:Pre c BS O ⟨(QC "split_command", .ref 0)::V,[.words ns, .tab 873 1]⟩ s m news):
  wpAny c.M c.A (execs Bw.body c.env) (aG c BS O ⟨[],[.words ns, .tab 873 1]⟩ (rF (.ret (.str (cu ns))))) NoE s:=by
 rw[Fb]
 refine QA (wpAny_Return_some ?_)
 have p1:=p.toks (s.toks+1)
 refine df (o:= .Constant (.str ⟨#[32]⟩) 0 ⟨862,11,862,14⟩) (n:=QC "join") (apos:=⟨862,11,862,19⟩) (pos:=⟨862,11,862,58⟩) (args:=[Df]) (kws:=[]) rfl rfl (by decide) rfl rfl (wpAny_Constant_str (PySem.GM.join ?_))
 refine callWith_of (P:=λ_=>True) rfl (λh _=>⟨.machine, .inr (.inl rfl), .now⟩) ?_
 refine evalArgs_kw2 (kws:=[]) rfl (wpAny_items_cons (Qw (za hK H hcd hns p1) (λv s5 z=>wpAny_items_nil ?_) λ_ _ z=>z) rfl) rfl
 refine Qx ⟨QI,?_⟩
 obtain⟨⟨a,fp,wr,g,n,Pi,St,rfl,hn,hPi,W,hst,hT,ha,hfp,hwr⟩,hkeep,⟨ps,htab,htr⟩,hgens,hos,htk⟩:=z
 subst hn
 refine wpAny_with_toks (n:=1) htk (SC.joinGen W.in4_2 hT hst hfp ha (λj v hv=>let⟨u,e⟩:=hPi j v hv;⟨_,u,e⟩) (λs' lt hm hacc=>?_) (PW hlen (by decide)))
 rw[xx hPi hacc]
 refine⟨hok,λt' k hk=>?_⟩
 obtain⟨news',q⟩:=p1.tabbed (k:=1) (A:=873) (s':={ s' with toks:=k }) (ps:=ps) rfl (λb o hb e=>hm.heap b o (λhin=>Nat.lt_irrefl _ (Nat.lt_of_lt_of_le (Qs e) (hwr b hin))) (hkeep b o hb e))
  (hm.heap _ _ (λhin=>by
   obtain⟨_,ot,t1,t2,t3,t4,_⟩:=p1.rep.get (k:=1) rfl
   rw[t2]at t4
   rw[QH t4]at t3
   exact Nat.lt_irrefl _ (Nat.lt_of_lt_of_le (Qs t3) (hwr _ hin))) htab) htr ⟨hm.os.trans (hos.trans p1.side.os),(hgens.movedS hm:AllBare s'.gens),hk⟩
 refine⟨O,m,news',P5 _,⟨⟨q.rep.fr,q.rep.nw,q.rep.at_,q.rep.nd,q.rep.ob,λx=>trivial⟩,q.below,q.turn,q.cell,q.vars,q.side⟩,_,rfl,t',rfl⟩
theorem ab.cd{lvl:Nat}{e:FnE}{Sin Sout:List SO}{args:List SV}{ret:SV}{fl:XF}{b:List (Str×SV)}{S':St}{cd:Value}(he:∀K,GKS K->eT K e)(hcd:∀P,((KS P).lookup e.f).map BQ=QE cd)(hna:args.length=e.na)(hkw:e.kws=[])(hb:eX args [] e.binds=QE b)
  (hrun:∀c:Cx,GKS c.K->aD c ⟨e.sc,[],lvl,QD⟩->c.cd=cd->∀O s m news,Pre c ⟨e.sc,[],lvl,QD⟩ O ⟨b.reverse,Sin⟩ s m news->wpAny c.M c.A (execs e.body c.env) (aG c ⟨e.sc,[],lvl,QD⟩ O S' (rF fl)) NoE s)(hS:S'.led=Sout)(hfl:mH fl ret):ab GKS lvl e.f Sin args Sout ret:=λc F A hK H hl HA O S s mm news pk p hpk vs hvs=>hS▸eD p hpk λτ sub hτ onto u=>
 gM (kw:=[]) H hl HA (he c.K hK) p u hna hkw.symm (hvs.unmap onto) ⟨rfl,rfl⟩ hb λc' s1 m1 hs HC hd P' home=>Qw (hrun c' (hs.K.symm▸hK) HC (Qq hK λP hP=>QH ((hP▸hd).symm.trans (hcd P))) _ _ _ _ P') (λf s'⟨τ',m',sub',pre,q',r'⟩=>Qq (home _ _ _ _ _ pre q') λg h=>fE p hpk.nd hτ h λO' i=>aA.map i (dU hfl r')) λ_ _ z=>z.elim
theorem xu(ns:List Str)(hns:∀y∈ns,y∈nms)(hok:JoinOk ⟨#[32]⟩ (ns.map jD)=QF)(hlen:ns.length<=100):ab GKS 4 878 [.words ns, .tab 873 1] [.ref 0] [.words ns, .tab 873 1] (.str (cu ns)):=
 ab.cd (e:=Bw) (cd:= .ref 877) (fl:= .ret (.str (cu ns))) (b:=[(QC "split_command", .ref 0)]) (S':=⟨[],[.words ns, .tab 873 1]⟩) (λK⟨P,hP⟩=>hP▸L9 P) (λP=>by kernel_rfl) (by kernel_rfl) (by kernel_rfl) (by kernel_rfl) (λc hK H hcd O s m news p=>xv hK H hcd hns hok hlen p) rfl (.inl rfl)
def d8(j:Nat):List Nat:=(quo j).cps.toList
theorem ba{x:Str}{pre l:List Nat}(hx:x.cps.toList=pre++l)(hl:lnS x<=1000000)(k:Nat){ch:Nat}(h:l[k]?=QE ch):bZ x (pre.length+k) ch:=
 ⟨DI x _ _ (by rw[hx,Qa (by lia)];rw[show pre.length+k-pre.length=k by lia];exact h) hl⟩
theorem jl{x:Str}{pre l:List Nat}(hx:x.cps.toList=pre++l)(hl:lnS x<=1000000)(k:Nat)(h:l.length=k):iD x (pre.length+k):=
 ⟨I7 x _ (by simp only[lnS,hx,Qf];lia) hl⟩
theorem hG{x:Str}{i j:Nat}{b':Bool}{y:Str}(h:ji x i (stB QF) j (stB b') (.str y)):ab GKS 12 856 (aF x i (stB QF)) [.ref 1] (aF x j (stB b')) (.str y):=Hz x y i j QF b' (JR x y i j QF b' (uT h))
theorem IU{x:Str}{pre rest:List Nat}(hx:x.cps.toList=pre++(d8 0++32::rest))(hl:lnS x<=1000000):ab GKS 12 856 (aF x pre.length (stB QF)) [.ref 1] (aF x (pre.length+2) (stB QF)) (.str (nm 0)):=@hG x pre.length (pre.length+2) QF (nm 0) (JK x pre.length (ba hx hl 0 rfl) (ba hx hl 1 rfl))
theorem Hg{x:Str}{pre rest:List Nat}(hx:x.cps.toList=pre++(d8 1++32::rest))(hl:lnS x<=1000000):ab GKS 12 856 (aF x pre.length (stB QF)) [.ref 1] (aF x (pre.length+6) (stB QF)) (.str (nm 1)):=@hG x pre.length (pre.length+6) QF (nm 1) (IP x pre.length (ba hx hl 0 rfl) (ba hx hl 1 rfl) (ba hx hl 2 rfl) (ba hx hl 3 rfl) (ba hx hl 4 rfl) (ba hx hl 5 rfl))
theorem HR{x:Str}{pre rest:List Nat}(hx:x.cps.toList=pre++(d8 2++32::rest))(hl:lnS x<=1000000):ab GKS 12 856 (aF x pre.length (stB QF)) [.ref 1] (aF x (pre.length+11) (stB QF)) (.str (nm 2)):=@hG x pre.length (pre.length+11) QF (nm 2) (JY x pre.length (ba hx hl 0 rfl) (ba hx hl 1 rfl) (ba hx hl 2 rfl) (ba hx hl 3 rfl) (ba hx hl 4 rfl) (ba hx hl 5 rfl) (ba hx hl 6 rfl) (ba hx hl 7 rfl) (ba hx hl 8 rfl) (ba hx hl 9 rfl) (ba hx hl 10 rfl))
theorem Ir{x:Str}{pre rest:List Nat}(hx:x.cps.toList=pre++(d8 3++32::rest))(hl:lnS x<=1000000):ab GKS 12 856 (aF x pre.length (stB QF)) [.ref 1] (aF x (pre.length+2) (stB QF)) (.str (nm 3)):=@hG x pre.length (pre.length+2) QF (nm 3) (Jv x pre.length (ba hx hl 0 rfl) (ba hx hl 1 rfl))
theorem H2{x:Str}{pre rest:List Nat}(hx:x.cps.toList=pre++(d8 4++32::rest))(hl:lnS x<=1000000):ab GKS 12 856 (aF x pre.length (stB QF)) [.ref 1] (aF x (pre.length+4) (stB QF)) (.str (nm 4)):=@hG x pre.length (pre.length+4) QF (nm 4) (Jh x pre.length (ba hx hl 0 rfl) (ba hx hl 1 rfl) (ba hx hl 2 rfl) (ba hx hl 3 rfl))
theorem D1{x:Str}{pre:List Nat}(hx:x.cps.toList=pre++(d8 0))(hl:lnS x<=1000000):ab GKS 12 856 (aF x pre.length (stB QF)) [.ref 1] (aF x (pre.length+1) (stB QG)) (.str (nm 0)):=@hG x pre.length (pre.length+1) QG (nm 0) (Fl x pre.length (ba hx hl 0 rfl) (jl hx hl 1 rfl))
theorem ET{x:Str}{pre:List Nat}(hx:x.cps.toList=pre++(d8 1))(hl:lnS x<=1000000):ab GKS 12 856 (aF x pre.length (stB QF)) [.ref 1] (aF x (pre.length+5) (stB QG)) (.str (nm 1)):=@hG x pre.length (pre.length+5) QG (nm 1) (D9 x pre.length (ba hx hl 0 rfl) (ba hx hl 1 rfl) (ba hx hl 2 rfl) (ba hx hl 3 rfl) (ba hx hl 4 rfl) (jl hx hl 5 rfl))
theorem Cu{x:Str}{pre:List Nat}(hx:x.cps.toList=pre++(d8 2))(hl:lnS x<=1000000):ab GKS 12 856 (aF x pre.length (stB QF)) [.ref 1] (aF x (pre.length+10) (stB QG)) (.str (nm 2)):=@hG x pre.length (pre.length+10) QG (nm 2) (Ew x pre.length (ba hx hl 0 rfl) (ba hx hl 1 rfl) (ba hx hl 2 rfl) (ba hx hl 3 rfl) (ba hx hl 4 rfl) (ba hx hl 5 rfl) (ba hx hl 6 rfl) (ba hx hl 7 rfl) (ba hx hl 8 rfl) (ba hx hl 9 rfl) (jl hx hl 10 rfl))
theorem D4{x:Str}{pre:List Nat}(hx:x.cps.toList=pre++(d8 3))(hl:lnS x<=1000000):ab GKS 12 856 (aF x pre.length (stB QF)) [.ref 1] (aF x (pre.length+1) (stB QG)) (.str (nm 3)):=@hG x pre.length (pre.length+1) QG (nm 3) (Ee x pre.length (ba hx hl 0 rfl) (jl hx hl 1 rfl))
theorem E7{x:Str}{pre:List Nat}(hx:x.cps.toList=pre++(d8 4))(hl:lnS x<=1000000):ab GKS 12 856 (aF x pre.length (stB QF)) [.ref 1] (aF x (pre.length+3) (stB QG)) (.str (nm 4)):=@hG x pre.length (pre.length+3) QG (nm 4) (DS x pre.length (ba hx hl 0 rfl) (ba hx hl 1 rfl) (ba hx hl 2 rfl) (jl hx hl 3 rfl))
theorem KD{x:Str}{pre rest:List Nat}{j:Nat}(hj:j<5)(hx:x.cps.toList=pre++(d8 j++32::rest))(hl:lnS x<=1000000):ab GKS 12 856 (aF x pre.length (stB QF)) [.ref 1] (aF x (pre.length+((d8 j).length+1)) (stB QF)) (.str (nm j)):=by
 match j,hj,hx with
 |0,_,hx=>exact IU hx hl
 |1,_,hx=>exact Hg hx hl
 |2,_,hx=>exact HR hx hl
 |3,_,hx=>exact Ir hx hl
 |4,_,hx=>exact H2 hx hl
theorem Jg{x:Str}{pre:List Nat}{j:Nat}(hj:j<5)(hx:x.cps.toList=pre++d8 j)(hl:lnS x<=1000000):ab GKS 12 856 (aF x pre.length (stB QF)) [.ref 1] (aF x (pre.length+(d8 j).length) (stB QG)) (.str (nm j)):=by
 match j,hj,hx with
 |0,_,hx=>exact D1 hx hl
 |1,_,hx=>exact ET hx hl
 |2,_,hx=>exact Cu hx hl
 |3,_,hx=>exact D4 hx hl
 |4,_,hx=>exact E7 hx hl
noncomputable def fA:List Str->List Nat
 |[]=>[]
 |[y]=>d8 (bG y)
 |y::z::r=>d8 (bG y)++32::fA (z::r)
theorem mL{x:Str}(hl:lnS x<=1000000):∀(ns:List Str),ns≠[]->(∀y∈ns,y∈nms)->∀pre,x.cps.toList=pre++fA ns->nY x pre.length QF ns
 |[],h,_,_,_=>absurd rfl h
 |[y],_,hn,pre,hx=>by
  obtain⟨j,hj,e1,e2⟩:=j3 (hn y (.head _))
  subst e1
  have hx':x.cps.toList=pre++d8 j:=by rw[hx,fA,e2]
  have he:iD x (pre.length+(d8 j).length):=jl hx' hl _ rfl
  exact .step (Jg hj hx' hl) (.done (DZ x _ (FI x _ (uT (EE x _ he)))))
 |y::z::r,_,hn,pre,hx=>by
  obtain⟨j,hj,e1,e2⟩:=j3 (hn y (.head _))
  subst e1
  have hx':x.cps.toList=pre++(d8 j++32::fA (z::r)):=by rw[hx,fA,e2]
  have h2:x.cps.toList=(pre++d8 j++[32])++fA (z::r):=by rw[hx'];simp
  have ih:=mL hl (z::r) (by simp) (λw hw=>hn w (.tail _ hw)) _ h2
  have e:(pre++d8 j++[32]).length=pre.length+((d8 j).length+1):=by simp[Nat.add_assoc]
  rw[e]at ih
  exact .step (KD hj hx' hl) ih
theorem jR:∀ns:List Str,(Str.join ⟨#[32]⟩ (ns.map jD)).cps.toList=fA ns
 |[]=>rfl
 |[y]=>rfl
 |y::z::r=>by
  have ih:=jR (z::r)
  have e:Str.join ⟨#[32]⟩ ((y::z::r).map jD)=(jD y++⟨#[32]⟩:Str)++Str.join ⟨#[32]⟩ ((z::r).map jD):=rfl
  rw[e,fA]
  show((jD y).cps++#[32]++(Str.join ⟨#[32]⟩ ((z::r).map jD)).cps).toList=_
  rw[Array.toList_append,Array.toList_append,ih]
  simp[d8,jD]
theorem qF(ns:List Str):(cu ns).cps.toList=fA ns:=by
 rw[<-jR,cu]
 exact QJ (λs:Str=>s.cps.toList) (StrLaws.glued_eq_join _ _)
theorem lF(j:Nat):(d8 j).length<=10:=by
 match j with
 |0=>decide
 |1=>decide
 |2=>decide
 |3=>decide
 |n+4=>show(d8 4).length<=10;decide
theorem mn:∀ns:List Str,(fA ns).length<=11*ns.length
 |[]=>by simp[fA]
 |[y]=>by have:=lF (bG y);simp[fA];lia
 |y::z::r=>by
  have h1:=lF (bG y)
  have h2:=mn (z::r)
  simp only[fA,Qf,Qg]at h2 ⊢
  lia
theorem xe(l:List Str)(h:∀y∈l,y.length<=10)(hl:l.length<=100):JoinOk ⟨#[32]⟩ l=QF:=by
 have key:∀(l:List Str)(a:Nat),(∀y∈l,y.length<=10)->l.foldl (λn y=>n+y.length+(⟨#[32]⟩:Str).length) a<=a+11*l.length:=by
  intro l
  induction l with
  |nil=>intro a _;simp
  |cons y r ih=>
   intro a h
   have h1:=h y (.head _)
   have h2:=ih (a+y.length+1) (λz hz=>h z (.tail _ hz))
   simp only[List.foldl_cons,Qg]
   show r.foldl _ (a+y.length+1)<=_
   lia
 have h2:=key l 0 h
 unfold JoinOk Builtin.Str.tooLong
 rw[List.foldl_toArray]
 have:¬(l.foldl (λn y=>n+y.length+(⟨#[32]⟩:Str).length) 0>sizeLine):=by rw[sizeLine_eq];lia
 simpa using this
theorem sq(ns:List Str)(h0:ns≠[])(hn:∀y∈ns,y∈nms)(hl:ns.length<=100):ab GKS 18 871 [] [.str (cu ns)] [.words ns] (.ref 0):=by
 have h1:=mn ns
 have h2:lnS (cu ns)<=1000000:=by simp only[lnS,qF];lia
 exact sA (mL h2 ns h0 hn [] (by rw[qF];rfl)) (by lia)
theorem vC(ns:List Str)(hn:∀y∈ns,y∈nms)(hl:ns.length<=100):ab GKS 4 878 [.words ns, .tab 873 1] [.ref 0] [.words ns, .tab 873 1] (.str (cu ns)):=
 xu ns hn (xe _ (λy hy=>by
  obtain⟨z,hz,rfl⟩:=Qe.mp hy
  exact lF (bG z)) (by simpa using hl)) hl
def sE(F:Fs)(hs:List (Nat×Bool))(orc:List Orc)(l:List Stmt)(S S':St)(fl:XF)(pk:List Nat)(C:Prop):Prop×Prop:=(Ran (c9 (TT 20 F) F nF l ⟨S,hs,0,[],orc⟩) S.led.length pk S' fl,fU (c9 (TT 20 F) F nF l ⟨S,hs,0,[],orc⟩) S.led.length pk S' fl C)
def tE(F:Fs)(hs:List (Nat×Bool))(orc:List Orc)(e:Expr)(S S':St)(b:Bool)(pk:List Nat)(C:Prop):Prop×Prop:=(fC (tsN (TT 20 F) F nF e ⟨S,hs,0,[],orc⟩) S.led.length pk S' b,dP (tsN (TT 20 F) F nF e ⟨S,hs,0,[],orc⟩) S.led.length pk S' b C)
def xE(F:Fs)(hs:List (Nat×Bool))(orc:List Orc)(e:Expr)(S S':St)(v:SV)(pk:List Nat)(C:Prop):Prop×Prop:=(dq (evN (TT 20 F) F nF e ⟨S,hs,0,[],orc⟩) S.led.length pk S' v,b8 (evN (TT 20 F) F nF e ⟨S,hs,0,[],orc⟩) S.led.length pk S' v C)
noncomputable def qE{α:Type}(x y:α):Prop×Prop:=(x=x,x=y)
theorem L4{α:Type}{x y:α}(h:(qE x y).1=(qE x y).2):x=y:=cast h rfl
section
variable(F:Fs)(hs:List (Nat×Bool))(orc:List Orc){S S':St}(pk:List Nat)(C:Prop)
theorem gD{l:List Stmt}{fl:XF}(h:(sE F hs orc l S S' fl pk C).1=(sE F hs orc l S S' fl pk C).2)(hC:C):aa GKS F l S S' fl:=@aw F 20 nF l S S' hs orc fl pk C h hC
theorem sC{e:Expr}{b:Bool}(h:(tE F hs orc e S S' b pk C).1=(tE F hs orc e S S' b pk C).2)(hC:C):aJ GKS F e S S' b:=@d4 F 20 nF e S S' hs orc b pk C h hC
theorem OT{e:Expr}{v:SV}(h:(xE F hs orc e S S' v pk C).1=(xE F hs orc e S S' v pk C).2)(hC:C):ah GKS F e S S' v:=@bp F 20 nF e S S' hs orc v pk C h hC
end
theorem PP{E:Nat->Prop×Prop}{n:Nat}(h:(PZ n).map (λk=>(E k).1)=(PZ n).map λk=>(E k).2)(k:Nat)(hk:k<n):(E k).1=(E k).2:=Qk.mp h k (List.mem_range.mpr hk)
def bH:Fs:=⟨cJ.sc,[(QC "left",7)],24,QD⟩
noncomputable def cZ(rs:Nat->List Str)(lines:List Str):List SO:=[.list [.ref 1, .ref 2, .ref 3, .ref 4, .ref 5], .words (rs 0), .words (rs 1), .words (rs 2), .words (rs 3), .words (rs 4), .words lines]
def M0(j:Nat)(k:Int)(s:List Str):List SO:=[.ns [], .slots 70 (3*j+12) [QE (.str (nm j)),QE (.int k),QE (.ref (3*j+14))], .words s]
noncomputable def jB(p:Nat->Int)(s:Nat->List Str):Nat->List SO
 |0=>[]
 |n+1=>jB p s n++M0 n (p n) (s n)
noncomputable def xV:Nat->List (Str×SV)
 |0=>[]
 |n+1=>xV n++[(nm n, .ref (3*n+13))]
noncomputable def nsA:SO:= .ns [(QC "_node2info", .ref 10),(QC "_ready_nodes", .none),(QC "_npassedout", .int 0),(QC "_nfinished", .int 0)]
noncomputable def jZ(V:List (Str×SV)):List (Str×SV):=V++[(QC "rows", .ref 0),(QC "lines", .ref 6),(QC "sorter", .ref 8)]
def dD(rs:Nat->List Str)(lines:List Str)(V:List (Str×SV))(i n:Nat)(p:Nat->Int)(s:Nat->List Str):St:=⟨jZ V,cZ rs lines++[.cell QD, .inst 167 9,nsA, .ns (xV n),bo "list_iterator" 0 i]++jB p s n⟩
def i3(i:Nat)(js:List Nat)(s:Nat->List Str):Nat->List Str:=js.foldl (λs j=>upd s j (s j++[nm i])) s
noncomputable def Fn(s:Nat->List Str):List Nat->Prop
 |[]=>QF=QF/\QF=QF/\QF=QF/\True
 |j::r=>ao (s j).length/\Fn s r
theorem uE{s:Nat->List Str}(h:∀j,ao (s j).length):∀l,Fn s l
 |[]=>⟨rfl,rfl,rfl,QI⟩
 |j::r=>⟨h j,uE h r⟩
theorem z0{α:Type}{p:Nat->α}{j:Nat}{v:α}(h:p j=v):upd p j v=p:=by
 funext k
 unfold upd
 cases e:Nat.beq k j with
 |true=>rw[PV e];exact h.symm
 |false=>rfl
theorem rJ:∀{l:List SO}{k:Nat},l[k]?=QE (.words [])->br (l.set k (.list [])) l
 |[],k,h=>by simp at h
 |a::r,0,h=>by simp at h;subst h;exact .cons (bt []) (br.refl _)
 |a::r,k+1,h=> .cons (bE.refl _) (rJ (by simpa using h))
noncomputable def b5:Nat->List (List Nat)
 |0=>[[]]
 |n+1=>b5 n++(b5 n).map (·++[n])
noncomputable def pkA(i:Nat):List Nat:=PZ (3*i+12)++[3*i+16,3*i+17,3*i+18]
def FM:List Stmt:=aT (nth cJ.body 1)
def Lb(rs:Nat->List Str)(lines:List Str)(p:Nat->Int)(s:Nat->List Str)(i:Nat)(js:List Nat):Prop:=
 aa GKS bH FM (dD (upd rs i (nm i::js.map nm)) lines [(QC "row", .ref (i+1))] (i+1) i p s) (dD (upd rs i (nm i::js.map nm)) lines [] (i+1) (i+1) (upd p i js.length) (upd (i3 i js s) i [])) .next
theorem rj{E:Nat->List Nat->Prop×Prop}{n:Nat}(h:(PZ n).map (λk=>(b5 k).map λjs=>(E k js).1)=(PZ n).map λk=>(b5 k).map λjs=>(E k js).2){k:Nat}(hk:k<n){js:List Nat}(hj:js∈b5 k):(E k js).1=(E k js).2:=Qk.mp (Qk.mp h k (List.mem_range.mpr hk)) js hj
theorem Cw(rs:Nat->List Str)(lines:List Str)(p:Nat->Int)(s:Nat->List Str)(h:∀j,ao (s j).length)(i:Nat)(hi:i<5)(js:List Nat)(hjs:js∈b5 i):Lb rs lines p s i js:=
 have hw:(dD (upd rs i (nm i::js.map nm)) lines [] (i+1) (i+1) (upd p i js.length) (upd (i3 i js s) i [])).led[3*i+14]?=QE (.words []):=L4 (rj (E:=λi js=>qE ((dD (upd rs i (nm i::js.map nm)) lines [] (i+1) (i+1) (upd p i js.length) (upd (i3 i js s) i [])).led[3*i+14]?) (QE (.words []))) (n:=5) (by kernel_rfl) hi hjs)
 aa.soft (gD bH [] [] (S':=⟨jZ [],(dD (upd rs i (nm i::js.map nm)) lines [] (i+1) (i+1) (upd p i js.length) (upd (i3 i js s) i [])).led.set (3*i+14) (.list [])⟩) (pkA i) (Fn s js.reverse) (rj (E:=λi js=>sE bH [] [] FM (dD (upd rs i (nm i::js.map nm)) lines [(QC "row", .ref (i+1))] (i+1) i p s) ⟨jZ [],(dD (upd rs i (nm i::js.map nm)) lines [] (i+1) (i+1) (upd p i js.length) (upd (i3 i js s) i [])).led.set (3*i+14) (.list [])⟩ .next (pkA i) (Fn s js.reverse)) (by kernel_rfl) hi hjs) (uE h _)) ⟨rfl,rJ hw⟩
noncomputable def stA(js:Nat->List Nat):Nat->(Nat->Int)×(Nat->List Str)
 |0=>(λ_=>0,λ_=>[])
 |i+1=>(upd (stA js i).1 i (js i).length,upd (i3 i (js i) (stA js i).2) i [])
theorem z5(i:Nat):∀(js:List Nat)(s:Nat->List Str)(j:Nat),(i3 i js s j).length<=(s j).length+js.length:=by
 intro js
 induction js with
 |nil=>intro s j;exact PX _
 |cons k r ih=>
  intro s j
  have h1:=ih (upd s k (s k++[nm i])) j
  have h2:(upd s k (s k++[nm i]) j).length<=(s j).length+1:=by
   unfold upd
   cases e:Nat.beq j k with
   |true=>rw[PV e];simp
   |false=>simp
  show(i3 i r (upd s k (s k++[nm i])) j).length<=_
  simp only[Qg];lia
theorem kR:∀(i:Nat)(js:List Nat),js∈b5 i->js.length<=i
 |0,js,h=>by simp[b5]at h;simp[h]
 |n+1,js,h=>by
  rw[b5,Qd]at h
  rcases h with h|h
  .exact Nat.le_succ_of_le (kR n js h)
  .obtain⟨k,hk,rfl⟩:=Qe.mp h
   have:=kR n k hk
   simp;lia
theorem ue{js:Nat->List Nat}(hj:∀i,i<5->js i∈b5 i):∀i,i<=5->∀j,((stA js i).2 j).length<=5*i
 |0,_,j=>by simp[stA]
 |i+1,hi,j=>by
  have h1:=z5 i (js i) (stA js i).2 j
  have h2:=ue hj i (by lia) j
  have h3:=kR i _ (hj i (by lia))
  show(upd (i3 i (js i) (stA js i).2) i [] j).length<=_
  unfold upd
  cases e:Nat.beq j i with
  |true=>simp
  |false=>show(i3 i (js i) (stA js i).2 j).length<=_;lia
def rx(j:Nat)(k:Int)(s:List Str):List SO:=[.ns [], .slots 70 (3*j+11) [QE (.str (nm j)),QE (.int k),QE (.ref (3*j+13))], .words s]
def Be(p:Nat->Int)(s:Nat->List Str):List SO:=rx 0 (p 0) (s 0)++rx 1 (p 1) (s 1)++rx 2 (p 2) (s 2)++rx 3 (p 3) (s 3)++rx 4 (p 4) (s 4)
def Kt:List (Str×SV):=[(nm 0, .ref 12),(nm 1, .ref 15),(nm 2, .ref 18),(nm 3, .ref 21),(nm 4, .ref 24)]
def zG(rs:Nat->List Str)(lines:List Str)(p:Nat->Int)(s:Nat->List Str):List SO:=cZ rs lines++[.cell QD, .inst 167 9,nsA, .ns Kt]++Be p s
theorem zW(rs:Nat->List Str)(lines:List Str)(p:Nat->Int)(s:Nat->List Str):∀i,i<5->ay GKS bH 11 (dD rs lines [] i i p s) (dD rs lines [] (i+1) i p s) (QE (.ref (i+1)))/\aC GKS bH (bg (nth cJ.body 1)) (.ref (i+1)) (dD rs lines [] (i+1) i p s) (dD rs lines [(QC "row", .ref (i+1))] (i+1) i p s):=by
 intro i hi
 have ht:bg (nth cJ.body 1)= .Name (QC "row") (bg (nth cJ.body 1)).pos:=by kernel_rfl
 rw[ht]
 refine cg (P:=λi=>ay GKS bH 11 (dD rs lines [] i i p s) (dD rs lines [] (i+1) i p s) (QE (.ref (i+1)))/\aC GKS bH (.Name (QC "row") (bg (nth cJ.body 1)).pos) (.ref (i+1)) (dD rs lines [] (i+1) i p s) (dD rs lines [(QC "row", .ref (i+1))] (i+1) i p s)) hi ?_ ?_ ?_ ?_ ?_
 all_goals exact⟨dc (by kernel_rfl),assign_k (by kernel_rfl)⟩
theorem CT(rs:Nat->List Str)(lines:List Str)(p:Nat->Int)(s:Nat->List Str):ay GKS bH 11 (dD rs lines [] 5 5 p s) ⟨jZ [],cZ rs lines++[.cell QD, .inst 167 9,nsA, .ns (xV 5), .any]++jB p s 5⟩ QD:=dc (by kernel_rfl)
theorem Dr(rs:Nat->List Str)(lines:List Str)(js:Nat->List Nat)(hj:∀i,i<5->js i∈b5 i)(hr:∀i,i<5->rs i=nm i::(js i).map nm):ae GKS bH (nth cJ.body 1) ⟨jZ [],cZ rs lines++[.cell QD, .inst 167 9,nsA, .ns []]⟩ ⟨jZ [],zG rs lines (stA js 5).1 (stA js 5).2⟩ .next:=by
 refine ey ?_ (by kernel_rfl)
 refine ae.for_ (it:=11) (a:= .ref 0) (S1:=⟨jZ [],cZ rs lines++[.cell QD, .inst 167 9,nsA, .ns []]⟩) (S2:=dD rs lines [] 0 0 (stA js 0).1 (stA js 0).2) (pk:=PZ 11++[12,13,14,15,16,17,18,19,20,21,22,23,24,25,26]) (S3:=⟨jZ [],cZ rs lines++[.cell QD, .inst 167 9,nsA, .ns (xV 5), .any]++jB (stA js 5).1 (stA js 5).2 5⟩) (n:=6) ?_ ?_ ?_ ?_ ?_ ?_
 .exact bp (k:=20) (n:=nF) (hs:=[]) (orc:=[]) (PZ 11) True (by kernel_rfl) QI
 .exact aI.ran (x1:=⟨dD rs lines [] 0 0 (stA js 0).1 (stA js 0).2,[],0,[],[]⟩) (by kernel_rfl) rfl QI
 .have step:∀i,i<5->∀n,dQ GKS bH 11 (bg (nth cJ.body 1)) FM [] ⟨jZ [],cZ rs lines++[.cell QD, .inst 167 9,nsA, .ns (xV 5), .any]++jB (stA js 5).1 (stA js 5).2 5⟩ .next n (dD rs lines [] (i+1) (i+1) (stA js (i+1)).1 (stA js (i+1)).2)->
    dQ GKS bH 11 (bg (nth cJ.body 1)) FM [] ⟨jZ [],cZ rs lines++[.cell QD, .inst 167 9,nsA, .ns (xV 5), .any]++jB (stA js 5).1 (stA js 5).2 5⟩ .next (n+1) (dD rs lines [] i i (stA js i).1 (stA js i).2):=λi hi n h=>by
   obtain⟨k1,k2⟩:=zW rs lines (stA js i).1 (stA js i).2 i hi
   have k3:=Cw rs lines (stA js i).1 (stA js i).2 (λj=>PU (by have:=ue hj i (by lia) j;lia)) i hi (js i) (hj i hi)
   unfold Lb at k3
   rw[z0 (hr i hi)]at k3
   exact .step k1 k2 k3 (.inl rfl) h
  exact step 0 (by decide) _ (step 1 (by decide) _ (step 2 (by decide) _ (step 3 (by decide) _ (step 4 (by decide) _ (.done (CT rs lines _ _) .nil)))))
 .intro env x;rfl
 .intro it v;rfl
 .exact⟨by kernel_rfl,⟨by kernel_rfl,by kernel_rfl⟩,by kernel_rfl⟩
theorem Co(rs:Nat->List Str)(lines:List Str):ae GKS bH (nth cJ.body 0) ⟨[(QC "lines", .ref 6),(QC "rows", .ref 0)],cZ rs lines++[.cell QD]⟩ ⟨jZ [],cZ rs lines++[.cell QD, .inst 167 9,nsA, .ns []]⟩ .next:=
 hV (k:=20) (n:=nF) (hs:=[]) (orc:=[]) [0,1,2,3,4,5,6,7,9,8,10] True (by kernel_rfl) QI
section
variable{GK:Frag->Prop}
theorem ny{P:Params}{O:List Addr}{fs:List (Str×SV)}:∀{l:List SO}{ns:List (Addr×Obj)}{k:Nat},cy P O l ns->l[k]?=QE (.ns fs)->∃ep,cy P O (l.set k (.nsE fs ep)) ns
 |[],_,k,_,e=>by simp at e
 |o::r,ns,0,⟨q,t,e1,h1,h2⟩,e=>by
  simp at e
  subst e
  obtain⟨es,ep,h3⟩:=h1
  exact⟨ep,q,t,e1,⟨es,h3⟩,h2⟩
 |o::r,ns,k+1,⟨q,t,e1,h1,h2⟩,e=>by
  obtain⟨ep,h⟩:=ny (k:=k) h2 (by simpa using e)
  exact⟨ep,q,t,e1,h1,h⟩
theorem Pre.open_ns(p:Pre c F O S s m news){k:Nat}{fs:List (Str×SV)}(h:S.led[k]?=QE (.ns fs)):∃ep,Pre c F O ⟨S.loc,S.led.set k (.nsE fs ep)⟩ s m news:=by
 obtain⟨ep,hob⟩:=ny p.rep.ob h
 exact⟨ep,⟨p.rep.fr,p.rep.nw,p.rep.at_,p.rep.nd,hob,p.rep.lc⟩,p.below,p.turn,p.cell,p.vars,p.side⟩
theorem aa.open_ns{l:List Stmt}{S S':St}{fl:XF}{k:Nat}{fs:List (Str×SV)}(h:S.led[k]?=QE (.ns fs))(hr:∀ep,aa GK F l ⟨S.loc,S.led.set k (.nsE fs ep)⟩ S' fl):aa GK F l S S' fl:=λc hK H O s m news p=>by
 obtain⟨ep,q⟩:=p.open_ns h
 exact hr ep c hK H O s m news q
end
def FD:Fs:=⟨v7.sc,[],6,QD⟩
def eB(ep:Nat)(rd:SV)(p:Nat->Int)(s:Nat->List Str):List SO:=[.inst 167 1,nsS rd 0 0, .nsE Fv ep]++sd p s
def PK:Stmt->Expr
 |.Assign _ t _=>t
 |_=> .Name (QC "") jV
noncomputable def aq:Expr->Expr
 |.ListComp e _ _ _=>e
 |e=>e
def aR:Expr->Scope
 |.ListComp _ _ s _=>s
 |_=>v7.sc
noncomputable def nT:Expr->List Comprehension
 |.ListComp _ g _ _=>g
 |_=>[]
def av(e:Expr):Expr:=match nT e with
 |g::_=>g.iter
 |_=>e
def cU(e:Expr):List Expr:=match nT e with
 |g::_=>g.ifs
 |_=>[]
def bB(e:Expr):Expr:=match nT e with
 |g::_=>g.target
 |_=>e
def cS:Expr:=bj (nth v7.body 1)
noncomputable def vIt(ep k:Nat):SO:= .loose "dict_valueiterator" [.ref 2, .top (.int (.ofNat k) 0), .top (.int (.ofNat 5) 0), .top (.int (.ofNat ep) 0)]
def e7:Fs:=ej FD (aR cS) [] 21
def prS(ep:Nat)(p:Nat->Int)(s:Nat->List Str)(k:Nat)(acc:List Str)(V:List (Str×SV)):St:=⟨[(QC "self", .ref 0)],eB ep .none p s++[.fields "dict_values" [.ref 2],vIt ep k, .words acc, .vars V]⟩
noncomputable def bz(p:Nat->Int):Nat->List Str
 |0=>[]
 |k+1=>match p k==0 with
  |true=>bz p k++[nm k]
  |false=>bz p k
theorem kX(p:Nat->Int):∀k,(bz p k).length<=k
 |0=>PX _
 |k+1=>by
  have:=kX p k
  unfold bz
  split<;>simp<;>lia
theorem CM(ep:Nat)(p:Nat->Int)(s:Nat->List Str)(acc:List Str):∀k,k<5->ay GKS e7 19 (prS ep p s k acc []) (prS ep p s (k+1) acc []) (QE (.ref (3*k+4)))/\
  aC GKS e7 (bB cS) (.ref (3*k+4)) (prS ep p s (k+1) acc []) (prS ep p s (k+1) acc [(QC "i", .ref (3*k+4))])/\
  dy GKS e7 (cU cS) (prS ep p s (k+1) acc [(QC "i", .ref (3*k+4))]) (prS ep p s (k+1) acc [(QC "i", .ref (3*k+4))]) (p k==0)/\
  ah GKS e7 (aq cS) (prS ep p s (k+1) acc [(QC "i", .ref (3*k+4))]) (prS ep p s (k+1) acc [(QC "i", .ref (3*k+4))]) (.str (nm k))/\
  (ao acc.length->a9 GKS e7 20 (.str (nm k)) (prS ep p s (k+1) acc [(QC "i", .ref (3*k+4))]) (prS ep p s (k+1) (acc++[nm k]) [(QC "i", .ref (3*k+4))])):=by
 have ht:bB cS= .Name (QC "i") (bB cS).pos:=by kernel_rfl
 have hi:cU cS=[(cU cS).headD cS]:=by kernel_rfl
 rw[ht,hi]
 intro k hk
 refine cg (P:=λk=>ay GKS e7 19 (prS ep p s k acc []) (prS ep p s (k+1) acc []) (QE (.ref (3*k+4)))/\
  aC GKS e7 (.Name (QC "i") (bB cS).pos) (.ref (3*k+4)) (prS ep p s (k+1) acc []) (prS ep p s (k+1) acc [(QC "i", .ref (3*k+4))])/\
  dy GKS e7 [(cU cS).headD cS] (prS ep p s (k+1) acc [(QC "i", .ref (3*k+4))]) (prS ep p s (k+1) acc [(QC "i", .ref (3*k+4))]) (p k==0)/\
  ah GKS e7 (aq cS) (prS ep p s (k+1) acc [(QC "i", .ref (3*k+4))]) (prS ep p s (k+1) acc [(QC "i", .ref (3*k+4))]) (.str (nm k))/\
  (ao acc.length->a9 GKS e7 20 (.str (nm k)) (prS ep p s (k+1) acc [(QC "i", .ref (3*k+4))]) (prS ep p s (k+1) (acc++[nm k]) [(QC "i", .ref (3*k+4))]))) hk ?_ ?_ ?_ ?_ ?_
 all_goals exact⟨ay.ran (x1:=⟨prS ep p s _ acc [],[],0,[5=5/\ep=ep],[]⟩) (by kernel_rfl) rfl ⟨⟨rfl,rfl⟩,QI⟩,assign_k (by kernel_rfl), .one (d4 (k:=20) (n:=nF) (hs:=[]) (orc:=[]) (PZ 22) True (by kernel_rfl) QI),bp (k:=20) (n:=nF) (hs:=[]) (orc:=[]) (PZ 22) True (by kernel_rfl) QI,
  λh=>a9.ran (w:= .none) (x1:=⟨prS ep p s _ (acc++[_]) [(QC "i", .ref _)],[],0,[ao acc.length],[]⟩) (by kernel_rfl) rfl ⟨h,QI⟩⟩
theorem qk{ep:Nat}{p:Nat->Int}{s:Nat->List Str}{k:Nat}{acc:List Str}{V:List (Str×SV)}:di (prS ep p s k acc V) (prS ep p s k acc []):=⟨rfl,(br.refl _).append (.cons (bE.refl _) (.cons (bE.refl _) (.cons (bE.refl _) (.cons (gU V) .nil))))⟩
theorem iF{ep:Nat}{p:Nat->Int}{s:Nat->List Str}{S':St}{n:Nat}{k:Nat}(hk:k<5)(h:aL GKS e7 19 20 (aq cS) (bB cS) (cU cS) S' n (prS ep p s (k+1) (bz p (k+1)) [])):aL GKS e7 19 20 (aq cS) (bB cS) (cU cS) S' (n+1) (prS ep p s k (bz p k) []):=by
 obtain⟨h1,h2,h3,h4,h5⟩:=CM ep p s (bz p k) k hk
 have hl:=kX p k
 refine .step h1 h2 h3 (λhb=>⟨_,_,h4,(h5 (PU (by lia))).soft ?_⟩) (λhb=>?_) h
 .have e:bz p (k+1)=bz p k++[nm k]:=by rw[bz,hb]
  rw[e];exact qk
 .have e:bz p (k+1)=bz p k:=by rw[bz,hb]
  rw[e];exact qk
theorem I9(ep:Nat)(p:Nat->Int)(s:Nat->List Str)(acc:List Str):ay GKS e7 19 (prS ep p s 5 acc []) ⟨[(QC "self", .ref 0)],eB ep .none p s++[.fields "dict_values" [.ref 2], .any, .words acc, .vars []]⟩ QD:=ay.ran (x1:=⟨⟨[(QC "self", .ref 0)],eB ep .none p s++[.fields "dict_values" [.ref 2], .any, .words acc, .vars []]⟩,[],0,[5=5/\ep=ep],[]⟩) (by kernel_rfl) rfl ⟨⟨rfl,rfl⟩,QI⟩
theorem E0(ep:Nat)(p:Nat->Int)(s:Nat->List Str):ah GKS FD cS ⟨[(QC "self", .ref 0)],eB ep .none p s⟩ ⟨[(QC "self", .ref 0)],eB ep .none p s++[.words (bz p 5)]⟩ (.ref 18):=by
 have e:cS= .ListComp (aq cS) [⟨.Name (QC "i") (bB cS).pos,av cS,cU cS,0⟩] (aR cS) cS.pos:=by kernel_rfl
 have ht:bB cS= .Name (QC "i") (bB cS).pos:=by kernel_rfl
 rw[e]
 refine ah.comp (S1:=⟨[(QC "self", .ref 0)],eB ep .none p s++[.fields "dict_values" [.ref 2]]⟩) (S2:=⟨[(QC "self", .ref 0)],eB ep .none p s++[.fields "dict_values" [.ref 2],vIt ep 0]⟩) (S5:=⟨[(QC "self", .ref 0)],eB ep .none p s++[.fields "dict_values" [.ref 2], .any, .words (bz p 5), .vars []]⟩)
  (a:= .ref 18) (it:=19) (n:=6) (so:=vIt ep 0) (acc0:= .words []) (cells:=[]) (loc:=[]) (pk:=PZ 18++[20]) (by kernel_rfl) (by kernel_rfl) ?_ ?_ rfl (.inr ⟨.inr rfl,2,0,5,ep,rfl⟩) (bt []) ?_ rfl (by kernel_rfl) (by kernel_rfl) ?_
 .exact bp (k:=20) (n:=nF) (hs:=[]) (orc:=[]) (PZ 19) True (by kernel_rfl) QI
 .exact aI.ran (x1:=⟨⟨[(QC "self", .ref 0)],eB ep .none p s++[.fields "dict_values" [.ref 2],vIt ep 0]⟩,[],0,[],[]⟩) (by kernel_rfl) rfl QI
 .have:aL GKS e7 19 20 (aq cS) (bB cS) (cU cS) ⟨[(QC "self", .ref 0)],eB ep .none p s++[.fields "dict_values" [.ref 2], .any, .words (bz p 5), .vars []]⟩ 6 (prS ep p s 0 (bz p 0) []):=
   iF (by decide) (iF (by decide) (iF (by decide) (iF (by decide) (iF (by decide) (.done (I9 ep p s _))))))
  rw[ht]at this
  exact this
 .exact⟨by kernel_rfl,⟨by kernel_rfl,by kernel_rfl⟩,by kernel_rfl⟩
section
variable(GK:Frag->Prop)
def Fi(c:Cx)(F:Fs)(n0:Nat)(O0:List Addr):Prop:=∃S0 s0 m0 news0,Pre c F O0 S0 s0 m0 news0/\S0.led.length=n0
def a8(n0:Nat)(F:Fs)(l:List Stmt)(S S':St)(fl:XF):Prop:=∀c:Cx,GK c.K->aD c F->∀O0,Fi c F n0 O0->∀O s m news,O0 <+:O->Pre c F O S s m news->wpAny c.M c.A (execs l c.env) (aG c F O0 S' (rF fl)) NoE s
def lN(n0:Nat)(F:Fs)(st:Stmt)(S S':St)(fl:XF):Prop:=∀c:Cx,GK c.K->aD c F->∀O0,Fi c F n0 O0->∀O s m news,O0 <+:O->Pre c F O S s m news->wpAny c.M c.A (exec st c.env) (aG c F O0 S' (rF fl)) NoE s
def c3(n0:Nat)(F:Fs)(test:Expr)(body orelse:List Stmt)(S S':St)(fl:XF):Prop:=∀c:Cx,GK c.K->aD c F->∀O0,Fi c F n0 O0->∀O s m news,O0 <+:O->Pre c F O S s m news->WhlRest c.pr c.w c.A NoE c.env test body orelse (aG c F O0 S' (rF fl)) 0 s
end
section
variable{GK:Frag->Prop}{n0:Nat}
theorem pn{O0 O1:List Addr}{S1 S':St}{pk:List Nat}(hb:Fi c F n0 O0)(h01:O0 <+:O1)(p1:Pre c F O1 S1 s m news)(h:et n0 pk S1 S'):∃O' news',O0 <+:O'/\Pre c F O' S' s m news'/\iV (at_ pk S1.led.length) O' O1:=by
 obtain⟨S0,s0,m0,news0,p0,rfl⟩:=hb
 exact p0.fin h01 p1 h
theorem aa.b{l:List Stmt}{S S':St}{fl:XF}(h:aa GK F l S S' fl):a8 GK n0 F l S S' fl:=λc hK H O0 hb O s m news h0 p=>Qw (h c hK H O s m news p) (λ_ _ z=>z.mono h0) λ_ _ z=>z
theorem ae.b{l:Stmt}{S S':St}{fl:XF}(h:ae GK F l S S' fl):lN GK n0 F l S S' fl:=λc hK H O0 hb O s m news h0 p=>Qw (h c hK H O s m news p) (λ_ _ z=>z.mono h0) λ_ _ z=>z
theorem a8.hold{l:List Stmt}{S S':St}{fl:XF}(h:a8 GK n0 F l S S' fl)(hn:S.led.length=n0):aa GK F l S S' fl:=λc hK H O s m news p=>h c hK H O ⟨S,s,m,news,p,hn⟩ O s m news (P5 _) p
theorem lN.hold{l:Stmt}{S S':St}{fl:XF}(h:lN GK n0 F l S S' fl)(hn:S.led.length=n0):ae GK F l S S' fl:=λc hK H O s m news p=>h c hK H O ⟨S,s,m,news,p,hn⟩ O s m news (P5 _) p
theorem a8.nil:a8 GK n0 F [] S S .next:=aa.nil.b
theorem a8.cons{st:Stmt}{l:List Stmt}{S S1 S':St}{fl:XF}(h1:lN GK n0 F st S S1 .next)(h2:a8 GK n0 F l S1 S' fl):a8 GK n0 F (st::l) S S' fl:=λc hK H O0 hb O s m news h0 p=>
 QA (go_ (h1 c hK H O0 hb O s m news h0 p) λO1 m1 n1 v1 s1 p1 q1 r1=>by
  rw[show v1=Flow.next from r1]
  exact h2 c hK H O0 hb O1 s1 m1 n1 p1 q1)
theorem a8.stop{st:Stmt}{l:List Stmt}{S S':St}{fl:XF}(h1:lN GK n0 F st S S' fl)(hf:fl= .brk\/fl= .cont):a8 GK n0 F (st::l) S S' fl:=λc hK H O0 hb O s m news h0 p=>
 QA (go_ (h1 c hK H O0 hb O s m news h0 p) λO1 m1 n1 v1 s1 p1 q1 r1=>by
  rcases hf with rfl|rfl
  .rw[show v1=Flow.brk from r1];exact(⟨O1,m1,n1,p1,q1,rfl⟩:aG c F O0 S' (rF .brk) Flow.brk s1)
  .rw[show v1=Flow.cont from r1];exact(⟨O1,m1,n1,p1,q1,rfl⟩:aG c F O0 S' (rF .cont) Flow.cont s1))
theorem a8.pick{l:List Stmt}{S S1 S':St}{fl:XF}{pk:List Nat}(h:a8 GK n0 F l S1 S' fl)(hfin:et n0 pk S S1):a8 GK n0 F l S S' fl:=λc hK H O0 hb O s m news h0 p=>by
 obtain⟨O',news',a1,a2,_⟩:=pn hb h0 p hfin
 exact h c hK H O0 hb O' s m news' a1 a2
theorem c3.pick{test:Expr}{body orelse:List Stmt}{S S1 S':St}{fl:XF}{pk:List Nat}(h:c3 GK n0 F test body orelse S1 S' fl)(hfin:et n0 pk S S1):c3 GK n0 F test body orelse S S' fl:=λc hK H O0 hb O s m news h0 p=>by
 obtain⟨O',news',a1,a2,_⟩:=pn hb h0 p hfin
 exact h c hK H O0 hb O' s m news' a1 a2
theorem c3.stop{test:Expr}{body orelse:List Stmt}{S S1 S':St}{fl:XF}(ht:aJ GK F test S S1 QG)(ho:a8 GK n0 F orelse S1 S' fl):c3 GK n0 F test body orelse S S' fl:=λc hK H O0 hb O s m news h0 p=>
 whl_turn (k:=0) PassesOwn.never (go_ (ht c hK H O s m news p) λO1 m1 n1 v1 s1 p1 q1 r1=>by
  rw[show v1=QG from r1]
  exact WhlIf.no rfl (ho c hK H O0 hb O1 s1 m1 n1 (h0.trans p1) q1))
theorem c3.step{test:Expr}{body orelse:List Stmt}{S S1 S2 S':St}{fl fb:XF}(ht:aJ GK F test S S1 QF)(hb:a8 GK n0 F body S1 S2 fb)(hf:fb= .next\/fb= .cont)(hr:c3 GK n0 F test body orelse S2 S' fl):c3 GK n0 F test body orelse S S' fl:=λc hK H O0 hB O s m news h0 p=>
 whl_turn (k:=0) PassesOwn.never (go_ (ht c hK H O s m news p) λO1 m1 n1 v1 s1 p1 q1 r1=>by
  rw[show v1=QF from r1]
  refine WhlIf.yes rfl (go_ (hb c hK H O0 hB O1 s1 m1 n1 (h0.trans p1) q1) λO2 m2 n2 v2 s2 p2 q2 r2=>?_)
  have z:=hr c hK H O0 hB O2 s2 m2 n2 p2 q2
  rcases hf with rfl|rfl
  .rw[show v2= .next from r2];exact z
  .rw[show v2= .cont from r2];exact z)
theorem c3.brk{test:Expr}{body orelse:List Stmt}{S S1 S2:St}(ht:aJ GK F test S S1 QF)(hb:a8 GK n0 F body S1 S2 .brk):c3 GK n0 F test body orelse S S2 .next:=λc hK H O0 hB O s m news h0 p=>
 whl_turn (k:=0) PassesOwn.never (go_ (ht c hK H O s m news p) λO1 m1 n1 v1 s1 p1 q1 r1=>by
  rw[show v1=QF from r1]
  refine WhlIf.yes rfl (go_ (hb c hK H O0 hB O1 s1 m1 n1 (h0.trans p1) q1) λO2 m2 n2 v2 s2 p2 q2 r2=>?_)
  rw[show v2= .brk from r2]
  exact⟨O2,m2,n2,p2,q2,rfl⟩)
theorem c3.stmt{test:Expr}{body orelse:List Stmt}{S S':St}{fl:XF}{pos:Pos}(h:c3 GK n0 F test body orelse S S' fl):lN GK n0 F (.While test body orelse pos) S S' fl:=λc hK H O0 hb O s m news h0 p=>whl_start 0 (h c hK H O0 hb O s m news h0 p)
end
def cT:Fs:=⟨tm.sc,[],4,QD⟩
def gV(ep:Nat)(p:Nat->Int)(s:Nat->List Str)(rd:List Str):List SO:=eB ep (.ref 18) p s++[.words rd]
def dS:Stmt:=nth tm.body 5
def w1:Stmt:=nth (aT dS) 1
def w2:Stmt:=nth (aT w1) 1
noncomputable def fI(V:List (Str×SV)):List (Str×SV):=V++[(QC "self", .ref 0),(QC "n2i", .ref 2),(QC "stack", .ref 19),(QC "itstack", .ref 20),(QC "seen", .ref 21),(QC "node2stacki", .ref 22)]
noncomputable def kIt(ep k:Nat):SO:= .loose "dict_keyiterator" [.ref 2, .top (.int (.ofNat k) 0), .top (.int (.ofNat 5) 0), .top (.int (.ofNat ep) 0)]
noncomputable def zT:Nat->List Nat->List SV
 |_,[]=>[]
 |t,_::r=> .ref (2*t+25)::zT (t+1) r
noncomputable def GO:Nat->List Nat->List (Str×SV)
 |_,[]=>[]
 |t,j::r=>(nm j, .int (.ofNat t))::GO (t+1) r
noncomputable def zQ(pos:Nat->Nat):Nat->List Nat->List SO
 |_,[]=>[]
 |t,j::r=>bo "list_iterator" (3*j+5) (pos j):: .fields "method-wrapper" [.top (.builtin "list_iterator.__next__"), .ref (2*t+24)]::zQ pos (t+1) r
structure Cy where
 ep:Nat
 p:Nat->Int
 s:Nat->List Str
 rd:List Str
 k:Nat
def aV(q:Cy)(js:List Nat)(Z:List Str)(pos:Nat->Nat)(V:List (Str×SV)):St:=
 ⟨fI V,gV q.ep q.p q.s q.rd++[.list (js.map λj=> .str (nm j)), .list (zT 0 js), .sset Z, .ns (GO 0 js),kIt q.ep q.k]++zQ pos 0 js⟩
noncomputable def cL(y:Str):List (Str×SV):=[(QC "node", .str y)]
set_option maxHeartbeats 2000000
theorem iT{k n:Nat}{l:List Stmt}{S S':St}{hs:List (Nat×Bool)}{orc:List Orc}{fl:XF}(C:Prop)(h:Ran (c9 (TT k F) F n l ⟨S,hs,0,[],orc⟩) S.led.length (PZ S'.led.length) S' fl=fU (c9 (TT k F) F n l ⟨S,hs,0,[],orc⟩) S.led.length (PZ S'.led.length) S' fl C)(hC:C):aa GKS F l S S' fl:=aw _ C h hC
theorem Ht{k n:Nat}{e:Expr}{S S':St}{hs:List (Nat×Bool)}{orc:List Orc}{b:Bool}(C:Prop)(h:fC (tsN (TT k F) F n e ⟨S,hs,0,[],orc⟩) S.led.length (PZ S'.led.length) S' b=dP (tsN (TT k F) F n e ⟨S,hs,0,[],orc⟩) S.led.length (PZ S'.led.length) S' b C)(hC:C):aJ GKS F e S S' b:=d4 _ C h hC
def Kn(q:Cy)(Z:List Str)(pos:Nat->Nat)(m:Nat)(js:List Nat):Prop:=af (nm m) Z=QG->ao Z.length->aa GKS cT [nth (aT w1) 0] (aV q js Z pos (cL (nm m))) (aV q (js++[m]) (Z++[nm m]) (upd pos m 0) []) .next
theorem HJ(q:Cy)(Z:List Str)(pos:Nat->Nat)(m:Nat)(hm:m<5)(js:List Nat)(hjs:js∈b5 m):Kn q Z pos m js:=λh1 h2=>
 gD cT [(0,QG)] [] (PZ (aV q (js++[m]) (Z++[nm m]) (upd pos m 0) []).led.length) (ao Z.length/\af (nm m) Z=QG/\ao Z.length/\True) (rj (E:=λm js=>sE cT [(0,QG)] [] [nth (aT w1) 0] (aV q js Z pos (cL (nm m))) (aV q (js++[m]) (Z++[nm m]) (upd pos m 0) []) .next (PZ (aV q (js++[m]) (Z++[nm m]) (upd pos m 0) []).led.length) (ao Z.length/\af (nm m) Z=QG/\ao Z.length/\True)) (by kernel_rfl) hm hjs) ⟨h2,h1,h2,QI⟩
def K5(q:Cy)(Z:List Str)(pos:Nat->Nat)(m:Nat)(js:List Nat):Prop:=af (nm m) Z=QF->ao Z.length->aa GKS cT [nth (aT w1) 0] (aV q js Z pos (cL (nm m))) (aV q js Z pos []) .next
theorem JJ(q:Cy)(Z:List Str)(pos:Nat->Nat)(m:Nat)(hm:m<5)(js:List Nat)(hjs:js∈b5 m):K5 q Z pos m js:=λh1 h2=>
 gD cT [(0,QF)] [] (PZ (aV q js Z pos []).led.length) (af (nm m) Z=QF/\ao Z.length/\True) (rj (E:=λm js=>sE cT [(0,QF)] [] [nth (aT w1) 0] (aV q js Z pos (cL (nm m))) (aV q js Z pos []) .next (PZ (aV q js Z pos []).led.length) (af (nm m) Z=QF/\ao Z.length/\True)) (by kernel_rfl) hm hjs) ⟨h1,h2,QI⟩
def Pj(q:Cy)(Z:List Str)(pos:Nat->Nat)(t:Nat)(js:List Nat):Prop:=Nat.blt (pos t) (q.s t).length=QF->aa GKS cT (aT w2) (aV q (js++[t]) Z pos []) (aV q (js++[t]) Z (upd pos t (pos t+1)) (cL ((q.s t).getD (pos t) ⟨#[]⟩))) .brk
theorem Ng(q:Cy)(Z:List Str)(pos:Nat->Nat)(m:Nat)(hm:m<5)(js:List Nat)(hjs:js∈b5 m):Pj q Z pos m js:=λh1=>
 gD cT [(0,QF)] [] (PZ (aV q (js++[m]) Z (upd pos m (pos m+1)) (cL ((q.s m).getD (pos m) ⟨#[]⟩))).led.length) (Nat.blt (pos m) (q.s m).length=QF/\True) (rj (E:=λm js=>sE cT [(0,QF)] [] (aT w2) (aV q (js++[m]) Z pos []) (aV q (js++[m]) Z (upd pos m (pos m+1)) (cL ((q.s m).getD (pos m) ⟨#[]⟩))) .brk (PZ (aV q (js++[m]) Z (upd pos m (pos m+1)) (cL ((q.s m).getD (pos m) ⟨#[]⟩))).led.length) (Nat.blt (pos m) (q.s m).length=QF/\True)) (by kernel_rfl) hm hjs) ⟨h1,QI⟩
noncomputable def ri(n:Nat):List SO:=[.any, .fields "method-wrapper" [.top (.builtin "list_iterator.__next__"), .ref (2*n+24)]]
def OA(q:Cy)(Z:List Str)(pos:Nat->Nat)(t:Nat)(js:List Nat):Prop:=Nat.blt (pos t) (q.s t).length=QG->aa GKS cT (aT w2) (aV q (js++[t]) Z pos []) ⟨fI [],(aV q js Z pos []).led++ri js.length⟩ .next
theorem LU(q:Cy)(Z:List Str)(pos:Nat->Nat)(m:Nat)(hm:m<5)(js:List Nat)(hjs:js∈b5 m):OA q Z pos m js:=λh1=>
 gD cT [(0,QG)] [] (PZ ((aV q js Z pos []).led++ri js.length).length) (Nat.blt (pos m) (q.s m).length=QG/\True) (rj (E:=λm js=>sE cT [(0,QG)] [] (aT w2) (aV q (js++[m]) Z pos []) ⟨fI [],(aV q js Z pos []).led++ri js.length⟩ .next (PZ ((aV q js Z pos []).led++ri js.length).length) (Nat.blt (pos m) (q.s m).length=QG/\True)) (by kernel_rfl) hm hjs) ⟨h1,QI⟩
theorem rI:∀(n:Nat)(js:List Nat),js∈b5 n->js=[]\/∃t js',t<n/\js'∈b5 t/\js=js'++[t]
 |0,js,h=>by simp[b5]at h;exact .inl h
 |n+1,js,h=>by
  rw[b5,Qd]at h
  rcases h with h|h
  .rcases rI n js h with h|⟨t,js',h1,h2,h3⟩
   .exact .inl h
   .exact .inr ⟨t,js',by lia,h2,h3⟩
  .obtain⟨k,hk,rfl⟩:=Qe.mp h
   exact .inr ⟨n,k,by lia,hk,rfl⟩
theorem gP:∀{n m:Nat}{js:List Nat},js∈b5 n->n<=m->js∈b5 m:=by
 intro n m js h hm
 induction m with
 |zero=>
  have:n=0:=by lia
  subst this;exact h
 |succ m ih=>
  rcases Nat.lt_or_ge n (m+1)with h1|h1
  .rw[b5,Qd];exact .inl (ih (by lia))
  .have:n=m+1:=by lia
   subst this;exact h
theorem mP{t:Nat}{js:List Nat}(h:js∈b5 t):js++[t]∈b5 (t+1):=by
 rw[b5,Qd];exact .inr (Qe.mpr ⟨js,h,rfl⟩)
def zx(q:Cy)(Z:List Str)(pos:Nat->Nat)(t:Nat)(js:List Nat):Prop:=aJ GKS cT (bj w2) (aV q (js++[t]) Z pos []) (aV q (js++[t]) Z pos []) QF
theorem JA(q:Cy)(Z:List Str)(pos:Nat->Nat)(m:Nat)(hm:m<5)(js:List Nat)(hjs:js∈b5 m):zx q Z pos m js:=
 sC cT [] [] (PZ (aV q (js++[m]) Z pos []).led.length) True (rj (E:=λm js=>tE cT [] [] (bj w2) (aV q (js++[m]) Z pos []) (aV q (js++[m]) Z pos []) QF (PZ (aV q (js++[m]) Z pos []).led.length) True) (by kernel_rfl) hm hjs) QI
theorem DQ(q:Cy)(Z:List Str)(pos:Nat->Nat):aJ GKS cT (bj w2) (aV q [] Z pos []) (aV q [] Z pos []) QG:=Ht (k:=20) (n:=nF) (hs:=[]) (orc:=[]) True (by kernel_rfl) QI
theorem JN(q:Cy)(Z:List Str)(pos:Nat->Nat):aa GKS cT (iW w2) (aV q [] Z pos []) (aV q [] Z pos []) .brk:=iT (k:=20) (n:=nF) (hs:=[]) (orc:=[]) True (by kernel_rfl) QI
def Lu(q:Cy)(Z:List Str)(pos:Nat->Nat)(js:List Nat):Prop:=et 24 (PZ (2*js.length+24)) ⟨fI [],(aV q js Z pos []).led++ri js.length⟩ (aV q js Z pos [])
theorem IL(q:Cy)(Z:List Str)(pos:Nat->Nat)(js:List Nat)(hjs:js∈b5 4):Lu q Z pos js:=
 have h1:=λ{α:Type}(L R:List Nat->α)(h:(b5 4).map L=(b5 4).map R)=>Qk.mp h js hjs
 ⟨h1 (λjs=>(PZ (2*js.length+24)).take 24) (λjs=>PZ 24) (by kernel_rfl),⟨h1 (λjs=>dI (PZ (2*js.length+24))) (λ_=>QF) (by kernel_rfl),h1 (λjs=>bI (mapLed (at_ (PZ (2*js.length+24)) ((aV q js Z pos []).led++ri js.length).length) (aV q js Z pos []).led)) (λjs=>bF ((aV q js Z pos []).led++ri js.length) (PZ (2*js.length+24))) (by kernel_rfl)⟩,h1 (λjs=>(aV q js Z pos []).loc.map λq=>(fI []).lookup q.1) (λjs=>(aV q js Z pos []).loc.map λy=>QE (aU (at_ (PZ (2*js.length+24)) ((aV q js Z pos []).led++ri js.length).length) y.2)) (by kernel_rfl)⟩
theorem Pu(q:Cy)(Z:List Str):∀(n:Nat)(pos:Nat->Nat)(js:List Nat),js.length=n->js∈b5 5->
  (∃js' t,t<5/\js'∈b5 t/\(js'++[t]) <+:js/\Nat.blt (pos t) (q.s t).length=QF/\c3 GKS 24 cT (bj w2) (aT w2) (iW w2) (aV q js Z pos []) (aV q (js'++[t]) Z (upd pos t (pos t+1)) (cL ((q.s t).getD (pos t) ⟨#[]⟩))) .next)\/
  c3 GKS 24 cT (bj w2) (aT w2) (iW w2) (aV q js Z pos []) (aV q [] Z pos []) .brk:=by
 intro n
 induction n with
 |zero=>
  intro pos js hn hj
  have:js=[]:=List.length_eq_zero_iff.mp hn
  subst this
  exact .inr (.stop (DQ q Z pos) (JN q Z pos).b)
 |succ n ih=>
  intro pos js hn hj
  rcases rI 5 js hj with rfl|⟨t,js',h1,h2,rfl⟩
  .simp at hn
  .have ht:=JA q Z pos t h1 js' h2
   unfold zx at ht
   cases hb:Nat.blt (pos t) (q.s t).length with
   |true=>
    have hh:=Ng q Z pos t h1 js' h2
    exact .inl ⟨js',t,h1,h2,P5 _,hb, .brk ht (hh hb).b⟩
   |false=>
    have hp:=LU q Z pos t h1 js' h2 hb
    have hd:=IL q Z pos js' (gP h2 (by lia))
    rcases ih pos js' (by simp at hn;lia) (gP h2 (by lia))with⟨js2,t2,a1,a2,a3,a4,a5⟩|a5
    .exact .inl ⟨js2,t2,a1,a2,a3.trans (P6 _ _),a4, .step ht hp.b (.inl rfl) (a5.pick hd)⟩
    .exact .inr (.step ht hp.b (.inl rfl) (a5.pick hd))
section
variable{GK:Frag->Prop}{n0:Nat}
theorem a8.append{l k:List Stmt}{S S1 S':St}{fl:XF}(h1:a8 GK n0 F l S S1 .next)(h2:a8 GK n0 F k S1 S' fl):a8 GK n0 F (l++k) S S' fl:=λc hK H O0 hb O s m news h0 p=>by
 rw[gO]
 refine Qv (go_ (h1 c hK H O0 hb O s m news h0 p) λO1 m1 n1 v1 s1 p1 q1 r1=>?_)
 rw[show v1=Flow.next from r1]
 exact h2 c hK H O0 hb O1 s1 m1 n1 p1 q1
end
def w1b:List Stmt:=aT w1
theorem t5:w1b=[nth (aT w1) 0]++[Stmt.While (bj w2) (aT w2) (iW w2) (lS w2)]:=by kernel_rfl
def I0(q:Cy)(Z:List Str)(pos:Nat->Nat)(m:Nat)(js:List Nat):Prop:=aJ GKS cT (bj w1) (aV q js Z pos (cL (nm m))) (aV q js Z pos (cL (nm m))) QF
theorem JS(q:Cy)(Z:List Str)(pos:Nat->Nat)(m:Nat)(hm:m<5)(js:List Nat)(hjs:js∈b5 m):I0 q Z pos m js:=
 sC cT [] [] (PZ (aV q js Z pos (cL (nm m))).led.length) True (rj (E:=λm js=>tE cT [] [] (bj w1) (aV q js Z pos (cL (nm m))) (aV q js Z pos (cL (nm m))) QF (PZ (aV q js Z pos (cL (nm m))).led.length) True) (by kernel_rfl) hm hjs) QI
def fN(q:Cy)(Z:List Str)(j:Nat):Nat:=match af (nm j) Z with
 |true=>0
 |false=>2+(q.s j).length
noncomputable def sX(f:Nat->Nat):Nat->Nat
 |0=>0
 |n+1=>sX f n+f n
theorem Fp{f g:Nat->Nat}(h:∀j,f j<=g j)(n:Nat):sX f n<=sX g n:=by
 induction n with
 |zero=>exact PX _
 |succ n ih=>exact Nat.add_le_add ih (h n)
theorem yu{f g:Nat->Nat}{m c:Nat}(h:∀j,f j<=g j)(hm:f m+c<=g m)(n:Nat)(hn:m<n):sX f n+c<=sX g n:=by
 induction n with
 |zero=>exact absurd hn (Nat.not_lt_zero m)
 |succ n ih=>exact(Nat.lt_or_eq_of_le (Nat.le_of_lt_succ hn)).elim (λa=>(Nat.add_right_comm _ _ _).symm▸Nat.add_le_add (ih a) (h n)) λa=>Nat.add_assoc _ _ _▸Nat.add_le_add (Fp h n) (a▸hm)
theorem Do{f:Nat->Nat}{c:Nat}(h:∀j,f j<=c)(n:Nat):sX f n<=n*c:=by
 induction n with
 |zero=>exact Nat.zero_le _
 |succ n ih=>exact Nat.succ_mul n c▸Nat.add_le_add ih (h n)
def aS(q:Cy)(Z:List Str):Nat:=sX (fN q Z) 5
noncomputable def cH(q:Cy)(pos:Nat->Nat):List Nat->Nat
 |[]=>0
 |j::r=>(1+(q.s j).length-pos j)+cH q pos r
theorem eN(q:Cy)(pos:Nat->Nat):∀a b:List Nat,cH q pos (a++b)=cH q pos a+cH q pos b
 |[],b=>by simp[cH]
 |j::r,b=>by simp only[List.cons_append,cH,eN q pos r b];lia
theorem fq(y:Str):∀(a b:List Str),af y (a++b)=(af y a||af y b)
 |[],b=>rfl
 |z::r,b=>by
  simp only[List.cons_append,af]
  cases aQ z y with
  |true=>rfl
  |false=>exact fq y r b
theorem yx(q:Cy)(Z:List Str)(y:Str)(j:Nat):fN q (Z++[y]) j<=fN q Z j:=by
 unfold fN
 rw[fq]
 cases af (nm j) Z with
 |true=>exact PX _
 |false=>rw[Bool.false_or];split<;>lia
theorem sM(q:Cy)(Z:List Str)(m:Nat)(h:af (nm m) Z=QG):fN q (Z++[nm m]) m+(2+(q.s m).length)=fN q Z m:=by
 unfold fN
 rw[fq,h]
 have:af (nm m) [nm m]=QF:=by rw[dC];simp
 rw[this];simp
theorem kN(q:Cy)(Z:List Str)(m:Nat)(hm:m<5)(h:af (nm m) Z=QG):aS q (Z++[nm m])+(2+(q.s m).length)<=aS q Z:=yu (yx q Z (nm m)) (Nat.le_of_eq (sM q Z m h)) 5 hm
theorem eY:∀(n:Nat)(js:List Nat),js∈b5 n->∀j∈js,j<n
 |0,js,h,j,hj=>by simp[b5]at h;subst h;simp at hj
 |n+1,js,h,j,hj=>by
  rw[b5,Qd]at h
  rcases h with h|h
  .exact Nat.lt_succ_of_lt (eY n js h j hj)
  .obtain⟨k,hk,rfl⟩:=Qe.mp h
   rcases Qd.mp hj with hj|hj
   .exact Nat.lt_succ_of_lt (eY n k hk j hj)
   .simp at hj;lia
theorem hY(q:Cy)(pos:Nat->Nat)(t v:Nat):∀js:List Nat,t∉js->cH q (upd pos t v) js=cH q pos js
 |[],_=>rfl
 |j::r,h=>by
  rw[Qb,not_or]at h
  unfold cH
  rw[hY q pos t v r h.2]
  have:upd pos t v j=pos j:=by
   unfold upd
   cases e:Nat.beq j t with
   |true=>exact absurd (PV e).symm h.1
   |false=>rfl
  rw[this]
theorem FS{t:Nat}{y:Str}(h:y∈nms.drop (t+1)):∃m,t<m/\m<5/\y=nm m:=
 hM (P:=λt y=>∃m,t<m/\m<5/\y=nm m) h ⟨1,by decide,by decide,rfl⟩ ⟨2,by decide,by decide,rfl⟩ ⟨3,by decide,by decide,rfl⟩ ⟨4,by decide,by decide,rfl⟩ ⟨2,by decide,by decide,rfl⟩ ⟨3,by decide,by decide,rfl⟩ ⟨4,by decide,by decide,rfl⟩ ⟨3,by decide,by decide,rfl⟩ ⟨4,by decide,by decide,rfl⟩ ⟨4,by decide,by decide,rfl⟩
theorem rE{α:Type}(p:Nat->α)(j:Nat)(v:α):upd p j v j=v:=by unfold upd;rw[Nat.beq_refl]
theorem vB(q:Cy)(pos:Nat->Nat){a b:List Nat}(h:a <+:b):cH q pos a<=cH q pos b:=by
 obtain⟨r,rfl⟩:=h
 rw[eN];lia
theorem N7(q:Cy)(hs:∀j,∀y∈q.s j,y∈nms.drop (j+1)):∀(n m:Nat)(js:List Nat)(Z:List Str)(pos:Nat->Nat),m<5->js∈b5 m->aS q Z+cH q pos js<n->Z.length+n<=1000->
  ∃Z' pos',c3 GKS 24 cT (bj w1) w1b (iW w1) (aV q js Z pos (cL (nm m))) (aV q [] Z' pos' []) .next/\Z'.length+aS q Z'<=Z.length+n:=by
 intro n
 induction n with
 |zero=>intro m js Z pos hm hj hn;lia
 |succ n ih=>
  intro m js Z pos hm hj hn hz
  have ht:=JS q Z pos m hm js hj
  have go:∀(js1:List Nat)(Z1:List Str)(pos1:Nat->Nat),js1∈b5 5->aa GKS cT [nth (aT w1) 0] (aV q js Z pos (cL (nm m))) (aV q js1 Z1 pos1 []) .next->aS q Z1+cH q pos1 js1<=n->Z1.length+n<=Z.length+(n+1)->
    ∃Z' pos',c3 GKS 24 cT (bj w1) w1b (iW w1) (aV q js Z pos (cL (nm m))) (aV q [] Z' pos' []) .next/\Z'.length+aS q Z'<=Z.length+(n+1):=by
   intro js1 Z1 pos1 hj1 h1 hn1 hz1
   rcases Pu q Z1 js1.length pos1 js1 rfl hj1 with⟨js',t,a1,a2,a3,a4,a5⟩|a5
   .have hlt:pos1 t<(q.s t).length:=by
     have:=PT (show Nat.ble (pos1 t+1) (q.s t).length=QF from a4)
     lia
    have hy:(q.s t).getD (pos1 t) ⟨#[]⟩∈q.s t:=by rw[List.getD_eq_getElem?_getD,P9 hlt];exact List.getElem_mem hlt
    obtain⟨m',b1,b2,b3⟩:=FS (hs t _ hy)
    rw[b3]at a5
    have hnt:t∉js':=λh=>Nat.lt_irrefl _ (eY t js' a2 t h)
    have e1:cH q (upd pos1 t (pos1 t+1)) (js'++[t])<cH q pos1 (js'++[t]):=by
     rw[eN,eN,hY q pos1 t _ js' hnt]
     simp only[cH,rE]
     lia
    have e2:=vB q pos1 a3
    obtain⟨Z',pos',c1,c2⟩:=ih m' (js'++[t]) Z1 (upd pos1 t (pos1 t+1)) b2 (gP (mP a2) (by lia)) (by lia) (by lia)
    refine⟨Z',pos', .step ht ?_ (.inl rfl) c1,by lia⟩
    rw[t5]
    exact h1.b.append (.cons a5.stmt .nil)
   .refine⟨Z1,pos1, .brk ht ?_,by lia⟩
    rw[t5]
    exact h1.b.append (.stop a5.stmt (.inl rfl))
  have hl:ao Z.length:=PU (by lia)
  cases hb:af (nm m) Z with
  |true=>exact go js Z pos (gP hj (by lia)) (JJ q Z pos m hm js hj hb hl) (by lia) (by lia)
  |false=>
   have hu:=kN q Z m hm hb
   have hnt:m∉js:=λh=>Nat.lt_irrefl _ (eY m js hj m h)
   refine go (js++[m]) (Z++[nm m]) (upd pos m 0) (gP (mP hj) (by lia)) (HJ q Z pos m hm js hj hb hl) ?_ (by simp;lia)
   rw[eN,hY q pos m 0 js hnt]
   simp only[cH,rE]
   lia
theorem aa.stopA{GK:Frag->Prop}{l k:List Stmt}{S S':St}(h1:aa GK F l S S' .cont):aa GK F (l++k) S S' .cont:=λc hK H O s m news p=>by
 rw[gO]
 refine Qv (go_ (h1 c hK H O s m news p) λO1 m1 n1 v1 s1 p1 q1 r1=>?_)
 rw[show v1=Flow.cont from r1]
 exact Qx ⟨O1,m1,n1,p1,q1,rfl⟩
theorem Dx:w1= .While (bj w1) w1b (iW w1) (lS w1):=by kernel_rfl
def G3(q:Cy)(Z:List Str)(pos:Nat->Nat)(m:Nat):Prop:=(af (nm m) Z=QF->ao Z.length->aa GKS cT [nth (aT dS) 0] (aV q [] Z pos (cL (nm m))) (aV q [] Z pos []) .cont)/\(af (nm m) Z=QG->ao Z.length->aa GKS cT [nth (aT dS) 0] (aV q [] Z pos (cL (nm m))) (aV q [] Z pos (cL (nm m))) .next)
theorem HM(q:Cy)(Z:List Str)(pos:Nat->Nat):∀m,m<5->G3 q Z pos m:=by
 intro m hm
 refine cg (P:=G3 q Z pos) hm ?_ ?_ ?_ ?_ ?_
 all_goals exact⟨λh1 h2=>iT (k:=20) (n:=nF) (hs:=[(0,QF)]) (orc:=[]) ((_:Prop)/\ao Z.length/\True) (by kernel_rfl) ⟨h1,h2,QI⟩,λh1 h2=>iT (k:=20) (n:=nF) (hs:=[(0,QG)]) (orc:=[]) ((_:Prop)/\ao Z.length/\True) (by kernel_rfl) ⟨h1,h2,QI⟩⟩
theorem IQ(q:Cy)(hs:∀j,∀y∈q.s j,y∈nms.drop (j+1))(m:Nat)(hm:m<5)(Z:List Str)(pos:Nat->Nat)(hz:Z.length+aS q Z<900):∃Z' pos' fl,(fl= .next\/fl= .cont)/\aa GKS cT (aT dS) (aV q [] Z pos (cL (nm m))) (aV q [] Z' pos' []) fl/\Z'.length+aS q Z'<=Z.length+aS q Z+1:=by
 have hb:aT dS=[nth (aT dS) 0]++[w1]:=by kernel_rfl
 rw[hb]
 obtain⟨h1,h2⟩:=HM q Z pos m hm
 have hl:ao Z.length:=PU (by lia)
 cases hs':af (nm m) Z with
 |true=>
  refine⟨Z,pos, .cont, .inr rfl,?_,by lia⟩
  exact(h1 hs' hl).stopA
 |false=>
  obtain⟨Z',pos',k1,k2⟩:=N7 q hs (aS q Z+1) m [] Z pos hm (gP (n:=0) (by simp[b5]) (Nat.zero_le _)) (by simp[cH]) (by lia)
  refine⟨Z',pos', .next, .inl rfl,(h2 hs' hl).append (.cons ?_ .nil),by lia⟩
  rw[Dx]
  exact lN.hold k1.stmt rfl
noncomputable def Cy.at(q:Cy)(k:Nat):Cy:=⟨q.ep,q.p,q.s,q.rd,k⟩
def NH(q:Cy)(Z:List Str)(pos:Nat->Nat)(k:Nat):Prop:=ay GKS cT 23 (aV (q.at k) [] Z pos []) (aV (q.at (k+1)) [] Z pos []) (QE (.str (nm k)))/\aC GKS cT (bg dS) (.str (nm k)) (aV (q.at (k+1)) [] Z pos []) (aV (q.at (k+1)) [] Z pos (cL (nm k)))
theorem Kp(q:Cy)(Z:List Str)(pos:Nat->Nat):∀k,k<5->NH q Z pos k:=by
 intro k hk
 have ht:bg dS= .Name (QC "node") (bg dS).pos:=by kernel_rfl
 unfold NH
 rw[ht]
 refine cg (P:=λk=>ay GKS cT 23 (aV (q.at k) [] Z pos []) (aV (q.at (k+1)) [] Z pos []) (QE (.str (nm k)))/\aC GKS cT (.Name (QC "node") (bg dS).pos) (.str (nm k)) (aV (q.at (k+1)) [] Z pos []) (aV (q.at (k+1)) [] Z pos (cL (nm k)))) hk ?_ ?_ ?_ ?_ ?_
 all_goals exact⟨ay.ran (x1:=⟨aV (q.at _) [] Z pos [],[],0,[5=5/\q.ep=q.ep],[]⟩) (by kernel_rfl) rfl ⟨⟨rfl,rfl⟩,QI⟩,assign_k (by kernel_rfl)⟩
def DK(q:Cy)(Z:List Str):St:=⟨fI [],gV q.ep q.p q.s q.rd++[.list [], .list [], .sset Z, .ns [], .any]⟩
theorem BA(q:Cy)(Z:List Str)(pos:Nat->Nat):ay GKS cT 23 (aV (q.at 5) [] Z pos []) (DK q Z) QD:=ay.ran (x1:=⟨DK q Z,[],0,[5=5/\q.ep=q.ep],[]⟩) (by kernel_rfl) rfl ⟨⟨rfl,rfl⟩,QI⟩
theorem Ay(q:Cy)(hs:∀j,∀y∈q.s j,y∈nms.drop (j+1)):∀(d k:Nat),k+d=5->∀(Z:List Str)(pos:Nat->Nat),Z.length+aS q Z+d<900->∃Z',dQ GKS cT 23 (bg dS) (aT dS) [] (DK q Z') .next (d+1) (aV (q.at k) [] Z pos [])
 |0,k,hk,Z,pos,hz=>by
  have:k=5:=by lia
  subst this
  exact⟨Z, .done (BA q Z pos) .nil⟩
 |d+1,k,hk,Z,pos,hz=>by
  obtain⟨k1,k2⟩:=Kp q Z pos k (by lia)
  obtain⟨Z',pos',fl,hf,hb,hl⟩:=IQ (q.at (k+1)) hs k (by lia) Z pos (by show Z.length+aS q Z<900;lia)
  have hl':Z'.length+aS q Z'<=Z.length+aS q Z+1:=hl
  obtain⟨Z2,h2⟩:=Ay q hs d (k+1) (by lia) Z' pos' (by lia)
  exact⟨Z2, .step k1 k2 hb hf h2⟩
theorem Dd(ep:Nat)(p:Nat->Int)(s:Nat->List Str)(rd:List Str)(hs:∀j,∀y∈s j,y∈nms.drop (j+1))(hl:aS ⟨ep,p,s,rd,0⟩ []+5<900):ab GKS 4 157 (gV ep p s rd) [.ref 0] (gV ep p s rd) .none:=by
 obtain⟨Z',hr⟩:=Ay ⟨ep,p,s,rd,0⟩ hs 5 0 rfl [] (λ_=>0) (by simpa using hl)
 refine ab.plain (e:=tm) (fl:= .ret .none) (b:=[(QC "self", .ref 0)]) (S':=⟨[],gV ep p s rd⟩) (λK⟨P,hP⟩=>hP▸Mo P) (by kernel_rfl) (by kernel_rfl) (by kernel_rfl) ?_ rfl (.inl rfl)
 have hb:tm.body=tm.body.take 5++(dS::tm.body.drop 6):=by kernel_rfl
 rw[hb]
 refine a8.hold (n0:=19) ?_ rfl
 refine a8.append (S1:=⟨fI [],gV ep p s rd++[.list [], .list [], .sset [], .ns []]⟩) (iT (k:=20) (n:=nF) (hs:=[]) (orc:=[]) True (by kernel_rfl) QI).b ?_
 refine a8.cons (S1:=⟨fI [],gV ep p s rd++[.list [], .list [], .sset Z', .ns []]⟩) (ae.b (ey (ae.for_ (it:=23) (a:= .ref 2) (S1:=⟨fI [],gV ep p s rd++[.list [], .list [], .sset [], .ns []]⟩) (pk:=PZ 23) (S3:=DK ⟨ep,p,s,rd,0⟩ Z') ?_ ?_ hr (λ_ _=>rfl) (λ_ _=>rfl) ?_) (by kernel_rfl))) ?_
 .exact bp (k:=20) (n:=nF) (hs:=[]) (orc:=[]) (PZ 23) True (by kernel_rfl) QI
 .exact aI.ran (x1:=⟨aV (Cy.at ⟨ep,p,s,rd,0⟩ 0) [] [] (λ_=>0) [],[],0,[],[]⟩) (by kernel_rfl) rfl QI
 .exact⟨by kernel_rfl,⟨by kernel_rfl,by kernel_rfl⟩,by kernel_rfl⟩
 .refine a8.pick (pk:=PZ 19) (S1:=⟨[],gV ep p s rd⟩) ?_ ⟨by kernel_rfl,⟨by kernel_rfl,by kernel_rfl⟩,by kernel_rfl⟩
  exact(iT (k:=20) (n:=nF) (hs:=[]) (orc:=[]) True (by kernel_rfl) QI).b
theorem EA(ep:Nat)(p:Nat->Int)(s:Nat->List Str)(hs:∀j,∀y∈s j,y∈nms.drop (j+1))(hl:aS ⟨ep,p,s,bz p 5,0⟩ []+5<900):aa GKS FD v7.body ⟨[(QC "self", .ref 0)],eB ep .none p s⟩ ⟨[],gV ep p s (bz p 5)⟩ .next:=
 aw (k:=20) (n:=nF) (hs:=[]) (orc:=[.expr (iq cS) ⟨[(QC "self", .ref 0)],eB ep .none p s++[.words (bz p 5)]⟩ (.ref 18), .call 157 (PZ 19) (gV ep p s (bz p 5)) [.ref 0] (gV ep p s (bz p 5)) .none]) (PZ 19)
  (dF (PZ 19) (gV ep p s (bz p 5)) (gV ep p s (bz p 5))/\([SV.ref 0]=[SV.ref 0])/\(([]:List (Str×SV))=[])/\ab GKS 4 157 (gV ep p s (bz p 5)) [.ref 0] (gV ep p s (bz p 5)) .none/\ah GKS FD cS ⟨[(QC "self", .ref 0)],eB ep .none p s⟩ ⟨[(QC "self", .ref 0)],eB ep .none p s++[.words (bz p 5)]⟩ (.ref 18)/\True) (by kernel_rfl)
  ⟨⟨by kernel_rfl,by kernel_rfl⟩,rfl,rfl,Dd ep p s _ hs hl,E0 ep p s,QI⟩
def zu(p:Nat->Int)(s:Nat->List Str):List SO:=[.inst 167 1,nsS .none 0 0, .ns Fv]++sd p s
theorem zc{fs:List (Str×SV)}{ep:Nat}:bE (.nsE fs ep) (.ns fs):=λP O ob⟨es,h⟩=>⟨es,ep,h⟩
theorem EB(p:Nat->Int)(s:Nat->List Str)(hs:∀j,∀y∈s j,y∈nms.drop (j+1))(hl:∀ep,aS ⟨ep,p,s,bz p 5,0⟩ []+5<900):ab GKS 6 122 (zu p s) [.ref 0] (bO 0 0 p s (bz p 5)) .none:=by
 refine ab.plain (e:=v7) (fl:= .next) (b:=[(QC "self", .ref 0)]) (S':=⟨[],bO 0 0 p s (bz p 5)⟩) (λK⟨P,hP⟩=>hP▸KA P) (by kernel_rfl) (by kernel_rfl) (by kernel_rfl) ?_ rfl (.inr ⟨rfl,rfl⟩)
 refine aa.open_ns (k:=2) (fs:=Fv) rfl λep=>?_
 refine aa.soft (EA ep p s hs (hl ep)) ⟨rfl,?_⟩
 exact .cons (bE.refl _) (.cons (bE.refl _) (.cons zc (br.refl _)))
def F51:Fs:=⟨e51.sc,[],4,QD⟩
noncomputable def S51(ys zs ms:List Str)(V:List (Str×SV)):St:=⟨[(QC "expected", .ref 0),(QC "actual", .ref 1),(QC "missing", .ref 2)]++V,[.words ys, .words zs, .words ms]⟩
theorem Bf(ys zs ms:List Str)(h:ao ys.length):aJ GKS F51 (bj (nth e51.body 1)) (S51 ys zs ms []) (S51 ys zs ms []) (!ys.isEmpty):=d4 (k:=20) (n:=nF) (hs:=[]) (orc:=[]) [0,1,2] (ao ys.length/\True) (by kernel_rfl) ⟨h,QI⟩
noncomputable def jQ(ys:List Str):Str:=ys.getLast?.getD ⟨#[]⟩
theorem M3(ys zs ms:List Str)(h:af (jQ ys) zs=QF)(h1:ao zs.length)(h2:(Nat.ble ys.length 1000&&!ys.isEmpty)=QF):aa GKS F51 (aT (nth e51.body 1)) (S51 ys zs ms []) (S51 ys.dropLast (dm (jQ ys) zs) ms []) .next:=
 aw (k:=20) (n:=nF) (hs:=[(0,QF)]) (orc:=[]) [0,1,2] (af (jQ ys) zs=QF/\ao zs.length/\(Nat.ble ys.length 1000&&!ys.isEmpty)=QF/\True) (by kernel_rfl) ⟨h,h1,h2,QI⟩
theorem Jm(ys zs ms:List Str)(h0:ao ms.length)(h:af (jQ ys) zs=QG)(h1:ao zs.length)(h2:(Nat.ble ys.length 1000&&!ys.isEmpty)=QF):aa GKS F51 (aT (nth e51.body 1)) (S51 ys zs ms []) (S51 ys.dropLast zs (ms++[jQ ys]) []) .next:=
 aw (k:=20) (n:=nF) (hs:=[(0,QG)]) (orc:=[]) [0,1,2] (ao ms.length/\af (jQ ys) zs=QG/\ao zs.length/\(Nat.ble ys.length 1000&&!ys.isEmpty)=QF/\True) (by kernel_rfl) ⟨h0,h,h1,h2,QI⟩
noncomputable def ik:List Str->List Str->List Str->List Str×List Str
 |[],zs,ms=>(ms,zs)
 |y::r,zs,ms=>cond (af y zs) (ik r (dm y zs) ms) (ik r zs (ms++[y]))
theorem md(y:Str)(zs:List Str):(dm y zs).length<=zs.length:=by
 induction zs with
 |nil=>exact PX _
 |cons z r ih=>
  show(cond (aQ z y) r (z::dm y r)).length<=r.length+1
  cases aQ z y with
  |true=>exact Nat.le_succ _
  |false=>exact Nat.succ_le_succ ih
theorem Fk{r:List Str}:∀(zs ms:List Str),r.length+ms.length<=1000->zs.length<=1000->dJ GKS F51 (bj (nth e51.body 1)) (aT (nth e51.body 1)) (iW (nth e51.body 1)) (S51 r.reverse zs ms []) (S51 [] (ik r zs ms).2 (ik r zs ms).1 []) .next:=by
 induction r with
 |nil=>exactλzs ms _ _=> .stop (Bf [] zs ms rfl) .nil
 |cons y r ih=>
  intro zs ms h1 h2
  have h1:r.length+1+ms.length<=1000:=h1
  have hr:(y::r).reverse=r.reverse++[y]:=List.reverse_cons
  rw[hr]
  have he:(r.reverse++[y]).isEmpty=QG:=by cases r.reverse<;>rfl
  have hl:ao (r.reverse++[y]).length:=PU (by rw[Qf,List.length_reverse];exact PW (Nat.le_add_right _ _) h1)
  have hlast:jQ (r.reverse++[y])=y:=by unfold jQ;rw[List.getLast?_concat];rfl
  have ht:=Bf (r.reverse++[y]) zs ms hl
  rw[he]at ht
  have hb2:(Nat.ble (r.reverse++[y]).length 1000&&!(r.reverse++[y]).isEmpty)=QF:=by rw[he];exact Qo.mpr ⟨hl,rfl⟩
  show dJ GKS F51 _ _ _ _ (S51 [] (cond (af y zs) (ik r (dm y zs) ms) (ik r zs (ms++[y]))).2 (cond (af y zs) (ik r (dm y zs) ms) (ik r zs (ms++[y]))).1 []) .next
  cases hs:af y zs with
  |true=>
   have hh:=M3 (r.reverse++[y]) zs ms (hlast.symm▸hs) (PU h2) hb2
   rw[hlast,List.dropLast_concat]at hh
   exact .step ht hh (.inl rfl) (ih (dm y zs) ms (PW (Nat.add_le_add_right (Nat.le_succ _) _) h1) (PW (md y zs) h2))
  |false=>
   have hh:=Jm (r.reverse++[y]) zs ms (PU (PW (Nat.le_add_left _ _) h1)) (hlast.symm▸hs) (PU h2) hb2
   rw[hlast,List.dropLast_concat]at hh
   exact .step ht hh (.inl rfl) (ih zs (ms++[y]) (by rw[Qf];show r.length+(ms.length+1)<=1000;lia) h2)
theorem J3(ys zs:List Str):ae GKS F51 (nth e51.body 0) ⟨[(QC "actual", .ref 1),(QC "expected", .ref 0)],[.words ys, .words zs]⟩ (S51 ys zs [] []) .next:=
 (hV (S':=⟨(S51 ys zs [] []).loc,[.words ys, .words zs, .list []]⟩) (k:=20) (n:=nF) (hs:=[]) (orc:=[]) [0,1,2] True (by kernel_rfl) QI).soft (qG (k:=2) rfl (bt []))
theorem M9(ys zs ms:List Str):aa GKS F51 [nth e51.body 2] (S51 ys zs ms []) ⟨[],[.words ys, .words zs, .words ms, .tup [.ref 2, .ref 1]]⟩ (.ret (.ref 3)):=aw (k:=20) (n:=nF) (hs:=[]) (orc:=[]) [0,1,2,3] True (by kernel_rfl) QI
def cR(ys zs:List Str):List Str×List Str:=ik ys.reverse zs []
theorem B3(ys zs:List Str)(h1:ys.length<=1000)(h2:zs.length<=1000):ab GKS 4 51 [.words ys, .words zs] [.ref 0, .ref 1] [.words [], .words (cR ys zs).2, .words (cR ys zs).1, .tup [.ref 2, .ref 1]] (.ref 3):=by
 have hw:=Fk (r:=ys.reverse) zs [] (by simpa using h1) h2
 rw[List.reverse_reverse]at hw
 refine ab.plain (e:=e51) (fl:= .ret (.ref 3)) (b:=[(QC "expected", .ref 0),(QC "actual", .ref 1)]) (S':=⟨[],[.words [], .words (cR ys zs).2, .words (cR ys zs).1, .tup [.ref 2, .ref 1]]⟩) (λK⟨P,hP⟩=>hP▸OB P) (by kernel_rfl) (by kernel_rfl) (by kernel_rfl) ?_ rfl (.inl rfl)
 have:e51.body=[nth e51.body 0, .While (bj (nth e51.body 1)) (aT (nth e51.body 1)) (iW (nth e51.body 1)) (lS (nth e51.body 1)),nth e51.body 2]:=by kernel_rfl
 rw[this]
 exact .cons (J3 ys zs) (.cons hw.stmt (M9 _ _ _))
noncomputable def nsB(rd:SV)(po fi:Int):SO:= .ns [(QC "_node2info", .ref 10),(QC "_ready_nodes",rd),(QC "_npassedout", .int po),(QC "_nfinished", .int fi)]
structure Srt where
 po:Int
 fi:Int
 p:Nat->Int
 rd:List Str
def ph(q:Srt)(s:Nat->List Str):List SO:=[.inst 167 9,nsB (.ref 26) q.po q.fi, .ns Kt]++Be q.p s++[.words q.rd]
noncomputable def pkS:List Nat:=[8,9,10,11,12,13,14,15,16,17,18,19,20,21,22,23,24,25,26]
def ek(q:Srt)(s:Nat->List Str):List SO:=bO q.po q.fi q.p s q.rd
noncomputable def nz:Nat->SO
 |0=> .cell QD
 |k+1=> .cell (QE (.ref (30+5*k)))
noncomputable def cY:Nat->Nat
 |0=>27
 |k+1=>34+5*k
noncomputable def mT:Nat->List SV
 |0=>[]
 |k+1=>mT k++[.ref (33+5*k)]
abbrev Ent:=Nat->List Str×List Str
noncomputable def lU(e:Ent)(k:Nat)(w:SO):List SO:=[.any, .words (e k).1, .words (e k).2, .tup [.ref (31+5*k), .ref (32+5*k)],w]
noncomputable def oD(e:Ent):Nat->List SO
 |0=>[]
 |k+1=>oD e k++lU e k .any
def xy(e:Ent)(w:List Str):Nat->List SO
 |0=>[]
 |k+1=>oD e k++lU e k (.words w)
noncomputable def w0T(w:List Str):Nat->SO
 |0=> .words w
 |_+1=> .any
def fO(V:List (Str×SV))(k:Nat):List (Str×SV):=V++[(QC "rows", .ref 0),(QC "lines", .ref 6),(QC "sorter", .ref 8),(QC "waits", .ref (cY k)),(QC "told", .ref 28)]
structure Tq where
 rs:Nat->List Str
 lines:List Str
 s:Nat->List Str
def xO(z:Tq)(it:Nat)(cell:SO)(q:Srt)(w0:SO)(refs:List SV)(old:List SO):List SO:=
 cZ z.rs z.lines++[cell]++ph q z.s++[w0, .list refs,bo "list_iterator" 6 it]++old
def ST(z:Tq)(k it:Nat)(q:Srt)(w:List Str)(e:Ent)(V:List (Str×SV)):St:=⟨fO V k,xO z it (nz k) q (w0T w k) (mT k) (xy e w k)⟩
def SA(z:Tq)(k:Nat)(q:Srt)(w:List Str)(e:Ent)(l a b:List Str):St:=
 ⟨fO [] k,xO z (k+1) (nz (k+1)) q (w0T w k) (mT (k+1)) (xy e w k++[.words l, .words a, .words b, .tup [.ref (31+5*k), .ref (32+5*k)]])⟩
def bT:List Stmt:=aT (nth cJ.body 5)
def oSp(ns:List Str):Orc:= .call 871 [] [] [.str (cu ns)] [.words ns] (.ref 0)
def oUl(w ns:List Str):Orc:= .call 51 [] [.words w, .words ns] [.ref 0, .ref 1] [.words [], .words (cR w ns).2, .words (cR w ns).1, .tup [.ref 2, .ref 1]] (.ref 3)
def lnV(ns:List Str):List (Str×SV):=[(QC "line", .str (cu ns))]
def OC(lvl:Nat)(f:Addr)(pk:List Nat)(Sin led:List SO)(args vs:List SV)(Sout:List SO)(ret:SV)(r:Prop):Prop:=dF pk Sin led/\(vs=vs)/\(([]:List (Str×SV))=[])/\ab GKS lvl f Sin args Sout ret/\r
theorem gm{lvl:Nat}{f:Addr}{pk:List Nat}{Sin led:List SO}{args vs:List SV}{Sout:List SO}{ret:SV}{r:Prop}(h1:dF pk Sin led)(h2:ab GKS lvl f Sin args Sout ret)(h3:r):OC lvl f pk Sin led args vs Sout ret r:=⟨h1,rfl,rfl,@h2,h3⟩
def TPa(z:Tq)(k:Nat)(q:Srt)(w ns:List Str)(e:Ent):Prop:=Wh (aa GKS bH (bT.take 3) (ST z k (k+1) q w e (lnV ns)) (SA z k q w e (cR w ns).1 (a7 (cR w ns).1) (a7 (cR w ns).2)) .next)
noncomputable def slO:SO:= .fields "slice" [.none, .none, .none]
def CA(z:Tq)(k:Nat)(q:Srt)(w ns:List Str)(e:Ent):Prop:=
 Nat.blt (cR w ns).2.length 64=QF/\Nat.blt (cR w ns).1.length 64=QF/\
 OC 22 51 [32+5*k,34+5*k] [.words w, .words ns] ((ST z k (k+1) q w e []).led++[.words ns,slO, .words w,slO, .words ns]) [.ref 0, .ref 1] [.ref (32+5*k), .ref (34+5*k)] [.words [], .words (cR w ns).2, .words (cR w ns).1, .tup [.ref 2, .ref 1]] (.ref 3)
  (ao ns.length/\ao w.length/\OC 22 871 [] [] (ST z k (k+1) q w e []).led [.str (cu ns)] [.str (cu ns)] [.words ns] (.ref 0) True)
noncomputable def Jk(k:Nat):List Nat:=PZ (30+5*k)++[35+5*k,37+5*k,38+5*k,39+5*k]
def gZ(n0:Nat)(pk:List Nat)(S1 S':St):=(pk.take n0,dI pk,bI (mapLed (at_ pk S1.led.length) S'.led),S'.loc.map λq=>S1.loc.lookup q.1)
def g8(n0:Nat)(pk:List Nat)(S1 S':St):=(PZ n0,QF,bF S1.led pk,S'.loc.map λq=>QE (aU (at_ pk S1.led.length) q.2))
theorem fP{n0:Nat}{pk:List Nat}{S1 S':St}(h:gZ n0 pk S1 S'=g8 n0 pk S1 S'):et n0 pk S1 S':=⟨QJ (·.1) h,⟨QJ (·.2.1) h,QJ (·.2.2.1) h⟩,QJ (·.2.2.2) h⟩
def Kx(q:Srt)(z:Tq)(w ns:List Str)(e:Ent)(k:Nat):=(Ran (c9 (TT 20 bH) bH nF (bT.take 3) ⟨ST z k (k+1) q w e (lnV ns),[],0,[],[oSp ns,oUl w ns]⟩) (ST z k (k+1) q w e (lnV ns)).led.length (Jk k) (SA z k q w e (cR w ns).1 (a7 (cR w ns).1) (a7 (cR w ns).2)) .next,dI [32+5*k,34+5*k],bI (mapLed (at_ [32+5*k,34+5*k] ((ST z k (k+1) q w e []).led++[.words ns,slO, .words w,slO, .words ns]).length) [.words w, .words ns]))
def Pb(q:Srt)(z:Tq)(w ns:List Str)(e:Ent)(k:Nat):type_of% (Kx q z w ns e k):=(fU (c9 (TT 20 bH) bH nF (bT.take 3) ⟨ST z k (k+1) q w e (lnV ns),[],0,[],[oSp ns,oUl w ns]⟩) (ST z k (k+1) q w e (lnV ns)).led.length (Jk k) (SA z k q w e (cR w ns).1 (a7 (cR w ns).1) (a7 (cR w ns).2)) .next (CA z k q w ns e),QF,bF ((ST z k (k+1) q w e []).led++[.words ns,slO, .words w,slO, .words ns]) [32+5*k,34+5*k])
theorem HH(z:Tq){k:Nat}(hk:k<7)(q:Srt)(w ns:List Str)(e:Ent)(h0:ns≠[])(hn:∀y∈ns,y∈nms)(hl:ns.length<=20)(hw:w.length<=20)(h1:(cR w ns).1.length<64)(h2:(cR w ns).2.length<64):TPa z k q w ns e:=by
 have h:=eqR (L:=Kx q z w ns e) (R:=Pb q z w ns e) (n:=7) (by kernel_rfl) k hk
 exact Wh.mk (@aw _ 20 nF _ _ _ [] [oSp ns,oUl w ns] _ (Jk k) (CA z k q w ns e) (QJ (·.1) h) ⟨Nat.blt_eq.mpr h2,Nat.blt_eq.mpr h1,gm ⟨QJ (·.2.1) h,QJ (·.2.2) h⟩ (ab.mono (B3 w ns (by lia) (by lia)) (by decide)) ⟨PU (by lia),PU (by lia),gm ⟨rfl,rfl⟩ (ab.mono (sq ns h0 hn (by lia)) (by decide)) QI⟩⟩)
def LA(z:Tq)(k:Nat)(q:Srt)(w:List Str)(e:Ent)(l a b:List Str):List SO:=(SA z k q w e l a b).led
def ME:Expr:=bj (nth bT 3)
def zp:Expr:=match ME with
 |.Call _ [.Starred x _] _ _=>x
 |x=>x
noncomputable def mtO:SO:= .fields "method" [.top (.ref 150), .ref 8]
def SB1(z:Tq)(k:Nat)(q:Srt)(w:List Str)(e:Ent)(l a b:List Str):St:=⟨fO [] k,LA z k q w e l a b++[mtO]⟩
def SB2(z:Tq)(k:Nat)(q:Srt)(w:List Str)(e:Ent)(l a b d:List Str):St:=⟨fO [] k,LA z k q w e l a b++[mtO, .words d]⟩
def oCm(z:Tq)(k:Nat)(q:Srt)(w:List Str)(e:Ent)(l a b d:List Str):Orc:= .expr (iq zp) (SB2 z k q w e l a b d) (.ref (35+5*k))
def oDn(z:Tq)(q q':Srt)(d:List Str):Orc:= .call 150 pkS (ek q z.s) (.ref 0::d.map .str) (ek q' z.s++[.wtup d]) .none
def scC:Scope:=match zp with
 |.ListComp _ _ s _=>s
 |_=>cJ.sc
noncomputable def pS:Expr:= .Name (QC "name") ⟨896,22,896,26⟩
noncomputable def PO:Expr:= .Name (QC "name") ⟨896,31,896,35⟩
noncomputable def AG:Expr:= .Name (QC "waits") ⟨896,39,896,44⟩
noncomputable def ifC:Expr:= .Compare (.Name (QC "name") ⟨896,48,896,52⟩) [.NotIn] [.Name (QC "left") ⟨896,60,896,64⟩] ⟨896,48,896,64⟩
theorem It:zp= .ListComp pS [⟨.Name (QC "name") ⟨896,31,896,35⟩,AG,[ifC],0⟩] scC ⟨896,21,896,65⟩:=by kernel_rfl
def FC(k:Nat):Fs:=ej bH scC [(QC "left",7)] (37+5*k)
def aK(l:List Str)(y:Str):Bool:=!af y l
def b9(z:Tq)(k:Nat)(q:Srt)(w:List Str)(e:Ent)(l a b:List Str)(i:Nat)(acc:List Str)(V:List (Str×SV)):St:=bN (fO [] k) (SB1 z k q w e l a b).led "list_iterator" (cY k) i acc V
noncomputable def nmV(y:Str):List (Str×SV):=[(QC "name", .str y)]
structure CmK (z:Tq) (k:Nat) (q:Srt) (w:List Str) (e:Ent) (l a b:List Str):Prop where
 hl:(SB1 z k q w e l a b).led[cY k]?=QE (.words w)
 len:(SB1 z k q w e l a b).led.length=35+5*k
 hi:ah GKS bH AG (SB1 z k q w e l a b) (SB1 z k q w e l a b) (.ref (cY k))
 hA:∀y i acc,aC GKS (FC k) (.Name (QC "name") ⟨896,31,896,35⟩) (.str y) (b9 z k q w e l a b i acc []) (b9 z k q w e l a b i acc (nmV y))
 hT:∀y i acc,ao l.length->aJ GKS (FC k) ifC (b9 z k q w e l a b i acc (nmV y)) (b9 z k q w e l a b i acc (nmV y)) (aK l y)
 hE:∀y i acc,ah GKS (FC k) pS (b9 z k q w e l a b i acc (nmV y)) (b9 z k q w e l a b i acc (nmV y)) (.str y)
 hP:∀y i acc,ao acc.length->a9 GKS (FC k) (36+5*k) (.str y) (b9 z k q w e l a b i acc (nmV y)) (b9 z k q w e l a b i (acc++[y]) (nmV y))
def Cm(z:Tq)(k:Nat)(q:Srt)(w:List Str)(e:Ent)(l a b:List Str):Prop:=Wh (ah GKS bH zp (SB1 z k q w e l a b) (SB2 z k q w e l a b (w.filter (aK l))) (.ref (35+5*k)))
theorem JM{z:Tq}{k:Nat}{q:Srt}{w:List Str}{e:Ent}{l a b:List Str}(K:CmK z k q w e l a b)(hl:l.length<=1000)(hw:w.length<=1000):
  aL GKS (FC k) (35+5*k) (36+5*k) pS (.Name (QC "name") ⟨896,31,896,35⟩) [ifC] ⟨fO [] k,(SB1 z k q w e l a b).led++[SO.any,SO.words (w.filter (aK l)),SO.vars []]⟩ (w.length+1) (b9 z k q w e l a b 0 [] []):=by
 have h:=@qO GKS (FC k) (fO [] k) (SB1 z k q w e l a b).led "list_iterator" w (.words w) (cY k) (QC "name") ⟨896,31,896,35⟩ pS [ifC] (aK l) .words K.hl K.hA (λy i acc=> .one (@CmK.hT _ _ _ _ _ _ _ _ K y i acc (PU hl))) K.hE (λy i acc hb=>by rw[K.len,show 35+5*k+1=36+5*k by lia];exact@CmK.hP _ _ _ _ _ _ _ _ K y i acc hb) hw
 rw[K.len,show 35+5*k+1=36+5*k by lia]at h
 exact h
theorem ML{z:Tq}{k:Nat}{q:Srt}{w:List Str}{e:Ent}{l a b:List Str}(K:CmK z k q w e l a b)(hl:l.length<=1000)(hw:w.length<=1000)(hcl:d0 bH.cells scC.names []=QE [(QC "left",7)])(hok:du scC (QC "name")=QF)
  (hfin:et (SB1 z k q w e l a b).led.length (PZ (35+5*k)++[36+5*k]) ⟨fO [] k,((SB1 z k q w e l a b).led++[SO.any,SO.words (w.filter (aK l)),SO.vars []]).set (37+5*k) SO.any⟩ (SB2 z k q w e l a b (w.filter (aK l))))
  (hv:SV.ref (36+5*k)=aU (at_ (PZ (35+5*k)++[36+5*k]) (((SB1 z k q w e l a b).led++[SO.any,SO.words (w.filter (aK l)),SO.vars []]).set (37+5*k) SO.any).length) (.ref (35+5*k))):Cm z k q w e l a b:=by
 have hlen2:((SB1 z k q w e l a b).led++[bo "list_iterator" (cY k) 0]).length=36+5*k:=by rw[Qf,K.len];simp;lia
 have hit:=@aI.src GKS bH (SB1 z k q w e l a b) ⟨fO [] k,(SB1 z k q w e l a b).led++[bo "list_iterator" (cY k) 0]⟩ "list_iterator" w (.words w) (cY k) .words K.hl rfl
 rw[K.len]at hit
 have hloop:=JM K hl hw
 refine⟨?_⟩
 rw[It]
 refine@ah.comp GKS bH (SB1 z k q w e l a b) (SB1 z k q w e l a b) ⟨fO [] k,(SB1 z k q w e l a b).led++[bo "list_iterator" (cY k) 0]⟩ ⟨fO [] k,(SB1 z k q w e l a b).led++[SO.any,SO.words (w.filter (aK l)),SO.vars []]⟩ (SB2 z k q w e l a b (w.filter (aK l))) pS AG [ifC] (QC "name") ⟨896,31,896,35⟩ ⟨896,21,896,65⟩ scC (.ref (cY k)) (.ref (35+5*k)) (35+5*k) (w.length+1) (bo "list_iterator" (cY k) 0) (.words []) [(QC "left",7)] [] (PZ (35+5*k)++[36+5*k])
  hok hcl (@CmK.hi _ _ _ _ _ _ _ _ K) hit ?_ ?_ (bt []) ?_ ?_ ?_ ?_ ?_
 .show((SB1 z k q w e l a b).led++[bo "list_iterator" (cY k) 0])[35+5*k]?=_
  rw[Qa (by rw[K.len];lia),K.len];simp
 .exact .inl (.inl rfl)
 .show aL GKS (ej bH scC [(QC "left",7)] (((SB1 z k q w e l a b).led++[bo "list_iterator" (cY k) 0]).length+1)) (35+5*k) ((SB1 z k q w e l a b).led++[bo "list_iterator" (cY k) 0]).length pS _ [ifC] _ _ _
  rw[hlen2]
  have e1:36+5*k+1=37+5*k:=by lia
  rw[e1]
  have e2:(b9 z k q w e l a b 0 [] [])=⟨fO [] k,(SB1 z k q w e l a b).led++[bo "list_iterator" (cY k) 0]++[SO.words [],SO.vars []]⟩:=by unfold b9 bN;simp
  rw[e2]at hloop
  exact hloop
 .show((SB1 z k q w e l a b).led++[SO.any,SO.words (w.filter (aK l)),SO.vars []])[((SB1 z k q w e l a b).led++[bo "list_iterator" (cY k) 0]).length+1]?=_
  rw[hlen2,Qa (by rw[K.len];lia),K.len,show 36+5*k+1-(35+5*k)=2 by lia];rfl
 .rfl
 .show SV.ref ((SB1 z k q w e l a b).led++[bo "list_iterator" (cY k) 0]).length=aU (at_ _ (((SB1 z k q w e l a b).led++[SO.any,SO.words (w.filter (aK l)),SO.vars []]).set (((SB1 z k q w e l a b).led++[bo "list_iterator" (cY k) 0]).length+1) SO.any).length) (.ref (35+5*k))
  rw[hlen2,show 36+5*k+1=37+5*k by lia];exact hv
 .show et _ _ ⟨fO [] k,((SB1 z k q w e l a b).led++[SO.any,SO.words (w.filter (aK l)),SO.vars []]).set (((SB1 z k q w e l a b).led++[bo "list_iterator" (cY k) 0]).length+1) SO.any⟩ _
  rw[hlen2,show 36+5*k+1=37+5*k by lia];exact hfin
def LG(z:Tq)(q:Srt)(w:List Str)(e:Ent)(l a b:List Str)(k:Nat):=((SB1 z k q w e l a b).led[cY k]?,(SB1 z k q w e l a b).led.length,dq (evN (TT 20 bH) bH nF AG ⟨SB1 z k q w e l a b,[],0,[],[]⟩) (SB1 z k q w e l a b).led.length (PZ (35+5*k)) (SB1 z k q w e l a b) (.ref (cY k)),(λy i acc=>bJ (FC k) (QC "name") (.str y) (b9 z k q w e l a b i acc []) (b9 z k q w e l a b i acc (nmV y))),(λy i acc=>fC (tsN (TT 20 (FC k)) (FC k) nF ifC ⟨(b9 z k q w e l a b i acc (nmV y)),[],0,[],[]⟩) (b9 z k q w e l a b i acc (nmV y)).led.length (PZ (38+5*k)) (b9 z k q w e l a b i acc (nmV y)) (aK l y)),(λy i acc=>dq (evN (TT 20 (FC k)) (FC k) nF pS ⟨(b9 z k q w e l a b i acc (nmV y)),[],0,[],[]⟩) (b9 z k q w e l a b i acc (nmV y)).led.length (PZ (38+5*k)) (b9 z k q w e l a b i acc (nmV y)) (.str y)),(λy i acc=>cq (36+5*k) (.str y) ⟨(b9 z k q w e l a b i acc (nmV y)),[],0,[],[]⟩),gZ (SB1 z k q w e l a b).led.length (PZ (35+5*k)++[36+5*k]) ⟨fO [] k,((SB1 z k q w e l a b).led++[SO.any,SO.words (w.filter (aK l)),SO.vars []]).set (37+5*k) SO.any⟩ (SB2 z k q w e l a b (w.filter (aK l))),SV.ref (36+5*k))
def PE(z:Tq)(q:Srt)(w:List Str)(e:Ent)(l a b:List Str)(k:Nat):type_of% (LG z q w e l a b k):=(QE (.words w),35+5*k,b8 (evN (TT 20 bH) bH nF AG ⟨SB1 z k q w e l a b,[],0,[],[]⟩) (SB1 z k q w e l a b).led.length (PZ (35+5*k)) (SB1 z k q w e l a b) (.ref (cY k)) True,(λy i acc=>b6 (b9 z k q w e l a b i acc (nmV y))),(λy i acc=>dP (tsN (TT 20 (FC k)) (FC k) nF ifC ⟨(b9 z k q w e l a b i acc (nmV y)),[],0,[],[]⟩) (b9 z k q w e l a b i acc (nmV y)).led.length (PZ (38+5*k)) (b9 z k q w e l a b i acc (nmV y)) (aK l y) True),(λy i acc=>b8 (evN (TT 20 (FC k)) (FC k) nF pS ⟨(b9 z k q w e l a b i acc (nmV y)),[],0,[],[]⟩) (b9 z k q w e l a b i acc (nmV y)).led.length (PZ (38+5*k)) (b9 z k q w e l a b i acc (nmV y)) (.str y) True),(λy i acc=>QE (.none,⟨b9 z k q w e l a b i (acc++[y]) (nmV y),[],0,[ao acc.length],[]⟩)),g8 (SB1 z k q w e l a b).led.length (PZ (35+5*k)++[36+5*k]) ⟨fO [] k,((SB1 z k q w e l a b).led++[SO.any,SO.words (w.filter (aK l)),SO.vars []]).set (37+5*k) SO.any⟩ (SB2 z k q w e l a b (w.filter (aK l))),aU (at_ (PZ (35+5*k)++[36+5*k]) (((SB1 z k q w e l a b).led++[SO.any,SO.words (w.filter (aK l)),SO.vars []]).set (37+5*k) SO.any).length) (.ref (35+5*k)))
theorem OF(z:Tq){k:Nat}(hk:k<7)(q:Srt)(w:List Str)(e:Ent)(l a b:List Str)(hl:l.length<=1000)(hw:w.length<=1000):Cm z k q w e l a b:=by
 have h:=eqR (L:=LG z q w e l a b) (R:=PE z q w e l a b) (n:=7) (by kernel_rfl) k hk
 exact ML ⟨QJ (·.1) h,QJ (·.2.1) h,@bp _ 20 nF _ _ _ [] [] _ (PZ (35+5*k)) True (QJ (·.2.2.1) h) QI,λy i acc=>@assign_k _ _ _ _ _ _ _ (QJ (·.2.2.2.1 y i acc) h),λy i acc _=>@d4 _ 20 nF _ _ _ [] [] _ (PZ (38+5*k)) True (QJ (·.2.2.2.2.1 y i acc) h) QI,λy i acc=>@bp _ 20 nF _ _ _ [] [] _ (PZ (38+5*k)) True (QJ (·.2.2.2.2.2.1 y i acc) h) QI,λy i acc hc=>@a9.ran _ _ _ _ .none _ _ ⟨b9 z k q w e l a b i (acc++[y]) (nmV y),[],0,[ao acc.length],[]⟩ (QJ (·.2.2.2.2.2.2.1 y i acc) h) rfl ⟨hc,QI⟩⟩ hl hw (by kernel_rfl) (by kernel_rfl) (fP (QJ (·.2.2.2.2.2.2.2.1) h)) (QJ (·.2.2.2.2.2.2.2.2) h)
def fY(q:Srt):Srt:=⟨q.po+q.rd.length,q.fi,q.rd.foldl k9 q.p,[]⟩
def d9(s:Nat->List Str)(q:Srt)(d:List Str):Srt:=⟨q.po,(d.foldl (bX s) (q.fi,q.p,q.rd)).1,(d.foldl (bX s) (q.fi,q.p,q.rd)).2.1,(d.foldl (bX s) (q.fi,q.p,q.rd)).2.2⟩
def SC(z:Tq)(k:Nat)(q:Srt)(w:List Str)(e:Ent)(l a b w':List Str):St:=
 ⟨fO [] (k+1),xO z (k+1) (nz (k+1)) q (w0T w k) (mT (k+1)) (xy e w k++[.words l, .words a, .words b, .tup [.ref (31+5*k), .ref (32+5*k)], .words w'])⟩
def oGr(q q':Srt)(s:Nat->List Str)(r:List Str):Orc:= .call 129 pkS (ek q s) [.ref 0] (ek q' s++[.wtup r]) (.ref 19)
def TPb(z:Tq)(k:Nat)(q q':Srt)(w:List Str)(e:Ent)(l a b:List Str):Prop:=Wh (ae GKS bH (nth bT 3) (SA z k q w e l a b) (SA z k q' w e l a b) .next)
def CB(z:Tq)(k:Nat)(q q':Srt)(w:List Str)(e:Ent)(l a b d:List Str):Prop:=
 OC 22 150 pkS (ek q z.s) (SB2 z k q w e l a b d).led (.ref 0::d.map .str) (.ref 8::d.map .str) (ek q' z.s++[.wtup d]) .none (ao (d.map SV.str).length/\ah GKS bH zp (SB1 z k q w e l a b) (SB2 z k q w e l a b d) (.ref (35+5*k))/\True)
def Jq(z:Tq)(q q':Srt)(w:List Str)(e:Ent)(l a b d:List Str)(k:Nat):=(Ran (exN (TT 20 bH) bH nF (nth bT 3) ⟨SA z k q w e l a b,[],0,[],[oCm z k q w e l a b d,oDn z q q' d]⟩) (SA z k q w e l a b).led.length (PZ (34+5*k)) (SA z k q' w e l a b) .next,bI (mapLed (at_ pkS (SB2 z k q w e l a b d).led.length) (ek q z.s)))
def Kk(z:Tq)(q q':Srt)(w:List Str)(e:Ent)(l a b d:List Str)(k:Nat):type_of% (Jq z q q' w e l a b d k):=(fU (exN (TT 20 bH) bH nF (nth bT 3) ⟨SA z k q w e l a b,[],0,[],[oCm z k q w e l a b d,oDn z q q' d]⟩) (SA z k q w e l a b).led.length (PZ (34+5*k)) (SA z k q' w e l a b) .next (CB z k q q' w e l a b d),bF (SB2 z k q w e l a b d).led pkS)
theorem I5(z:Tq){k:Nat}(hk:k<7)(q q':Srt)(w:List Str)(e:Ent)(l a b d:List Str)(hd:w.filter (aK l)=d)(hd3:d.length<=3)(hc:Cm z k q w e l a b)(hdn:ab GKS 4 150 (ek q z.s) (.ref 0::d.map .str) (ek q' z.s++[.wtup d]) .none):TPb z k q q' w e l a b:=by
 have h:Jq z q q' w e l a b d k=Kk z q q' w e l a b d k:=(tW ⟨#[]⟩ d).elim λg hg=>hg▸eqR (eqR (L:=λj=>(PZ 7).map (Jq z q q' w e l a b (vsN j g))) (R:=λj=>(PZ 7).map (Kk z q q' w e l a b (vsN j g))) (n:=4) (by kernel_rfl) d.length (Nat.lt_succ_of_le hd3)) k hk
 exact Wh.mk (@hV _ 20 nF _ _ _ [] [oCm z k q w e l a b d,oDn z q q' d] _ (PZ (34+5*k)) (CB z k q q' w e l a b d) (QJ (·.1) h) (gm ⟨by kernel_rfl,QJ (·.2) h⟩ (ab.mono @hdn (by decide)) ⟨PU (by rw[Qh];lia),by rw[<-hd];exact@Wh.h _ hc,QI⟩))
def TPc(z:Tq)(k:Nat)(q q':Srt)(w:List Str)(e:Ent)(l a b w':List Str):Prop:=Wh (ae GKS bH (nth bT 4) (SA z k q w e l a b) (SC z k q' w e l a b w') .next)
def CC(z:Tq)(k:Nat)(q q':Srt)(w:List Str)(e:Ent)(l a b r:List Str):Prop:=
 ao (l.length+r.length)/\ao r.length/\OC 22 129 pkS (ek q z.s) (SA z k q w e l a b).led [.ref 0] [.ref 8] (ek q' z.s++[.wtup r]) (.ref 19) True
theorem lq{z:Tq}{k:Nat}{q q':Srt}{w:List Str}{e:Ent}{l a b r:List Str}(hrun:Ran (exN (TT 20 bH) bH nF (nth bT 4) ⟨SA z k q w e l a b,[],0,[],[oGr q q' z.s r]⟩) (SA z k q w e l a b).led.length (PZ (34+5*k)++[36+5*k]) (SC z k q' w e l a b (l++r)) .next=
  fU (exN (TT 20 bH) bH nF (nth bT 4) ⟨SA z k q w e l a b,[],0,[],[oGr q q' z.s r]⟩) (SA z k q w e l a b).led.length (PZ (34+5*k)++[36+5*k]) (SC z k q' w e l a b (l++r)) .next (CC z k q q' w e l a b r))
  (hp:dF pkS (ek q z.s) (SA z k q w e l a b).led)(hl:l.length<=100)(hr:r.length<=100)(hg:ab GKS 4 129 (ek q z.s) [.ref 0] (ek q' z.s++[.wtup r]) (.ref 19)):TPc z k q q' w e l a b (l++r):=
 Wh.mk (@hV _ 20 nF _ _ _ [] [oGr q q' z.s r] _ (PZ (34+5*k)++[36+5*k]) (CC z k q q' w e l a b r) hrun ⟨PU (by lia),PU (by lia),gm hp (ab.mono @hg (by decide)) QI⟩)
theorem J9(z:Tq){k:Nat}(hk:k<7)(q q':Srt)(w:List Str)(e:Ent)(l a b r:List Str)(hl:l.length<=100)(hr:r.length<=100)(hg:ab GKS 4 129 (ek q z.s) [.ref 0] (ek q' z.s++[.wtup r]) (.ref 19)):TPc z k q q' w e l a b (l++r):=by
 match k,hk with
 |0,_=>exact lq (k:=0) (by kernel_rfl) ⟨by kernel_rfl,by kernel_rfl⟩ hl hr @hg
 |1,_=>exact lq (k:=1) (by kernel_rfl) ⟨by kernel_rfl,by kernel_rfl⟩ hl hr @hg
 |2,_=>exact lq (k:=2) (by kernel_rfl) ⟨by kernel_rfl,by kernel_rfl⟩ hl hr @hg
 |3,_=>exact lq (k:=3) (by kernel_rfl) ⟨by kernel_rfl,by kernel_rfl⟩ hl hr @hg
 |4,_=>exact lq (k:=4) (by kernel_rfl) ⟨by kernel_rfl,by kernel_rfl⟩ hl hr @hg
 |5,_=>exact lq (k:=5) (by kernel_rfl) ⟨by kernel_rfl,by kernel_rfl⟩ hl hr @hg
 |6,_=>exact lq (k:=6) (by kernel_rfl) ⟨by kernel_rfl,by kernel_rfl⟩ hl hr @hg
theorem lh{e e':Ent}:∀{j:Nat},(∀i,i<j->e i=e' i)->oD e j=oD e' j
 |0,_=>rfl
 |j+1,h=>by
  unfold oD lU
  rw[lh λi hi=>h i (Nat.lt_succ_of_lt hi),h j (Nat.lt_succ_self j)]
theorem b7{α:Type}(p:Nat->α)(k:Nat)(v:α):upd p k v k=v:=by unfold upd;rw[Nat.beq_refl]
theorem eJ{α:Type}(p:Nat->α){j k:Nat}(v:α)(h:k≠j):upd p j v k=p k:=by
 unfold upd
 cases e:Nat.beq k j with
 |true=>exact absurd (PV e) h
 |false=>rfl
theorem dj(o:SO):bE o .any:=λ_ _ _ _=>trivial
theorem BF{e:Ent}{w l a b w':List Str}:∀k:Nat,br (xy e w k++[.words l, .words a, .words b, .tup [.ref (31+5*k), .ref (32+5*k)], .words w']) (xy (upd e k (a,b)) w' (k+1))
 |0=>by
  show br [SO.words l, .words a, .words b, .tup [.ref 31, .ref 32], .words w'] ([]++lU (upd e 0 (a,b)) 0 (.words w'))
  unfold lU
  rw[b7]
  exact .cons (dj _) (br.refl _)
 |j+1=>by
  have e1:oD (upd e (j+1) (a,b)) j=oD e j:=lh λi hi=>eJ _ _ (by lia)
  show br (oD e j++lU e j (.words w)++[SO.words l, .words a, .words b, .tup [.ref (31+5*(j+1)), .ref (32+5*(j+1))], .words w']) (oD (upd e (j+1) (a,b)) j++lU (upd e (j+1) (a,b)) j .any++lU (upd e (j+1) (a,b)) (j+1) (.words w'))
  rw[e1]
  refine((br.refl _).append ?_).append ?_
  .unfold lU
   rw[eJ _ _ (by lia:j≠j+1)]
   exact .cons (bE.refl _) (.cons (bE.refl _) (.cons (bE.refl _) (.cons (bE.refl _) (.cons (dj _) .nil))))
  .unfold lU
   rw[b7]
   exact .cons (dj _) (br.refl _)
theorem NY(w:List Str):∀k:Nat,bE (w0T w k) .any:=λk=>dj _
theorem vH(z:Tq)(k:Nat)(q:Srt)(w:List Str)(e:Ent)(l a b w':List Str):di (SC z k q w e l a b w') (ST z (k+1) (k+1) q w' (upd e k (a,b)) []):=by
 refine⟨rfl,?_⟩
 show br (xO z (k+1) (nz (k+1)) q (w0T w k) (mT (k+1)) _) (xO z (k+1) (nz (k+1)) q .any (mT (k+1)) (xy (upd e k (a,b)) w' (k+1)))
 unfold xO
 exact((br.refl _).append (.cons (dj _) (br.refl _))).append (BF k)
structure Tst where
 q:Srt
 w:List Str
 e:Ent
def dh(t:Tst)(ns:List Str):List Str:=(cR t.w ns).1
def dT(t:Tst)(ns:List Str):List Str:=t.w.filter (aK (dh t ns))
def eG(s:Nat->List Str)(k:Nat)(t:Tst)(ns:List Str):Tst:=
 ⟨fY (d9 s t.q (dT t ns)),dh t ns++(d9 s t.q (dT t ns)).rd,upd t.e k (a7 (dh t ns),a7 (cR t.w ns).2)⟩
structure Ei (s:Nat->List Str) (t:Tst) (ns:List Str):Prop where
 ne:ns≠[]
 nn:∀y∈ns,y∈nms
 nl:ns.length<=20
 wl:t.w.length<=20
 u1:(cR t.w ns).1.length<64
 u2:(cR t.w ns).2.length<64
 d3:(dT t ns).length<=3
 dn:∀y∈dT t ns,y∈nms
 rd:t.q.rd.length<=100
 ho:∀i y,(dT t ns)[i]?=QE y->(((dT t ns).take i).foldl (bX s) (t.q.fi,t.q.p,t.q.rd)).2.1 (bG y)=-1
 rn:∀y∈(d9 s t.q (dT t ns)).rd,y∈nms
 rl:(d9 s t.q (dT t ns)).rd.length<=100
def KN(z:Tq)(k:Nat)(t:Tst)(ns:List Str):Prop:=Wh (aa GKS bH bT (ST z k (k+1) t.q t.w t.e (lnV ns)) (ST z (k+1) (k+1) (eG z.s k t ns).q (eG z.s k t ns).w (eG z.s k t ns).e []) .next)
theorem MG:bT=bT.take 3++[nth bT 3,nth bT 4]:=by kernel_rfl
theorem Iv{l3:List Stmt}{s3 s4:Stmt}{S0 S1 S2 S3:St}(h1:aa GKS bH l3 S0 S1 .next)(h2:ae GKS bH s3 S1 S2 .next)(h3:ae GKS bH s4 S2 S3 .next):aa GKS bH (l3++[s3,s4]) S0 S3 .next:=h1.append (.cons h2 (.cons h3 .nil))
theorem IW(z:Tq){k:Nat}(hk:k<7)(t:Tst)(ns:List Str)(hs:∀j,∀y∈z.s j,y∈nms.drop (j+1))(hs5:∀j,(z.s j).length<=5)(G:Ei z.s t ns):KN z k t ns:=by
 have ha:=HH z hk t.q t.w ns t.e G.ne G.nn G.nl G.wl G.u1 G.u2
 have hc:=OF z hk t.q t.w t.e (dh t ns) (a7 (dh t ns)) (a7 (cR t.w ns).2) (by have:=G.u1;unfold dh;lia) (by have:=G.wl;lia)
 have hdn:ab GKS 4 150 (ek t.q z.s) (.ref 0::(dT t ns).map .str) (ek (d9 z.s t.q (dT t ns)) z.s++[.wtup (dT t ns)]) .none:=
  ES t.q.po z.s (dT t ns) (t.q.fi,t.q.p,t.q.rd) (by have:=G.d3;lia) G.dn hs hs5 (by have:=G.d3;have:=G.rd;show t.q.rd.length+5*(dT t ns).length<=1000;lia) G.ho
 have hb:=I5 z hk t.q (d9 z.s t.q (dT t ns)) t.w t.e (dh t ns) (a7 (dh t ns)) (a7 (cR t.w ns).2) (dT t ns) rfl G.d3 hc hdn
 have hg:ab GKS 4 129 (ek (d9 z.s t.q (dT t ns)) z.s) [.ref 0] (ek (fY (d9 z.s t.q (dT t ns))) z.s++[.wtup (d9 z.s t.q (dT t ns)).rd]) (.ref 19):=
  uZ _ _ _ z.s _ G.rn (by have:=G.rl;lia)
 have hcc:=J9 z hk (d9 z.s t.q (dT t ns)) (fY (d9 z.s t.q (dT t ns))) t.w t.e (dh t ns) (a7 (dh t ns)) (a7 (cR t.w ns).2) (d9 z.s t.q (dT t ns)).rd (by have:=G.u1;unfold dh;lia) G.rl hg
 refine⟨?_⟩
 rw[MG]
 exact(Iv (@Wh.h _ ha) (@Wh.h _ hb) (@Wh.h _ hcc)).soft (vH z k _ t.w t.e _ _ _ _)
noncomputable def d7(s:Nat->List Str):Nat->Tst->List (List Str)->Tst
 |_,t,[]=>t
 |k,t,ns::r=>d7 s (k+1) (eG s k t ns) r
noncomputable def eh(s:Nat->List Str):Nat->Tst->List (List Str)->Prop
 |_,_,[]=>True
 |k,t,ns::r=>Ei s t ns/\eh s (k+1) (eG s k t ns) r
def SE(z:Tq)(k:Nat)(t:Tst):St:=⟨fO [] k,(ST z k k t.q t.w t.e []).led.set 29 .any⟩
def vq:Expr:=bg (nth cJ.body 5)
theorem uj(z:Tq)(k it:Nat)(q:Srt)(w:List Str)(e:Ent):(ST z k it q w e []).led[6]?=QE (.words z.lines):=by kernel_rfl
theorem uL(z:Tq)(k it:Nat)(q:Srt)(w:List Str)(e:Ent):(ST z k it q w e []).led[29]?=QE (bo "list_iterator" 6 it):=by kernel_rfl
theorem EM(z:Tq)(k it:Nat)(q:Srt)(w:List Str)(e:Ent):ST z k (it+1) q w e []={ (ST z k it q w e [])with led:=(ST z k it q w e []).led.set 29 (bo "list_iterator" 6 (it+1)) }:=by kernel_rfl
def Asg(z:Tq)(k it:Nat)(q:Srt)(w:List Str)(e:Ent)(ns:List Str):Prop:=Wh (aC GKS bH vq (.str (cu ns)) (ST z k it q w e []) (ST z k it q w e (lnV ns)))
theorem K6(z:Tq)(k it:Nat)(q:Srt)(w:List Str)(e:Ent)(ns:List Str):Asg z k it q w e ns:=by
 refine⟨?_⟩
 have:vq= .Name (QC "line") vq.pos:=by kernel_rfl
 rw[this]
 exact@assign_k _ _ _ _ _ _ _ (by kernel_rfl)
theorem rC(z:Tq)(hs:∀j,∀y∈z.s j,y∈nms.drop (j+1))(hs5:∀j,(z.s j).length<=5):∀(nss:List (List Str))(k:Nat)(t:Tst),k+nss.length<=7->z.lines.drop k=nss.map cu->eh z.s k t nss->
  dQ GKS bH 29 vq bT [] (SE z (k+nss.length) (d7 z.s k t nss)) .next (nss.length+1) (ST z k k t.q t.w t.e [])
 |[],k,t,hk,hd,hg=>by
  refine .done (ay.end_ .words (uj ..) (uL ..) ?_ rfl) .nil
  have:(z.lines.drop k)[0]?=QD:=by rw[hd];rfl
  rw[List.getElem?_drop]at this
  exact this
 |ns::r,k,t,hk,hd,hg=>by
  have hy:z.lines[k]?=QE (cu ns):=by
   have:(z.lines.drop k)[0]?=QE (cu ns):=by rw[hd];rfl
   rw[List.getElem?_drop]at this
   exact this
  have hd':z.lines.drop (k+1)=r.map cu:=by
   rw[<-List.drop_drop,hd];rfl
  have ih:=rC z hs hs5 r (k+1) (eG z.s k t ns) (by simp only[Qg]at hk;lia) hd' hg.2
  have e:k+(ns::r).length=k+1+r.length:=by simp only[Qg];lia
  rw[e]
  exact .step (ay.src .words (uj ..) (uL ..) hy (EM z k k t.q t.w t.e)) (@Wh.h _ (K6 z k (k+1) t.q t.w t.e ns)) (@Wh.h _ (IW z (by simp only[Qg]at hk;lia) t ns hs hs5 hg.1)) (.inl rfl) ih
def S29(z:Tq)(q:Srt)(w:List Str):St:=⟨fO [] 0,cZ z.rs z.lines++[.cell QD]++ph q z.s++[.words w, .list []]⟩
theorem Al(z:Tq)(hs:∀j,∀y∈z.s j,y∈nms.drop (j+1))(hs5:∀j,(z.s j).length<=5)(nss:List (List Str))(t:Tst)(hk:nss.length<=7)(hd:z.lines=nss.map cu)(hg:eh z.s 0 t nss)
  (hfin:et (S29 z t.q t.w).led.length (PZ (SE z nss.length (d7 z.s 0 t nss)).led.length) (SE z nss.length (d7 z.s 0 t nss)) (SE z nss.length (d7 z.s 0 t nss))):
  ae GKS bH (nth cJ.body 5) (S29 z t.q t.w) (SE z nss.length (d7 z.s 0 t nss)) .next:=by
 refine ey ?_ (by kernel_rfl)
 have h:=rC z hs hs5 nss 0 t (by lia) hd hg
 rw[Nat.zero_add]at h
 refine@ae.for_ GKS bH (bg (nth cJ.body 5)) (bj (nth cJ.body 5)) (aT (nth cJ.body 5)) [] (lS (nth cJ.body 5)) (S29 z t.q t.w) (S29 z t.q t.w) (ST z 0 0 t.q t.w t.e []) (SE z nss.length (d7 z.s 0 t nss)) (SE z nss.length (d7 z.s 0 t nss)) .next (.ref 6) 29 (nss.length+1) (PZ (SE z nss.length (d7 z.s 0 t nss)).led.length) ?_ ?_ h (λ_ _=>rfl) (λ_ _=>rfl) hfin
 .exact@bp _ 20 nF _ _ _ [] [] _ (PZ 29) True (by kernel_rfl) QI
 .exact@aI.src GKS bH (S29 z t.q t.w) (ST z 0 0 t.q t.w t.e []) "list_iterator" z.lines (.words z.lines) 6 .words (by kernel_rfl) (by kernel_rfl)
def SE7(z:Tq)(k:Nat)(t:Tst):St:=⟨fO [] k,(SE z k t).led.set 7 .any⟩
noncomputable def p8(b:Nat):Nat->List SV
 |0=>[]
 |k+1=>p8 b k++[.ref (b+2+3*k)]
noncomputable def rH(e:Ent)(b:Nat):Nat->List SO
 |0=>[]
 |k+1=>rH e b k++[.words (e k).1, .words (e k).2, .tup [.ref (b+3*k), .ref (b+1+3*k)]]
def gz(z:Tq)(k:Nat)(e:Ent):List SO:=cZ z.rs z.lines++[.any, .list (p8 9 k)]++rH e 9 k
noncomputable def pkR:Nat->List Nat
 |0=>[]
 |k+1=>pkR k++[31+5*k,32+5*k,33+5*k]
structure OY (z:Tq) (k:Nat) (t:Tst):Prop where
 f1:et 29 (PZ (SE z k t).led.length) (SE z k t) (SE z k t)
 f2:(SE z k t).led[7]?=QE (nz k)
 f3:et 8 (PZ 8++[28]++pkR k) (SE7 z k t) ⟨[(QC "told", .ref 8)],gz z k t.e⟩
theorem Iq(z:Tq)(t:Tst):∀k,k<=7->OY z k t:=by
 intro k hk
 match k,hk with
 |0,_=>exact⟨⟨by kernel_rfl,⟨by kernel_rfl,by kernel_rfl⟩,by kernel_rfl⟩,by kernel_rfl,⟨by kernel_rfl,⟨by kernel_rfl,by kernel_rfl⟩,by kernel_rfl⟩⟩
 |1,_=>exact⟨⟨by kernel_rfl,⟨by kernel_rfl,by kernel_rfl⟩,by kernel_rfl⟩,by kernel_rfl,⟨by kernel_rfl,⟨by kernel_rfl,by kernel_rfl⟩,by kernel_rfl⟩⟩
 |2,_=>exact⟨⟨by kernel_rfl,⟨by kernel_rfl,by kernel_rfl⟩,by kernel_rfl⟩,by kernel_rfl,⟨by kernel_rfl,⟨by kernel_rfl,by kernel_rfl⟩,by kernel_rfl⟩⟩
 |3,_=>exact⟨⟨by kernel_rfl,⟨by kernel_rfl,by kernel_rfl⟩,by kernel_rfl⟩,by kernel_rfl,⟨by kernel_rfl,⟨by kernel_rfl,by kernel_rfl⟩,by kernel_rfl⟩⟩
 |4,_=>exact⟨⟨by kernel_rfl,⟨by kernel_rfl,by kernel_rfl⟩,by kernel_rfl⟩,by kernel_rfl,⟨by kernel_rfl,⟨by kernel_rfl,by kernel_rfl⟩,by kernel_rfl⟩⟩
 |5,_=>exact⟨⟨by kernel_rfl,⟨by kernel_rfl,by kernel_rfl⟩,by kernel_rfl⟩,by kernel_rfl,⟨by kernel_rfl,⟨by kernel_rfl,by kernel_rfl⟩,by kernel_rfl⟩⟩
 |6,_=>exact⟨⟨by kernel_rfl,⟨by kernel_rfl,by kernel_rfl⟩,by kernel_rfl⟩,by kernel_rfl,⟨by kernel_rfl,⟨by kernel_rfl,by kernel_rfl⟩,by kernel_rfl⟩⟩
 |7,_=>exact⟨⟨by kernel_rfl,⟨by kernel_rfl,by kernel_rfl⟩,by kernel_rfl⟩,by kernel_rfl,⟨by kernel_rfl,⟨by kernel_rfl,by kernel_rfl⟩,by kernel_rfl⟩⟩
def q0T(p:Nat->Int):Srt:=⟨0,0,p,bz p 5⟩
def t0T(p:Nat->Int):Tst:=⟨fY (q0T p),bz p 5,λ_=>([],[])⟩
def oPr(p:Nat->Int)(s:Nat->List Str):Orc:= .call 122 (pkS.take 18) (zu p s) [.ref 0] (bO 0 0 p s (bz p 5)) .none
def CP(rs:Nat->List Str)(lines:List Str)(p:Nat->Int)(s:Nat->List Str):Prop:=
 ao (bz p 5).length/\OC 22 129 pkS (ek (q0T p) s) (cZ rs lines++[.cell QD]++ph (q0T p) s) [.ref 0] [.ref 8] (ek (fY (q0T p)) s++[.wtup (bz p 5)]) (.ref 19)
  (OC 22 122 (pkS.take 18) (zu p s) (zG rs lines p s) [.ref 0] [.ref 8] (bO 0 0 p s (bz p 5)) .none True)
def OK(rs:Nat->List Str)(lines:List Str)(p:Nat->Int)(s:Nat->List Str):Prop:=Wh (aa GKS bH [nth cJ.body 2,nth cJ.body 3,nth cJ.body 4] ⟨jZ [],zG rs lines p s⟩ (S29 ⟨rs,lines,s⟩ (fY (q0T p)) (bz p 5)) .next)
theorem lj(p:Nat->Int):∀k,k<=5->∀y∈bz p k,y∈nms
 |0,_,y,h=>by cases h
 |k+1,hk,y,h=>by
  have ih:=lj p k (by lia)
  have hm:nm k∈nms:=cg (P:=λk=>nm k∈nms) (by lia:k<5) (by simp[nms]) (by simp[nms]) (by simp[nms]) (by simp[nms]) (by simp[nms])
  unfold bz at h
  split at h
  .rcases Qd.mp h with h|h
   .exact ih y h
   .rw[Qc.mp h];exact hm
  .exact ih y h
theorem zA(rs:Nat->List Str)(lines:List Str)(p:Nat->Int)(s:Nat->List Str)(hs:∀j,∀y∈s j,y∈nms.drop (j+1))(hu:∀ep,aS ⟨ep,p,s,bz p 5,0⟩ []+5<900):OK rs lines p s:=by
 have hl:=kX p 5
 have h1:ab GKS 4 129 (ek (q0T p) s) [.ref 0] (ek (fY (q0T p)) s++[.wtup (bz p 5)]) (.ref 19):=uZ _ _ _ s _ (lj p 5 (by decide)) (by show(bz p 5).length<=1000;lia)
 refine Wh.mk (@aw _ 20 nF _ _ _ [] [oPr p s,oGr (q0T p) (fY (q0T p)) s (bz p 5)] _ (PZ 27++[28,29]) (CP rs lines p s) (by kernel_rfl) ?_)
 exact⟨PU (by lia),gm ⟨by kernel_rfl,by kernel_rfl⟩ (ab.mono @h1 (by decide)) (gm ⟨by kernel_rfl,by kernel_rfl⟩ (ab.mono (EB p s hs hu) (by decide)) QI)⟩
def PJ:List Stmt:=cJ.body
theorem Fy:cJ.body=nth cJ.body 0::nth cJ.body 1::([nth cJ.body 2,nth cJ.body 3,nth cJ.body 4]++[nth cJ.body 5,nth cJ.body 6]):=by kernel_rfl
theorem Py:(⟨cJ.sc,dZ 7 (bw cJ.sc),24,QD⟩:Fs)=bH:=by kernel_rfl
theorem BX:(bw cJ.sc).map (λ_=>SO.cell QD)=[SO.cell QD]:=by kernel_rfl
def Pv(z:Tq)(k:Nat)(e:Ent):Prop:=Wh (aa GKS bH [nth cJ.body 6] ⟨[(QC "told", .ref 8)],gz z k e⟩ ⟨[],gz z k e⟩ (.ret (.ref 8)))
theorem Po(z:Tq)(e:Ent):∀k,k<=7->Pv z k e:=by
 intro k hk
 match k,hk with
 |0,_=>exact⟨@aw _ 20 nF _ _ _ [] [] _ (PZ 9) True (by kernel_rfl) QI⟩
 |1,_=>exact⟨@aw _ 20 nF _ _ _ [] [] _ (PZ 12) True (by kernel_rfl) QI⟩
 |2,_=>exact⟨@aw _ 20 nF _ _ _ [] [] _ (PZ 15) True (by kernel_rfl) QI⟩
 |3,_=>exact⟨@aw _ 20 nF _ _ _ [] [] _ (PZ 18) True (by kernel_rfl) QI⟩
 |4,_=>exact⟨@aw _ 20 nF _ _ _ [] [] _ (PZ 21) True (by kernel_rfl) QI⟩
 |5,_=>exact⟨@aw _ 20 nF _ _ _ [] [] _ (PZ 24) True (by kernel_rfl) QI⟩
 |6,_=>exact⟨@aw _ 20 nF _ _ _ [] [] _ (PZ 27) True (by kernel_rfl) QI⟩
 |7,_=>exact⟨@aw _ 20 nF _ _ _ [] [] _ (PZ 30) True (by kernel_rfl) QI⟩
theorem wy(rs:Nat->List Str)(lines:List Str)(js:Nat->List Nat)(hj:∀i,i<5->js i∈b5 i)(hr:∀i,i<5->rs i=nm i::(js i).map nm)(nss:List (List Str))(hk:nss.length<=7)(hd:lines=nss.map cu)
  (hs:∀j,∀y∈(stA js 5).2 j,y∈nms.drop (j+1))(hs5:∀j,((stA js 5).2 j).length<=5)(hu:∀ep,aS ⟨ep,(stA js 5).1,(stA js 5).2,bz (stA js 5).1 5,0⟩ []+5<900)(hg:eh (stA js 5).2 0 (t0T (stA js 5).1) nss):
  aa GKS bH cJ.body ⟨[(QC "lines", .ref 6),(QC "rows", .ref 0)],cZ rs lines++[.cell QD]⟩ ⟨[],gz ⟨rs,lines,(stA js 5).2⟩ nss.length (d7 (stA js 5).2 0 (t0T (stA js 5).1) nss).e⟩ (.ret (.ref 8)):=by
 rw[Fy]
 have h5:=@Al ⟨rs,lines,(stA js 5).2⟩ hs hs5 nss (t0T (stA js 5).1) hk hd hg (Iq _ _ _ hk).f1
 have h7:=@ae.soft GKS bH _ _ _ _ _ h5 (qG (k:=7) (Iq _ _ _ hk).f2 (jb _))
 refine a8.hold (n0:=8) (a8.cons (ae.b (Co rs lines)) (a8.cons (ae.b (Dr rs lines js hj hr)) (a8.append (aa.b (@Wh.h _ (zA rs lines (stA js 5).1 (stA js 5).2 hs hu))) (a8.cons (ae.b @h7) (a8.pick (aa.b (@Wh.h _ (Po _ _ _ hk))) (Iq _ _ _ hk).f3))))) rfl
theorem ya(rs:Nat->List Str)(lines:List Str)(js:Nat->List Nat)(hj:∀i,i<5->js i∈b5 i)(hr:∀i,i<5->rs i=nm i::(js i).map nm)(nss:List (List Str))(hk:nss.length<=7)(hd:lines=nss.map cu)
  (hs:∀j,∀y∈(stA js 5).2 j,y∈nms.drop (j+1))(hs5:∀j,((stA js 5).2 j).length<=5)(hu:∀ep,aS ⟨ep,(stA js 5).1,(stA js 5).2,bz (stA js 5).1 5,0⟩ []+5<900)(hg:eh (stA js 5).2 0 (t0T (stA js 5).1) nss):
  ab GKS 24 901 (cZ rs lines) [.ref 0, .ref 6] (gz ⟨rs,lines,(stA js 5).2⟩ nss.length (d7 (stA js 5).2 0 (t0T (stA js 5).1) nss).e) (.ref 8):=by
 refine ab.cell (e:=cJ) (fl:= .ret (.ref 8)) (b:=[(QC "rows", .ref 0),(QC "lines", .ref 6)]) (S':=⟨[],gz ⟨rs,lines,(stA js 5).2⟩ nss.length (d7 (stA js 5).2 0 (t0T (stA js 5).1) nss).e⟩) (λK⟨P,hP⟩=>hP▸KQ P) (by kernel_rfl) (by kernel_rfl) (by kernel_rfl) ?_ rfl (.inl rfl)
 rw[BX,show(cZ rs lines).length=7 from rfl,Py]
 exact wy rs lines js hj hr nss hk hd hs hs5 hu hg
structure u4 (F FB:Fs) (S0 S:St) (n wt:Nat) (ys:List Str) (elt itr ifE:Expr) (x:Str) (px:Pos) (f:Str->Bool):Prop where
 hl:S.led[wt]?=QE (.words ys)
 len:S.led.length=n
 hi:ah GKS F itr S0 S (.ref wt)
 hA:∀y i acc,aC GKS FB (.Name x px) (.str y) (bN S.loc S.led "list_iterator" wt i acc []) (bN S.loc S.led "list_iterator" wt i acc [(x, .str y)])
 hT:∀y i acc,aJ GKS FB ifE (bN S.loc S.led "list_iterator" wt i acc [(x, .str y)]) (bN S.loc S.led "list_iterator" wt i acc [(x, .str y)]) (f y)
 hE:∀y i acc,ah GKS FB elt (bN S.loc S.led "list_iterator" wt i acc [(x, .str y)]) (bN S.loc S.led "list_iterator" wt i acc [(x, .str y)]) (.str y)
 hP:∀y i acc,ao acc.length->a9 GKS FB (n+1) (.str y) (bN S.loc S.led "list_iterator" wt i acc [(x, .str y)]) (bN S.loc S.led "list_iterator" wt i (acc++[y]) [(x, .str y)])
def EH(F:Fs)(e:Expr)(S S':St)(v:SV):Prop:=Wh (ah GKS F e S S' v)
noncomputable def fT(S:St)(n:Nat)(ys:List Str):St:=⟨S.loc,(S.led++[SO.any, .words ys, .vars []]).set (n+2) SO.any⟩
theorem mq{F FB:Fs}{S0 S S':St}{n wt:Nat}{ys:List Str}{elt itr ifE:Expr}{x:Str}{px pos:Pos}{f:Str->Bool}{sc:Scope}{cells:List (Str×Nat)}{pk:List Nat}{v:SV}(K:u4 F FB S0 S n wt ys elt itr ifE x px f)(hFB:FB=ej F sc cells (n+2))(hw:ys.length<=1000)(hcl:d0 F.cells sc.names []=QE cells)(hok:du sc x=QF)(hns:dR itr=QF)
  (hfin:et S0.led.length pk (fT S n (ys.filter f)) S')(hv:SV.ref (n+1)=aU (at_ pk (fT S n (ys.filter f)).led.length) v):
  EH F (.ListComp elt [⟨.Name x px,itr,[ifE],0⟩] sc pos) S0 S' v:=by
 subst hFB
 have hlen2:(S.led++[bo "list_iterator" wt 0]).length=n+1:=by rw[Qf,K.len];rfl
 have hit:=@aI.src GKS F S ⟨S.loc,S.led++[bo "list_iterator" wt 0]⟩ "list_iterator" ys (.words ys) wt .words K.hl rfl
 rw[K.len]at hit
 have hloop:=@qO GKS (ej F sc cells (n+2)) S.loc S.led "list_iterator" ys (.words ys) wt x px elt [ifE] f .words K.hl K.hA (λy i acc=> .one (@u4.hT _ _ _ _ _ _ _ _ _ _ _ _ _ K y i acc)) K.hE (λy i acc hb=>by rw[K.len];exact@u4.hP _ _ _ _ _ _ _ _ _ _ _ _ _ K y i acc hb) hw
 rw[K.len]at hloop
 refine⟨?_⟩
 refine@ah.comp GKS F S0 S ⟨S.loc,S.led++[bo "list_iterator" wt 0]⟩ ⟨S.loc,S.led++[SO.any, .words (ys.filter f), .vars []]⟩ S' elt itr [ifE] x px pos sc (.ref wt) v n (ys.length+1) (bo "list_iterator" wt 0) (.words []) cells [] pk
  hok hcl (@u4.hi _ _ _ _ _ _ _ _ _ _ _ _ _ K) hit ?_ ?_ (bt []) ?_ ?_ hns ?_ ?_
 .show(S.led++[bo "list_iterator" wt 0])[n]?=_
  rw[Qa (by rw[K.len];lia),K.len];simp
 .exact .inl (.inl rfl)
 .show aL GKS (ej F sc cells ((S.led++[bo "list_iterator" wt 0]).length+1)) n ((S.led++[bo "list_iterator" wt 0]).length) elt _ [ifE] _ _ _
  rw[hlen2]
  have e2:(bN S.loc S.led "list_iterator" wt 0 [] [])=⟨S.loc,S.led++[bo "list_iterator" wt 0]++[.words [], .vars []]⟩:=by unfold bN;simp
  rw[e2]at hloop
  exact hloop
 .show(S.led++[SO.any, .words (ys.filter f), .vars []])[(S.led++[bo "list_iterator" wt 0]).length+1]?=_
  rw[hlen2,Qa (by rw[K.len];lia),K.len,show n+1+1-n=2 by lia];rfl
 .show SV.ref ((S.led++[bo "list_iterator" wt 0]).length)=aU (at_ _ ((S.led++[SO.any, .words (ys.filter f), .vars []]).set ((S.led++[bo "list_iterator" wt 0]).length+1) SO.any).length) v
  rw[hlen2];exact hv
 .show et _ _ ⟨S.loc,(S.led++[SO.any, .words (ys.filter f), .vars []]).set ((S.led++[bo "list_iterator" wt 0]).length+1) SO.any⟩ _
  rw[hlen2];exact hfin
structure Dz where
 tl:Nat->List Str
 pl:Nat->List Str
def aE(n:Nat):Fs:=⟨cK.sc,[(QC "waits",7+n),(QC "names",8+n),(QC "done",9+n)],8,QD⟩
noncomputable def GG:Nat->List SV
 |0=>[]
 |n+1=>GG n++[.ref (7+n)]
noncomputable def plL(z:Dz):Nat->List SO
 |0=>[]
 |n+1=>plL z n++[.words (z.pl n)]
def iE(z:Dz)(n:Nat):List SO:=[.list [.ref 1, .ref 2, .ref 3, .ref 4, .ref 5], .words (nm 0::z.tl 0), .words (nm 1::z.tl 1), .words (nm 2::z.tl 2), .words (nm 3::z.tl 3), .words (nm 4::z.tl 4), .list (GG n)]++plL z n
noncomputable def cWt(n:Nat):Nat->Option SV
 |0=>QD
 |k+1=>QE (.ref (13+n+5*k))
noncomputable def dnR(n:Nat):Nat->Nat
 |0=>10+n
 |k+1=>17+n+5*k
noncomputable def iP(n:Nat):Nat->List SV
 |0=>[]
 |k+1=>iP n k++[.ref (16+n+5*k)]
noncomputable def l5(n:Nat)(e:Ent)(k:Nat)(w:SO):List SO:=[.any, .words (e k).1, .words (e k).2, .tup [.ref (14+n+5*k), .ref (15+n+5*k)],w]
noncomputable def nU(n:Nat)(e:Ent):Nat->List SO
 |0=>[]
 |k+1=>nU n e k++l5 n e k .any
def rG(n:Nat)(e:Ent)(w:List Str):Nat->List SO
 |0=>[]
 |k+1=>nU n e k++l5 n e k (.words w)
noncomputable def dG(n:Nat):List (Str×SV):=[(QC "rows", .ref 0),(QC "plan", .ref 6),(QC "due", .ref (11+n))]
def tH(z:Dz)(n:Nat)(it:Nat)(cw cn cd:Option SV)(w0:SO)(refs:List SV)(old:List SO):List SO:=
 iE z n++[.cell cw, .cell cn, .cell cd,w0, .list refs,bo "list_iterator" 6 it]++old
def SD(z:Dz)(n k it:Nat)(cn:Option SV)(dn:List Str)(e:Ent):St:=⟨dG n,tH z n it (cWt n k) cn (QE (.ref (dnR n k))) (w0T dn k) (iP n k) (rG n e dn k)⟩
noncomputable def nmC(k:Nat):Option SV:=QE (.ref (7+k))
def bD:List Stmt:=aT (nth cK.body 2)
def c1:Expr:=bj (nth bD 0)
def sc1:Scope:=aR c1
def if1:Expr:=(cU c1).headD c1
def c2:Expr:=match if1 with
 |.BoolOp _ (_:: .Compare l _ _ _::_) _=>l
 |e=>e
def sc2:Scope:=aR c2
noncomputable def dnS:Str:=QC "done"
def F1(n k:Nat):Fs:=ej (aE n) sc1 [(dnS,9+n)] (15+n+5*k)
def SW(z:Dz)(n k j:Nat)(dn:List Str)(e:Ent)(acc:List Str)(V:List (Str×SV)):St:=
 ⟨dG n,(SD z n k (k+1) (nmC k) dn e).led++[bo "list_iterator" 0 j, .words acc, .vars V]⟩
noncomputable def Ov(j:Nat):List (Str×SV):=[(QC "row", .ref (j+1))]
def aN(z:Dz)(n k j:Nat)(dn:List Str)(e:Ent)(acc:List Str):St:=SW z n k (j+1) dn e acc (Ov j)
def eL(z:Dz)(n k j:Nat)(dn:List Str)(e:Ent)(acc:List Str):St:=⟨dG n,(aN z n k j dn e acc).led++[.fields "slice" [.int 1, .none, .none], .words (z.tl j)]⟩
def f9(z:Dz)(n k j:Nat)(dn:List Str)(e:Ent)(acc D:List Str):St:=⟨dG n,(aN z n k j dn e acc).led++[.words D]⟩
def FB2(n k:Nat):Fs:=ej (F1 n k) sc2 [(dnS,9+n)] (20+n+5*k)
def if2:Expr:=(cU c2).headD c2
noncomputable def nd:Str:=QC "need"
def inF(z:Dz)(n k j:Nat)(dn:List Str)(e:Ent)(acc:List Str)(i:Nat)(a:List Str)(V:List (Str×SV)):St:=bN (dG n) (eL z n k j dn e acc).led "list_iterator" (17+n+5*k) i a V
theorem LN:c2= .ListComp (aq c2) [⟨.Name nd (bB c2).pos,av c2,[if2],0⟩] sc2 c2.pos:=by kernel_rfl
theorem in_of{z:Dz}{n k j:Nat}{dn:List Str}{e:Ent}{acc:List Str}
  (h1:(eL z n k j dn e acc).led[17+n+5*k]?=QE (.words (z.tl j)))(h2:(eL z n k j dn e acc).led.length=18+n+5*k)
  (h3:dq (evN (TT 20 (F1 n k)) (F1 n k) nF (av c2) ⟨aN z n k j dn e acc,[],0,[],[]⟩) (aN z n k j dn e acc).led.length (PZ (18+n+5*k)) (eL z n k j dn e acc) (.ref (17+n+5*k))=b8 (evN (TT 20 (F1 n k)) (F1 n k) nF (av c2) ⟨aN z n k j dn e acc,[],0,[],[]⟩) (aN z n k j dn e acc).led.length (PZ (18+n+5*k)) (eL z n k j dn e acc) (.ref (17+n+5*k)) (ao ((z.tl j).length+1)/\True))
  (h4:∀y i a,bJ (FB2 n k) nd (.str y) (inF z n k j dn e acc i a []) (inF z n k j dn e acc i a [(nd, .str y)])=b6 (inF z n k j dn e acc i a [(nd, .str y)]))
  (h5:∀y i a,fC (tsN (TT 20 (FB2 n k)) (FB2 n k) nF if2 ⟨inF z n k j dn e acc i a [(nd, .str y)],[],0,[],[]⟩) (inF z n k j dn e acc i a [(nd, .str y)]).led.length (PZ (21+n+5*k)) (inF z n k j dn e acc i a [(nd, .str y)]) (aK dn y)=dP (tsN (TT 20 (FB2 n k)) (FB2 n k) nF if2 ⟨inF z n k j dn e acc i a [(nd, .str y)],[],0,[],[]⟩) (inF z n k j dn e acc i a [(nd, .str y)]).led.length (PZ (21+n+5*k)) (inF z n k j dn e acc i a [(nd, .str y)]) (aK dn y) True)
  (h6:∀y i a,dq (evN (TT 20 (FB2 n k)) (FB2 n k) nF (aq c2) ⟨inF z n k j dn e acc i a [(nd, .str y)],[],0,[],[]⟩) (inF z n k j dn e acc i a [(nd, .str y)]).led.length (PZ (21+n+5*k)) (inF z n k j dn e acc i a [(nd, .str y)]) (.str y)=b8 (evN (TT 20 (FB2 n k)) (FB2 n k) nF (aq c2) ⟨inF z n k j dn e acc i a [(nd, .str y)],[],0,[],[]⟩) (inF z n k j dn e acc i a [(nd, .str y)]).led.length (PZ (21+n+5*k)) (inF z n k j dn e acc i a [(nd, .str y)]) (.str y) True)
  (h7:∀y i a,cq (18+n+5*k+1) (.str y) ⟨inF z n k j dn e acc i a [(nd, .str y)],[],0,[],[]⟩=QE (.none,⟨inF z n k j dn e acc i (a++[y]) [(nd, .str y)],[],0,[ao a.length],[]⟩))
  (hcl:d0 (F1 n k).cells sc2.names []=QE [(dnS,9+n)])(hok:du sc2 nd=QF)(hns:dR (av c2)=QF)
  (hfin:et (aN z n k j dn e acc).led.length (PZ (16+n+5*k)++[19+n+5*k]) (fT (eL z n k j dn e acc) (18+n+5*k) ((z.tl j).filter (aK dn))) (f9 z n k j dn e acc ((z.tl j).filter (aK dn))))
  (hv:SV.ref (18+n+5*k+1)=aU (at_ (PZ (16+n+5*k)++[19+n+5*k]) (fT (eL z n k j dn e acc) (18+n+5*k) ((z.tl j).filter (aK dn))).led.length) (.ref (16+n+5*k)))
  (hw:(z.tl j).length<=20):EH (F1 n k) c2 (aN z n k j dn e acc) (f9 z n k j dn e acc ((z.tl j).filter (aK dn))) (.ref (16+n+5*k)):=by
 have hFB:FB2 n k=ej (F1 n k) sc2 [(dnS,9+n)] (18+n+5*k+2):=by unfold FB2;rw[show 20+n+5*k=18+n+5*k+2 by lia]
 have r:=@mq (F1 n k) (FB2 n k) (aN z n k j dn e acc) (eL z n k j dn e acc) (f9 z n k j dn e acc ((z.tl j).filter (aK dn))) (18+n+5*k) (17+n+5*k) (z.tl j) (aq c2) (av c2) if2 nd (bB c2).pos c2.pos (aK dn) sc2 [(dnS,9+n)] (PZ (16+n+5*k)++[19+n+5*k]) (.ref (16+n+5*k))
  ⟨h1,h2,@bp _ 20 nF _ _ _ [] [] _ (PZ (18+n+5*k)) (ao ((z.tl j).length+1)/\True) h3 ⟨PU (by lia),QI⟩,λy i a=>@assign_k _ _ _ _ _ _ _ (h4 y i a),λy i a=>@d4 _ 20 nF _ _ _ [] [] _ (PZ (21+n+5*k)) True (h5 y i a) QI,λy i a=>@bp _ 20 nF _ _ _ [] [] _ (PZ (21+n+5*k)) True (h6 y i a) QI,λy i a h=>@a9.ran _ _ _ _ .none _ _ ⟨inF z n k j dn e acc i (a++[y]) [(nd, .str y)],[],0,[ao a.length],[]⟩ (h7 y i a) rfl ⟨h,QI⟩⟩
  hFB (by lia) hcl hok hns hfin hv
 exact⟨LN▸@Wh.h _ r⟩
def InP(z:Dz)(dn:List Str)(e:Ent)(n k:Nat):Prop:=Wh (∀j,j<5->∀acc,EH (F1 n k) c2 (aN z n k j dn e acc) (f9 z n k j dn e acc ((z.tl j).filter (aK dn))) (.ref (16+n+5*k)))
noncomputable def mA(n:Nat)(f:Nat->α):List α:=Nat.rec [] (λi l=>f i::l) n
noncomputable def mB(n:Nat)(f:Nat->α):List α:=Nat.rec [] (λi l=>f i::l) n
theorem mAB{f g:Nat->α}:∀{n:Nat},mA n f=mB n g->∀k,k<n->f k=g k
 |n+1,h,k,hk=>by
  have h:f n::mA n f=g n::mB n g:=h
  rcases Nat.lt_succ_iff_lt_or_eq.mp hk with q|q
  .exact mAB (List.cons.inj h).2 k q
  .exact q▸(List.cons.inj h).1
theorem iQ{L R:Nat->Nat->α}(h2:mA 2 (L 2)=mB 2 (R 2))(h3:mA 3 (L 3)=mB 3 (R 3))(h4:mA 4 (L 4)=mB 4 (R 4))(h5:mA 5 (L 5)=mB 5 (R 5))(h6:mA 6 (L 6)=mB 6 (R 6))(h7:mA 7 (L 7)=mB 7 (R 7))(n k:Nat)(a:2<=n)(b:n<8)(c:k<n):L n k=R n k:=by
 have:n=2\/n=3\/n=4\/n=5\/n=6\/n=7:=by lia
 rcases this with rfl|rfl|rfl|rfl|rfl|rfl
 .exact mAB h2 k c
 .exact mAB h3 k c
 .exact mAB h4 k c
 .exact mAB h5 k c
 .exact mAB h6 k c
 .exact mAB h7 k c
def J6(z:Dz)(dn:List Str)(e:Ent)(j:Nat)(acc:List Str)(n k:Nat):=(((eL z n k j dn e acc).led[17+n+5*k]?),((eL z n k j dn e acc).led.length),(dq (evN (TT 20 (F1 n k)) (F1 n k) nF (av c2) ⟨aN z n k j dn e acc,[],0,[],[]⟩) (aN z n k j dn e acc).led.length (PZ (18+n+5*k)) (eL z n k j dn e acc) (.ref (17+n+5*k))),(λy i a=>bJ (FB2 n k) nd (.str y) (inF z n k j dn e acc i a []) (inF z n k j dn e acc i a [(nd, .str y)])),(λy i a=>fC (tsN (TT 20 (FB2 n k)) (FB2 n k) nF if2 ⟨inF z n k j dn e acc i a [(nd, .str y)],[],0,[],[]⟩) (inF z n k j dn e acc i a [(nd, .str y)]).led.length (PZ (21+n+5*k)) (inF z n k j dn e acc i a [(nd, .str y)]) (aK dn y)),(λy i a=>dq (evN (TT 20 (FB2 n k)) (FB2 n k) nF (aq c2) ⟨inF z n k j dn e acc i a [(nd, .str y)],[],0,[],[]⟩) (inF z n k j dn e acc i a [(nd, .str y)]).led.length (PZ (21+n+5*k)) (inF z n k j dn e acc i a [(nd, .str y)]) (.str y)),(λy i a=>cq (18+n+5*k+1) (.str y) ⟨inF z n k j dn e acc i a [(nd, .str y)],[],0,[],[]⟩),(d0 (F1 n k).cells sc2.names []),(du sc2 nd),(dR (av c2)),(gZ (aN z n k j dn e acc).led.length (PZ (16+n+5*k)++[19+n+5*k]) (fT (eL z n k j dn e acc) (18+n+5*k) ((z.tl j).filter (aK dn))) (f9 z n k j dn e acc ((z.tl j).filter (aK dn)))),(SV.ref (18+n+5*k+1)))
def Kr(z:Dz)(dn:List Str)(e:Ent)(j:Nat)(acc:List Str)(n k:Nat):type_of% (J6 z dn e j acc n k):=((QE (.words (z.tl j))),(18+n+5*k),(b8 (evN (TT 20 (F1 n k)) (F1 n k) nF (av c2) ⟨aN z n k j dn e acc,[],0,[],[]⟩) (aN z n k j dn e acc).led.length (PZ (18+n+5*k)) (eL z n k j dn e acc) (.ref (17+n+5*k)) (ao ((z.tl j).length+1)/\True)),(λy i a=>b6 (inF z n k j dn e acc i a [(nd, .str y)])),(λy i a=>dP (tsN (TT 20 (FB2 n k)) (FB2 n k) nF if2 ⟨inF z n k j dn e acc i a [(nd, .str y)],[],0,[],[]⟩) (inF z n k j dn e acc i a [(nd, .str y)]).led.length (PZ (21+n+5*k)) (inF z n k j dn e acc i a [(nd, .str y)]) (aK dn y) True),(λy i a=>b8 (evN (TT 20 (FB2 n k)) (FB2 n k) nF (aq c2) ⟨inF z n k j dn e acc i a [(nd, .str y)],[],0,[],[]⟩) (inF z n k j dn e acc i a [(nd, .str y)]).led.length (PZ (21+n+5*k)) (inF z n k j dn e acc i a [(nd, .str y)]) (.str y) True),(λy i a=>QE (.none,⟨inF z n k j dn e acc i (a++[y]) [(nd, .str y)],[],0,[ao a.length],[]⟩)),(QE [(dnS,9+n)]),(QF),(QF),(g8 (aN z n k j dn e acc).led.length (PZ (16+n+5*k)++[19+n+5*k]) (fT (eL z n k j dn e acc) (18+n+5*k) ((z.tl j).filter (aK dn))) (f9 z n k j dn e acc ((z.tl j).filter (aK dn)))),(aU (at_ (PZ (16+n+5*k)++[19+n+5*k]) (fT (eL z n k j dn e acc) (18+n+5*k) ((z.tl j).filter (aK dn))).led.length) (.ref (16+n+5*k))))
theorem HQ{z:Dz}{n k j:Nat}{dn:List Str}{e:Ent}{acc:List Str}(hw:(z.tl j).length<=20)(h:J6 z dn e j acc n k=Kr z dn e j acc n k):EH (F1 n k) c2 (aN z n k j dn e acc) (f9 z n k j dn e acc ((z.tl j).filter (aK dn))) (.ref (16+n+5*k)):=in_of (QJ (·.1) h) (QJ (·.2.1) h) (QJ (·.2.2.1) h) (λy i a=>(QK (QK (QK (QJ (·.2.2.2.1) h) y) i) a)) (λy i a=>(QK (QK (QK (QJ (·.2.2.2.2.1) h) y) i) a)) (λy i a=>(QK (QK (QK (QJ (·.2.2.2.2.2.1) h) y) i) a)) (λy i a=>(QK (QK (QK (QJ (·.2.2.2.2.2.2.1) h) y) i) a)) (QJ (·.2.2.2.2.2.2.2.1) h) (QJ (·.2.2.2.2.2.2.2.2.1) h) (QJ (·.2.2.2.2.2.2.2.2.2.1) h) (fP (QJ (·.2.2.2.2.2.2.2.2.2.2.1) h)) (QJ (·.2.2.2.2.2.2.2.2.2.2.2) h) hw
def kW(z:Dz)(dn:List Str)(e:Ent)(n k:Nat):=mA 5 λj acc=>J6 z dn e j acc n k
def lQ(z:Dz)(dn:List Str)(e:Ent)(n k:Nat):=mB 5 λj acc=>Kr z dn e j acc n k
theorem Pt(z:Dz)(dn:List Str)(e:Ent):mA 2 (kW z dn e 2)=mB 2 (lQ z dn e 2):=by kernel_rfl
theorem Ol(z:Dz)(dn:List Str)(e:Ent):mA 3 (kW z dn e 3)=mB 3 (lQ z dn e 3):=by kernel_rfl
theorem N5(z:Dz)(dn:List Str)(e:Ent):mA 4 (kW z dn e 4)=mB 4 (lQ z dn e 4):=by kernel_rfl
theorem Ph(z:Dz)(dn:List Str)(e:Ent):mA 5 (kW z dn e 5)=mB 5 (lQ z dn e 5):=by kernel_rfl
theorem Oa(z:Dz)(dn:List Str)(e:Ent):mA 6 (kW z dn e 6)=mB 6 (lQ z dn e 6):=by kernel_rfl
theorem OE(z:Dz)(dn:List Str)(e:Ent):mA 7 (kW z dn e 7)=mB 7 (lQ z dn e 7):=by kernel_rfl
theorem Om(z:Dz)(dn:List Str)(e:Ent)(hw:∀j,(z.tl j).length<=20)(n k:Nat)(a:2<=n)(b:n<8)(c:k<n):InP z dn e n k:=
 ⟨λj hj acc=>HQ (hw _) (QK (mAB (iQ (L:=kW z dn e) (R:=lQ z dn e) (Pt z dn e) (Ol z dn e) (N5 z dn e) (Ph z dn e) (Oa z dn e) (OE z dn e) n k a b c) j hj) acc)⟩
noncomputable def isE(l:List Str):Bool:=(l.map Dat.str).isEmpty
def g9(z:Dz)(dn:List Str)(j:Nat):List Str:=(z.tl j).filter (aK dn)
def bW(z:Dz)(dn:List Str)(j:Nat):Bool:=(!af (nm j) dn)&&isE (g9 z dn j)
def TH(F:Fs)(e:Expr)(S:St)(b:Bool):Prop:=Wh (aJ GKS F e S S b)
def oC2(z:Dz)(n k j:Nat)(dn:List Str)(e:Ent)(acc:List Str):Orc:= .expr (iq c2) (f9 z n k j dn e acc (g9 z dn j)) (.ref (16+n+5*k))
def CR(z:Dz)(n k j:Nat)(dn:List Str)(e:Ent)(acc:List Str)(b:Bool):Prop:=isE (g9 z dn j)=b/\(((g9 z dn j).map Dat.str).all (kqdOk 8)=QF/\([]:List Dat).all (kqdOk 8)=QF)/\ah GKS (F1 n k) c2 (aN z n k j dn e acc) (f9 z n k j dn e acc (g9 z dn j)) (.ref (16+n+5*k))/\(!af (nm j) dn)=QF/\inR 0 (nm j::z.tl j).length=QF/\True
def CR0(z:Dz)(j:Nat)(dn:List Str):Prop:=(!af (nm j) dn)=QG/\inR 0 (nm j::z.tl j).length=QF/\True
theorem Hy{y:Str}{l:List Str}(h:l.length<=20):inR 0 (y::l).length=QF:=by
 unfold inR
 rw[decide_eq_true (Int.le_refl 0),decide_eq_true (by simp:(0:Int)<((y::l).length:Nat)),PU (by simp;lia)];rfl
theorem HL{l:List Str}(h:∀y∈l,y∈nms):(l.map Dat.str).all (kqdOk 8)=QF:=by
 rw[List.all_eq_true]
 intro d hd
 obtain⟨y,hy,rfl⟩:=Qe.mp hd
 have:=h y hy
 simp only[nms,Qb,Qi,or_false]at this
 rcases this with rfl|rfl|rfl|rfl|rfl<;>decide+kernel
theorem Ll{z:Dz}{n k j:Nat}{dn:List Str}{e:Ent}{acc:List Str}(hin:EH (F1 n k) c2 (aN z n k j dn e acc) (f9 z n k j dn e acc (g9 z dn j)) (.ref (16+n+5*k)))
  (h1:∀b,fC (tsN (TT 20 (F1 n k)) (F1 n k) nF if1 ⟨aN z n k j dn e acc,[(0,QF),(1,b)],0,[],[oC2 z n k j dn e acc]⟩) (aN z n k j dn e acc).led.length (PZ (16+n+5*k)) (aN z n k j dn e acc) b=dP (tsN (TT 20 (F1 n k)) (F1 n k) nF if1 ⟨aN z n k j dn e acc,[(0,QF),(1,b)],0,[],[oC2 z n k j dn e acc]⟩) (aN z n k j dn e acc).led.length (PZ (16+n+5*k)) (aN z n k j dn e acc) b (CR z n k j dn e acc b))
  (h2:fC (tsN (TT 20 (F1 n k)) (F1 n k) nF if1 ⟨aN z n k j dn e acc,[(0,QG)],0,[],[]⟩) (aN z n k j dn e acc).led.length (PZ (16+n+5*k)) (aN z n k j dn e acc) QG=dP (tsN (TT 20 (F1 n k)) (F1 n k) nF if1 ⟨aN z n k j dn e acc,[(0,QG)],0,[],[]⟩) (aN z n k j dn e acc).led.length (PZ (16+n+5*k)) (aN z n k j dn e acc) QG (CR0 z j dn))
  (hn:∀y∈z.tl j,y∈nms)(hl:(z.tl j).length<=20):TH (F1 n k) if1 (aN z n k j dn e acc) (bW z dn j):=by
 unfold bW
 cases e1:(!af (nm j) dn)with
 |false=>exact⟨@d4 _ 20 nF _ _ _ [(0,QG)] [] _ (PZ (16+n+5*k)) (CR0 z j dn) h2 ⟨e1,Hy hl,QI⟩⟩
 |true=>
  rw[Bool.true_and]
  exact⟨@d4 _ 20 nF _ _ _ [(0,QF),(1,isE (g9 z dn j))] [oC2 z n k j dn e acc] _ (PZ (16+n+5*k)) (CR z n k j dn e acc (isE (g9 z dn j))) (h1 _) ⟨rfl,⟨HL λy hy=>hn y (List.mem_filter.mp hy).1,rfl⟩,@Wh.h _ hin,e1,Hy hl,QI⟩⟩
def Ek:Pos:=(bB c1).pos
noncomputable def pC:Str:=QC "row"
structure oM (z:Dz) (n k j:Nat) (dn:List Str) (e:Ent) (acc:List Str):Prop where
 hN:ay GKS (F1 n k) (13+n+5*k) (SW z n k j dn e acc []) (SW z n k (j+1) dn e acc []) (QE (.ref (j+1)))
 hA:aC GKS (F1 n k) (.Name pC Ek) (.ref (j+1)) (SW z n k (j+1) dn e acc []) (aN z n k j dn e acc)
 hT:aJ GKS (F1 n k) if1 (aN z n k j dn e acc) (aN z n k j dn e acc) (bW z dn j)
 hE:ah GKS (F1 n k) (aq c1) (aN z n k j dn e acc) (aN z n k j dn e acc) (.str (nm j))
 hP:ao acc.length->a9 GKS (F1 n k) (14+n+5*k) (.str (nm j)) (aN z n k j dn e acc) (aN z n k j dn e (acc++[nm j]))
theorem J4{z:Dz}{n k j:Nat}{dn:List Str}{e:Ent}{acc:List Str}(ht:TH (F1 n k) if1 (aN z n k j dn e acc) (bW z dn j))
  (h1:cQ (13+n+5*k) (SW z n k j dn e acc []) (SW z n k (j+1) dn e acc []) (QE (.ref (j+1)))=dd (SW z n k (j+1) dn e acc []) (QE (.ref (j+1))))
  (h2:bJ (F1 n k) pC (.ref (j+1)) (SW z n k (j+1) dn e acc []) (aN z n k j dn e acc)=b6 (aN z n k j dn e acc))
  (h3:dq (evN (TT 20 (F1 n k)) (F1 n k) nF (aq c1) ⟨aN z n k j dn e acc,[],0,[],[]⟩) (aN z n k j dn e acc).led.length (PZ (16+n+5*k)) (aN z n k j dn e acc) (.str (nm j))=b8 (evN (TT 20 (F1 n k)) (F1 n k) nF (aq c1) ⟨aN z n k j dn e acc,[],0,[],[]⟩) (aN z n k j dn e acc).led.length (PZ (16+n+5*k)) (aN z n k j dn e acc) (.str (nm j)) (inR 0 (nm j::z.tl j).length=QF/\True))
  (h4:cq (14+n+5*k) (.str (nm j)) ⟨aN z n k j dn e acc,[],0,[],[]⟩=QE (.none,⟨aN z n k j dn e (acc++[nm j]),[],0,[ao acc.length],[]⟩))(hl:(z.tl j).length<=20):oM z n k j dn e acc:=
 ⟨@dc _ _ _ _ _ _ h1,@assign_k _ _ _ _ _ _ _ h2,@Wh.h _ ht,@bp _ 20 nF _ _ _ [] [] _ (PZ (16+n+5*k)) (inR 0 (nm j::z.tl j).length=QF/\True) h3 ⟨Hy hl,QI⟩,λh=>@a9.ran _ _ _ _ .none _ _ ⟨aN z n k j dn e (acc++[nm j]),[],0,[ao acc.length],[]⟩ h4 rfl ⟨h,QI⟩⟩
structure zr (z:Dz) (dn:List Str) (e:Ent) (n k:Nat):Prop where
 h:∀j,j<5->∀acc,oM z n k j dn e acc
 h5:∀acc,ay GKS (F1 n k) (13+n+5*k) (SW z n k 5 dn e acc []) ⟨dG n,(SD z n k (k+1) (nmC k) dn e).led++[.any, .words acc, .vars []]⟩ QD
structure DzOk (z:Dz):Prop where
 n:∀j,∀y∈z.tl j,y∈nms
 l:∀j,(z.tl j).length<=20
def B9(z:Dz)(dn:List Str)(e:Ent)(j:Nat)(acc:List Str)(n k:Nat):=((((fC (tsN (TT 20 (F1 n k)) (F1 n k) nF if1 ⟨aN z n k j dn e acc,[(0,QF),(1,QF)],0,[],[oC2 z n k j dn e acc]⟩) (aN z n k j dn e acc).led.length (PZ (16+n+5*k)) (aN z n k j dn e acc) QF),(fC (tsN (TT 20 (F1 n k)) (F1 n k) nF if1 ⟨aN z n k j dn e acc,[(0,QF),(1,QG)],0,[],[oC2 z n k j dn e acc]⟩) (aN z n k j dn e acc).led.length (PZ (16+n+5*k)) (aN z n k j dn e acc) QG))),(fC (tsN (TT 20 (F1 n k)) (F1 n k) nF if1 ⟨aN z n k j dn e acc,[(0,QG)],0,[],[]⟩) (aN z n k j dn e acc).led.length (PZ (16+n+5*k)) (aN z n k j dn e acc) QG))
def Dj(z:Dz)(dn:List Str)(e:Ent)(j:Nat)(acc:List Str)(n k:Nat):type_of% (B9 z dn e j acc n k):=((((dP (tsN (TT 20 (F1 n k)) (F1 n k) nF if1 ⟨aN z n k j dn e acc,[(0,QF),(1,QF)],0,[],[oC2 z n k j dn e acc]⟩) (aN z n k j dn e acc).led.length (PZ (16+n+5*k)) (aN z n k j dn e acc) QF (CR z n k j dn e acc QF)),(dP (tsN (TT 20 (F1 n k)) (F1 n k) nF if1 ⟨aN z n k j dn e acc,[(0,QF),(1,QG)],0,[],[oC2 z n k j dn e acc]⟩) (aN z n k j dn e acc).led.length (PZ (16+n+5*k)) (aN z n k j dn e acc) QG (CR z n k j dn e acc QG)))),(dP (tsN (TT 20 (F1 n k)) (F1 n k) nF if1 ⟨aN z n k j dn e acc,[(0,QG)],0,[],[]⟩) (aN z n k j dn e acc).led.length (PZ (16+n+5*k)) (aN z n k j dn e acc) QG (CR0 z j dn)))
theorem Hj{z:Dz}{n k j:Nat}{dn:List Str}{e:Ent}{acc:List Str}(hin:EH (F1 n k) c2 (aN z n k j dn e acc) (f9 z n k j dn e acc (g9 z dn j)) (.ref (16+n+5*k)))(hn:∀y∈z.tl j,y∈nms)(hl:(z.tl j).length<=20)(h:B9 z dn e j acc n k=Dj z dn e j acc n k):TH (F1 n k) if1 (aN z n k j dn e acc) (bW z dn j):=Ll hin (λb=>by cases b;exact QJ (·.2) (QJ (·.1) h);exact QJ (·.1) (QJ (·.1) h)) (QJ (·.2) h) hn hl
def qg(z:Dz)(dn:List Str)(e:Ent)(j:Nat)(acc:List Str)(n k:Nat):=((cQ (13+n+5*k) (SW z n k j dn e acc []) (SW z n k (j+1) dn e acc []) (QE (.ref (j+1)))),(bJ (F1 n k) pC (.ref (j+1)) (SW z n k (j+1) dn e acc []) (aN z n k j dn e acc)),(dq (evN (TT 20 (F1 n k)) (F1 n k) nF (aq c1) ⟨aN z n k j dn e acc,[],0,[],[]⟩) (aN z n k j dn e acc).led.length (PZ (16+n+5*k)) (aN z n k j dn e acc) (.str (nm j))),(cq (14+n+5*k) (.str (nm j)) ⟨aN z n k j dn e acc,[],0,[],[]⟩))
def uI(z:Dz)(dn:List Str)(e:Ent)(j:Nat)(acc:List Str)(n k:Nat):type_of% (qg z dn e j acc n k):=((dd (SW z n k (j+1) dn e acc []) (QE (.ref (j+1)))),(b6 (aN z n k j dn e acc)),(b8 (evN (TT 20 (F1 n k)) (F1 n k) nF (aq c1) ⟨aN z n k j dn e acc,[],0,[],[]⟩) (aN z n k j dn e acc).led.length (PZ (16+n+5*k)) (aN z n k j dn e acc) (.str (nm j)) (inR 0 (nm j::z.tl j).length=QF/\True)),(QE (.none,⟨aN z n k j dn e (acc++[nm j]),[],0,[ao acc.length],[]⟩)))
theorem CE{z:Dz}{n k j:Nat}{dn:List Str}{e:Ent}{acc:List Str}(ht:TH (F1 n k) if1 (aN z n k j dn e acc) (bW z dn j))(hl:(z.tl j).length<=20)(h:qg z dn e j acc n k=uI z dn e j acc n k):oM z n k j dn e acc:=J4 ht (QJ (·.1) h) (QJ (·.2.1) h) (QJ (·.2.2.1) h) (QJ (·.2.2.2) h) hl
def gi(z:Dz)(dn:List Str)(e:Ent)(n k:Nat):=(mA 5 λj acc=>(B9 z dn e j acc n k,qg z dn e j acc n k),λacc=>cQ (13+n+5*k) (SW z n k 5 dn e acc []) ⟨dG n,(SD z n k (k+1) (nmC k) dn e).led++[.any, .words acc, .vars []]⟩ QD)
def iy(z:Dz)(dn:List Str)(e:Ent)(n k:Nat):type_of% (gi z dn e n k):=(mB 5 λj acc=>(Dj z dn e j acc n k,uI z dn e j acc n k),λacc=>dd ⟨dG n,(SD z n k (k+1) (nmC k) dn e).led++[.any, .words acc, .vars []]⟩ QD)
theorem LK(z:Dz)(dn:List Str)(e:Ent):mA 2 (gi z dn e 2)=mB 2 (iy z dn e 2):=by kernel_rfl
theorem MW(z:Dz)(dn:List Str)(e:Ent):mA 3 (gi z dn e 3)=mB 3 (iy z dn e 3):=by kernel_rfl
theorem LH(z:Dz)(dn:List Str)(e:Ent):mA 4 (gi z dn e 4)=mB 4 (iy z dn e 4):=by kernel_rfl
theorem KZ(z:Dz)(dn:List Str)(e:Ent):mA 5 (gi z dn e 5)=mB 5 (iy z dn e 5):=by kernel_rfl
theorem MF(z:Dz)(dn:List Str)(e:Ent):mA 6 (gi z dn e 6)=mB 6 (iy z dn e 6):=by kernel_rfl
theorem NO(z:Dz)(dn:List Str)(e:Ent):mA 7 (gi z dn e 7)=mB 7 (iy z dn e 7):=by kernel_rfl
theorem LW(z:Dz)(dn:List Str)(e:Ent)(H:DzOk z)(n k:Nat)(a:2<=n)(b:n<8)(c:k<n):zr z dn e n k:=
 have h:=iQ (L:=gi z dn e) (R:=iy z dn e) (LK z dn e) (MW z dn e) (LH z dn e) (KZ z dn e) (MF z dn e) (NO z dn e) n k a b c
 ⟨λj hj acc=>have q:(B9 z dn e j acc n k,qg z dn e j acc n k)=(Dj z dn e j acc n k,uI z dn e j acc n k):=QK (mAB (show mA 5 (λj acc=>(B9 z dn e j acc n k,qg z dn e j acc n k))=mB 5 (λj acc=>(Dj z dn e j acc n k,uI z dn e j acc n k))from QJ Prod.fst h) j hj) acc;CE (Hj ((Om z dn e H.l n k a b c).h j hj acc) (H.n _) (H.l _) (QJ Prod.fst q)) (H.l _) (QJ Prod.snd q),λacc=>@dc _ _ _ _ _ _ (QK (QJ Prod.snd h) acc)⟩
noncomputable def wK(z:Dz)(dn:List Str):Nat->List Str
 |0=>[]
 |j+1=>match bW z dn j with
  |true=>wK z dn j++[nm j]
  |false=>wK z dn j
theorem oJ(z:Dz)(dn:List Str):∀j,(wK z dn j).length<=j
 |0=>PX _
 |j+1=>by
  have:=oJ z dn j
  unfold wK
  split<;>simp<;>lia
theorem uM{z:Dz}{n k j:Nat}{dn:List Str}{e:Ent}{acc:List Str}:di (aN z n k j dn e acc) (SW z n k (j+1) dn e acc []):=⟨rfl,(br.refl _).append (.cons (bE.refl _) (.cons (bE.refl _) (.cons (gU _) .nil)))⟩
def c1x:Expr:= .Name pC Ek
theorem kg{z:Dz}{n k j m:Nat}{dn:List Str}{e:Ent}{S':St}(R:oM z n k j dn e (wK z dn j))(hj:j<5)(h:aL GKS (F1 n k) (13+n+5*k) (14+n+5*k) (aq c1) c1x [if1] S' m (SW z n k (j+1) dn e (wK z dn (j+1)) [])):aL GKS (F1 n k) (13+n+5*k) (14+n+5*k) (aq c1) c1x [if1] S' (m+1) (SW z n k j dn e (wK z dn j) []):=by
 have hl:=oJ z dn j
 refine .step (@oM.hN _ _ _ _ _ _ _ R) (@oM.hA _ _ _ _ _ _ _ R) (.one (@oM.hT _ _ _ _ _ _ _ R)) (λhb=>⟨_,_,@oM.hE _ _ _ _ _ _ _ R,(@oM.hP _ _ _ _ _ _ _ R (PU (by lia))).soft ?_⟩) (λhb=>?_) h
 .have e:wK z dn (j+1)=wK z dn j++[nm j]:=by rw[wK,hb]
  rw[e];exact uM
 .have e:wK z dn (j+1)=wK z dn j:=by rw[wK,hb]
  rw[e];exact uM
theorem KP{z:Dz}{n k:Nat}{dn:List Str}{e:Ent}(R:zr z dn e n k):aL GKS (F1 n k) (13+n+5*k) (14+n+5*k) (aq c1) c1x [if1] ⟨dG n,(SD z n k (k+1) (nmC k) dn e).led++[.any, .words (wK z dn 5), .vars []]⟩ 6 (SW z n k 0 dn e [] []):=
 kg (R.h 0 (by decide) _) (by decide) (kg (R.h 1 (by decide) _) (by decide) (kg (R.h 2 (by decide) _) (by decide) (kg (R.h 3 (by decide) _) (by decide) (kg (R.h 4 (by decide) _) (by decide) (.done (@zr.h5 _ _ _ _ _ R _))))))
def SDw(z:Dz)(n k:Nat)(dn:List Str)(e:Ent)(w:List Str):St:=⟨dG n,(SD z n k (k+1) (nmC k) dn e).led++[.words w]⟩
def SDe(z:Dz)(n k:Nat)(dn:List Str)(e:Ent)(w:List Str):St:=⟨dG n,tH z n (k+1) (QE (.ref (13+n+5*k))) (nmC k) (QE (.ref (dnR n k))) (w0T dn k) (iP n k) (rG n e dn k++[.words w])⟩
noncomputable def wtS:Str:=QC "waits"
noncomputable def asT:Stmt->Pos
 |.Assign [.Name _ p] _ _=>p
 |s=>s.pos
theorem ae.assign_k{F:Fs}{x:Str}{xp pos:Pos}{e:Expr}{S S1 S2:St}{v:SV}(hno:∀env:Env,env.scope=F.sc->env.scope.kind= .function->swapsWith e (QE (.Name x xp)) pos.line env=pure QG)(h1:ah GKS F e S S1 v)(h2:bJ F x v S1 S2=b6 S2):ae GKS F (.Assign [.Name x xp] e pos) S S2 .next:=λc hK H O s m news p=>
 wpAny_Assign_Name (go_ (h1 c hK H O s m news p) λO1 m1 n1 v1 s1 p1 q1 r1=>by
  have h:bJ F x v S1 S2:=h2.mpr ⟨rfl,rfl,rfl⟩
  unfold bJ at h
  split at h
  .rename_i a x1 run
   obtain⟨h1,h2,h3⟩:=h
   refine go_ ((cB H.toCxW x v _ _ _ run (by rw[h3];trivial)).2 O1 s1 m1 n1 v1 q1 r1) λO2 m2 n2 v2 s2 p2 q2 r2=>?_
   exact⟨O2,m2,n2,p1.trans p2,q2.reloc h1 h2,rfl⟩
  .exact h.elim) (hno _ H.sc H.fn)
theorem L7:nth bD 0= .Assign [.Name wtS (asT (nth bD 0))] c1 (nth bD 0).pos:=by kernel_rfl
theorem Dl:c1= .ListComp (aq c1) (match c1 with | .ListComp _ g _ _=>g|_=>[]) sc1 c1.pos:=by kernel_rfl
theorem B1(n:Nat):mw (aE n).sc sc1 wtS (asT (nth bD 0)).line c1.pos.line=QG:=by kernel_rfl
theorem Ly{n:Nat}{env:Env}(h1:env.scope=(aE n).sc)(h2:env.scope.kind= .function):swapsWith c1 (QE (.Name wtS (asT (nth bD 0)))) (nth bD 0).pos.line env=pure QG:=by
 rw[Dl,pL h2,h1,B1 n]
theorem NI:c1= .ListComp (aq c1) [⟨.Name pC Ek,av c1,[if1],0⟩] sc1 c1.pos:=by kernel_rfl
def itS(z:Dz)(n k:Nat)(dn:List Str)(e:Ent):St:=⟨dG n,(SD z n k (k+1) (nmC k) dn e).led++[bo "list_iterator" 0 0]⟩
def WtP(z:Dz)(dn:List Str)(e:Ent)(n k:Nat):Prop:=Wh (ae GKS (aE n) (nth bD 0) (SD z n k (k+1) (nmC k) dn e) (SDe z n k dn e (wK z dn 5)) .next)
theorem Lc{z:Dz}{n k:Nat}{dn:List Str}{e:Ent}(R:zr z dn e n k)(hlen:(SD z n k (k+1) (nmC k) dn e).led.length=13+n+5*k)
  (h3:dq (evN (TT 20 (aE n)) (aE n) nF (av c1) ⟨SD z n k (k+1) (nmC k) dn e,[],0,[],[]⟩) (SD z n k (k+1) (nmC k) dn e).led.length (PZ (13+n+5*k)) (SD z n k (k+1) (nmC k) dn e) (.ref 0)=b8 (evN (TT 20 (aE n)) (aE n) nF (av c1) ⟨SD z n k (k+1) (nmC k) dn e,[],0,[],[]⟩) (SD z n k (k+1) (nmC k) dn e).led.length (PZ (13+n+5*k)) (SD z n k (k+1) (nmC k) dn e) (.ref 0) True)
  (h4:ec (.ref 0) ⟨SD z n k (k+1) (nmC k) dn e,[],0,[],[]⟩=QE (13+n+5*k,⟨itS z n k dn e,[],0,[],[]⟩))
  (hcl:d0 (aE n).cells sc1.names []=QE [(dnS,9+n)])(hok:du sc1 pC=QF)(hns:dR (av c1)=QF)
  (hg:(itS z n k dn e).led[13+n+5*k]?=QE (bo "list_iterator" 0 0))(hil:(itS z n k dn e).led.length=14+n+5*k)(hov:((SD z n k (k+1) (nmC k) dn e).led++[SO.any, .words (wK z dn 5), .vars []])[15+n+5*k]?=QE (.vars []))
  (hv:SV.ref (14+n+5*k)=aU (at_ (PZ (13+n+5*k)++[14+n+5*k]) (((SD z n k (k+1) (nmC k) dn e).led++[SO.any, .words (wK z dn 5), .vars []]).set (15+n+5*k) .any).length) (.ref (13+n+5*k)))
  (hfin:et (SD z n k (k+1) (nmC k) dn e).led.length (PZ (13+n+5*k)++[14+n+5*k]) ⟨dG n,((SD z n k (k+1) (nmC k) dn e).led++[SO.any, .words (wK z dn 5), .vars []]).set (15+n+5*k) .any⟩ (SDw z n k dn e (wK z dn 5)))
  (hrun:bJ (aE n) wtS (.ref (13+n+5*k)) (SDw z n k dn e (wK z dn 5)) (SDe z n k dn e (wK z dn 5))=b6 (SDe z n k dn e (wK z dn 5))):WtP z dn e n k:=by
 have hrun1:=KP R
 have e1:SW z n k 0 dn e [] []=⟨dG n,(itS z n k dn e).led++[.words [], .vars []]⟩:=by unfold SW itS;simp
 rw[e1]at hrun1
 have hil1:(itS z n k dn e).led.length+1=15+n+5*k:=by rw[hil];lia
 have hE:EH (aE n) c1 (SD z n k (k+1) (nmC k) dn e) (SDw z n k dn e (wK z dn 5)) (.ref (13+n+5*k)):=by
  refine⟨?_⟩
  rw[NI]
  refine@ah.comp GKS (aE n) (SD z n k (k+1) (nmC k) dn e) (SD z n k (k+1) (nmC k) dn e) (itS z n k dn e) ⟨dG n,(SD z n k (k+1) (nmC k) dn e).led++[.any, .words (wK z dn 5), .vars []]⟩ (SDw z n k dn e (wK z dn 5)) (aq c1) (av c1) [if1] pC Ek c1.pos sc1 (.ref 0) (.ref (13+n+5*k)) (13+n+5*k) 6 (bo "list_iterator" 0 0) (.words []) [(dnS,9+n)] [] (PZ (13+n+5*k)++[14+n+5*k]) hok hcl
   (@bp _ 20 nF _ _ _ [] [] _ (PZ (13+n+5*k)) True h3 QI) (@aI.ran _ _ _ _ _ _ ⟨itS z n k dn e,[],0,[],[]⟩ h4 rfl QI) hg (.inl (.inl rfl)) (bt []) ?_ ?_ hns ?_ ?_
  .rw[hil1,hil]
   exact hrun1
  .rw[hil1];exact hov
  .rw[hil1,hil];exact hv
  .rw[hil1];exact hfin
 refine⟨?_⟩
 rw[L7]
 exact@ae.assign_k _ _ _ _ _ _ _ _ _ (λenv h1 h2=>Ly h1 h2) (@Wh.h _ hE) hrun
def JB(z:Dz)(dn:List Str)(e:Ent)(n k:Nat):=(((SD z n k (k+1) (nmC k) dn e).led.length),(dq (evN (TT 20 (aE n)) (aE n) nF (av c1) ⟨SD z n k (k+1) (nmC k) dn e,[],0,[],[]⟩) (SD z n k (k+1) (nmC k) dn e).led.length (PZ (13+n+5*k)) (SD z n k (k+1) (nmC k) dn e) (.ref 0)),(ec (.ref 0) ⟨SD z n k (k+1) (nmC k) dn e,[],0,[],[]⟩),(d0 (aE n).cells sc1.names []),(du sc1 pC),(dR (av c1)),((itS z n k dn e).led[13+n+5*k]?),((itS z n k dn e).led.length),(((SD z n k (k+1) (nmC k) dn e).led++[SO.any, .words (wK z dn 5), .vars []])[15+n+5*k]?),(SV.ref (14+n+5*k)),(gZ (SD z n k (k+1) (nmC k) dn e).led.length (PZ (13+n+5*k)++[14+n+5*k]) ⟨dG n,((SD z n k (k+1) (nmC k) dn e).led++[SO.any, .words (wK z dn 5), .vars []]).set (15+n+5*k) .any⟩ (SDw z n k dn e (wK z dn 5))),(bJ (aE n) wtS (.ref (13+n+5*k)) (SDw z n k dn e (wK z dn 5)) (SDe z n k dn e (wK z dn 5))))
def KW(z:Dz)(dn:List Str)(e:Ent)(n k:Nat):type_of% (JB z dn e n k):=((13+n+5*k),(b8 (evN (TT 20 (aE n)) (aE n) nF (av c1) ⟨SD z n k (k+1) (nmC k) dn e,[],0,[],[]⟩) (SD z n k (k+1) (nmC k) dn e).led.length (PZ (13+n+5*k)) (SD z n k (k+1) (nmC k) dn e) (.ref 0) True),(QE (13+n+5*k,⟨itS z n k dn e,[],0,[],[]⟩)),(QE [(dnS,9+n)]),(QF),(QF),(QE (bo "list_iterator" 0 0)),(14+n+5*k),(QE (.vars [])),(aU (at_ (PZ (13+n+5*k)++[14+n+5*k]) (((SD z n k (k+1) (nmC k) dn e).led++[SO.any, .words (wK z dn 5), .vars []]).set (15+n+5*k) .any).length) (.ref (13+n+5*k))),(g8 (SD z n k (k+1) (nmC k) dn e).led.length (PZ (13+n+5*k)++[14+n+5*k]) ⟨dG n,((SD z n k (k+1) (nmC k) dn e).led++[SO.any, .words (wK z dn 5), .vars []]).set (15+n+5*k) .any⟩ (SDw z n k dn e (wK z dn 5))),(b6 (SDe z n k dn e (wK z dn 5))))
theorem IA{z:Dz}{n k:Nat}{dn:List Str}{e:Ent}(R:zr z dn e n k)(h:JB z dn e n k=KW z dn e n k):WtP z dn e n k:=Lc R (QJ (·.1) h) (QJ (·.2.1) h) (QJ (·.2.2.1) h) (QJ (·.2.2.2.1) h) (QJ (·.2.2.2.2.1) h) (QJ (·.2.2.2.2.2.1) h) (QJ (·.2.2.2.2.2.2.1) h) (QJ (·.2.2.2.2.2.2.2.1) h) (QJ (·.2.2.2.2.2.2.2.2.1) h) (QJ (·.2.2.2.2.2.2.2.2.2.1) h) (fP (QJ (·.2.2.2.2.2.2.2.2.2.2.1) h)) (QJ (·.2.2.2.2.2.2.2.2.2.2.2) h)
theorem Oc(z:Dz)(dn:List Str)(e:Ent)(H:DzOk z)(n k:Nat)(a:2<=n)(b:n<8)(c:k<n):WtP z dn e n k:=
 IA (LW z dn e H n k a b c) (iQ (L:=JB z dn e) (R:=KW z dn e) (by kernel_rfl) (by kernel_rfl) (by kernel_rfl) (by kernel_rfl) (by kernel_rfl) (by kernel_rfl) n k a b c)
def c4:Expr:=bj (nth bD 1)
def sc4:Scope:=aR c4
def if4:Expr:=(cU c4).headD c4
noncomputable def kS:Str:=QC "k"
noncomputable def erS:Str:=QC "early"
noncomputable def fu:Str:=QC "names"
noncomputable def Jj(n:Nat):SO:= .fields "range" [.int 0, .int (.ofNat n), .int 1]
noncomputable def B5(a b:Nat):SO:= .fields "range_iterator" [.top (.int (.ofNat a) 0), .top (.int (.ofNat b) 0), .top (.int 1 0)]
def F4(n k:Nat):Fs:=ej (aE n) sc4 [(wtS,7+n),(fu,8+n)] (17+n+5*k)
def eS(z:Dz)(n k:Nat)(dn:List Str)(e:Ent)(w:List Str)(L i m:Nat)(acc:List Str)(V:List (Str×SV)):St:=⟨dG n,(SDe z n k dn e w).led++[Jj L,B5 i m, .words acc, .vars V]⟩
def kV(i:Nat):List (Str×SV):=[(kS, .int (.ofNat i))]
noncomputable def gSr(ys:List Str)(i:Nat):Str:=ys.getD i ⟨#[]⟩
def erB(ys w:List Str)(i:Nat):Bool:=(!af (gSr ys i) w)||af (gSr ys i) (bx ys QD (QE (.ofNat i)))
noncomputable def erK(ys w:List Str):Nat->List Str
 |0=>[]
 |i+1=>match erB ys w i with
  |true=>erK ys w i++[gSr ys i]
  |false=>erK ys w i
theorem j2(ys w:List Str):∀j,(erK ys w j).length<=j
 |0=>PX _
 |j+1=>by
  have:=j2 ys w j
  unfold erK
  split<;>simp<;>lia
def CE0(ys w:List Str)(i:Nat):Prop:=(!af (gSr ys i) w)=QF/\inR (.ofNat i) ys.length=QF/\True
def CE1(ys w:List Str)(i:Nat)(b:Bool):Prop:=af (gSr ys i) (bx ys QD (QE (.ofNat i)))=b/\ao ys.length/\inR (.ofNat i) ys.length=QF/\(!af (gSr ys i) w)=QG/\inR (.ofNat i) ys.length=QF/\True
def kP:Pos:=(bB c4).pos
theorem G1{i l:Nat}(h:i<l)(hl:l<=1000):inR (.ofNat i) l=QF:=by
 unfold inR
 rw[decide_eq_true (by simp:(0:Int)<= .ofNat i),decide_eq_true (by simp;lia:Int.ofNat i<(l:Nat)),PU hl];rfl
structure ErP (z:Dz) (n k:Nat) (dn:List Str) (e:Ent) (w:List Str):Prop where
 hN:∀L i m acc,m<3->ay GKS (F4 n k) (15+n+5*k) (eS z n k dn e w L i (m+1) acc []) (eS z n k dn e w L (i+1) m acc []) (QE (.int (.ofNat i)))
 hZ:∀L i acc,ay GKS (F4 n k) (15+n+5*k) (eS z n k dn e w L i 0 acc []) (eS z n k dn e w L i 0 acc []) QD
 hA:∀L i m acc,aC GKS (F4 n k) (.Name kS kP) (.int (.ofNat i)) (eS z n k dn e w L (i+1) m acc []) (eS z n k dn e w L (i+1) m acc (kV i))
 hT:∀L i m acc,i<(z.pl k).length->aJ GKS (F4 n k) if4 (eS z n k dn e w L (i+1) m acc (kV i)) (eS z n k dn e w L (i+1) m acc (kV i)) (erB (z.pl k) w i)
 hE:∀L i m acc,i<(z.pl k).length->ah GKS (F4 n k) (aq c4) (eS z n k dn e w L (i+1) m acc (kV i)) (eS z n k dn e w L (i+1) m acc (kV i)) (.str (gSr (z.pl k) i))
 hP:∀L i m acc,ao acc.length->a9 GKS (F4 n k) (16+n+5*k) (.str (gSr (z.pl k) i)) (eS z n k dn e w L (i+1) m acc (kV i)) (eS z n k dn e w L (i+1) m (acc++[gSr (z.pl k) i]) (kV i))
theorem Nr{z:Dz}{n k:Nat}{dn:List Str}{e:Ent}{w:List Str}(hl:(z.pl k).length<=1000)
  (h0:∀L i acc,cQ (15+n+5*k) (eS z n k dn e w L i 1 acc []) (eS z n k dn e w L (i+1) 0 acc []) (QE (.int (.ofNat i)))=dd (eS z n k dn e w L (i+1) 0 acc []) (QE (.int (.ofNat i))))
  (h1:∀L i acc,cQ (15+n+5*k) (eS z n k dn e w L i 2 acc []) (eS z n k dn e w L (i+1) 1 acc []) (QE (.int (.ofNat i)))=dd (eS z n k dn e w L (i+1) 1 acc []) (QE (.int (.ofNat i))))
  (h2:∀L i acc,cQ (15+n+5*k) (eS z n k dn e w L i 3 acc []) (eS z n k dn e w L (i+1) 2 acc []) (QE (.int (.ofNat i)))=dd (eS z n k dn e w L (i+1) 2 acc []) (QE (.int (.ofNat i))))
  (h3:∀L i acc,cQ (15+n+5*k) (eS z n k dn e w L i 0 acc []) (eS z n k dn e w L i 0 acc []) QD=dd (eS z n k dn e w L i 0 acc []) QD)
  (h4:∀L i m acc,bJ (F4 n k) kS (.int (.ofNat i)) (eS z n k dn e w L (i+1) m acc []) (eS z n k dn e w L (i+1) m acc (kV i))=b6 (eS z n k dn e w L (i+1) m acc (kV i)))
  (h5:∀L i m acc,fC (tsN (TT 20 (F4 n k)) (F4 n k) nF if4 ⟨eS z n k dn e w L (i+1) m acc (kV i),[(0,QF)],0,[],[]⟩) (eS z n k dn e w L (i+1) m acc (kV i)).led.length (PZ (18+n+5*k)) (eS z n k dn e w L (i+1) m acc (kV i)) QF=dP (tsN (TT 20 (F4 n k)) (F4 n k) nF if4 ⟨eS z n k dn e w L (i+1) m acc (kV i),[(0,QF)],0,[],[]⟩) (eS z n k dn e w L (i+1) m acc (kV i)).led.length (PZ (18+n+5*k)) (eS z n k dn e w L (i+1) m acc (kV i)) QF (CE0 (z.pl k) w i))
  (h6:∀L i m acc b,fC (tsN (TT 20 (F4 n k)) (F4 n k) nF if4 ⟨eS z n k dn e w L (i+1) m acc (kV i),[(0,QG),(1,b)],0,[],[]⟩) (eS z n k dn e w L (i+1) m acc (kV i)).led.length (PZ (18+n+5*k)) (eS z n k dn e w L (i+1) m acc (kV i)) b=dP (tsN (TT 20 (F4 n k)) (F4 n k) nF if4 ⟨eS z n k dn e w L (i+1) m acc (kV i),[(0,QG),(1,b)],0,[],[]⟩) (eS z n k dn e w L (i+1) m acc (kV i)).led.length (PZ (18+n+5*k)) (eS z n k dn e w L (i+1) m acc (kV i)) b (CE1 (z.pl k) w i b))
  (h7:∀L i m acc,dq (evN (TT 20 (F4 n k)) (F4 n k) nF (aq c4) ⟨eS z n k dn e w L (i+1) m acc (kV i),[],0,[],[]⟩) (eS z n k dn e w L (i+1) m acc (kV i)).led.length (PZ (18+n+5*k)) (eS z n k dn e w L (i+1) m acc (kV i)) (.str (gSr (z.pl k) i))=b8 (evN (TT 20 (F4 n k)) (F4 n k) nF (aq c4) ⟨eS z n k dn e w L (i+1) m acc (kV i),[],0,[],[]⟩) (eS z n k dn e w L (i+1) m acc (kV i)).led.length (PZ (18+n+5*k)) (eS z n k dn e w L (i+1) m acc (kV i)) (.str (gSr (z.pl k) i)) (inR (.ofNat i) (z.pl k).length=QF/\True))
  (h8:∀L i m acc,cq (16+n+5*k) (.str (gSr (z.pl k) i)) ⟨eS z n k dn e w L (i+1) m acc (kV i),[],0,[],[]⟩=QE (.none,⟨eS z n k dn e w L (i+1) m (acc++[gSr (z.pl k) i]) (kV i),[],0,[ao acc.length],[]⟩)):ErP z n k dn e w where
 hN L i m acc hm:=by
  match m,hm with
  |0,_=>exact@dc _ _ _ _ _ _ (h0 L i acc)
  |1,_=>exact@dc _ _ _ _ _ _ (h1 L i acc)
  |2,_=>exact@dc _ _ _ _ _ _ (h2 L i acc)
 hZ L i acc:=@dc _ _ _ _ _ _ (h3 L i acc)
 hA L i m acc:=@assign_k _ _ _ _ _ _ _ (h4 L i m acc)
 hT L i m acc hi:=by
  have hr:=G1 hi hl
  unfold erB
  cases e1:(!af (gSr (z.pl k) i) w)with
  |true=>
   rw[Bool.true_or]
   exact@d4 _ 20 nF _ _ _ [(0,QF)] [] _ (PZ (18+n+5*k)) (CE0 (z.pl k) w i) (h5 L i m acc) ⟨e1,hr,QI⟩
  |false=>
   rw[Bool.false_or]
   exact@d4 _ 20 nF _ _ _ [(0,QG),(1,af (gSr (z.pl k) i) (bx (z.pl k) QD (QE (.ofNat i))))] [] _ (PZ (18+n+5*k)) (CE1 (z.pl k) w i _) (h6 L i m acc _) ⟨rfl,PU hl,hr,e1,hr,QI⟩
 hE L i m acc hi:=@bp _ 20 nF _ _ _ [] [] _ (PZ (18+n+5*k)) (inR (.ofNat i) (z.pl k).length=QF/\True) (h7 L i m acc) ⟨G1 hi hl,QI⟩
 hP L i m acc h:=@a9.ran _ _ _ _ .none _ _ ⟨eS z n k dn e w L (i+1) m (acc++[gSr (z.pl k) i]) (kV i),[],0,[ao acc.length],[]⟩ (h8 L i m acc) rfl ⟨h,QI⟩
def Ho(z:Dz)(dn:List Str)(e:Ent)(w:List Str)(n k:Nat):=((λL i acc=>cQ (15+n+5*k) (eS z n k dn e w L i 1 acc []) (eS z n k dn e w L (i+1) 0 acc []) (QE (.int (.ofNat i)))),(λL i acc=>cQ (15+n+5*k) (eS z n k dn e w L i 2 acc []) (eS z n k dn e w L (i+1) 1 acc []) (QE (.int (.ofNat i)))),(λL i acc=>cQ (15+n+5*k) (eS z n k dn e w L i 3 acc []) (eS z n k dn e w L (i+1) 2 acc []) (QE (.int (.ofNat i)))),(λL i acc=>cQ (15+n+5*k) (eS z n k dn e w L i 0 acc []) (eS z n k dn e w L i 0 acc []) QD),(λL i m acc=>bJ (F4 n k) kS (.int (.ofNat i)) (eS z n k dn e w L (i+1) m acc []) (eS z n k dn e w L (i+1) m acc (kV i))),(λL i m acc=>fC (tsN (TT 20 (F4 n k)) (F4 n k) nF if4 ⟨eS z n k dn e w L (i+1) m acc (kV i),[(0,QF)],0,[],[]⟩) (eS z n k dn e w L (i+1) m acc (kV i)).led.length (PZ (18+n+5*k)) (eS z n k dn e w L (i+1) m acc (kV i)) QF),(λL i m acc=>((fC (tsN (TT 20 (F4 n k)) (F4 n k) nF if4 ⟨eS z n k dn e w L (i+1) m acc (kV i),[(0,QG),(1,QF)],0,[],[]⟩) (eS z n k dn e w L (i+1) m acc (kV i)).led.length (PZ (18+n+5*k)) (eS z n k dn e w L (i+1) m acc (kV i)) QF),(fC (tsN (TT 20 (F4 n k)) (F4 n k) nF if4 ⟨eS z n k dn e w L (i+1) m acc (kV i),[(0,QG),(1,QG)],0,[],[]⟩) (eS z n k dn e w L (i+1) m acc (kV i)).led.length (PZ (18+n+5*k)) (eS z n k dn e w L (i+1) m acc (kV i)) QG))),(λL i m acc=>dq (evN (TT 20 (F4 n k)) (F4 n k) nF (aq c4) ⟨eS z n k dn e w L (i+1) m acc (kV i),[],0,[],[]⟩) (eS z n k dn e w L (i+1) m acc (kV i)).led.length (PZ (18+n+5*k)) (eS z n k dn e w L (i+1) m acc (kV i)) (.str (gSr (z.pl k) i))),(λL i m acc=>cq (16+n+5*k) (.str (gSr (z.pl k) i)) ⟨eS z n k dn e w L (i+1) m acc (kV i),[],0,[],[]⟩))
def M8(z:Dz)(dn:List Str)(e:Ent)(w:List Str)(n k:Nat):type_of% (Ho z dn e w n k):=((λL i acc=>dd (eS z n k dn e w L (i+1) 0 acc []) (QE (.int (.ofNat i)))),(λL i acc=>dd (eS z n k dn e w L (i+1) 1 acc []) (QE (.int (.ofNat i)))),(λL i acc=>dd (eS z n k dn e w L (i+1) 2 acc []) (QE (.int (.ofNat i)))),(λL i acc=>dd (eS z n k dn e w L i 0 acc []) QD),(λL i m acc=>b6 (eS z n k dn e w L (i+1) m acc (kV i))),(λL i m acc=>dP (tsN (TT 20 (F4 n k)) (F4 n k) nF if4 ⟨eS z n k dn e w L (i+1) m acc (kV i),[(0,QF)],0,[],[]⟩) (eS z n k dn e w L (i+1) m acc (kV i)).led.length (PZ (18+n+5*k)) (eS z n k dn e w L (i+1) m acc (kV i)) QF (CE0 (z.pl k) w i)),(λL i m acc=>((dP (tsN (TT 20 (F4 n k)) (F4 n k) nF if4 ⟨eS z n k dn e w L (i+1) m acc (kV i),[(0,QG),(1,QF)],0,[],[]⟩) (eS z n k dn e w L (i+1) m acc (kV i)).led.length (PZ (18+n+5*k)) (eS z n k dn e w L (i+1) m acc (kV i)) QF (CE1 (z.pl k) w i QF)),(dP (tsN (TT 20 (F4 n k)) (F4 n k) nF if4 ⟨eS z n k dn e w L (i+1) m acc (kV i),[(0,QG),(1,QG)],0,[],[]⟩) (eS z n k dn e w L (i+1) m acc (kV i)).led.length (PZ (18+n+5*k)) (eS z n k dn e w L (i+1) m acc (kV i)) QG (CE1 (z.pl k) w i QG)))),(λL i m acc=>b8 (evN (TT 20 (F4 n k)) (F4 n k) nF (aq c4) ⟨eS z n k dn e w L (i+1) m acc (kV i),[],0,[],[]⟩) (eS z n k dn e w L (i+1) m acc (kV i)).led.length (PZ (18+n+5*k)) (eS z n k dn e w L (i+1) m acc (kV i)) (.str (gSr (z.pl k) i)) (inR (.ofNat i) (z.pl k).length=QF/\True)),(λL i m acc=>QE (.none,⟨eS z n k dn e w L (i+1) m (acc++[gSr (z.pl k) i]) (kV i),[],0,[ao acc.length],[]⟩)))
theorem IT{z:Dz}{n k:Nat}{dn:List Str}{e:Ent}{w:List Str}(hl:(z.pl k).length<=1000)(h:Ho z dn e w n k=M8 z dn e w n k):ErP z n k dn e w:=Nr hl (λL i acc=>(QK (QK (QK (QJ (·.1) h) L) i) acc)) (λL i acc=>(QK (QK (QK (QJ (·.2.1) h) L) i) acc)) (λL i acc=>(QK (QK (QK (QJ (·.2.2.1) h) L) i) acc)) (λL i acc=>(QK (QK (QK (QJ (·.2.2.2.1) h) L) i) acc)) (λL i m acc=>(QK (QK (QK (QK (QJ (·.2.2.2.2.1) h) L) i) m) acc)) (λL i m acc=>(QK (QK (QK (QK (QJ (·.2.2.2.2.2.1) h) L) i) m) acc)) (λL i m acc b=>by cases b;exact QJ (·.2) (QK (QK (QK (QK (QJ (·.2.2.2.2.2.2.1) h) L) i) m) acc);exact QJ (·.1) (QK (QK (QK (QK (QJ (·.2.2.2.2.2.2.1) h) L) i) m) acc)) (λL i m acc=>(QK (QK (QK (QK (QJ (·.2.2.2.2.2.2.2.1) h) L) i) m) acc)) (λL i m acc=>(QK (QK (QK (QK (QJ (·.2.2.2.2.2.2.2.2) h) L) i) m) acc))
theorem Pc(z:Dz)(dn:List Str)(e:Ent)(w:List Str)(hl:∀j,(z.pl j).length<=1000)(n k:Nat)(a:2<=n)(b:n<8)(c:k<n):ErP z n k dn e w:=
 IT (hl _) (iQ (L:=Ho z dn e w) (R:=M8 z dn e w) (by kernel_rfl) (by kernel_rfl) (by kernel_rfl) (by kernel_rfl) (by kernel_rfl) (by kernel_rfl) n k a b c)
theorem uP{z:Dz}{n k L i m:Nat}{dn:List Str}{e:Ent}{w acc:List Str}{V:List (Str×SV)}:di (eS z n k dn e w L i m acc V) (eS z n k dn e w L i m acc []):=⟨rfl,(br.refl _).append (.cons (bE.refl _) (.cons (bE.refl _) (.cons (bE.refl _) (.cons (gU _) .nil))))⟩
def c4x:Expr:= .Name kS kP
theorem IJ{z:Dz}{n k:Nat}{dn:List Str}{e:Ent}{w:List Str}(R:ErP z n k dn e w)(hL:(z.pl k).length<=3):∀m i,i+m=(z.pl k).length->aL GKS (F4 n k) (15+n+5*k) (16+n+5*k) (aq c4) c4x [if4] (eS z n k dn e w (z.pl k).length (z.pl k).length 0 (erK (z.pl k) w (z.pl k).length) []) (m+1) (eS z n k dn e w (z.pl k).length i m (erK (z.pl k) w i) []):=by
 intro m
 induction m with
 |zero=>
  intro i hi
  have:i=(z.pl k).length:=by lia
  subst this
  exact .done (@ErP.hZ _ _ _ _ _ _ R _ _ _)
 |succ m ih=>
  intro i hi
  have hlt:i<(z.pl k).length:=by lia
  have hk:=j2 (z.pl k) w i
  refine .step (@ErP.hN _ _ _ _ _ _ R _ _ _ _ (by lia)) (@ErP.hA _ _ _ _ _ _ R _ _ _ _) (.one (@ErP.hT _ _ _ _ _ _ R _ _ _ _ hlt)) (λhb=>⟨_,_,@ErP.hE _ _ _ _ _ _ R _ _ _ _ hlt,(@ErP.hP _ _ _ _ _ _ R _ i m (erK (z.pl k) w i) (PU (by lia))).soft ?_⟩) (λhb=>?_) (ih (i+1) (by lia))
  .have e1:erK (z.pl k) w (i+1)=erK (z.pl k) w i++[gSr (z.pl k) i]:=by rw[erK,hb]
   rw[e1];exact uP
  .have e1:erK (z.pl k) w (i+1)=erK (z.pl k) w i:=by rw[erK,hb]
   rw[e1];exact uP
theorem Nz:nth bD 1= .Assign [.Name erS (asT (nth bD 1))] (.ListComp (aq c4) [⟨.Name kS kP,av c4,[if4],0⟩] sc4 c4.pos) (nth bD 1).pos:=by kernel_rfl
def eaR(z:Dz)(n k:Nat)(dn:List Str)(e:Ent)(w:List Str)(L:Nat):St:=⟨dG n,(SDe z n k dn e w).led++[Jj L]⟩
def eI(z:Dz)(n k:Nat)(dn:List Str)(e:Ent)(w:List Str)(L:Nat):St:=⟨dG n,(SDe z n k dn e w).led++[Jj L,B5 0 L]⟩
def e6(z:Dz)(n k:Nat)(dn:List Str)(e:Ent)(w:List Str)(L:Nat)(acc:List Str):St:=⟨dG n++[(erS, .ref (16+n+5*k))],(eS z n k dn e w L L 0 acc []).led⟩
def SF(z:Dz)(n k:Nat)(dn:List Str)(e:Ent)(w er:List Str):St:=⟨dG n++[(erS, .ref (14+n+5*k))],(SDe z n k dn e w).led++[.words er]⟩
def EaP(z:Dz)(dn:List Str)(e:Ent)(w:List Str)(n k:Nat):Prop:=Wh (ae GKS (aE n) (nth bD 1) (SDe z n k dn e w) (SF z n k dn e w (erK (z.pl k) w (z.pl k).length)) .next)
theorem Lm{z:Dz}{n k:Nat}{dn:List Str}{e:Ent}{w:List Str}(R:ErP z n k dn e w)(hL1:1<=(z.pl k).length)(hL:(z.pl k).length<=3)
  (h3:dq (evN (TT 20 (aE n)) (aE n) nF (av c4) ⟨SDe z n k dn e w,[],0,[],[]⟩) (SDe z n k dn e w).led.length (PZ (15+n+5*k)) (eaR z n k dn e w (z.pl k).length) (.ref (14+n+5*k))=b8 (evN (TT 20 (aE n)) (aE n) nF (av c4) ⟨SDe z n k dn e w,[],0,[],[]⟩) (SDe z n k dn e w).led.length (PZ (15+n+5*k)) (eaR z n k dn e w (z.pl k).length) (.ref (14+n+5*k)) (ao (z.pl k).length/\True))
  (h4:ec (.ref (14+n+5*k)) ⟨eaR z n k dn e w 1,[],0,[],[]⟩=QE (15+n+5*k,⟨eI z n k dn e w 1,[],0,[],[]⟩))
  (h5:ec (.ref (14+n+5*k)) ⟨eaR z n k dn e w 2,[],0,[],[]⟩=QE (15+n+5*k,⟨eI z n k dn e w 2,[],0,[],[]⟩))
  (h6:ec (.ref (14+n+5*k)) ⟨eaR z n k dn e w 3,[],0,[],[]⟩=QE (15+n+5*k,⟨eI z n k dn e w 3,[],0,[],[]⟩))
  (hcl:d0 (aE n).cells sc4.names []=QE [(wtS,7+n),(fu,8+n)])(hsw:mw (aE n).sc sc4 erS (asT (nth bD 1)).line c4.pos.line=QF)(hok:du sc4 kS=QF)(hns:dR (av c4)=QF)
  (hg:∀L,(eI z n k dn e w L).led[15+n+5*k]?=QE (B5 0 L))(hil:∀L,(eI z n k dn e w L).led.length=16+n+5*k)
  (hst:∀L acc,bJ (aE n) erS (.ref (16+n+5*k)) (eS z n k dn e w L L 0 acc []) (e6 z n k dn e w L acc)=b6 (e6 z n k dn e w L acc))
  (hov:∀L acc,(e6 z n k dn e w L acc).led[17+n+5*k]?=QE (.vars []))
  (hfin:∀L acc,et (SDe z n k dn e w).led.length (PZ (14+n+5*k)++[16+n+5*k]) ⟨(e6 z n k dn e w L acc).loc,(e6 z n k dn e w L acc).led.set (17+n+5*k) .any⟩ (SF z n k dn e w acc)):EaP z dn e w n k:=by
 have hrun:=IJ R hL (z.pl k).length 0 (by lia)
 have hit:∀L,1<=L->L<=3->ec (.ref (14+n+5*k)) ⟨eaR z n k dn e w L,[],0,[],[]⟩=QE (15+n+5*k,⟨eI z n k dn e w L,[],0,[],[]⟩):=λL a b=>by
  match L,a,b with
  |1,_,_=>exact h4
  |2,_,_=>exact h5
  |3,_,_=>exact h6
 have e1:∀L,eS z n k dn e w L 0 L (erK (z.pl k) w 0) []=⟨dG n,(eI z n k dn e w L).led++[.words [], .vars []]⟩:=λL=>by unfold eS eI;simp[erK]
 rw[e1]at hrun
 have hil1:∀L,(eI z n k dn e w L).led.length+1=17+n+5*k:=λL=>by rw[hil];lia
 refine⟨?_⟩
 rw[Nz]
 refine@ae.comp GKS (aE n) (SDe z n k dn e w) (eaR z n k dn e w (z.pl k).length) (eI z n k dn e w (z.pl k).length) (eS z n k dn e w (z.pl k).length (z.pl k).length 0 (erK (z.pl k) w (z.pl k).length) []) (e6 z n k dn e w (z.pl k).length (erK (z.pl k) w (z.pl k).length)) (SF z n k dn e w (erK (z.pl k) w (z.pl k).length)) (aq c4) (av c4) [if4] kS erS kP c4.pos (asT (nth bD 1)) (nth bD 1).pos sc4 (.ref (14+n+5*k)) (15+n+5*k) ((z.pl k).length+1) (B5 0 (z.pl k).length) (.words []) [(wtS,7+n),(fu,8+n)] [] (PZ (14+n+5*k)++[16+n+5*k]) hsw hok hcl
  (@bp _ 20 nF _ _ _ [] [] _ (PZ (15+n+5*k)) (ao (z.pl k).length/\True) h3 ⟨PU (by lia),QI⟩) (@aI.ran _ _ _ _ _ _ ⟨eI z n k dn e w (z.pl k).length,[],0,[],[]⟩ (hit _ hL1 hL) rfl QI) (hg _) ?_ (bt []) ?_ ?_ ?_ hns ?_
 .exact(rfl:"range_iterator"="range_iterator")
 .rw[hil1,hil];exact hrun
 .rw[hil];exact@assign_k _ _ _ _ _ _ _ (hst _ _)
 .rw[hil1];exact hov _ _
 .rw[hil1];exact hfin _ _
def J1(z:Dz)(dn:List Str)(e:Ent)(w:List Str)(n k:Nat):=((dq (evN (TT 20 (aE n)) (aE n) nF (av c4) ⟨SDe z n k dn e w,[],0,[],[]⟩) (SDe z n k dn e w).led.length (PZ (15+n+5*k)) (eaR z n k dn e w (z.pl k).length) (.ref (14+n+5*k))),(ec (.ref (14+n+5*k)) ⟨eaR z n k dn e w 1,[],0,[],[]⟩),(ec (.ref (14+n+5*k)) ⟨eaR z n k dn e w 2,[],0,[],[]⟩),(ec (.ref (14+n+5*k)) ⟨eaR z n k dn e w 3,[],0,[],[]⟩),(d0 (aE n).cells sc4.names []),(mw (aE n).sc sc4 erS (asT (nth bD 1)).line c4.pos.line),(du sc4 kS),(dR (av c4)),(λL=>(eI z n k dn e w L).led[15+n+5*k]?),(λL=>(eI z n k dn e w L).led.length),(λL acc=>bJ (aE n) erS (.ref (16+n+5*k)) (eS z n k dn e w L L 0 acc []) (e6 z n k dn e w L acc)),(λL acc=>(e6 z n k dn e w L acc).led[17+n+5*k]?),(λL acc=>gZ (SDe z n k dn e w).led.length (PZ (14+n+5*k)++[16+n+5*k]) ⟨(e6 z n k dn e w L acc).loc,(e6 z n k dn e w L acc).led.set (17+n+5*k) .any⟩ (SF z n k dn e w acc)))
def KB(z:Dz)(dn:List Str)(e:Ent)(w:List Str)(n k:Nat):type_of% (J1 z dn e w n k):=((b8 (evN (TT 20 (aE n)) (aE n) nF (av c4) ⟨SDe z n k dn e w,[],0,[],[]⟩) (SDe z n k dn e w).led.length (PZ (15+n+5*k)) (eaR z n k dn e w (z.pl k).length) (.ref (14+n+5*k)) (ao (z.pl k).length/\True)),(QE (15+n+5*k,⟨eI z n k dn e w 1,[],0,[],[]⟩)),(QE (15+n+5*k,⟨eI z n k dn e w 2,[],0,[],[]⟩)),(QE (15+n+5*k,⟨eI z n k dn e w 3,[],0,[],[]⟩)),(QE [(wtS,7+n),(fu,8+n)]),(QF),(QF),(QF),(λL=>QE (B5 0 L)),(λL=>16+n+5*k),(λL acc=>b6 (e6 z n k dn e w L acc)),(λL acc=>QE (.vars [])),(λL acc=>g8 (SDe z n k dn e w).led.length (PZ (14+n+5*k)++[16+n+5*k]) ⟨(e6 z n k dn e w L acc).loc,(e6 z n k dn e w L acc).led.set (17+n+5*k) .any⟩ (SF z n k dn e w acc)))
theorem Hp{z:Dz}{n k:Nat}{dn:List Str}{e:Ent}{w:List Str}(R:ErP z n k dn e w)(hL1:1<=(z.pl k).length)(hL:(z.pl k).length<=3)(h:J1 z dn e w n k=KB z dn e w n k):EaP z dn e w n k:=Lm R hL1 hL (QJ (·.1) h) (QJ (·.2.1) h) (QJ (·.2.2.1) h) (QJ (·.2.2.2.1) h) (QJ (·.2.2.2.2.1) h) (QJ (·.2.2.2.2.2.1) h) (QJ (·.2.2.2.2.2.2.1) h) (QJ (·.2.2.2.2.2.2.2.1) h) (λL=>(QK (QJ (·.2.2.2.2.2.2.2.2.1) h) L)) (λL=>(QK (QJ (·.2.2.2.2.2.2.2.2.2.1) h) L)) (λL acc=>(QK (QK (QJ (·.2.2.2.2.2.2.2.2.2.2.1) h) L) acc)) (λL acc=>(QK (QK (QJ (·.2.2.2.2.2.2.2.2.2.2.2.1) h) L) acc)) (λL acc=>fP (QK (QK (QJ (·.2.2.2.2.2.2.2.2.2.2.2.2) h) L) acc))
theorem Px(z:Dz)(dn:List Str)(e:Ent)(w:List Str)(h1:∀j,1<=(z.pl j).length)(h3:∀j,(z.pl j).length<=3)(n k:Nat)(a:2<=n)(b:n<8)(c:k<n):EaP z dn e w n k:=
 Hp (Pc z dn e w (λj=>PW (h3 j) (by decide)) n k a b c) (h1 _) (h3 _) (iQ (L:=J1 z dn e w) (R:=KB z dn e w) (by kernel_rfl) (by kernel_rfl) (by kernel_rfl) (by kernel_rfl) (by kernel_rfl) (by kernel_rfl) n k a b c)
def flS(S:St)(wt i:Nat)(a:List Str)(V:List (Str×SV)):St:=bN S.loc S.led "list_iterator" wt i a V
noncomputable def fD(S:St)(ys:List Str):St:=⟨S.loc,S.led++[.words ys]⟩
theorem Ko{F FB:Fs}{N wt:Nat}{ys:List Str}{c:Expr}{sc:Scope}{x:Str}{xp:Pos}{ifE:Expr}{f:Str->Bool}{cells:List (Str×Nat)}(hc:c= .ListComp (aq c) [⟨.Name x xp,av c,[ifE],0⟩] sc c.pos)(hw:ys.length<=1000)
  (h1:S.led[wt]?=QE (.words ys))(h2:S.led.length=N)
  (h3:dq (evN (TT 20 F) F nF (av c) ⟨S,[],0,[],[]⟩) S.led.length (PZ N) S (.ref wt)=b8 (evN (TT 20 F) F nF (av c) ⟨S,[],0,[],[]⟩) S.led.length (PZ N) S (.ref wt) True)
  (h4:∀y i a,bJ FB x (.str y) (flS S wt i a []) (flS S wt i a [(x, .str y)])=b6 (flS S wt i a [(x, .str y)]))
  (h5:∀y i a,fC (tsN (TT 20 FB) FB nF ifE ⟨flS S wt i a [(x, .str y)],[],0,[],[]⟩) (flS S wt i a [(x, .str y)]).led.length (PZ (N+3)) (flS S wt i a [(x, .str y)]) (f y)=dP (tsN (TT 20 FB) FB nF ifE ⟨flS S wt i a [(x, .str y)],[],0,[],[]⟩) (flS S wt i a [(x, .str y)]).led.length (PZ (N+3)) (flS S wt i a [(x, .str y)]) (f y) True)
  (h6:∀y i a,dq (evN (TT 20 FB) FB nF (aq c) ⟨flS S wt i a [(x, .str y)],[],0,[],[]⟩) (flS S wt i a [(x, .str y)]).led.length (PZ (N+3)) (flS S wt i a [(x, .str y)]) (.str y)=b8 (evN (TT 20 FB) FB nF (aq c) ⟨flS S wt i a [(x, .str y)],[],0,[],[]⟩) (flS S wt i a [(x, .str y)]).led.length (PZ (N+3)) (flS S wt i a [(x, .str y)]) (.str y) True)
  (h7:∀y i a,cq (N+1) (.str y) ⟨flS S wt i a [(x, .str y)],[],0,[],[]⟩=QE (.none,⟨flS S wt i (a++[y]) [(x, .str y)],[],0,[ao a.length],[]⟩))
  (hFB:FB=ej F sc cells (N+2))(hcl:d0 F.cells sc.names []=QE cells)(hok:du sc x=QF)(hns:dR (av c)=QF)
  (hfin:et S.led.length (PZ N++[N+1]) (fT S N (ys.filter f)) (fD S (ys.filter f)))
  (hv:SV.ref (N+1)=aU (at_ (PZ N++[N+1]) (fT S N (ys.filter f)).led.length) (.ref N)):EH F c S (fD S (ys.filter f)) (.ref N):=by
 have r:=@mq F FB S S (fD S (ys.filter f)) N wt ys (aq c) (av c) ifE x xp c.pos f sc cells (PZ N++[N+1]) (.ref N)
  ⟨h1,h2,@bp _ 20 nF _ _ _ [] [] _ (PZ N) True h3 QI,λy i a=>@assign_k _ _ _ _ _ _ _ (h4 y i a),λy i a=>@d4 _ 20 nF _ _ _ [] [] _ (PZ (N+3)) True (h5 y i a) QI,λy i a=>@bp _ 20 nF _ _ _ [] [] _ (PZ (N+3)) True (h6 y i a) QI,λy i a h=>@a9.ran _ _ _ _ .none _ _ ⟨flS S wt i (a++[y]) [(x, .str y)],[],0,[ao a.length],[]⟩ (h7 y i a) rfl ⟨h,QI⟩⟩
  hFB hw hcl hok hns hfin hv
 refine⟨?_⟩
 have q:=@Wh.h _ r
 rw[<-hc]at q
 exact q
def apE:Expr:=bj (nth bD 2)
def c5:Expr:=match apE with
 |.Call _ [.Tuple [.Call _ [c] _ _,_] _ _] _ _=>c
 |e=>e
def c6:Expr:=match bj (nth bD 3)with
 |.BinOp _ _ b _=>b
 |e=>e
def if5:Expr:=(cU c5).headD c5
def if6:Expr:=(cU c6).headD c6
noncomputable def naS:Str:=QC "name"
theorem KC:c5= .ListComp (aq c5) [⟨.Name naS (bB c5).pos,av c5,[if5],0⟩] (aR c5) c5.pos:=by kernel_rfl
theorem Nw:c6= .ListComp (aq c6) [⟨.Name naS (bB c6).pos,av c6,[if6],0⟩] (aR c6) c6.pos:=by kernel_rfl
def F5(n k:Nat):Fs:=ej (aE n) (aR c5) [(fu,8+n)] (17+n+5*k)
def F6(n k:Nat):Fs:=ej (aE n) (aR c6) [(fu,8+n)] (19+n+5*k)
def SG(z:Dz)(n k:Nat)(dn:List Str)(e:Ent)(w a b:List Str):St:=⟨dG n,tH z n (k+1) (QE (.ref (13+n+5*k))) (nmC k) (QE (.ref (dnR n k))) (w0T dn k) (iP n (k+1)) (rG n e dn k++[.words w, .words a, .words b, .tup [.ref (14+n+5*k), .ref (15+n+5*k)]])⟩
def F5P(z:Dz)(dn:List Str)(e:Ent)(w er:List Str)(n k:Nat):Prop:=Wh (EH (aE n) c5 (SF z n k dn e w er) (fD (SF z n k dn e w er) (w.filter (aK (z.pl k)))) (.ref (15+n+5*k)))
def F6P(z:Dz)(dn:List Str)(e:Ent)(w a b:List Str)(n k:Nat):Prop:=Wh (EH (aE n) c6 (SG z n k dn e w a b) (fD (SG z n k dn e w a b) (w.filter λy=>af y (z.pl k))) (.ref (17+n+5*k)))
def EI(F FB:Fs)(S:St)(N wt:Nat)(ys:List Str)(c:Expr)(sc:Scope)(x:Str)(ifE:Expr)(f:Str->Bool)(cells:List (Str×Nat)):=((S.led[wt]?),(S.led.length),(dq (evN (TT 20 F) F nF (av c) ⟨S,[],0,[],[]⟩) S.led.length (PZ N) S (.ref wt)),(λy i a=>bJ FB x (.str y) (flS S wt i a []) (flS S wt i a [(x, .str y)])),(λy i a=>fC (tsN (TT 20 FB) FB nF ifE ⟨flS S wt i a [(x, .str y)],[],0,[],[]⟩) (flS S wt i a [(x, .str y)]).led.length (PZ (N+3)) (flS S wt i a [(x, .str y)]) (f y)),(λy i a=>dq (evN (TT 20 FB) FB nF (aq c) ⟨flS S wt i a [(x, .str y)],[],0,[],[]⟩) (flS S wt i a [(x, .str y)]).led.length (PZ (N+3)) (flS S wt i a [(x, .str y)]) (.str y)),(λy i a=>cq (N+1) (.str y) ⟨flS S wt i a [(x, .str y)],[],0,[],[]⟩),(FB),(d0 F.cells sc.names []),(du sc x),(dR (av c)),(gZ S.led.length (PZ N++[N+1]) (fT S N (ys.filter f)) (fD S (ys.filter f))),(SV.ref (N+1)))
def Jd(F FB:Fs)(S:St)(N wt:Nat)(ys:List Str)(c:Expr)(sc:Scope)(x:Str)(ifE:Expr)(f:Str->Bool)(cells:List (Str×Nat)):type_of% (EI F FB S N wt ys c sc x ifE f cells):=((QE (.words ys)),(N),(b8 (evN (TT 20 F) F nF (av c) ⟨S,[],0,[],[]⟩) S.led.length (PZ N) S (.ref wt) True),(λy i a=>b6 (flS S wt i a [(x, .str y)])),(λy i a=>dP (tsN (TT 20 FB) FB nF ifE ⟨flS S wt i a [(x, .str y)],[],0,[],[]⟩) (flS S wt i a [(x, .str y)]).led.length (PZ (N+3)) (flS S wt i a [(x, .str y)]) (f y) True),(λy i a=>b8 (evN (TT 20 FB) FB nF (aq c) ⟨flS S wt i a [(x, .str y)],[],0,[],[]⟩) (flS S wt i a [(x, .str y)]).led.length (PZ (N+3)) (flS S wt i a [(x, .str y)]) (.str y) True),(λy i a=>QE (.none,⟨flS S wt i (a++[y]) [(x, .str y)],[],0,[ao a.length],[]⟩)),(ej F sc cells (N+2)),(QE cells),(QF),(QF),(g8 S.led.length (PZ N++[N+1]) (fT S N (ys.filter f)) (fD S (ys.filter f))),(aU (at_ (PZ N++[N+1]) (fT S N (ys.filter f)).led.length) (.ref N)))
theorem z8{F FB:Fs}{N wt:Nat}{ys:List Str}{c:Expr}{sc:Scope}{x:Str}{xp:Pos}{ifE:Expr}{f:Str->Bool}{cells:List (Str×Nat)}(hc:c= .ListComp (aq c) [⟨.Name x xp,av c,[ifE],0⟩] sc c.pos)(hw:ys.length<=1000)(h:EI F FB S N wt ys c sc x ifE f cells=Jd F FB S N wt ys c sc x ifE f cells):EH F c S (fD S (ys.filter f)) (.ref N):=Ko hc hw (QJ (·.1) h) (QJ (·.2.1) h) (QJ (·.2.2.1) h) (λy i a=>(QK (QK (QK (QJ (·.2.2.2.1) h) y) i) a)) (λy i a=>(QK (QK (QK (QJ (·.2.2.2.2.1) h) y) i) a)) (λy i a=>(QK (QK (QK (QJ (·.2.2.2.2.2.1) h) y) i) a)) (λy i a=>(QK (QK (QK (QJ (·.2.2.2.2.2.2.1) h) y) i) a)) (QJ (·.2.2.2.2.2.2.2.1) h) (QJ (·.2.2.2.2.2.2.2.2.1) h) (QJ (·.2.2.2.2.2.2.2.2.2.1) h) (QJ (·.2.2.2.2.2.2.2.2.2.2.1) h) (fP (QJ (·.2.2.2.2.2.2.2.2.2.2.2.1) h)) (QJ (·.2.2.2.2.2.2.2.2.2.2.2.2) h)
def Oz(z:Dz)(dn:List Str)(e:Ent)(w er:List Str)(n k:Nat):=EI (aE n) (F5 n k) (SF z n k dn e w er) (15+n+5*k) (13+n+5*k) w c5 (aR c5) naS if5 (aK (z.pl k)) [(fu,8+n)]
def N9(z:Dz)(dn:List Str)(e:Ent)(w er:List Str)(n k:Nat):=Jd (aE n) (F5 n k) (SF z n k dn e w er) (15+n+5*k) (13+n+5*k) w c5 (aR c5) naS if5 (aK (z.pl k)) [(fu,8+n)]
def OD(z:Dz)(dn:List Str)(e:Ent)(w a b:List Str)(n k:Nat):=EI (aE n) (F6 n k) (SG z n k dn e w a b) (17+n+5*k) (13+n+5*k) w c6 (aR c6) naS if6 (λy=>af y (z.pl k)) [(fu,8+n)]
def Pe(z:Dz)(dn:List Str)(e:Ent)(w a b:List Str)(n k:Nat):=Jd (aE n) (F6 n k) (SG z n k dn e w a b) (17+n+5*k) (13+n+5*k) w c6 (aR c6) naS if6 (λy=>af y (z.pl k)) [(fu,8+n)]
theorem OP(z:Dz)(dn:List Str)(e:Ent)(w er:List Str)(hw:w.length<=1000)(n k:Nat)(a:2<=n)(b:n<8)(c:k<n):F5P z dn e w er n k:=
 ⟨z8 KC hw (iQ (L:=Oz z dn e w er) (R:=N9 z dn e w er) (by kernel_rfl) (by kernel_rfl) (by kernel_rfl) (by kernel_rfl) (by kernel_rfl) (by kernel_rfl) n k a b c)⟩
theorem O7(z:Dz)(dn:List Str)(e:Ent)(w p q:List Str)(hw:w.length<=1000)(n k:Nat)(a:2<=n)(b:n<8)(c:k<n):F6P z dn e w p q n k:=
 ⟨z8 Nw hw (iQ (L:=OD z dn e w p q) (R:=Pe z dn e w p q) (by kernel_rfl) (by kernel_rfl) (by kernel_rfl) (by kernel_rfl) (by kernel_rfl) (by kernel_rfl) n k a b c)⟩
def l1D:Nat:=(nth bD 1).pos.line
def erF(z:Dz)(k:Nat)(w:List Str):List Str:=erK (z.pl k) w (z.pl k).length
def fnF(z:Dz)(k:Nat)(w:List Str):List Str:=w.filter (aK (z.pl k))
def fiF(z:Dz)(k:Nat)(w:List Str):List Str:=w.filter λy=>af y (z.pl k)
def CG(z:Dz)(n k:Nat)(dn:List Str)(e:Ent)(w er f:List Str):Prop:=er.length.blt 64=QF/\f.length.blt 64=QF/\ah GKS (aE n) c5 (SF z n k dn e w er) (fD (SF z n k dn e w er) f) (.ref (15+n+5*k))/\ae GKS (aE n) (nth bD 1) (SDe z n k dn e w) (SF z n k dn e w er) .next/\True
def oEr(z:Dz)(n k:Nat)(dn:List Str)(e:Ent)(w er f:List Str):List Orc:=[.stmt l1D (SF z n k dn e w er) .next, .expr (iq c5) (fD (SF z n k dn e w er) f) (.ref (15+n+5*k))]
def GP(z:Dz)(dn:List Str)(e:Ent)(w:List Str)(n k:Nat):Prop:=Wh (aa GKS (aE n) [nth bD 1,nth bD 2] (SDe z n k dn e w) (SG z n k dn e w (a7 (fnF z k w)) (a7 (erF z k w))) .next)
theorem OO{z:Dz}{n k:Nat}{dn:List Str}{e:Ent}{w:List Str}(A:EaP z dn e w n k)(B:F5P z dn e w (erF z k w) n k)(hw:w.length<64)(hp:(z.pl k).length<=3)
  (h:∀er f,Ran (c9 (TT 20 (aE n)) (aE n) nF [nth bD 1,nth bD 2] ⟨SDe z n k dn e w,[],0,[],oEr z n k dn e w er f⟩) (SDe z n k dn e w).led.length (PZ (14+n+5*k)++[16+n+5*k,17+n+5*k,18+n+5*k]) (SG z n k dn e w (a7 f) (a7 er)) .next=fU (c9 (TT 20 (aE n)) (aE n) nF [nth bD 1,nth bD 2] ⟨SDe z n k dn e w,[],0,[],oEr z n k dn e w er f⟩) (SDe z n k dn e w).led.length (PZ (14+n+5*k)++[16+n+5*k,17+n+5*k,18+n+5*k]) (SG z n k dn e w (a7 f) (a7 er)) .next (CG z n k dn e w er f)):GP z dn e w n k:=by
 have h1:(erF z k w).length<64:=Nat.lt_of_le_of_lt (j2 _ _ _) (by lia)
 have h2:(fnF z k w).length<64:=Nat.lt_of_le_of_lt (List.length_filter_le _ _) hw
 exact⟨@aw _ 20 nF _ _ _ [] (oEr z n k dn e w (erF z k w) (fnF z k w)) _ (PZ (14+n+5*k)++[16+n+5*k,17+n+5*k,18+n+5*k]) (CG z n k dn e w (erF z k w) (fnF z k w)) (h _ _) ⟨PU h1,PU h2,@Wh.h _ (@Wh.h _ B),@Wh.h _ A,QI⟩⟩
def SHd(z:Dz)(n k:Nat)(dn:List Str)(e:Ent)(w a b dn':List Str):St:=⟨dG n,tH z n (k+1) (QE (.ref (13+n+5*k))) (nmC k) (QE (.ref (17+n+5*k))) (w0T dn k) (iP n (k+1)) (rG n e dn k++[.words w, .words a, .words b, .tup [.ref (14+n+5*k), .ref (15+n+5*k)], .words dn'])⟩
def CD(z:Dz)(n k:Nat)(dn:List Str)(e:Ent)(w a b f:List Str):Prop:=ao (dn.length+f.length)/\ah GKS (aE n) c6 (SG z n k dn e w a b) (fD (SG z n k dn e w a b) f) (.ref (17+n+5*k))/\True
def oDd(z:Dz)(n k:Nat)(dn:List Str)(e:Ent)(w a b f:List Str):List Orc:=[.expr (iq c6) (fD (SG z n k dn e w a b) f) (.ref (17+n+5*k))]
def c7:Expr:=bj (nth bD 3)
def DP(z:Dz)(dn:List Str)(e:Ent)(w a b:List Str)(n k:Nat):Prop:=Wh (ae GKS (aE n) (nth bD 3) (SG z n k dn e w a b) (SHd z n k dn e w a b (dn++fiF z k w)) .next)
def SGd(z:Dz)(n k:Nat)(dn:List Str)(e:Ent)(w a b dn':List Str):St:=fD (SG z n k dn e w a b) dn'
theorem Mk:nth bD 3= .Assign [.Name dnS (asT (nth bD 3))] c7 (nth bD 3).pos:=by kernel_rfl
theorem CW:∃a op b p,c7= .BinOp a op b p:=⟨(match c7 with | .BinOp a _ _ _=>a|e=>e),(match c7 with | .BinOp _ o _ _=>o|_=> .Add),c6,c7.pos,by kernel_rfl⟩
theorem Nm{env:Env}:swapsWith c7 (QE (.Name dnS (asT (nth bD 3)))) (nth bD 3).pos.line env=pure QG:=by
 obtain⟨a,op,b,p,h⟩:=CW
 rw[h]
 rfl
theorem OL{z:Dz}{n k:Nat}{dn:List Str}{e:Ent}{w a b:List Str}(B:F6P z dn e w a b n k)(hw:dn.length+w.length<=1000)
  (h:∀f,dq (evN (TT 20 (aE n)) (aE n) nF c7 ⟨SG z n k dn e w a b,[],0,[],oDd z n k dn e w a b f⟩) (SG z n k dn e w a b).led.length (PZ (17+n+5*k)++[18+n+5*k]) (SGd z n k dn e w a b (dn++f)) (.ref (17+n+5*k))=b8 (evN (TT 20 (aE n)) (aE n) nF c7 ⟨SG z n k dn e w a b,[],0,[],oDd z n k dn e w a b f⟩) (SG z n k dn e w a b).led.length (PZ (17+n+5*k)++[18+n+5*k]) (SGd z n k dn e w a b (dn++f)) (.ref (17+n+5*k)) (CD z n k dn e w a b f))
  (h2:∀f,bJ (aE n) dnS (.ref (17+n+5*k)) (SGd z n k dn e w a b f) (SHd z n k dn e w a b f)=b6 (SHd z n k dn e w a b f)):DP z dn e w a b n k:=by
 have hf:(fiF z k w).length<=w.length:=List.length_filter_le _ _
 refine⟨?_⟩
 rw[Mk]
 exact@ae.assign_k _ _ _ _ _ _ _ _ _ (λenv _ _=>Nm) (@bp _ 20 nF _ _ _ [] (oDd z n k dn e w a b (fiF z k w)) _ (PZ (17+n+5*k)++[18+n+5*k]) (CD z n k dn e w a b (fiF z k w)) (h _) ⟨PU (by lia),@Wh.h _ (@Wh.h _ B),QI⟩) (h2 _)
def g_L(z:Dz)(dn:List Str)(e:Ent)(w:List Str)(n k:Nat):=((λer f=>Ran (c9 (TT 20 (aE n)) (aE n) nF [nth bD 1,nth bD 2] ⟨SDe z n k dn e w,[],0,[],oEr z n k dn e w er f⟩) (SDe z n k dn e w).led.length (PZ (14+n+5*k)++[16+n+5*k,17+n+5*k,18+n+5*k]) (SG z n k dn e w (a7 f) (a7 er)) .next))
def g_R(z:Dz)(dn:List Str)(e:Ent)(w:List Str)(n k:Nat):type_of% (g_L z dn e w n k):=((λer f=>fU (c9 (TT 20 (aE n)) (aE n) nF [nth bD 1,nth bD 2] ⟨SDe z n k dn e w,[],0,[],oEr z n k dn e w er f⟩) (SDe z n k dn e w).led.length (PZ (14+n+5*k)++[16+n+5*k,17+n+5*k,18+n+5*k]) (SG z n k dn e w (a7 f) (a7 er)) .next (CG z n k dn e w er f)))
theorem Kg{z:Dz}{n k:Nat}{dn:List Str}{e:Ent}{w:List Str}(A:EaP z dn e w n k)(B:F5P z dn e w (erF z k w) n k)(hw:w.length<64)(hp:(z.pl k).length<=3)(h:g_L z dn e w n k=g_R z dn e w n k):GP z dn e w n k:=OO A B hw hp (λer f=>(QK (QK h er) f))
def d_L(z:Dz)(dn:List Str)(e:Ent)(w a b:List Str)(n k:Nat):=((λf=>dq (evN (TT 20 (aE n)) (aE n) nF c7 ⟨SG z n k dn e w a b,[],0,[],oDd z n k dn e w a b f⟩) (SG z n k dn e w a b).led.length (PZ (17+n+5*k)++[18+n+5*k]) (SGd z n k dn e w a b (dn++f)) (.ref (17+n+5*k))),(λf=>bJ (aE n) dnS (.ref (17+n+5*k)) (SGd z n k dn e w a b f) (SHd z n k dn e w a b f)))
def d_R(z:Dz)(dn:List Str)(e:Ent)(w a b:List Str)(n k:Nat):type_of% (d_L z dn e w a b n k):=((λf=>b8 (evN (TT 20 (aE n)) (aE n) nF c7 ⟨SG z n k dn e w a b,[],0,[],oDd z n k dn e w a b f⟩) (SG z n k dn e w a b).led.length (PZ (17+n+5*k)++[18+n+5*k]) (SGd z n k dn e w a b (dn++f)) (.ref (17+n+5*k)) (CD z n k dn e w a b f)),(λf=>b6 (SHd z n k dn e w a b f)))
theorem MN{z:Dz}{n k:Nat}{dn:List Str}{e:Ent}{w a b:List Str}(B:F6P z dn e w a b n k)(hw:dn.length+w.length<=1000)(h:d_L z dn e w a b n k=d_R z dn e w a b n k):DP z dn e w a b n k:=OL B hw (λf=>(QK (QJ (·.1) h) f)) (λf=>(QK (QJ (·.2) h) f))
theorem g_k(z:Dz)(dn:List Str)(e:Ent)(w:List Str)(h1:∀j,1<=(z.pl j).length)(h3:∀j,(z.pl j).length<=3)(hw:w.length<64)(n k:Nat)(a:2<=n)(b:n<8)(c:k<n):GP z dn e w n k:=
 Kg (Px z dn e w h1 h3 n k a b c) (OP z dn e w _ (by lia) n k a b c) hw (h3 _) (iQ (L:=g_L z dn e w) (R:=g_R z dn e w) (by kernel_rfl) (by kernel_rfl) (by kernel_rfl) (by kernel_rfl) (by kernel_rfl) (by kernel_rfl) n k a b c)
theorem d_k(z:Dz)(dn:List Str)(e:Ent)(w p q:List Str)(hw:dn.length+w.length<=1000)(n k:Nat)(a:2<=n)(b:n<8)(c:k<n):DP z dn e w p q n k:=
 MN (O7 z dn e w p q (by lia) n k a b c) hw (iQ (L:=d_L z dn e w p q) (R:=d_R z dn e w p q) (by kernel_rfl) (by kernel_rfl) (by kernel_rfl) (by kernel_rfl) (by kernel_rfl) (by kernel_rfl) n k a b c)
theorem kz{n:Nat}{e e':Ent}:∀{j:Nat},(∀i,i<j->e i=e' i)->nU n e j=nU n e' j
 |0,_=>rfl
 |j+1,h=>by
  unfold nU l5
  rw[kz λi hi=>h i (Nat.lt_succ_of_lt hi),h j (Nat.lt_succ_self j)]
theorem vy{n:Nat}{e:Ent}{dn w a b dn':List Str}:∀k:Nat,br (rG n e dn k++[.words w, .words a, .words b, .tup [.ref (14+n+5*k), .ref (15+n+5*k)], .words dn']) (rG n (upd e k (a,b)) dn' (k+1))
 |0=>by
  show br [SO.words w, .words a, .words b, .tup [.ref (14+n+5*0), .ref (15+n+5*0)], .words dn'] ([]++l5 n (upd e 0 (a,b)) 0 (.words dn'))
  unfold l5
  rw[b7]
  exact .cons (dj _) (br.refl _)
 |j+1=>by
  have e1:nU n (upd e (j+1) (a,b)) j=nU n e j:=kz λi hi=>eJ _ _ (by lia)
  show br (nU n e j++l5 n e j (.words dn)++[SO.words w, .words a, .words b, .tup [.ref (14+n+5*(j+1)), .ref (15+n+5*(j+1))], .words dn']) (nU n (upd e (j+1) (a,b)) j++l5 n (upd e (j+1) (a,b)) j .any++l5 n (upd e (j+1) (a,b)) (j+1) (.words dn'))
  rw[e1]
  refine((br.refl _).append ?_).append ?_
  .unfold l5
   rw[eJ _ _ (by lia:j≠j+1)]
   exact .cons (bE.refl _) (.cons (bE.refl _) (.cons (bE.refl _) (.cons (bE.refl _) (.cons (dj _) .nil))))
  .unfold l5
   rw[b7]
   exact .cons (dj _) (br.refl _)
structure Dst where
 d:List Str
 e:Ent
def wD(z:Dz)(t:Dst):List Str:=wK z t.d 5
def mE(z:Dz)(k:Nat)(t:Dst):Dst:=⟨t.d++fiF z k (wD z t),upd t.e k (a7 (fnF z k (wD z t)),a7 (erF z k (wD z t)))⟩
noncomputable def dK(z:Dz):Nat->Dst
 |0=>⟨[],λ_=>([],[])⟩
 |k+1=>mE z k (dK z k)
theorem A2(z:Dz):∀k,(dK z k).d.length<=5*k
 |0=>PX _
 |k+1=>by
  have h1:=A2 z k
  have h2:(fiF z k (wD z (dK z k))).length<=(wD z (dK z k)).length:=List.length_filter_le _ _
  have h3:(wD z (dK z k)).length<=5:=oJ _ _ _
  show((dK z k).d++_).length<=_
  rw[Qf]
  lia
structure Cp (z:Dz):Prop extends DzOk z where
 p1:∀j,1<=(z.pl j).length
 p3:∀j,(z.pl j).length<=3
theorem KY(z:Dz)(n k:Nat)(t:Dst):di (SHd z n k t.d t.e (wD z t) (a7 (fnF z k (wD z t))) (a7 (erF z k (wD z t))) (t.d++fiF z k (wD z t))) (SD z n (k+1) (k+1) (nmC k) (mE z k t).d (mE z k t).e):=by
 refine⟨rfl,?_⟩
 show br (tH z n (k+1) _ (nmC k) _ (w0T t.d k) (iP n (k+1)) _) (tH z n (k+1) (cWt n (k+1)) (nmC k) (QE (.ref (dnR n (k+1)))) .any (iP n (k+1)) _)
 unfold tH
 exact((br.refl _).append (.cons (bE.refl _) (.cons (bE.refl _) (.cons (bE.refl _) (.cons (dj _) (br.refl _)))))).append (vy k)
def LI(z:Dz)(n k:Nat)(t:Dst):Prop:=Wh (aa GKS (aE n) bD (SD z n k (k+1) (nmC k) t.d t.e) (SD z n (k+1) (k+1) (nmC k) (mE z k t).d (mE z k t).e) .next)
theorem LP:bD=nth bD 0::([nth bD 1,nth bD 2]++[nth bD 3]):=by kernel_rfl
theorem Jt{s0 s3:Stmt}{l:List Stmt}{S0 S1 S2 S3:St}(h1:ae GKS F s0 S0 S1 .next)(h2:aa GKS F l S1 S2 .next)(h3:ae GKS F s3 S2 S3 .next):aa GKS F (s0::(l++[s3])) S0 S3 .next:= .cons h1 (h2.append (.cons h3 .nil))
theorem Ds(z:Dz)(H:Cp z){n k:Nat}(h2:2<=n)(h8:n<8)(hk:k<n)(t:Dst)(ht:t.d.length<=900):LI z n k t:=by
 have hw:(wD z t).length<=5:=oJ _ _ _
 have A:=Oc z t.d t.e H.toDzOk n k h2 h8 hk
 have B:=g_k z t.d t.e (wD z t) H.p1 H.p3 (by lia) n k h2 h8 hk
 have C:=d_k z t.d t.e (wD z t) (a7 (fnF z k (wD z t))) (a7 (erF z k (wD z t))) (by lia) n k h2 h8 hk
 refine⟨?_⟩
 rw[LP]
 exact(Jt (@Wh.h _ A) (@Wh.h _ B) (@Wh.h _ C)).soft (KY z n k t)
def nmP:Nat->Option SV
 |0=>QD
 |k+1=>nmC k
def naT:Expr:=bg (nth cK.body 2)
structure NxP (z:Dz) (n k:Nat):Prop where
 hN:∀dn e,ay GKS (aE n) (12+n) (SD z n k k (nmP k) dn e) (SD z n k (k+1) (nmP k) dn e) (QE (.ref (7+k)))
 hA:∀dn e,aC GKS (aE n) naT (.ref (7+k)) (SD z n k (k+1) (nmP k) dn e) (SD z n k (k+1) (nmC k) dn e)
theorem J8:naT= .Name fu naT.pos:=by kernel_rfl
theorem Ii{z:Dz}{n k:Nat}(h1:∀dn e,cQ (12+n) (SD z n k k (nmP k) dn e) (SD z n k (k+1) (nmP k) dn e) (QE (.ref (7+k)))=dd (SD z n k (k+1) (nmP k) dn e) (QE (.ref (7+k))))
  (h2:∀dn e,bJ (aE n) fu (.ref (7+k)) (SD z n k (k+1) (nmP k) dn e) (SD z n k (k+1) (nmC k) dn e)=b6 (SD z n k (k+1) (nmC k) dn e)):NxP z n k:=by
 refine⟨λdn e=>@dc _ _ _ _ _ _ (h1 dn e),λdn e=>?_⟩
 rw[J8]
 exact@assign_k _ _ _ _ _ _ _ (h2 dn e)
def Ig(z:Dz)(n k:Nat):=((λdn e=>cQ (12+n) (SD z n k k (nmP k) dn e) (SD z n k (k+1) (nmP k) dn e) (QE (.ref (7+k)))),(λdn e=>bJ (aE n) fu (.ref (7+k)) (SD z n k (k+1) (nmP k) dn e) (SD z n k (k+1) (nmC k) dn e)))
def Lg(z:Dz)(n k:Nat):type_of% (Ig z n k):=((λdn e=>dd (SD z n k (k+1) (nmP k) dn e) (QE (.ref (7+k)))),(λdn e=>b6 (SD z n k (k+1) (nmC k) dn e)))
theorem IY{z:Dz}{n k:Nat}(h:Ig z n k=Lg z n k):NxP z n k:=Ii (λdn e=>(QK (QK (QJ (·.1) h) dn) e)) (λdn e=>(QK (QK (QJ (·.2) h) dn) e))
theorem Pr(z:Dz)(n k:Nat)(a:2<=n)(b:n<8)(c:k<n):NxP z n k:=IY (iQ (L:=Ig z) (R:=Lg z) (by kernel_rfl) (by kernel_rfl) (by kernel_rfl) (by kernel_rfl) (by kernel_rfl) (by kernel_rfl) n k a b c)
def SDz(z:Dz)(n:Nat)(t:Dst):St:=⟨dG n,iE z n++[.cell (cWt n n), .cell (nmP n), .cell (QE (.ref (dnR n n))),w0T t.d n, .list (iP n n), .any]++rG n t.e t.d n⟩
def SDy(z:Dz)(n:Nat)(t:Dst):St:=⟨dG n,iE z n++[.any, .any, .any,w0T t.d n, .list (iP n n), .any]++rG n t.e t.d n⟩
def bR(z:Dz)(n:Nat)(e:Ent):List SO:=iE z n++[.any, .any, .any, .list (p8 (11+n) n)]++rH e (11+n) n
noncomputable def pkD(n:Nat):Nat->List Nat
 |0=>[]
 |k+1=>pkD n k++[14+n+5*k,15+n+5*k,16+n+5*k]
def SDi(z:Dz)(n:Nat):St:=⟨dG n,iE z n++[.cell QD, .cell QD, .cell (QE (.ref (10+n))), .words [], .list []]⟩
def SDj(z:Dz)(n:Nat):St:=⟨dG n,iE z n++[.cell QD, .cell QD, .cell (QE (.ref (10+n))), .list [], .list []]⟩
def SDk(z:Dz)(n:Nat):St:=⟨[(QC "plan", .ref 6),(QC "rows", .ref 0)],iE z n++[.cell QD, .cell QD, .cell QD]⟩
noncomputable def t0D:Dst:=⟨[],λ_=>([],[])⟩
structure nH (z:Dz) (n:Nat):Prop where
 hZ:∀t:Dst,ay GKS (aE n) (12+n) (SD z n n n (nmP n) t.d t.e) (SDz z n t) QD
 f1:∀t:Dst,et (12+n) (PZ (SDz z n t).led.length) (SDz z n t) (SDz z n t)
 hl:(SDi z n).led.length=12+n
 f3:∀t:Dst,et (10+n) (PZ (10+n)++[11+n]++pkD n n) (SDy z n t) ⟨[(QC "due", .ref (10+n))],bR z n t.e⟩
 hI:aI GKS (aE n) (.ref 6) (SDi z n) (SD z n 0 0 QD [] (λ_=>([],[]))) (12+n)
 hE:ah GKS (aE n) (bj (nth cK.body 2)) (SDi z n) (SDi z n) (.ref 6)
 hS:aa GKS (aE n) [nth cK.body 0,nth cK.body 1] (SDk z n) (SDj z n) .next
 hR:∀e,aa GKS (aE n) [nth cK.body 3] ⟨[(QC "due", .ref (10+n))],bR z n e⟩ ⟨[],bR z n e⟩ (.ret (.ref (10+n)))
 hk:(SDk z n).led.length=10+n
theorem Hl{z:Dz}{n:Nat}(h1:∀t:Dst,cQ (12+n) (SD z n n n (nmP n) t.d t.e) (SDz z n t) QD=dd (SDz z n t) QD)(h2:∀t:Dst,et (12+n) (PZ (SDz z n t).led.length) (SDz z n t) (SDz z n t))(h3:(SDi z n).led.length=12+n)
  (h4:∀t:Dst,et (10+n) (PZ (10+n)++[11+n]++pkD n n) (SDy z n t) ⟨[(QC "due", .ref (10+n))],bR z n t.e⟩)
  (h5:ec (.ref 6) ⟨SDi z n,[],0,[],[]⟩=QE (12+n,⟨SD z n 0 0 QD [] (λ_=>([],[])),[],0,[],[]⟩))
  (h6:dq (evN (TT 20 (aE n)) (aE n) nF (bj (nth cK.body 2)) ⟨SDi z n,[],0,[],[]⟩) (SDi z n).led.length (PZ (12+n)) (SDi z n) (.ref 6)=b8 (evN (TT 20 (aE n)) (aE n) nF (bj (nth cK.body 2)) ⟨SDi z n,[],0,[],[]⟩) (SDi z n).led.length (PZ (12+n)) (SDi z n) (.ref 6) True)
  (h7:Ran (c9 (TT 20 (aE n)) (aE n) nF [nth cK.body 0,nth cK.body 1] ⟨SDk z n,[],0,[],[]⟩) (SDk z n).led.length (PZ (12+n)) (SDj z n) .next=fU (c9 (TT 20 (aE n)) (aE n) nF [nth cK.body 0,nth cK.body 1] ⟨SDk z n,[],0,[],[]⟩) (SDk z n).led.length (PZ (12+n)) (SDj z n) .next True)
  (h8:∀e,Ran (c9 (TT 20 (aE n)) (aE n) nF [nth cK.body 3] ⟨⟨[(QC "due", .ref (10+n))],bR z n e⟩,[],0,[],[]⟩) (bR z n e).length (PZ (11+n+3*n)) ⟨[],bR z n e⟩ (.ret (.ref (10+n)))=fU (c9 (TT 20 (aE n)) (aE n) nF [nth cK.body 3] ⟨⟨[(QC "due", .ref (10+n))],bR z n e⟩,[],0,[],[]⟩) (bR z n e).length (PZ (11+n+3*n)) ⟨[],bR z n e⟩ (.ret (.ref (10+n))) True)(h9:(SDk z n).led.length=10+n):nH z n where
 hZ t:=@dc _ _ _ _ _ _ (h1 t)
 f1:=h2
 hl:=h3
 f3:=h4
 hI:=@aI.ran _ _ _ _ _ _ ⟨SD z n 0 0 QD [] (λ_=>([],[])),[],0,[],[]⟩ h5 rfl QI
 hE:=@bp _ 20 nF _ _ _ [] [] _ (PZ (12+n)) True h6 QI
 hS:=@aw _ 20 nF _ _ _ [] [] _ (PZ (12+n)) True h7 QI
 hR e:=@aw _ 20 nF _ _ _ [] [] _ (PZ (11+n+3*n)) True (h8 e) QI
 hk:=h9
def A3(z:Dz)(n:Nat):=((λt:Dst=>cQ (12+n) (SD z n n n (nmP n) t.d t.e) (SDz z n t) QD),(λt:Dst=>gZ (12+n) (PZ (SDz z n t).led.length) (SDz z n t) (SDz z n t)),((SDi z n).led.length),(λt:Dst=>gZ (10+n) (PZ (10+n)++[11+n]++pkD n n) (SDy z n t) ⟨[(QC "due", .ref (10+n))],bR z n t.e⟩),(ec (.ref 6) ⟨SDi z n,[],0,[],[]⟩),(dq (evN (TT 20 (aE n)) (aE n) nF (bj (nth cK.body 2)) ⟨SDi z n,[],0,[],[]⟩) (SDi z n).led.length (PZ (12+n)) (SDi z n) (.ref 6)),(Ran (c9 (TT 20 (aE n)) (aE n) nF [nth cK.body 0,nth cK.body 1] ⟨SDk z n,[],0,[],[]⟩) (SDk z n).led.length (PZ (12+n)) (SDj z n) .next),(λe=>Ran (c9 (TT 20 (aE n)) (aE n) nF [nth cK.body 3] ⟨⟨[(QC "due", .ref (10+n))],bR z n e⟩,[],0,[],[]⟩) (bR z n e).length (PZ (11+n+3*n)) ⟨[],bR z n e⟩ (.ret (.ref (10+n)))),((SDk z n).led.length))
def GW(z:Dz)(n:Nat):type_of% (A3 z n):=((λt:Dst=>dd (SDz z n t) QD),(λt:Dst=>g8 (12+n) (PZ (SDz z n t).led.length) (SDz z n t) (SDz z n t)),(12+n),(λt:Dst=>g8 (10+n) (PZ (10+n)++[11+n]++pkD n n) (SDy z n t) ⟨[(QC "due", .ref (10+n))],bR z n t.e⟩),(QE (12+n,⟨SD z n 0 0 QD [] (λ_=>([],[])),[],0,[],[]⟩)),(b8 (evN (TT 20 (aE n)) (aE n) nF (bj (nth cK.body 2)) ⟨SDi z n,[],0,[],[]⟩) (SDi z n).led.length (PZ (12+n)) (SDi z n) (.ref 6) True),(fU (c9 (TT 20 (aE n)) (aE n) nF [nth cK.body 0,nth cK.body 1] ⟨SDk z n,[],0,[],[]⟩) (SDk z n).led.length (PZ (12+n)) (SDj z n) .next True),(λe=>fU (c9 (TT 20 (aE n)) (aE n) nF [nth cK.body 3] ⟨⟨[(QC "due", .ref (10+n))],bR z n e⟩,[],0,[],[]⟩) (bR z n e).length (PZ (11+n+3*n)) ⟨[],bR z n e⟩ (.ret (.ref (10+n))) True),(10+n))
theorem CQ{z:Dz}{n:Nat}(h:A3 z n=GW z n):nH z n:=Hl (λt:Dst=>(QK (QJ (·.1) h) t)) (λt:Dst=>fP (QK (QJ (·.2.1) h) t)) (QJ (·.2.2.1) h) (λt:Dst=>fP (QK (QJ (·.2.2.2.1) h) t)) (QJ (·.2.2.2.2.1) h) (QJ (·.2.2.2.2.2.1) h) (QJ (·.2.2.2.2.2.2.1) h) (λe=>(QK (QJ (·.2.2.2.2.2.2.2.1) h) e)) (QJ (·.2.2.2.2.2.2.2.2) h)
theorem Cb(z:Dz)(n:Nat)(a:2<=n)(b:n<8):nH z n:=CQ (iQ (L:=λn _=>A3 z n) (R:=λn _=>GW z n) (by kernel_rfl) (by kernel_rfl) (by kernel_rfl) (by kernel_rfl) (by kernel_rfl) (by kernel_rfl) n 0 a b (by lia))
theorem FU(z:Dz)(H:Cp z){n:Nat}(h2:2<=n)(h8:n<8):∀m k,k+m=n->dQ GKS (aE n) (12+n) naT bD [] (SDz z n (dK z n)) .next (m+1) (SD z n k k (nmP k) (dK z k).d (dK z k).e):=by
 intro m
 induction m with
 |zero=>
  intro k hk
  have:k=n:=by lia
  subst this
  exact .done (@nH.hZ _ _ (Cb z _ h2 h8) (dK z k)) .nil
 |succ m ih=>
  intro k hk
  have hkn:k<n:=by lia
  have hl:=A2 z k
  have N:=Pr z n k h2 h8 hkn
  exact .step (@NxP.hN _ _ _ N _ _) (@NxP.hA _ _ _ N _ _) (@Wh.h _ (Ds z H h2 h8 hkn (dK z k) (by lia))) (.inl rfl) (ih (k+1) (by lia))
theorem IK(z:Dz)(n:Nat)(t:Dst):di (SDz z n t) (SDy z n t):=⟨rfl,((br.refl _).append (.cons (dj _) (.cons (dj _) (.cons (dj _) (br.refl _))))).append (br.refl _)⟩
theorem JL(z:Dz)(n:Nat):di (SDj z n) (SDi z n):=⟨rfl,(br.refl _).append (.cons (bE.refl _) (.cons (bE.refl _) (.cons (bE.refl _) (.cons (bt []) (br.refl _)))))⟩
def OV(z:Dz)(n:Nat):Prop:=Wh (ae GKS (aE n) (nth cK.body 2) (SDi z n) (SDy z n (dK z n)) .next)
theorem Cz(z:Dz)(H:Cp z){n:Nat}(h2:2<=n)(h8:n<8):OV z n:=by
 have E:=Cb z n h2 h8
 have h:=FU z H h2 h8 n 0 (by lia)
 have f1:=E.f1 (dK z n)
 rw[<-E.hl]at f1
 refine⟨@ae.soft GKS (aE n) _ _ _ _ _ (ey ?_ (by kernel_rfl)) (IK z n _)⟩
 exact@ae.for_ GKS (aE n) (bg (nth cK.body 2)) (bj (nth cK.body 2)) (aT (nth cK.body 2)) [] (lS (nth cK.body 2)) (SDi z n) (SDi z n) (SD z n 0 0 QD [] (λ_=>([],[]))) (SDz z n (dK z n)) (SDz z n (dK z n)) .next (.ref 6) (12+n) (n+1) (PZ (SDz z n (dK z n)).led.length) (@nH.hE _ _ E) (@nH.hI _ _ E) h (λ_ _=>rfl) (λ_ _=>rfl) f1
theorem DM:cK.body=[nth cK.body 0,nth cK.body 1]++[nth cK.body 2,nth cK.body 3]:=by kernel_rfl
theorem AE(z:Dz)(H:Cp z){n:Nat}(h2:2<=n)(h8:n<8):aa GKS (aE n) cK.body (SDk z n) ⟨[],bR z n (dK z n).e⟩ (.ret (.ref (10+n))):=by
 have E:=Cb z n h2 h8
 have F:=Cz z H h2 h8
 rw[DM]
 have hh:(SDk z n).led.length=10+n:=E.hk
 refine a8.hold (n0:=10+n) (a8.append (aa.b ((@nH.hS _ _ E).soft (JL z n))) (a8.cons (ae.b (@Wh.h _ F)) (a8.pick (aa.b (@nH.hR _ _ E _)) (@nH.f3 _ _ E _)))) hh
theorem K0(z:Dz):∀n,(iE z n).length=7+n
 |0=>rfl
 |n+1=>by
  have:=K0 z n
  unfold iE at this ⊢
  unfold plL
  simp only[Qf,Qg,List.length_nil]at this ⊢
  lia
theorem AA:(bw cK.sc)=[wtS,fu,dnS]:=by kernel_rfl
theorem AP(z:Dz)(H:Cp z){n:Nat}(h2:2<=n)(h8:n<8):ab GKS 8 906 (iE z n) [.ref 0, .ref 6] (bR z n (dK z n).e) (.ref (10+n)):=by
 refine ab.cell (e:=cK) (fl:= .ret (.ref (10+n))) (b:=[(QC "rows", .ref 0),(QC "plan", .ref 6)]) (S':=⟨[],bR z n (dK z n).e⟩) (λK⟨P,hP⟩=>hP▸MV P) (by kernel_rfl) (by kernel_rfl) (by kernel_rfl) ?_ rfl (.inl rfl)
 rw[K0,AA]
 have e1:dZ (7+n) [wtS,fu,dnS]=[(wtS,7+n),(fu,8+n),(dnS,9+n)]:=by
  show[(wtS,7+n),(fu,7+n+1),(dnS,7+n+1+1)]=_
  rw[show 7+n+1=8+n by lia,show 8+n+1=9+n by lia]
 rw[e1]
 exact AE z H h2 h8
theorem xk(ns:List Int):bE (.ints ns) (.list (ns.map SV.int)):=λP O ob⟨vs,n,e,h⟩=>⟨vs,n,e,p7 h⟩
def i6:Fs:=⟨qn.sc,[(fu,1)],4,QD⟩
noncomputable def xsL(x:Nat->Int):Nat->List Int
 |0=>[]
 |n+1=>xsL x n++[x n]
def gN(i:Int):Str:=nms.getD i.toNat ⟨#[]⟩
def fg(a:Int):List Str:=bx [gN (a.fmod 5),gN ((a.fdiv 5).fmod 5),gN ((a.fdiv 25).fmod 5)] QD (QE ((a.fdiv 125).fmod 3+1))
theorem IE(a:Int):inR (a.fmod 5) 5=QF:=by
 have h1:=Int.fmod_nonneg_of_pos a (by decide:(0:Int)<5)
 have h2:=Int.fmod_lt_of_pos a (by decide:(0:Int)<5)
 unfold inR
 rw[decide_eq_true h1,decide_eq_true (show a.fmod 5<((5:Nat):Int)from h2)];rfl
noncomputable def uz:Nat->List SV
 |0=>[]
 |n+1=>uz n++[.ref (4+n)]
noncomputable def lD(x:Nat->Int):Nat->List SO
 |0=>[]
 |n+1=>lD x n++[.words (fg (x n))]
def mQ(x:Nat->Int)(n:Nat):St:=⟨[(QC "steps", .ref 0)],[.list ((xsL x n).map SV.int), .cell QD]⟩
def ur(x:Nat->Int)(n:Nat):St:=⟨[],[.list ((xsL x n).map SV.int), .cell (QE (.ref 2)), .list (nms.map SV.str), .list (uz n)]++lD x n⟩
def gB(x:Nat->Int)(n:Nat):List SO:=[.any, .any, .any, .list (uz n)]++lD x n
def PlP(x:Nat->Int)(n:Nat):Prop:=Wh (aa GKS i6 qn.body (mQ x n) (ur x n) (.ret (.ref 3)))
@[irreducible] def cP:Expr:=match nth qn.body 1 with
 |.Return (QE e) _=>e
 |s=>bj s
noncomputable def nV:Str:=QC "n"
noncomputable def rfP:Nat->List SV
 |0=>[]
 |i+1=>rfP i++[.ref (6+i)]
def vP(x:Nat->Int):Nat->List (Str×SV)
 |0=>[]
 |i+1=>[(nV, .int (x i))]
def AC(x:Nat->Int)(n:Nat):List SO:=[.list ((xsL x n).map SV.int), .cell (QE (.ref 2)), .list (nms.map SV.str)]
noncomputable def Ap:List (Str×SV):=[(QC "steps", .ref 0)]
def pcS(x:Nat->Int)(n i t m v:Nat):St:=⟨Ap,AC x n++[bo "list_iterator" 0 i, .list (rfP t), .vars (vP x v)]++lD x m⟩
def pcE(x:Nat->Int)(n:Nat):St:=⟨Ap,AC x n++[.any, .list (rfP n), .vars (vP x n)]++lD x n⟩
def pc0(x:Nat->Int)(n:Nat):St:=⟨Ap,AC x n⟩
def pc1(x:Nat->Int)(n:Nat):St:=⟨Ap,AC x n++[bo "list_iterator" 0 0]⟩
def pcZ(x:Nat->Int)(n:Nat):St:=⟨Ap,AC x n++[.list (uz n)]++lD x n⟩
def FP:Fs:=ej i6 (aR cP) [(fu,1)] 5
def tP:Expr:= .Name nV (bB cP).pos
def cC(a:Int):Prop:=inR ((a.fdiv 25).fmod 5) 5=QF/\inR ((a.fdiv 5).fmod 5) 5=QF/\inR (a.fmod 5) 5=QF/\True
def Jb(x:Nat->Int)(n i:Nat):=(cQ 3 (pcS x n i i i i) (pcS x n (i+1) i i i) (QE (.int (x i))),bJ FP nV (.int (x i)) (pcS x n (i+1) i i i) (pcS x n (i+1) i i (i+1)),dq (evN (TT 20 FP) FP nF (aq cP) ⟨pcS x n (i+1) i i (i+1),[],0,[],[]⟩) (pcS x n (i+1) i i (i+1)).led.length (PZ (6+i)++[8+i]) (pcS x n (i+1) i (i+1) (i+1)) (.ref (6+i)),cq 4 (.ref (6+i)) ⟨pcS x n (i+1) i (i+1) (i+1),[],0,[],[]⟩)
def Mw(x:Nat->Int)(n i:Nat):type_of% (Jb x n i):=(dd (pcS x n (i+1) i i i) (QE (.int (x i))),b6 (pcS x n (i+1) i i (i+1)),b8 (evN (TT 20 FP) FP nF (aq cP) ⟨pcS x n (i+1) i i (i+1),[],0,[],[]⟩) (pcS x n (i+1) i i (i+1)).led.length (PZ (6+i)++[8+i]) (pcS x n (i+1) i (i+1) (i+1)) (.ref (6+i)) (cC (x i)),QE (.none,⟨pcS x n (i+1) (i+1) (i+1) (i+1),[],0,[],[]⟩))
theorem DC{x:Nat->Int}{n i m:Nat}{S':St}(h:Jb x n i=Mw x n i)(r:aL GKS FP 3 4 (aq cP) tP [] S' m (pcS x n (i+1) (i+1) (i+1) (i+1))):aL GKS FP 3 4 (aq cP) tP [] S' (m+1) (pcS x n i i i i):=
 .step (@dc _ _ _ _ _ _ (QJ (·.1) h)) (@assign_k _ _ _ _ _ _ _ (QJ (·.2.1) h)) .nil (λ_=>⟨_,_,@bp _ 20 nF _ _ _ [] [] _ (PZ (6+i)++[8+i]) (cC (x i)) (QJ (·.2.2.1) h) ⟨IE _,IE _,IE _,QI⟩,@a9.ran _ _ _ _ .none _ _ ⟨pcS x n (i+1) (i+1) (i+1) (i+1),[],0,[],[]⟩ (QJ (·.2.2.2) h) rfl QI⟩) (λe=>nomatch e) r
noncomputable def C3(n:Nat):List Nat:=[0,1,2,4]++(PZ n).map (6+ ·)
def cpC(x:Nat->Int)(n:Nat):Prop:=ah GKS i6 cP (pc0 x n) (pcZ x n) (.ref 3)/\True
def H4(x:Nat->Int)(n:Nat):=(cQ 3 (pcS x n n n n n) (pcE x n) QD,dq (evN (TT 20 i6) i6 nF (av cP) ⟨pc0 x n,[],0,[],[]⟩) (pc0 x n).led.length (PZ 3) (pc0 x n) (.ref 0),ec (.ref 0) ⟨pc0 x n,[],0,[],[]⟩,gZ (pc0 x n).led.length (C3 n) ⟨(pcE x n).loc,(pcE x n).led.set 5 .any⟩ (pcZ x n),SV.ref 4,(pcE x n).led[5]?,Ran (c9 (TT 20 i6) i6 nF qn.body ⟨mQ x n,[],0,[],[.expr (iq cP) (pcZ x n) (.ref 3)]⟩) (mQ x n).led.length (PZ (4+n)) (ur x n) (.ret (.ref 3)))
def NK(x:Nat->Int)(n:Nat):type_of% (H4 x n):=(dd (pcE x n) QD,b8 (evN (TT 20 i6) i6 nF (av cP) ⟨pc0 x n,[],0,[],[]⟩) (pc0 x n).led.length (PZ 3) (pc0 x n) (.ref 0) True,QE (3,⟨pc1 x n,[],0,[],[]⟩),g8 (pc0 x n).led.length (C3 n) ⟨(pcE x n).loc,(pcE x n).led.set 5 .any⟩ (pcZ x n),aU (at_ (C3 n) ((pcE x n).led.set 5 .any).length) (.ref 3),QE (.vars (vP x n)),fU (c9 (TT 20 i6) i6 nF qn.body ⟨mQ x n,[],0,[],[.expr (iq cP) (pcZ x n) (.ref 3)]⟩) (mQ x n).led.length (PZ (4+n)) (ur x n) (.ret (.ref 3)) (cpC x n))
theorem Kv:cP= .ListComp (aq cP) [⟨tP,av cP,[],0⟩] (aR cP) cP.pos:=by kernel_rfl
def CpH(x:Nat->Int)(n:Nat):Prop:=Wh (ah GKS i6 cP (pc0 x n) (pcZ x n) (.ref 3))
theorem MX{x:Nat->Int}{n:Nat}(run:aL GKS FP 3 4 (aq cP) tP [] (pcE x n) (n+1) (pcS x n 0 0 0 0))(h:H4 x n=NK x n):CpH x n:=⟨by
 rw[Kv]
 exact@ah.comp GKS i6 (pc0 x n) (pc0 x n) (pc1 x n) (pcE x n) (pcZ x n) (aq cP) (av cP) [] nV (bB cP).pos cP.pos (aR cP) (.ref 0) (.ref 3) 3 (n+1) (bo "list_iterator" 0 0) (.list []) [(fu,1)] (vP x n) (C3 n) (by kernel_rfl) (by kernel_rfl)
  (@bp _ 20 nF _ _ _ [] [] _ (PZ 3) True (QJ (·.2.1) h) QI) (@aI.ran _ _ _ _ _ _ ⟨pc1 x n,[],0,[],[]⟩ (QJ (·.2.2.1) h) rfl QI) rfl (.inl (.inl rfl)) (bE.refl _) run (QJ (·.2.2.2.2.2.1) h) (by kernel_rfl) (QJ (·.2.2.2.2.1) h) (fP (QJ (·.2.2.2.1) h))⟩
theorem Ox(x:Nat->Int)(n:Nat)(a:2<=n)(b:n<8):PlP x n:=by
 have he:=iQ (L:=λn _=>H4 x n) (R:=λn _=>NK x n) (by kernel_rfl) (by kernel_rfl) (by kernel_rfl) (by kernel_rfl) (by kernel_rfl) (by kernel_rfl) n 0 a b (by lia)
 have hs:=iQ (L:=Jb x) (R:=Mw x) (by kernel_rfl) (by kernel_rfl) (by kernel_rfl) (by kernel_rfl) (by kernel_rfl) (by kernel_rfl) n
 have run:∀d j,j+d=n->aL GKS FP 3 4 (aq cP) tP [] (pcE x n) (d+1) (pcS x n j j j j):=λd=>by
  induction d with
  |zero=>
   intro j e
   have e:j=n:=e
   subst e
   exact .done (@dc _ _ _ _ _ _ (QJ (·.1) he))
  |succ d ih=>exactλj e=>DC (hs j a b (by lia)) (ih (j+1) (by lia))
 exact⟨@aw _ 20 nF _ _ _ [] [.expr (iq cP) (pcZ x n) (.ref 3)] _ (PZ (4+n)) (cpC x n) (QJ (·.2.2.2.2.2.2) he) ⟨@Wh.h _ (MX (run n 0 (Nat.zero_add n)) he),QI⟩⟩
theorem Az:(bw qn.sc)=[fu]:=by kernel_rfl
theorem yC(x:Nat->Int)(n:Nat):di (ur x n) ⟨[],gB x n⟩:=⟨rfl,(.cons (jb _) (.cons (jb _) (.cons (jb _) (br.refl _))))⟩
theorem xB(x:Nat->Int){n:Nat}(h2:2<=n)(h8:n<8):ab GKS 4 896 [.ints (xsL x n)] [.ref 0] (gB x n) (.ref 3):=by
 refine ab.cell (e:=qn) (fl:= .ret (.ref 3)) (b:=[(QC "steps", .ref 0)]) (S':=⟨[],gB x n⟩) (λK⟨P,hP⟩=>hP▸MO P) (by kernel_rfl) (by kernel_rfl) (by kernel_rfl) ?_ rfl (.inl rfl)
 rw[Az]
 exact@aa.weak GKS i6 _ ⟨[(QC "steps", .ref 0)],[.ints (xsL x n), .cell QD]⟩ (mQ x n) _ _ ⟨rfl, .cons (xk _) (br.refl _)⟩ ((@Wh.h _ (Ox x n h2 h8)).soft (yC x n))
def iu:Fs:=⟨fZ.sc,[],4,QD⟩
def wi:SO:= .list [.str (nm 0), .str (nm 1), .str (nm 2), .str (nm 3), .str (nm 4)]
def ndL(zs:List Int)(r:Nat->List Str):List SO:=[.ints zs,wi, .list [.ref 3, .ref 4, .ref 5, .ref 6, .ref 7], .words (r 0), .words (r 1), .words (r 2), .words (r 3), .words (r 4)]
noncomputable def rgO(n:Nat):SO:= .fields "range" [.int 0, .int (.ofNat n), .int 1]
noncomputable def rgI(a b:Nat):SO:= .fields "range_iterator" [.top (.int (.ofNat a) 0), .top (.int (.ofNat b) 0), .top (.int 1 0)]
noncomputable def rgG:Nat->List SO
 |0=>[]
 |n+1=>rgG n++[rgO n,rgI n 0]
noncomputable def rt(V:List (Str×SV)):List (Str×SV):=[(QC "script", .ref 0),(QC "names", .ref 1),(QC "rows", .ref 2)]++V
noncomputable def ndV(i j k:Nat):List (Str×SV):=[(QC "p", .int (.ofNat k)),(QC "i", .int (.ofNat i)),(QC "j", .int (.ofNat j))]
def ndS(zs:List Int)(r:Nat->List Str)(i j k:Nat):St:=⟨rt (ndV i j k),ndL zs r++[rgO 5,rgI (i+1) (4-i)]++rgG i++[rgO i,rgI (j+1) (i-1-j)]⟩
noncomputable def ndC:Nat->Int
 |0=>1
 |3=>1
 |6=>1
 |_=>0
def ndB(zs:List Int)(k:Nat):Bool:=(ndC k+(eO zs (QE (.ofNat k)) QD (QE 10)).sum).fmod 2==1
def ndR(b:Bool)(r:Nat->List Str)(i j:Nat):Nat->List Str:=upd r i (match b with|true=>r i++[nm j]|false=>r i)
def Hx:Stmt:=nth fZ.body 3
def e8:Stmt:=nth (aT (nth (aT Hx) 0)) 0
noncomputable def prs:List (Nat×Nat×Nat):=[(1,0,0),(2,0,1),(2,1,2),(3,0,3),(3,1,4),(3,2,5),(4,0,6),(4,1,7),(4,2,8),(4,3,9)]
def IfH(zs:List Int)(r:Nat->List Str)(i j k:Nat):Prop:=Wh (ae GKS iu e8 (ndS zs r i j k) (ndS zs (ndR (ndB zs k) r i j) i j k) .next)
theorem Dk{st:Stmt}{S S':St}{fl:XF}(h:ae GKS F (.If (bj st) (aT st) [] (lS st)) S S' fl)(e:st= .If (bj st) (aT st) [] (lS st)):ae GKS F st S S' fl:=by rw[e];exact h
theorem uc{l:List Stmt}{T:Bool->St}{b c:Bool}(h:aa GKS F l S (T c) .next)(e:b=c):aa GKS F l S (T b) .next:=by subst e;exact h
theorem I6{st:Stmt}{F:Fs}{S:St}{T:Bool->St}{b:Bool}(e:st= .If (bj st) (aT st) [] (lS st))(ht:aJ GKS F (bj st) S S b)(hy:aa GKS F (aT st) S (T QF) .next)(hn:T QG=S):ae GKS F st S (T b) .next:=
 Dk (ae.if_ ht (λhb=>uc hy hb) (λhb=>uc (hn▸ .nil) hb)) e
theorem MP:e8= .If (bj e8) (aT e8) [] (lS e8):=by kernel_rfl
theorem A4{zs:List Int}{r:Nat->List Str}{i j k:Nat}(ht:aJ GKS iu (bj e8) (ndS zs r i j k) (ndS zs r i j k) (ndB zs k))(hy:aa GKS iu (aT e8) (ndS zs r i j k) (ndS zs (ndR QF r i j) i j k) .next)
  (hn:ndR QG r i j=r):IfH zs r i j k:=Wh.mk (@I6 e8 iu (ndS zs r i j k) (λb=>ndS zs (ndR b r i j) i j k) (ndB zs k) MP @ht @hy (QJ (λx=>ndS zs x i j k) hn))
theorem CX(r:Nat->List Str)(i j:Nat):ndR QG r i j=r:=by
 funext k
 unfold ndR upd
 cases e:Nat.beq k i with
 |true=>rw[PV e]
 |false=>rfl
def ndT(zs:List Int)(r:Nat->List Str)(q:Nat×Nat×Nat):Prop×Prop:=tE iu [] [] (bj e8) (ndS zs r q.1 q.2.1 q.2.2) (ndS zs r q.1 q.2.1 q.2.2) (ndB zs q.2.2) (PZ (12+2*q.1)) (ao zs.length/\True)
def ndY(zs:List Int)(r:Nat->List Str)(q:Nat×Nat×Nat):Prop×Prop:=sE iu [] [] (aT e8) (ndS zs r q.1 q.2.1 q.2.2) (ndS zs (ndR QF r q.1 q.2.1) q.1 q.2.1 q.2.2) .next (PZ (12+2*q.1)) (ao (r q.1).length/\inR (.ofNat q.2.1) 5=QF/\True)
theorem L3(zs:List Int)(r:Nat->List Str):prs.map (λq=>((ndT zs r q).1,(ndY zs r q).1))=prs.map λq=>((ndT zs r q).2,(ndY zs r q).2):=by kernel_rfl
theorem Js:∀q∈prs,inR (.ofNat q.2.1) 5=QF:=by decide+kernel
theorem yL(zs:List Int)(r:Nat->List Str)(q:Nat×Nat×Nat)(hq:q∈prs):(ndT zs r q).1=(ndT zs r q).2/\(ndY zs r q).1=(ndY zs r q).2:=
 have h:=Qk.mp (L3 zs r) q hq
 ⟨QJ (·.1) h,QJ (·.2) h⟩
theorem g7(zs:List Int)(r:Nat->List Str)(hz:ao zs.length)(hr:∀i,ao (r i).length)(q:Nat×Nat×Nat)(hq:q∈prs):IfH zs r q.1 q.2.1 q.2.2:=
 @A4 zs r q.1 q.2.1 q.2.2 (@sC iu [] [] (ndS zs r q.1 q.2.1 q.2.2) (ndS zs r q.1 q.2.1 q.2.2) (PZ (12+2*q.1)) (ao zs.length/\True) (bj e8) (ndB zs q.2.2) (yL zs r q hq).1 ⟨hz,QI⟩)
  (@gD iu [] [] (ndS zs r q.1 q.2.1 q.2.2) (ndS zs (ndR QF r q.1 q.2.1) q.1 q.2.1 q.2.2) (PZ (12+2*q.1)) (ao (r q.1).length/\inR (.ofNat q.2.1) 5=QF/\True) (aT e8) .next (yL zs r q hq).2 ⟨hr _,Js q hq,QI⟩) (CX r _ _)
noncomputable def pI:Nat->Nat
 |0=>1
 |1=>2
 |2=>2
 |3=>3
 |4=>3
 |5=>3
 |_=>4
noncomputable def pJ:Nat->Nat
 |0=>0
 |1=>0
 |2=>1
 |3=>0
 |4=>1
 |5=>2
 |6=>0
 |7=>1
 |8=>2
 |_=>3
noncomputable def ndK(b:Nat->Bool):Nat->(Nat->List Str)
 |0=>λi=>[nm i]
 |n+1=>ndR (b n) (ndK b n) (pI n) (pJ n)
theorem Et(b:Bool)(r:Nat->List Str)(i j n:Nat)(h:∀k,(r k).length<=n):∀k,(ndR b r i j k).length<=n+1:=by
 intro k
 unfold ndR upd
 cases e:Nat.beq k i with
 |true=>cases b with
  |true=>have:=h i;simp;lia
  |false=>have:=h i;simp;lia
 |false=>exact Nat.le_succ_of_le (h k)
theorem uq(b:Nat->Bool):∀n,∀k,(ndK b n k).length<=n+1
 |0,k=>by simp[ndK]
 |n+1,k=>Et _ _ _ _ _ (uq b n) k
def ndI(i j k:Nat)(zs:List Int):Prop:=ae GKS iu e8 (ndS zs (ndK (ndB zs) k) i j k) (ndS zs (ndK (ndB zs) (k+1)) i j k) .next
def ndO(i j k:Nat)(zs:List Int):Orc:= .stmt e8.pos.line (ndS zs (ndK (ndB zs) (k+1)) i j k) .next
def LC(zs:List Int):Prop:=Wh (aa GKS iu (fZ.body.drop 3) ⟨rt [(QC "p", .int 0)],ndL zs (ndK (ndB zs) 0)⟩ ⟨[],ndL zs (ndK (ndB zs) 10)⟩ (.ret (.ref 2)))
theorem JE(zs:List Int)(hz:ao zs.length):LC zs:=by
 have A:∀k,k<=9->∀i,ao (ndK (ndB zs) k i).length:=λk hk i=>PU (by have:=uq (ndB zs) k i;lia)
 have h0:=g7 zs (ndK (ndB zs) 0) hz (A 0 (by decide)) (1,0,0) (by decide)
 have h1:=g7 zs (ndK (ndB zs) 1) hz (A 1 (by decide)) (2,0,1) (by decide)
 have h2:=g7 zs (ndK (ndB zs) 2) hz (A 2 (by decide)) (2,1,2) (by decide)
 have h3:=g7 zs (ndK (ndB zs) 3) hz (A 3 (by decide)) (3,0,3) (by decide)
 have h4:=g7 zs (ndK (ndB zs) 4) hz (A 4 (by decide)) (3,1,4) (by decide)
 have h5:=g7 zs (ndK (ndB zs) 5) hz (A 5 (by decide)) (3,2,5) (by decide)
 have h6:=g7 zs (ndK (ndB zs) 6) hz (A 6 (by decide)) (4,0,6) (by decide)
 have h7:=g7 zs (ndK (ndB zs) 7) hz (A 7 (by decide)) (4,1,7) (by decide)
 have h8:=g7 zs (ndK (ndB zs) 8) hz (A 8 (by decide)) (4,2,8) (by decide)
 have h9:=g7 zs (ndK (ndB zs) 9) hz (A 9 (by decide)) (4,3,9) (by decide)
 refine Wh.mk (@aw _ 20 nF _ _ _ [] [ndO 1 0 0 zs,ndO 2 0 1 zs,ndO 2 1 2 zs,ndO 3 0 3 zs,ndO 3 1 4 zs,ndO 3 2 5 zs,ndO 4 0 6 zs,ndO 4 1 7 zs,ndO 4 2 8 zs,ndO 4 3 9 zs] _ (PZ 8)
  (ndI 4 3 9 zs/\ndI 4 2 8 zs/\ndI 4 1 7 zs/\ndI 4 0 6 zs/\ndI 3 2 5 zs/\ndI 3 1 4 zs/\ndI 3 0 3 zs/\ndI 2 1 2 zs/\ndI 2 0 1 zs/\ndI 1 0 0 zs/\True) (by kernel_rfl) ?_)
 exact And.intro (@Wh.h _ h9) (And.intro (@Wh.h _ h8) (And.intro (@Wh.h _ h7) (And.intro (@Wh.h _ h6) (And.intro (@Wh.h _ h5) (And.intro (@Wh.h _ h4) (And.intro (@Wh.h _ h3) (And.intro (@Wh.h _ h2) (And.intro (@Wh.h _ h1) (And.intro (@Wh.h _ h0) QI)))))))))
def cN:Expr:=bj (nth fZ.body 1)
noncomputable def DB:Str:=QC "name"
noncomputable def qZ:List (Str×SV):=[(QC "script", .ref 0),(QC "names", .ref 1)]
noncomputable def HK:Nat->List SO
 |0=>[]
 |i+1=>HK i++[.list [.str (nm i)]]
noncomputable def JW:Nat->List SV
 |0=>[]
 |i+1=>JW i++[.ref (5+i)]
def vNN:Nat->List (Str×SV)
 |0=>[]
 |i+1=>[(DB, .str (nm i))]
def fV(zs:List Int)(i t m v:Nat):St:=⟨qZ,[.ints zs,wi,bo "list_iterator" 1 i, .list (JW t), .vars (vNN v)]++HK m⟩
def cnE(zs:List Int):St:=⟨qZ,[.ints zs,wi, .any, .list (JW 5), .vars (vNN 5)]++HK 5⟩
def cn0(zs:List Int):St:=⟨qZ,[.ints zs,wi]⟩
def cn1(zs:List Int):St:=⟨qZ,[.ints zs,wi,bo "list_iterator" 1 0]⟩
def cnZ(zs:List Int):St:=⟨rt [],[.ints zs,wi, .list [.ref 3, .ref 4, .ref 5, .ref 6, .ref 7], .list [.str (nm 0)], .list [.str (nm 1)], .list [.str (nm 2)], .list [.str (nm 3)], .list [.str (nm 4)]]⟩
def FNN:Fs:=ej iu (aR cN) [] 4
def tNN:Expr:= .Name DB (bB cN).pos
def K7(zs:List Int)(i:Nat):=(cQ 2 (fV zs i i i i) (fV zs (i+1) i i i) (QE (.str (nm i))),bJ FNN DB (.str (nm i)) (fV zs (i+1) i i i) (fV zs (i+1) i i (i+1)),dq (evN (TT 20 FNN) FNN nF (aq cN) ⟨fV zs (i+1) i i (i+1),[],0,[],[]⟩) (fV zs (i+1) i i (i+1)).led.length (PZ (6+i)) (fV zs (i+1) i (i+1) (i+1)) (.ref (5+i)),cq 3 (.ref (5+i)) ⟨fV zs (i+1) i (i+1) (i+1),[],0,[],[]⟩)
def PB(zs:List Int)(i:Nat):type_of% (K7 zs i):=(dd (fV zs (i+1) i i i) (QE (.str (nm i))),b6 (fV zs (i+1) i i (i+1)),b8 (evN (TT 20 FNN) FNN nF (aq cN) ⟨fV zs (i+1) i i (i+1),[],0,[],[]⟩) (fV zs (i+1) i i (i+1)).led.length (PZ (6+i)) (fV zs (i+1) i (i+1) (i+1)) (.ref (5+i)) True,QE (.none,⟨fV zs (i+1) (i+1) (i+1) (i+1),[],0,[],[]⟩))
theorem iR{zs:List Int}{i n:Nat}{S':St}(h:K7 zs i=PB zs i)(r:aL GKS FNN 2 3 (aq cN) tNN [] S' n (fV zs (i+1) (i+1) (i+1) (i+1))):aL GKS FNN 2 3 (aq cN) tNN [] S' (n+1) (fV zs i i i i):=
 .step (@dc _ _ _ _ _ _ (QJ (·.1) h)) (@assign_k _ _ _ _ _ _ _ (QJ (·.2.1) h)) .nil (λ_=>⟨_,_,@bp _ 20 nF _ _ _ [] [] _ (PZ (6+i)) True (QJ (·.2.2.1) h) QI,@a9.ran _ _ _ _ .none _ _ ⟨fV zs (i+1) (i+1) (i+1) (i+1),[],0,[],[]⟩ (QJ (·.2.2.2) h) rfl QI⟩) (λe=>nomatch e) r
noncomputable def se:Str:=QC "rows"
def Nn:Pos:=match nth fZ.body 1 with
 |.Assign [.Name _ p] _ _=>p
 |s=>s.pos
def cn6(zs:List Int):St:=⟨qZ++[(se, .ref 3)],(cnE zs).led⟩
def CnH(zs:List Int):Prop:=Wh (ae GKS iu (nth fZ.body 1) (cn0 zs) (cnZ zs) .next)
theorem DN(zs:List Int):CnH zs:=⟨by
 have e:nth fZ.body 1= .Assign [.Name se Nn] (.ListComp (aq cN) [⟨tNN,av cN,[],0⟩] (aR cN) cN.pos) (nth fZ.body 1).pos:=by kernel_rfl
 rw[e]
 have run:aL GKS FNN 2 3 (aq cN) tNN [] (cnE zs) 6 (fV zs 0 0 0 0):=iR (by kernel_rfl) (iR (by kernel_rfl) (iR (by kernel_rfl) (iR (by kernel_rfl) (iR (by kernel_rfl) (.done (@dc _ _ _ _ _ _ (by kernel_rfl)))))))
 exact@ae.comp GKS iu (cn0 zs) (cn0 zs) (cn1 zs) (cnE zs) (cn6 zs) (cnZ zs) (aq cN) (av cN) [] DB se (bB cN).pos cN.pos Nn (nth fZ.body 1).pos (aR cN) (.ref 1) 2 6 (bo "list_iterator" 1 0) (.list []) [] (vNN 5) [0,1,3,5,6,7,8,9] (by kernel_rfl) (by kernel_rfl) (by kernel_rfl)
  (@bp _ 20 nF _ _ _ [] [] _ (PZ 2) True (by kernel_rfl) QI) (@aI.ran _ _ _ _ _ _ ⟨cn1 zs,[],0,[],[]⟩ (by kernel_rfl) rfl QI) rfl (.inl (.inl rfl)) (bE.refl _) run (@assign_k _ _ _ _ _ _ _ (by kernel_rfl)) rfl (by kernel_rfl) ⟨by kernel_rfl,⟨by kernel_rfl,by kernel_rfl⟩,by kernel_rfl⟩⟩
theorem FH(zs:List Int):aa GKS iu (fZ.body.take 3) ⟨[(QC "script", .ref 0)],[.ints zs]⟩ ⟨rt [(QC "p", .int 0)],ndL zs (ndK (ndB zs) 0)⟩ .next:=
 aa.soft (S1:=⟨rt [(QC "p", .int 0)],(cnZ zs).led⟩) (@aw _ 20 nF _ _ _ [] [.stmt (nth fZ.body 1).pos.line (cnZ zs) .next] _ (PZ 8) (ae GKS iu (nth fZ.body 1) (cn0 zs) (cnZ zs) .next/\True) (by kernel_rfl) ⟨@Wh.h _ (DN zs),QI⟩)
  ⟨rfl, .cons (bE.refl _) (.cons (bE.refl _) (.cons (bE.refl _) (.cons (bt [nm 0]) (.cons (bt [nm 1]) (.cons (bt [nm 2]) (.cons (bt [nm 3]) (.cons (bt [nm 4]) .nil)))))))⟩
theorem Dv(zs:List Int)(hz:zs.length<=1000):ab GKS 4 891 [.ints zs] [.ref 0] (ndL zs (ndK (ndB zs) 10)) (.ref 2):=by
 refine ab.plain (e:=fZ) (fl:= .ret (.ref 2)) (b:=[(QC "script", .ref 0)]) (S':=⟨[],ndL zs (ndK (ndB zs) 10)⟩) (λK⟨P,hP⟩=>hP▸MI P) (by kernel_rfl) (by kernel_rfl) (by kernel_rfl) ?_ rfl (.inl rfl)
 have hb:fZ.body=fZ.body.take 3++fZ.body.drop 3:=by kernel_rfl
 rw[hb]
 exact(FH zs).append (JE zs (PU hz)).h
structure Scr where
 vs:List Value
 zs:List Int
def ed:Fs:=⟨dW.sc,[],28,QD⟩
noncomputable def scS:Str:=QC "script"
noncomputable def drS:Str:=QC "drawn"
noncomputable def plS:Str:=QC "plan"
def lw0(zs:Scr):St:=⟨[(scS, .ref 0)],[.intsX zs.vs zs.zs, .tab 873 1]⟩
def p30(zs:Scr):List Int:=eO zs.zs QD (QE 30) QD
def p5(zs:Scr):List Int:=[0,136]++eO zs.zs QD (QE 5) QD
def lw1(zs:Scr)(r:Nat->List Str):St:=⟨[(scS, .ref 0),(drS, .ref 2)],[.intsX zs.vs zs.zs, .tab 873 1, .list [.ref 3, .ref 4, .ref 5, .ref 6, .ref 7], .words (r 0), .words (r 1), .words (r 2), .words (r 3), .words (r 4)]⟩
def Lw1(zs:Scr)(r:Nat->List Str):Prop:=Wh (ae GKS ed (nth dW.body 0) (lw0 zs) (lw1 zs r) .next)
theorem MB(zs:Scr)(hz:zs.zs.length<=1000)(h30:(p30 zs).length<=1000):Lw1 zs (ndK (ndB (p30 zs)) 10):=
 ⟨@hV _ 20 nF _ _ _ [] [.call 891 [3] [.ints (p30 zs)] [.ref 0] (ndL (p30 zs) (ndK (ndB (p30 zs)) 10)) (.ref 2)] _ [0,1,5,6,7,8,9,10] (OC 26 891 [3] [.ints (p30 zs)] ((lw0 zs).led++[.fields "slice" [.none, .int 30, .none], .ints (p30 zs)]) [.ref 0] [.ref 3] (ndL (p30 zs) (ndK (ndB (p30 zs)) 10)) (.ref 2) (ao zs.zs.length/\True)) (by kernel_rfl)
  (gm ⟨by kernel_rfl,by kernel_rfl⟩ (ab.mono (Dv (p30 zs) h30) (by decide)) ⟨PU hz,QI⟩)⟩
noncomputable def FX:Nat->List SV
 |0=>[]
 |n+1=>FX n++[.ref (9+n)]
def lwL(zs:Scr)(rs:Nat->List Str)(x:Nat->Int)(n:Nat):List SO:=[.intsX zs.vs zs.zs, .tab 873 1, .list [.ref 3, .ref 4, .ref 5, .ref 6, .ref 7], .words (rs 0), .words (rs 1), .words (rs 2), .words (rs 3), .words (rs 4), .list (FX n)]++lD x n
def xH:List (Str×SV):=[(scS, .ref 0),(drS, .ref 2),(plS, .ref 8)]
def lw2(zs:Scr)(rs:Nat->List Str)(x:Nat->Int)(n:Nat):St:=⟨xH,lwL zs rs x n⟩
noncomputable def pkP:Nat->List Nat
 |0=>[]
 |n+1=>pkP n++[15+n]
def oPl(zs:Scr)(x:Nat->Int)(n:Nat):Orc:= .call 896 [11] [.ints (p5 zs)] [.ref 0] (gB x n) (.ref 3)
def ldP(zs:Scr)(rs:Nat->List Str):List SO:=(lw1 zs rs).led++[.list [.int 0, .int 136], .fields "slice" [.none, .int 5, .none], .ints (eO zs.zs QD (QE 5) QD), .ints (p5 zs)]
def CP2(zs:Scr)(rs:Nat->List Str)(x:Nat->Int)(n:Nat):Prop:=OC 26 896 [11] [.ints (p5 zs)] (ldP zs rs) [.ref 0] [.ref 11] (gB x n) (.ref 3) (ao (2+(eO zs.zs QD (QE 5) QD).length)/\ao zs.zs.length/\True)
def Lw2(zs:Scr)(rs:Nat->List Str)(x:Nat->Int)(n:Nat):Prop:=Wh (ae GKS ed (nth dW.body 1) (lw1 zs rs) (lw2 zs rs x n) .next)
theorem eq6{α:Type}{L R:Nat->α}(h:[L 2,L 3,L 4,L 5,L 6,L 7]=[R 2,R 3,R 4,R 5,R 6,R 7])(n:Nat)(a:2<=n)(b:n<8):L n=R n:=by
 injection h with h2 h
 injection h with h3 h
 injection h with h4 h
 injection h with h5 h
 injection h with h6 h
 injection h with h7 h
 have:n=2\/n=3\/n=4\/n=5\/n=6\/n=7:=by lia
 rcases this with rfl|rfl|rfl|rfl|rfl|rfl<;>assumption
def OW(zs:Scr)(rs:Nat->List Str)(x:Nat->Int)(n:Nat):Prop:=Ran (exN (TT 20 ed) ed nF (nth dW.body 1) ⟨lw1 zs rs,[],0,[],[oPl zs x n]⟩) (lw1 zs rs).led.length (PZ 8++[14]++pkP n) (lw2 zs rs x n) .next
def OZ(zs:Scr)(rs:Nat->List Str)(x:Nat->Int)(n:Nat):Prop:=fU (exN (TT 20 ed) ed nF (nth dW.body 1) ⟨lw1 zs rs,[],0,[],[oPl zs x n]⟩) (lw1 zs rs).led.length (PZ 8++[14]++pkP n) (lw2 zs rs x n) .next (CP2 zs rs x n)
theorem Iw(zs:Scr)(rs:Nat->List Str)(x:Nat->Int)(hz:zs.zs.length<=1000)(h5:(p5 zs).length<=1000)(n:Nat)(h2:2<=n)(h8:n<8)(hx:p5 zs=xsL x n):Lw2 zs rs x n:=by
 have hc:ab GKS 4 896 [.ints (p5 zs)] [.ref 0] (gB x n) (.ref 3):=by rw[hx];exact xB x h2 h8
 have hl:(eO zs.zs QD (QE 5) QD).length<=998:=by
  unfold p5 at h5
  rw[Qf]at h5
  simp only[Qg,List.length_nil]at h5
  lia
 exact⟨@hV _ 20 nF _ _ _ [] [oPl zs x n] _ (PZ 8++[14]++pkP n) (CP2 zs rs x n) (eq6 (L:=OW zs rs x) (R:=OZ zs rs x) (by kernel_rfl) n h2 h8) (gm ⟨by kernel_rfl,by kernel_rfl⟩ (ab.mono @hc (by decide)) ⟨PU (by lia),PU hz,QI⟩)⟩
def rtE:Expr:=match nth dW.body 2 with
 |.Return (QE e) _=>e
 |_=> .Name ⟨#[]⟩ jV
def cj:Expr:=match rtE with
 |.Compare (.Call _ [_,c] _ _) _ _ _=>c
 |e=>e
noncomputable def c8(x:Nat->Int):Nat->List Str
 |0=>[]
 |n+1=>c8 x n++[cu (fg (x n))]
def oJn(x:Nat->Int)(i:Nat):Orc:= .call 878 [9+i,1] [.words (fg (x i)), .tab 873 1] [.ref 0] [.words (fg (x i)), .tab 873 1] (.str (cu (fg (x i))))
noncomputable def xS:Str:=QC "x"
def vJ:Nat->List (Str×SV)
 |0=>[]
 |i+1=>[(xS, .ref (9+i))]
def cj1(zs:Scr)(rs:Nat->List Str)(x:Nat->Int)(n i:Nat):St:=⟨xH,lwL zs rs x n++[bo "list_iterator" 8 i]⟩
def cjS(zs:Scr)(rs:Nat->List Str)(x:Nat->Int)(n i t v:Nat):St:=⟨xH,(cj1 zs rs x n i).led++[.list ((c8 x t).map SV.str), .vars (vJ v)]⟩
def cjE(zs:Scr)(rs:Nat->List Str)(x:Nat->Int)(n:Nat):St:=⟨xH,lwL zs rs x n++[.any, .list ((c8 x n).map SV.str), .vars (vJ n)]⟩
def FJ(zs:Scr)(rs:Nat->List Str)(x:Nat->Int)(n:Nat):Fs:=ej ed (aR cj) [] ((cj1 zs rs x n 0).led.length+1)
def tJ:Expr:= .Name xS (bB cj).pos
def lw3(zs:Scr)(rs:Nat->List Str)(x:Nat->Int)(n:Nat):St:=⟨xH,lwL zs rs x n++[.words (c8 x n)]⟩
def Eh(zs:Scr)(rs:Nat->List Str)(x:Nat->Int)(n:Nat):St:=⟨xH,lwL zs rs x n++[.list ((c8 x n).map SV.str)]⟩
theorem ah.softR{GK:Frag->Prop}{e:Expr}{S S1 S':St}{v:SV}(h:ah GK F e S S1 v)(hs:di S1 S'):ah GK F e S S' v:=λc hK H O s m news p=>
 Qw (h c hK H O s m news p) (λ_ _ z=>by obtain⟨O',m',n',a1,a2,a3⟩:=z;exact⟨O',m',n',a1,hs.pre a2,a3⟩) λ_ _ z=>z
def Lw3(zs:Scr)(rs:Nat->List Str)(x:Nat->Int)(n:Nat):Prop:=Wh (ah GKS ed cj (lw2 zs rs x n) (lw3 zs rs x n) (.ref (9+n)))
structure pP (ns:List Str):Prop where
 ne:ns≠[]
 nn:∀y∈ns,y∈nms
 nl:ns.length<=3
def CJ(zs:Scr)(rs:Nat->List Str)(x:Nat->Int)(n i:Nat):Prop:=OC 26 878 [9+i,1] [.words (fg (x i)), .tab 873 1] (cjS zs rs x n (i+1) i (i+1)).led [.ref 0] [.ref (9+i)] [.words (fg (x i)), .tab 873 1] (.str (cu (fg (x i)))) True
def IR(zs:Scr)(rs:Nat->List Str)(x:Nat->Int)(n i:Nat):=(cQ (9+n) (cjS zs rs x n i i i) (cjS zs rs x n (i+1) i i) (QE (.ref (9+i))),bJ (FJ zs rs x n) xS (.ref (9+i)) (cjS zs rs x n (i+1) i i) (cjS zs rs x n (i+1) i (i+1)),dq (evN (TT 20 (FJ zs rs x n)) (FJ zs rs x n) nF (aq cj) ⟨cjS zs rs x n (i+1) i (i+1),[],0,[],[oJn x i]⟩) (cjS zs rs x n (i+1) i (i+1)).led.length (PZ (12+n)) (cjS zs rs x n (i+1) i (i+1)) (.str (cu (fg (x i)))),cq (cj1 zs rs x n 0).led.length (.str (cu (fg (x i)))) ⟨cjS zs rs x n (i+1) i (i+1),[],0,[],[]⟩,dI [9+i,1],bI (mapLed (at_ [9+i,1] (cjS zs rs x n (i+1) i (i+1)).led.length) [.words (fg (x i)), .tab 873 1]))
def Le(zs:Scr)(rs:Nat->List Str)(x:Nat->Int)(n i:Nat):type_of% (IR zs rs x n i):=(dd (cjS zs rs x n (i+1) i i) (QE (.ref (9+i))),b6 (cjS zs rs x n (i+1) i (i+1)),b8 (evN (TT 20 (FJ zs rs x n)) (FJ zs rs x n) nF (aq cj) ⟨cjS zs rs x n (i+1) i (i+1),[],0,[],[oJn x i]⟩) (cjS zs rs x n (i+1) i (i+1)).led.length (PZ (12+n)) (cjS zs rs x n (i+1) i (i+1)) (.str (cu (fg (x i)))) (CJ zs rs x n i),QE (.none,⟨cjS zs rs x n (i+1) (i+1) (i+1),[],0,[],[]⟩),QF,bF (cjS zs rs x n (i+1) i (i+1)).led [9+i,1])
theorem EO{zs:Scr}{rs:Nat->List Str}{x:Nat->Int}{n i m:Nat}{S':St}(hr:pP (fg (x i)))(h:IR zs rs x n i=Le zs rs x n i)(r:aL GKS (FJ zs rs x n) (9+n) (cj1 zs rs x n 0).led.length (aq cj) tJ [] S' m (cjS zs rs x n (i+1) (i+1) (i+1))):aL GKS (FJ zs rs x n) (9+n) (cj1 zs rs x n 0).led.length (aq cj) tJ [] S' (m+1) (cjS zs rs x n i i i):=
 .step (@dc _ _ _ _ _ _ (QJ (·.1) h)) (@assign_k _ _ _ _ _ _ _ (QJ (·.2.1) h)) .nil (λ_=>⟨_,_,@bp _ 20 nF _ _ _ [] [oJn x i] _ (PZ (12+n)) (CJ zs rs x n i) (QJ (·.2.2.1) h) (gm ⟨QJ (·.2.2.2.2.1) h,QJ (·.2.2.2.2.2) h⟩ (ab.mono (vC (fg (x i)) hr.nn (PW hr.nl (by decide:3<=100))) (by decide)) QI),@a9.ran _ _ _ _ .none _ _ ⟨cjS zs rs x n (i+1) (i+1) (i+1),[],0,[],[]⟩ (QJ (·.2.2.2.1) h) rfl QI⟩) (λe=>nomatch e) r
noncomputable def pkJ(n:Nat):List Nat:=PZ (9+n)++[10+n]
def H7(zs:Scr)(rs:Nat->List Str)(x:Nat->Int)(n:Nat):=(cQ (9+n) (cjS zs rs x n n n n) (cjE zs rs x n) QD,dq (evN (TT 20 ed) ed nF (av cj) ⟨lw2 zs rs x n,[],0,[],[]⟩) (lw2 zs rs x n).led.length (PZ (9+n)) (lw2 zs rs x n) (.ref 8),ec (.ref 8) ⟨lw2 zs rs x n,[],0,[],[]⟩,gZ (lw2 zs rs x n).led.length (pkJ n) ⟨(cjE zs rs x n).loc,(cjE zs rs x n).led.set ((cj1 zs rs x n 0).led.length+1) .any⟩ (Eh zs rs x n),SV.ref (cj1 zs rs x n 0).led.length,(cjE zs rs x n).led[(cj1 zs rs x n 0).led.length+1]?,(cj1 zs rs x n 0).led[9+n]?)
def K8(zs:Scr)(rs:Nat->List Str)(x:Nat->Int)(n:Nat):type_of% (H7 zs rs x n):=(dd (cjE zs rs x n) QD,b8 (evN (TT 20 ed) ed nF (av cj) ⟨lw2 zs rs x n,[],0,[],[]⟩) (lw2 zs rs x n).led.length (PZ (9+n)) (lw2 zs rs x n) (.ref 8) True,QE (9+n,⟨cj1 zs rs x n 0,[],0,[],[]⟩),g8 (lw2 zs rs x n).led.length (pkJ n) ⟨(cjE zs rs x n).loc,(cjE zs rs x n).led.set ((cj1 zs rs x n 0).led.length+1) .any⟩ (Eh zs rs x n),aU (at_ (pkJ n) ((cjE zs rs x n).led.set ((cj1 zs rs x n 0).led.length+1) .any).length) (.ref (9+n)),QE (.vars (vJ n)),QE (bo "list_iterator" 8 0))
theorem KO:cj= .ListComp (aq cj) [⟨tJ,av cj,[],0⟩] (aR cj) cj.pos:=by kernel_rfl
theorem Ec{zs:Scr}{rs:Nat->List Str}{x:Nat->Int}{n:Nat}(run:aL GKS (FJ zs rs x n) (9+n) (cj1 zs rs x n 0).led.length (aq cj) tJ [] (cjE zs rs x n) (n+1) (cjS zs rs x n 0 0 0))(h:H7 zs rs x n=K8 zs rs x n):Lw3 zs rs x n:=
 ⟨ah.softR (S1:=Eh zs rs x n) (by
  rw[KO]
  exact@ah.comp GKS ed (lw2 zs rs x n) (lw2 zs rs x n) (cj1 zs rs x n 0) (cjE zs rs x n) (Eh zs rs x n) (aq cj) (av cj) [] xS (bB cj).pos cj.pos (aR cj) (.ref 8) (.ref (9+n)) (9+n) (n+1) (bo "list_iterator" 8 0) (.list []) [] (vJ n) (pkJ n) (by kernel_rfl) (by kernel_rfl)
   (@bp _ 20 nF _ _ _ [] [] _ (PZ (9+n)) True (QJ (·.2.1) h) QI) (@aI.ran _ _ _ _ _ _ ⟨cj1 zs rs x n 0,[],0,[],[]⟩ (QJ (·.2.2.1) h) rfl QI) (QJ (·.2.2.2.2.2.2) h) (.inl (.inl rfl)) (bE.refl _) run (QJ (·.2.2.2.2.2.1) h) (by kernel_rfl) (QJ (·.2.2.2.2.1) h) (fP (QJ (·.2.2.2.1) h))) ⟨rfl,(br.refl _).append (.cons (bt _) .nil)⟩⟩
theorem Jf(zs:Scr)(rs:Nat->List Str)(x:Nat->Int)(hr:∀i,pP (fg (x i)))(n:Nat)(a:2<=n)(b:n<8):Lw3 zs rs x n:=by
 have he:=eq6 (L:=H7 zs rs x) (R:=K8 zs rs x) (by kernel_rfl) n a b
 have hs:=iQ (L:=IR zs rs x) (R:=Le zs rs x) (by kernel_rfl) (by kernel_rfl) (by kernel_rfl) (by kernel_rfl) (by kernel_rfl) (by kernel_rfl) n
 have run:∀d j,j+d=n->aL GKS (FJ zs rs x n) (9+n) (cj1 zs rs x n 0).led.length (aq cj) tJ [] (cjE zs rs x n) (d+1) (cjS zs rs x n j j j):=λd=>by
  induction d with
  |zero=>
   intro j e
   have e:j=n:=e
   subst e
   exact .done (@dc _ _ _ _ _ _ (QJ (·.1) he))
  |succ d ih=>exactλj e=>EO (hr j) (hs j a b (by lia)) (ih (j+1) (by lia))
 exact Ec (run n 0 (Nat.zero_add n)) he
theorem HZ(i:Int)(h1:0<=i)(h2:i<5):gN i∈nms:=by
 obtain⟨k,rfl⟩:=Int.eq_ofNat_of_zero_le h1
 have:k<5:=by lia
 unfold gN
 exact cg (P:=λk=>nms.getD (Int.ofNat k).toNat ⟨#[]⟩∈nms) this (by simp[nms]) (by simp[nms]) (by simp[nms]) (by simp[nms]) (by simp[nms])
theorem oI(a:Int):gN (a.fmod 5)∈nms:=HZ _ (Int.fmod_nonneg_of_pos a (by decide)) (Int.fmod_lt_of_pos a (by decide))
theorem EP{a b c:Str}{d:Int}(h0:0<=d)(h3:d<3):bx [a,b,c] QD (QE (d+1))=[a]\/bx [a,b,c] QD (QE (d+1))=[a,b]\/bx [a,b,c] QD (QE (d+1))=[a,b,c]:=by
 have:d=0\/d=1\/d=2:=by lia
 rcases this with rfl|rfl|rfl
 .exact .inl rfl
 .exact .inr (.inl rfl)
 .exact .inr (.inr rfl)
theorem kO(a:Int):pP (fg a):=by
 have h:=@EP (gN (a.fmod 5)) (gN ((a.fdiv 5).fmod 5)) (gN ((a.fdiv 25).fmod 5)) ((a.fdiv 125).fmod 3) (Int.fmod_nonneg_of_pos _ (by decide)) (Int.fmod_lt_of_pos _ (by decide))
 have m1:=oI a
 have m2:=oI (a.fdiv 5)
 have m3:=oI (a.fdiv 25)
 unfold fg
 rcases h with h|h|h<;>rw[h]<;>refine⟨by simp,λy hy=>?_,by simp⟩<;>simp only[Qb,Qi,or_false]at hy
 .rw[hy];exact m1
 .rcases hy with rfl|rfl
  .exact m1
  .exact m2
 .rcases hy with rfl|rfl|rfl
  .exact m1
  .exact m2
  .exact m3
theorem zR:∀(l:List Int)(n:Nat),n<=l.length->xsL (λi=>l.getD i 0) n=l.take n
 |l,0,_=>by simp[xsL]
 |l,n+1,h=>by
  rw[xsL,zR l n (by lia),List.take_succ]
  have:l[n]?=QE (l[n]'(by lia)):=P9 (by lia)
  simp[List.getD,this]
theorem Ef(l:List Int):l=xsL (λi=>l.getD i 0) l.length:=by rw[zR l _ (PX _),List.take_length]
noncomputable def jsB:Nat->List Bool->List Nat
 |_,[]=>[]
 |j,QF::r=>j::jsB (j+1) r
 |j,QG::r=>jsB (j+1) r
def jsK(b:Nat->Bool):Nat->List Nat
 |1=>jsB 0 [b 0]
 |2=>jsB 0 [b 1,b 2]
 |3=>jsB 0 [b 3,b 4,b 5]
 |4=>jsB 0 [b 6,b 7,b 8,b 9]
 |_=>[]
def l4(b:Bool)(r:List Str)(j:Nat):List Str:=match b with
 |true=>r++[nm j]
 |false=>r
theorem Pn(b:Nat->Bool):ndK b 10 0=[nm 0]:=by kernel_rfl
theorem OS(b:Nat->Bool):ndK b 10 1=l4 (b 0) [nm 1] 0:=by kernel_rfl
theorem Of(b:Nat->Bool):ndK b 10 2=l4 (b 2) (l4 (b 1) [nm 2] 0) 1:=by kernel_rfl
theorem OX(b:Nat->Bool):ndK b 10 3=l4 (b 5) (l4 (b 4) (l4 (b 3) [nm 3] 0) 1) 2:=by kernel_rfl
theorem Pk(b:Nat->Bool):ndK b 10 4=l4 (b 9) (l4 (b 8) (l4 (b 7) (l4 (b 6) [nm 4] 0) 1) 2) 3:=by kernel_rfl
theorem NP(b:Nat->Bool):∀j,j<5->ndK b 10 j=nm j::(jsK b j).map nm
 |0,_=>Pn b
 |1,_=>by rw[OS];unfold jsK;cases b 0<;>rfl
 |2,_=>by rw[Of];unfold jsK;cases b 1<;>cases b 2<;>rfl
 |3,_=>by rw[OX];unfold jsK;cases b 3<;>cases b 4<;>cases b 5<;>rfl
 |4,_=>by rw[Pk];unfold jsK;cases b 6<;>cases b 7<;>cases b 8<;>cases b 9<;>rfl
 |j+5,h=>absurd h (by lia)
theorem o9:∀a:Bool,jsB 0 [a]∈b5 1:=by decide
theorem OH:∀a b:Bool,jsB 0 [a,b]∈b5 2:=by decide
theorem Pz:∀a b c:Bool,jsB 0 [a,b,c]∈b5 3:=by decide
theorem Ot:∀a b c d:Bool,jsB 0 [a,b,c,d]∈b5 4:=by decide
theorem ui(b:Nat->Bool):∀j,j<5->jsK b j∈b5 j
 |0,_=>(Qc.mpr rfl:([]:List Nat)∈[[]])
 |1,_=>o9 _
 |2,_=>OH _ _
 |3,_=>Pz _ _ _
 |4,_=>Ot _ _ _ _
 |j+5,h=>absurd h (by lia)
theorem lX{a b:List Str}(h:a.Perm b):a7 a=a7 b:=
 fH ((cM a).trans (h.trans (cM b).symm)) (cW a) (cW b)
theorem bY{y:Str}{l:List Str}:af y l=QF↔y∈l:=by rw[dC];simp
theorem dY{y:Str}{l:List Str}:af y l=QG↔y∉l:=by rw[<-Bool.not_eq_true,bY]
theorem bU{y:Str}{l:List Str}:aK l y=QF↔y∉l:=by unfold aK;rw[Bool.not_eq_true',dY]
theorem nh(y:Str)(l:List Str):dm y l=l.erase y:=by
 induction l with
 |nil=>rfl
 |cons z r ih=>
  show cond (aQ z y) r (z::dm y r)=_
  rw[List.erase_cons,fz,ih]
  cases z==y<;>rfl
theorem Il{ys:List Str}:∀(zs ms:List Str),ys.Nodup->(ik ys zs ms).1=ms++ys.filter (aK zs):=by
 induction ys with
 |nil=>exactλzs ms _=>(List.append_nil ms).symm
 |cons y r ih=>
  intro zs ms h
  have h:=Ql.mp h
  show(cond (af y zs) (ik r (dm y zs) ms) (ik r zs (ms++[y]))).1=_
  cases e:af y zs with
  |true=>
   rw[List.filter_cons_of_neg (p:=aK zs) (Bool.eq_false_iff.mp (QJ (!·) e))]
   refine(ih _ _ h.2).trans (QJ (ms++ ·) (List.filter_congr λx hx=>QJ (!·) ?_))
   rw[Bool.eq_iff_iff,bY,bY,nh,List.mem_erase_of_ne λ(z:x=y)=>h.1 (z▸hx)]
  |false=>
   rw[List.filter_cons_of_pos (p:=aK zs) (QJ (!·) e)]
   exact(ih _ _ h.2).trans (List.append_assoc ..)
def cF(w:List Str):List Str->List Str:=λl=>l.rec (λ_=>[]) (λz _ ih w=>cond (af z w) (ih (w.erase z)) (z::ih w)) w
theorem fR{w:List Str}{z:Str}{r:List Str}:cF w (z::r)=cond (af z w) (cF (w.erase z) r) (z::cF w r):=rfl
theorem yB(zs:List Str):cF [] zs=zs:=by
 induction zs with
 |nil=>rfl
 |cons z r ih=>exact QJ (z:: ·) ih
theorem qs{zs:List Str}:∀{w w':List Str},w.Nodup->w'.Nodup->(∀y,y∈w↔y∈w')->cF w zs=cF w' zs:=by
 induction zs with
 |nil=>exactλ_ _ _=>rfl
 |cons z r ih=>
  intro w w' n n' h
  rw[fR,fR,show af z w=af z w' by rw[Bool.eq_iff_iff,bY,bY,h],ih (n.erase z) (n'.erase z) λy=>by rw[n.mem_erase_iff,n'.mem_erase_iff,h],ih n n' h]
theorem q7(y:Str){zs:List Str}:∀(w:List Str),y∉w->(cF w zs).erase y=cF (y::w) zs:=by
 induction zs with
 |nil=>exactλ_ _=>rfl
 |cons z r ih=>
  intro w h
  rw[fR,fR]
  by_cases hz:z=y
  .cases hz
   rw[dY.mpr h,bY.mpr (Qj),List.erase_cons_head]
   exact List.erase_cons_head (a:=y) (l:=cF w r)
  .rw[show(y::w).erase z=y::w.erase z from List.erase_cons_tail λq=>hz (eq_of_beq q).symm]
   cases e:af z w with
   |true=>
    rw[bY.mpr (List.mem_cons_of_mem _ (bY.mp e))]
    exact ih _ λq=>h (List.mem_of_mem_erase q)
   |false=>
    rw[dY.mpr λq=>(Qb.mp q).elim hz (dY.mp e)]
    exact(List.erase_cons_tail λq=>hz (eq_of_beq q)).trans (QJ (z:: ·) (ih w h))
theorem Jp{ys:List Str}{zs0:List Str}:∀(w ms:List Str),(ys++w).Nodup->(ik ys (cF w zs0) ms).2=cF (ys.reverse++w) zs0:=by
 induction ys with
 |nil=>exactλ_ _ _=>rfl
 |cons y r ih=>
  intro w ms h
  have hy:y∉w:=λq=>(Ql.mp h).1 (List.mem_append_right _ q)
  have hn:(r++y::w).Nodup:=(List.perm_middle.nodup_iff).mpr h
  rw[List.reverse_cons,List.append_assoc]
  show(cond (af y (cF w zs0)) (ik r (dm y (cF w zs0)) ms) (ik r (cF w zs0) (ms++[y]))).2=_
  have e:=q7 y (zs:=zs0) w hy
  cases q:af y (cF w zs0)with
  |true=>
   rw[nh,e]
   exact ih (y::w) ms hn
  |false=>
   rw[<-List.erase_of_not_mem (dY.mp q),e]
   exact ih (y::w) _ hn
theorem Kc{w zs:List Str}(h:w.Nodup):(cR w zs).1=w.reverse.filter (aK zs):=by
 unfold cR
 rw[Il _ _ ((List.reverse_perm w).nodup_iff.mpr h)];rfl
theorem Hw{w zs:List Str}(h:w.Nodup):(cR w zs).2=cF w zs:=by
 have:=Jp (zs0:=zs) [] [] (by simpa using(List.reverse_perm w).nodup_iff.mpr h)
 rw[yB]at this
 unfold cR
 rw[this];simp
theorem jh{w:List Str}(h:w.Nodup)(y x:Str):af y (w.erase x)=(af y w&&!(x==y)):=by
 rw[Bool.eq_iff_iff,bY,h.mem_erase_iff,Qp,bY,Bool.not_eq_true',beq_eq_false_iff_ne]
 exact⟨λ⟨a,b⟩=>⟨b,λq=>a q.symm⟩,λ⟨a,b⟩=>⟨λq=>b q.symm,a⟩⟩
theorem uC(y x:Str):af y [x]=(x==y):=by rw[dC];simp
theorem CN(z x y:Str):af z [x,y]=((x==z)||(y==z)):=by rw[dC];simp
noncomputable def fS(b:Bool)(y:Str)(l:List Str):List Str:=match b with
 |true=>y::l
 |false=>l
theorem er1(x:Str)(w:List Str):erK [x] w 1=fS (!af x w) x []:=by
 have e:erB [x] w 0=((!af x w)||af x []):=rfl
 unfold erK
 rw[e,show af x []=QG from rfl,Bool.or_false]
 cases(!af x w)<;>rfl
theorem er2(x y:Str)(w:List Str):erK [x,y] w 2=fS (!af x w) x (fS ((!af y w)||(x==y)) y []):=by
 have e:erB [x,y] w 0=((!af x w)||af x []):=rfl
 have e1:erB [x,y] w 1=((!af y w)||af y [x]):=rfl
 unfold erK erK
 rw[e,e1,show af x []=QG from rfl,Bool.or_false,uC]
 cases(!af x w)<;>cases((!af y w)||(x==y))<;>rfl
theorem er3(x y z:Str)(w:List Str):erK [x,y,z] w 3=fS (!af x w) x (fS ((!af y w)||(x==y)) y (fS ((!af z w)||((x==z)||(y==z))) z [])):=by
 have e:erB [x,y,z] w 0=((!af x w)||af x []):=rfl
 have e1:erB [x,y,z] w 1=((!af y w)||af y [x]):=rfl
 have e2:erB [x,y,z] w 2=((!af z w)||af z [x,y]):=rfl
 unfold erK erK erK
 rw[e,e1,e2,show af x []=QG from rfl,Bool.or_false,uC,CN]
 cases(!af x w)<;>cases((!af y w)||(x==y))<;>cases((!af z w)||((x==z)||(y==z)))<;>rfl
theorem gE(w:List Str)(z:Str)(r:List Str):cF w (z::r)=match af z w with
  |true=>cF (w.erase z) r
  |false=>z::cF w r:=rfl
theorem yY(x:Str)(w:List Str):cF w [x]=fS (!af x w) x []:=by
 rw[gE]
 cases af x w<;>rfl
theorem A7(x y:Str){w:List Str}(h:w.Nodup):cF w [x,y]=fS (!af x w) x (fS ((!af y w)||(x==y)) y []):=by
 rw[gE,yY,yY,jh h]
 by_cases q:x=y
 .subst q
  simp
  cases af x w<;>rfl
 .have:(x==y)=QG:=by simpa using q
  rw[this]
  cases af x w<;>cases af y w<;>rfl
theorem Mh(x y z:Str){w:List Str}(h:w.Nodup):cF w [x,y,z]=fS (!af x w) x (fS ((!af y w)||(x==y)) y (fS ((!af z w)||((x==z)||(y==z))) z [])):=by
 rw[gE,A7 y z h,A7 y z (h.erase x),jh h,jh h]
 by_cases q:x=y
 .subst q
  by_cases q2:x=z
  .subst q2
   simp
   cases af x w<;>rfl
  .have:(x==z)=QG:=by simpa using q2
   rw[this,beq_self_eq_true]
   cases af x w<;>cases af z w<;>rfl
 .have a:(x==y)=QG:=by simpa using q
  by_cases q2:x=z
  .subst q2
   have b:(y==x)=QG:=by simpa usingλe=>q e.symm
   rw[a,b,beq_self_eq_true]
   cases af x w<;>cases af y w<;>rfl
  .have b:(x==z)=QG:=by simpa using q2
   rw[a,b]
   cases af x w<;>cases af y w<;>cases af z w<;>cases(y==z)<;>rfl
theorem ow{w:List Str}(h:w.Nodup):∀ys:List Str,ys≠[]->ys.length<=3->erK ys w ys.length=cF w ys
 |[],h1,_=>absurd rfl h1
 |[x],_,_=>(er1 x w).trans (yY x w).symm
 |[x,y],_,_=>(er2 x y w).trans (A7 x y h).symm
 |[x,y,z],_,_=>(er3 x y z w).trans (Mh x y z h).symm
 |_::_::_::_::_,_,h3=>absurd h3 (by simp)
noncomputable def dH(e:Ent):Nat->List Dat
 |0=>[]
 |n+1=>dH e n++[.tuple [.list ((e n).1.map Dat.str), .list ((e n).2.map Dat.str)]]
def rsT(tl:Nat->List Str)(j:Nat):List Str:=nm j::tl j
def plX(x:Nat->Int)(i:Nat):List Str:=fg (x i)
def H5(tl:Nat->List Str)(lines:List Str)(n:Nat)(e:Ent):List SO:=cZ (rsT tl) lines++[.any, .list (p8 9 n)]++rH e 9 n
noncomputable def pkN:Nat->List Nat
 |0=>[]
 |n+1=>pkN n++[9+n]
def pkE(n:Nat):List Nat:=[2,3,4,5,6,7,8]++pkN n
noncomputable def pkT(n:Nat):List Nat:=[2,3,4,5,6,7,9+n]
def oTo(tl:Nat->List Str)(x:Nat->Int)(n:Nat)(e:Ent):Orc:= .call 901 (pkT n) (cZ (rsT tl) (c8 x n)) [.ref 0, .ref 6] (H5 tl (c8 x n) n e) (.ref 8)
def oDu(tl:Nat->List Str)(x:Nat->Int)(n:Nat)(e:Ent):Orc:= .call 906 (pkE n) (iE ⟨tl,plX x⟩ n) [.ref 0, .ref 6] (bR ⟨tl,plX x⟩ n e) (.ref (10+n))
def oL3(zs:Scr)(tl:Nat->List Str)(x:Nat->Int)(n:Nat)(e e':Ent):List Orc:=[.expr (iq cj) (lw3 zs (rsT tl) x n) (.ref (9+n)),oTo tl x n e,oDu tl x n e']
def ldT(zs:Scr)(tl:Nat->List Str)(x:Nat->Int)(n:Nat):List SO:=lwL zs (rsT tl) x n++[.words (c8 x n)]
def ldE(zs:Scr)(tl:Nat->List Str)(x:Nat->Int)(n:Nat)(e:Ent):List SO:=ldT zs tl x n++[.any, .list (p8 (12+n) n)]++rH e (12+n) n
def eqB(e e':Ent)(n:Nat):Bool:=C8 (dH e n=dH e' n)
def CL3(zs:Scr)(tl:Nat->List Str)(x:Nat->Int)(n:Nat)(e e':Ent):Prop:=((dH e n).all (kqdOk 8)=QF/\(dH e' n).all (kqdOk 8)=QF)/\
 OC 26 906 (pkE n) (iE ⟨tl,plX x⟩ n) (ldE zs tl x n e) [.ref 0, .ref 6] [.ref 2, .ref 8] (bR ⟨tl,plX x⟩ n e') (.ref (10+n))
 (OC 26 901 (pkT n) (cZ (rsT tl) (c8 x n)) (ldT zs tl x n) [.ref 0, .ref 6] [.ref 2, .ref (9+n)] (H5 tl (c8 x n) n e) (.ref 8)
 (ah GKS ed cj (lw2 zs (rsT tl) x n) (lw3 zs (rsT tl) x n) (.ref (9+n))/\True))
def lwR(zs:Scr)(tl:Nat->List Str)(x:Nat->Int)(n:Nat):St:=⟨[],lwL zs (rsT tl) x n⟩
def Lw4(zs:Scr)(tl:Nat->List Str)(x:Nat->Int)(n:Nat)(e e':Ent):Prop:=Wh (aa GKS ed [nth dW.body 2] (lw2 zs (rsT tl) x n) (lwR zs tl x n) (.ret (.bool (eqB e e' n))))
structure Ks (zs:Scr) (tl:Nat->List Str) (x:Nat->Int) (n:Nat) (e e':Ent):Prop where
 hr:∀i,pP (fg (x i))
 hk:(dH e n).all (kqdOk 8)=QF
 hk':(dH e' n).all (kqdOk 8)=QF
 hT:ab GKS 24 901 (cZ (rsT tl) (c8 x n)) [.ref 0, .ref 6] (H5 tl (c8 x n) n e) (.ref 8)
 hD:ab GKS 8 906 (iE ⟨tl,plX x⟩ n) [.ref 0, .ref 6] (bR ⟨tl,plX x⟩ n e') (.ref (10+n))
def La(zs:Scr)(tl:Nat->List Str)(x:Nat->Int)(e e':Ent)(n:Nat):=(Ran (c9 (TT 20 ed) ed nF [nth dW.body 2] ⟨lw2 zs (rsT tl) x n,[],0,[],oL3 zs tl x n e e'⟩) (lw2 zs (rsT tl) x n).led.length (PZ (9+n)) (lwR zs tl x n) (.ret (.bool (eqB e e' n))),(dI (pkT n),dI (pkE n)),bI (mapLed (at_ (pkT n) (ldT zs tl x n).length) (cZ (rsT tl) (c8 x n))),bI (mapLed (at_ (pkE n) (ldE zs tl x n e).length) (iE ⟨tl,plX x⟩ n)))
def OU(zs:Scr)(tl:Nat->List Str)(x:Nat->Int)(e e':Ent)(n:Nat):type_of% (La zs tl x e e' n):=(fU (c9 (TT 20 ed) ed nF [nth dW.body 2] ⟨lw2 zs (rsT tl) x n,[],0,[],oL3 zs tl x n e e'⟩) (lw2 zs (rsT tl) x n).led.length (PZ (9+n)) (lwR zs tl x n) (.ret (.bool (eqB e e' n))) (CL3 zs tl x n e e'),(QF,QF),bF (ldT zs tl x n) (pkT n),bF (ldE zs tl x n e) (pkE n))
theorem I3(zs:Scr)(tl:Nat->List Str)(x:Nat->Int)(e e':Ent)(n:Nat)(a:2<=n)(b:n<8)(H:Ks zs tl x n e e'):Lw4 zs tl x n e e':=by
 have h:=eq6 (L:=La zs tl x e e') (R:=OU zs tl x e e') (by kernel_rfl) n a b
 exact⟨@aw _ 20 nF _ _ _ [] (oL3 zs tl x n e e') _ (PZ (9+n)) (CL3 zs tl x n e e') (QJ (·.1) h) ⟨⟨H.hk,H.hk'⟩,gm ⟨QJ (·.2.1.2) h,QJ (·.2.2.2) h⟩ (ab.mono @H.hD (by decide)) (gm ⟨QJ (·.2.1.1) h,QJ (·.2.2.1) h⟩ (ab.mono @H.hT (by decide)) ⟨@Wh.h _ (Jf zs _ x H.hr n a b),QI⟩)⟩⟩
theorem Mx:(bw dW.sc)=[]:=by kernel_rfl
theorem D0:dW.body=[nth dW.body 0,nth dW.body 1,nth dW.body 2]:=by kernel_rfl
theorem BJ(zs:Scr)(tl:Nat->List Str)(x:Nat->Int)(n:Nat)(e e':Ent)(h2:2<=n)(h8:n<8)(hz:zs.zs.length<=1000)(h30:(p30 zs).length<=1000)(h5:(p5 zs).length<=1000)(hx:p5 zs=xsL x n)(hr:∀j,j<5->ndK (ndB (p30 zs)) 10 j=rsT tl j)(H:Ks zs tl x n e e')(he:dH e n=dH e' n):
  aa GKS ed dW.body (lw0 zs) (lwR zs tl x n) (.ret (.bool QF)):=by
 have A:=MB zs hz h30
 have e1:lw1 zs (ndK (ndB (p30 zs)) 10)=lw1 zs (rsT tl):=by
  unfold lw1
  rw[hr 0 (by decide),hr 1 (by decide),hr 2 (by decide),hr 3 (by decide),hr 4 (by decide)]
 have B:=Iw zs (rsT tl) x hz h5 n h2 h8 hx
 have C:=I3 zs tl x e e' n h2 h8 H
 have hb:eqB e e' n=QF:=x7 he
 rw[<-hb]
 have a1:=@Wh.h _ A
 rw[e1]at a1
 rw[D0]
 exact aa.cons a1 (aa.cons (@Wh.h _ B) (@Wh.h _ C))
set_option maxHeartbeats 0
set_option Elab.async false
noncomputable def lkV:Look:={ strict:=QG,foot:=QD,bare:=[] }
theorem xI:(!(PySem.W.Fast.tw5923862056798008813 pw.main.body).all cThrough.contains)=QG:=by kernel_rfl
theorem EJ:PySem.W.Fast.tw13343964577679436407 pw pw.main.body "vars"=QG:=by kernel_rfl
theorem Im:PySem.W.Fast.tw13343964577679436407 pw pw.main.body "dir"=QG:=by kernel_rfl
theorem wh:PySem.W.Fast.tw13343964577679436407 pw pw.main.body "locals"=QG:=by kernel_rfl
theorem E5:(["vars","dir","locals"]:List Str).filter (PySem.W.Fast.tw13343964577679436407 pw pw.main.body)=[]:=by rw[List.filter,EJ,List.filter,Im,List.filter,wh];rfl
theorem nr1:PySem.W.Fast.tw8326940854005059898 lkV (pw.main.body.take 19)=QF:=by kernel_rfl
theorem nr2:PySem.W.Fast.tw8326940854005059898 lkV ((pw.main.body.drop 19).take 10)=QF:=by kernel_rfl
theorem nr3:PySem.W.Fast.tw8326940854005059898 lkV ((pw.main.body.drop 19).drop 10)=QF:=by kernel_rfl
theorem KX:PySem.W.Fast.tw17119622794617984870 pw pw.main.body (λ_ n=>PySem.W.Fast.tw17868728402115742887 n)=QF:=by kernel_rfl
theorem Me:(PySem.W.Fast.tw18344453789297297638 pw).all (λn=>!worldNames.contains n)=QF:=by kernel_rfl
theorem JP:PySem.W.Fast.tw11788848310118352699 pw.main=QF:=by kernel_rfl
theorem H0:((PySem.W.Fast.tw9807087744658564304 pw.main.body).isEmpty||PySem.W.Fast.tw12862048085361865435 (PySem.W.Fast.tw9807087744658564304 pw.main.body) pw.main.body)=QF:=by kernel_rfl
theorem Ka:PySem.W.Fast.tw8377067652309620493 pw=QF:=by kernel_rfl
theorem kl(lk:Look)(a b:List Stmt):noRoadLSs lk (a++b)=(noRoadLSs lk a&&noRoadLSs lk b):=by
 induction a with
 |nil=>rfl
 |cons s a ih=>exact(QJ (noRoadLS lk s&& ·) ih).trans (Bool.and_assoc ..).symm
theorem FE:noRoadLSs lkV pw.main.body=QF:=by
 have e:pw.main.body=pw.main.body.take 19++((pw.main.body.drop 19).take 10++(pw.main.body.drop 19).drop 10):=by rw[List.take_append_drop,List.take_append_drop]
 have a:=nr1
 have b:=nr2
 have c:=nr3
 rw[<-PySem.W.Fast.te8326940854005059898]at a b c
 rw[e,kl,kl,a,b,c];rfl
theorem rX:looksOpen pw=QF:=by
 have h1:=xI
 have h2:=E5
 have h3:=KX
 have h4:=Me
 have h5:=JP
 have h6:=H0
 have h7:=Ka
 rw[<-PySem.W.Fast.te5923862056798008813]at h1
 rw[<-PySem.W.Fast.te13343964577679436407]at h2
 rw[<-PySem.W.Fast.te17119622794617984870,<-PySem.W.Fast.te17868728402115742887]at h3
 rw[<-PySem.W.Fast.te18344453789297297638]at h4
 rw[<-PySem.W.Fast.te11788848310118352699]at h5
 rw[<-PySem.W.Fast.te9807087744658564304,<-PySem.W.Fast.te12862048085361865435]at h6
 rw[<-PySem.W.Fast.te8377067652309620493]at h7
 unfold looksOpen
 rw[h1,h2,h4,h5,h6,h7]
 have h8:noRoadLSs { strict:=QG,foot:=QD,bare:=[] } pw.main.body=QF:=FE
 rw[h8,h3];rfl
theorem vL:rwl.row.partSaid=QF:=by
 unfold OpenRow.partSaid
 have:looksOpen rwl.row.prog=QF:=rX
 rw[this]
 decide+kernel
theorem oW:rwl.row.wellSaid=QF:=by
 unfold OpenRow.wellSaid
 rw[vL]
 decide+kernel
theorem wb:rwl.wellSaid=QF:=by
 unfold OpenLaw.wellSaid
 rw[oW]
 refine look_both (look_both (look_both (look_both (look_both (look_both (look_both (look_both (look_both (look_both (look_both (look_both (look_both (look_both (look_both (look_both (look_both (look_both rfl ?_) ?_) ?_) ?_) ?_) ?_) ?_) ?_) ?_) ?_) ?_) ?_) ?_) ?_) ?_) ?_) ?_) ?_
 .kernel_rfl
 .rw[PySem.W.Fast.te10501279942588096481];kernel_rfl
 .rw[PySem.W.Fast.te8179353310426384613];kernel_rfl
 .kernel_rfl
 .kernel_rfl
 .rw[PySem.W.Fast.te8326940854005059898,PySem.W.Fast.te797321630700447069];kernel_rfl
 .rw[PySem.W.Fast.te9558739934217749035];kernel_rfl
 .rw[PySem.W.Fast.te16286561074155671207];kernel_rfl
 .kernel_rfl
 .rw[PySem.W.Fast.te797321630700447069,PySem.W.Fast.te6984425678791042302];kernel_rfl
 .kernel_rfl
 .rw[PySem.W.Fast.te6984425678791042302];kernel_rfl
 .rw[PySem.W.Fast.te17119622794617984870];kernel_rfl
 .rw[PySem.W.Fast.te10792542408131684335];kernel_rfl
 .rw[PySem.W.Fast.te10792542408131684335];kernel_rfl
 .rw[PySem.W.Fast.te10792542408131684335];kernel_rfl
 .rw[PySem.W.Fast.te17119622794617984870,PySem.W.Fast.te10792542408131684335];kernel_rfl
 .rw[PySem.W.Fast.te17119622794617984870];kernel_rfl
set_option maxHeartbeats 0
set_option Elab.async false
def qv:Program:={ pw with main:={ pw.main with body:=pw.main.body.drop 41 } }
def jc:List Str:=pw.boundNames.filter (λn=>n !=("law":Str))
theorem EL(w:World):PySem.W.Fast.tw10274390034422433532 PySem.W.Fast.tw14364793385576792824 (opening pw) w 1086 (PySem.W.Fast.tw1435165496053646825 (opening pw)).1 (PySem.W.Fast.tw1435165496053646825 (opening pw)).2=QE ⟨h_e w.params,#[],⟨0,0,0,0⟩,318,(start (opening pw)).1.os⟩:=by kernel_rfl
theorem EC(w:World):(λos=>(PySem.W.Fast.tw14289696077712309145 pw ⟨h_e w.params,#[],⟨0,0,0,0⟩,318,os⟩).map (λs=>(s.heap,s.gens,s.drawn,s.toks)))=λ_=>QE (h_z w.params,#[],⟨0,0,0,0⟩,318):=by kernel_rfl
theorem Ik(w:World):((h_z w.params).isNs mainGlobals&&(#[]:Array GenState).size==0,(h_z w.params).objs.size,(h_z w.params).nsMap mainGlobals "__annotations__")=(QF,34,QE (.ref 6)):=by kernel_rfl
theorem OQ(w:World):staticsOk (importedModules pw.main.body) (h_z w.params) (h_k w.params)=QF:=by kernel_rfl
theorem O8(w:World):namesBound pw (h_k w.params)=QF:=by kernel_rfl
theorem Oj(w:World):laidKept (h_z w.params) (h_k w.params)=QF:=by kernel_rfl
theorem Pp(w:World)(os:OsState):gensDone ⟨h_k w.params,#[],⟨0,0,0,0⟩,1481,os⟩=QF:=by kernel_rfl
theorem OM(w:World)(os:OsState):PySem.W.Fast.tw4187177175401517315 qv jc (importedModules pw.main.body) (λ_=>QF) QF ⟨h_k w.params,#[],⟨0,0,0,0⟩,1481,os⟩=openGood qv jc:=by kernel_rfl
noncomputable def Yf(s:Shared):Heap×Nat:=(s.heap,s.toks)
def Ya(w:World):Heap×Nat:=(h_k w.params,1481)
theorem Hd:LeftO pw qv jc (λ_=>QF) Yf Ya 12320:=by
 refine LeftO.of_pieces (H₀:=h_z) (H₁:=h_k) (gs₀:=#[]) (gs₁:=#[]) (d₀:=⟨0,0,0,0⟩) (d₁:=⟨0,0,0,0⟩) (k₀:=318) (k₁:=1481) (m₀:=34) (ann:=QE (.ref 6)) (M:=12+(1+(2129+(1278+(1578+(1116+2)))))) ?_ Ik E9 rfl ?_
 .refine open_cut (He:=h_e) (ge:=#[]) (de:=⟨0,0,0,0⟩) (ke:=318) (M:=1086) (λw=>?_) rfl (λw=>?_)
  .have h:=EL w
   rw[<-PySem.W.Fast.te10274390034422433532,<-PySem.W.Fast.te14364793385576792824,<-PySem.W.Fast.te1435165496053646825]at h
   exact h
  .have h:=EC w
   rw[<-PySem.W.Fast.te14289696077712309145]at h
   exact h
 .intro w
  funext os
  have h:=OM w os
  rw[<-PySem.W.Fast.te4187177175401517315]at h
  rw[OQ w,O8 w,Oj w,Pp w os,h]
  rfl
def EN:DefRec:=match tS 41 with
 |.FunctionDef name args body _ _ _ scope _ _ pos=>{ name:=name,params:=args,body:=body,scope:=scope,pos:=pos }
 |_=>{ name:="",params:=default,body:=[],scope:=default,pos:=jV }
theorem FN:defOf qv rwl.row.name=QE (EN,[]):=by kernel_rfl
noncomputable abbrev XPt:(Str->Option Value)->Heap->Prop:=λ_ _=>True
theorem head(hw:rwl.row.toRowW.promised)(call:WalkX qv jc XPt Yf Ya rwl.row.toRowW EN [] λf vs=>PySem.call f vs):rwl.Holds:=
 holds_law wb λsaid=>holds_openX (r:=rwl.row) (q:=qv) (loose:=jc) (Xt:=λ_=>QF) (XP:=XPt) (Yf:=Yf) (Ya:=Ya) (N:=12320)
  Hd (λ_ _=>trivial) (λ_ _ _ _ _=>trivial) FN (by kernel_rfl) (by kernel_rfl) (λs _=>recFacts_of (by rfl)) rfl said (by decide+kernel) ⟨rfl,rfl,rfl,rfl,rfl,by decide+kernel⟩ hw call
section
open PySem.Spec
theorem xM:(dW.sc.names.all λx=>decide (x.2≠ .cell))=QF:=by kernel_rfl
theorem pf:dW.sc.kind= .function:=by kernel_rfl
theorem MJ(P:Params):(KS P).lookup 912=QD:=by kernel_rfl
theorem B0{w:World}{mg mb:Str->Option Value}{q:Program}{loose:List Str}(T:TopRead q loose mg mb s.heap)(hK:(KS w.params).In s.heap)(h873:s.heap.get? 873=QE { cls:= .none,data:= .fields #[] })(hcode:isCodeTable s.heap 873){vs:List Value}{zs:List Int}(hI:IntsAre vs zs)(ha:s.heap.get? 912=QE { cls:= .type "list",data:= .seq vs.toArray })(htk:1<=s.toks)(hgens:s.gens=#[])(hsys:∃o,s.heap.get? sysModules=QE o)
  {S':St}(hrun:aa GKS ed dW.body (lw0 ⟨vs,zs⟩) S' (.ret (.bool QF))){l:List SO}(hS':S'.led= .intsX vs zs:: .tab 873 1::l){R:Result->Shared->Prop}(hR:∀s',OldK s.heap s'.heap->s'.os=s.os->AllBare s'.gens->R (.ok (.ret (.bool QF))) s'):
  codeAny (model pw w) callerA (.call (.ref 911) ⟨[.ref 912],[]⟩) R s:=by
 have HE:=MS w.params
 obtain⟨name,qual,params,dV,kV,doc,pm,cdv,ct,oc,an,od,osl,hlook,hcd,hbind⟩:=HE.fn
 obtain⟨bv,hbv,hto⟩:=hbind s hK [.ref 912] [] rfl rfl
 have hrel:=i8 (show au [912,873] [.ref 0] [.ref 912]from⟨_,_,rfl,⟨912,rfl,rfl⟩,rfl⟩) (show KwR [912,873] [] []from⟨rfl,rfl⟩) (show eX [.ref 0] [] dW.binds=QE [(scS, .ref 0)] by kernel_rfl) hbv
 have hloc:∀y∈bv,dW.sc.names.lookup y.1=QE .local:=λy hy=>by
  obtain⟨z,hz,ez⟩:=eW hbv y hy
  rw[<-ez];exact HE.loc z hz
 let sub:List (Addr×Obj):=[(912,{ cls:= .type "list",data:= .seq vs.toArray }),(873,{ cls:= .none,data:= .fields #[] })]
 have hsub:∀p∈sub,s.heap.get? p.1=QE p.2:=λp hp=>by
  simp only[sub,Qb,Qi,or_false]at hp
  rcases hp with rfl|rfl
  .exact ha
  .exact h873
 let g:=hideAll s.heap (sub.map (·.1))
 have hg:∀b o,s.heap.get? b=QE o->b≠912->b≠873->g.get? b=QE o:=λb o e n1 n2=>hideAll_get _ e (by simp[sub];exact⟨n1,n2⟩)
 have keepN:∀{A:Addr}{m:Str->Option Value},s.heap.Ns A m->A≠912->A≠873->g.Ns A m:=λ⟨o,es,ep,e,r⟩n1 n2=>⟨o,es,ep,hg _ _ e n1 n2,r⟩
 have hKg:(KS w.params).In g:=λb o e=>hg b o (hK b o e) (λz=>by rw[z,MJ]at e;cases e) (λz=>by rw[z,DY]at e;cases e)
 have Tg:TopRead q loose mg mb g:=⟨keepN T.g (by decide) (by decide),keepN T.b (by decide) (by decide),let⟨mc,a,b⟩:=T.nolimit;⟨mc,keepN a (by decide) (by decide),b⟩,T.builtins,T.free⟩
 refine codeAny_call_function (fd:=fnOf name qual params dW.body dW.sc dV kV doc pm an cdv ct) (body:=dW.body) (by decide) (hK _ _ hlook) rfl HE.co HE.gen rfl (codeRec_of hK hcd) (hto _ _ _ _ ?_)
 refine wpAny_newFunctionEnv (λx hx=>of_decide_eq_true (List.all_eq_true.mp xM x hx)) hloc (λh₁ hns hsb=>⟨(T.nolimit).fresh _ hsb,codeAny_func ?_⟩) pf
 have hk₁:∀b o,s.heap.get? b=QE o->h₁.get? b=QE o:=λb o e=>hsb.extBut b o (PY (Qs e)) (Qr _ e)
 let c:Cx:={ pr:=pw,w:=w,A:=callerA.deeper (envX qual dW.sc s.heap.objs.size 911 cdv []),A₀:=callerA,base:=g,h₀:=g,outer:=[],L:=s.heap.objs.size,qual:=qual,sc:=dW.sc,fa:=911,cd:=cdv,cl:=[],K:=KS w.params,p:=q,loose:=loose,mg:=mg,mb:=mb,os:=s.os,cp:=QD }
 have HC:aD c ed:=by
  refine⟨⟨rfl,hKg,Tg,Around.frames_deeper rfl,pf,pf,λ_=>rfl,?_,?_,?_,?_⟩,rfl⟩
  .show callerA.depth+1+28<recursionLimit
   decide
  .show callerA.units+3+16*28+16<cLine
   decide
  .obtain⟨o,e⟩:=hsys
   exact⟨o,hg _ _ e (by decide) (by decide)⟩
  .exactλb hb=>nomatch hb
 have P:Pre c ed [912,873] (lw0 ⟨vs,zs⟩) { s with heap:=h₁,toks:=s.toks+bv.length } ⟨g,λy=>bv.reverse.lookup y⟩ sub:=by
  refine⟨⟨⟨hns,λb o e=>hk₁ b o (of_hideAll _ e),Nat.le_of_eq (hideAll_size _ _)⟩,λp hp=>⟨hk₁ _ _ (hsub p hp),PY (Qs (hsub p hp)),hideAll_none _ (List.mem_map_of_mem hp)⟩,rfl,by simp,?_,hrel.reverse.look⟩,below_caller g,KtsTurn.refl,(λy k q=>nomatch q),(λk q=>nomatch q),⟨rfl,by rw[hgens];exact AllBare.of_eq rfl,PW htk (Nat.le_add_right _ _)⟩⟩
  exact⟨_,_,rfl,⟨rfl,hI⟩,_,_,rfl,⟨rfl,#[],rfl,by trivial⟩,rfl⟩
 refine Qw (hrun c ⟨_,rfl⟩ HC _ _ _ _ P) (λfl s' z=>?_) λ_ _ z=>z.elim
 refine aG.el z λτ m' news' pre q' r'=>?_
 obtain⟨u,rfl,hu⟩:=r'
 obtain rfl:u= .bool QF:=hu
 have T':∀b o,g.get? b=QE o->s'.heap.get? b=QE o:=λb o e=>q'.rep.fr.keep _ _ ((KtsTurn.other q'.turn) b o e (λh=>nomatch h))
 have hob:=q'.rep.ob
 rw[hS']at hob
 obtain⟨p0,r0,e0,⟨h0,_⟩,p1,r1,e1,⟨h1,ps,h2,_⟩,_⟩:=hob
 have hat:=q'.rep.at_
 rw[e0,e1]at hat
 obtain⟨rest,rfl⟩:=pre
 simp only[List.map_cons,List.cons_append,List.nil_append,List.cons.injEq]at hat
 have f0:=(q'.rep.nw p0 (by rw[e0];exact .head _)).1
 have f1:=(q'.rep.nw p1 (by rw[e0,e1];exact .tail _ (.head _))).1
 rw[hat.1,h0]at f0
 rw[hat.2.1,h2]at f1
 refine hR s' ⟨λb o e=>?_,λb o e=>?_⟩ q'.side.os q'.side.gens
 .by_cases n1:b=912
  .subst n1;rw[ha]at e;cases e;exact .inl f0
  by_cases n2:b=873
  .subst n2;rw[h873]at e;cases e;exact .inr (.inl ⟨hcode,rfl,#[],ps,rfl,by rw[f1];simp⟩)
  exact .inl (T' b o (hg b o e n1 n2))
 .by_cases n1:b=912
  .subst n1;exact⟨_,f0⟩
  by_cases n2:b=873
  .subst n2;exact⟨_,f1⟩
  exact⟨o,T' b o (hg b o e n1 n2)⟩
end
section
open PySem.Spec
theorem On(P:Params):(h_k P).get? 873=QE { cls:= .none,data:= .fields #[] }:=by kernel_rfl
theorem Oq(P:Params):(h_k P).get? 877=QE (o877 P):=by kernel_rfl
def H8(P:Params):Array Value:=match(o877 P).data with
 |.fields vs=>vs
 |_=>#[]
theorem ON(P:Params):(o877 P).data= .fields (H8 P):=by kernel_rfl
theorem N6(P:Params):(H8 P)[11]?=QE (.ref 873):=by kernel_rfl
theorem Km(P:Params):(KS P).In (h_k P):=Frag.in_of (as:=(KS P).map (·.1)) rfl (by kernel_rfl)
theorem I1(P:Params):(h_k P).objs.size=912:=by kernel_rfl
theorem Nq(P:Params):((h_k P).get? sysModules).isSome=QF:=by kernel_rfl
theorem FA(P:Params):nsIn (KS P) mainGlobals EN.name=QE (QE (.ref 911)):=by kernel_rfl
structure Nc (vs:List Value) (zs:List Int):Prop where
 ex:∃S' l,aa GKS ed dW.body (lw0 ⟨vs,zs⟩) S' (.ret (.bool QF))/\S'.led= .intsX vs zs:: .tab 873 1::l
theorem AM(H:∀vs zs,zs.length<=63->Nc vs zs):WalkX qv jc XPt Yf Ya rwl.row.toRowW EN [] λf vs=>PySem.call f vs:=by
 intro w s₀ s₁ mg mb G y fa o pm cd doc dV kV ho hd hcd hD hmg hg args vals as L hpre hlay hrd hwl hlo
 refine Ground.open G ?_
 intro T B D TE TW
 wrow_args hpre hlay hrd hwl hlo
 rename_i zs hs hlay0 hL1 hr1 hl2 as4 as3 a vs as2 hL ra w1 r0 hI hr hc1 hc2
 obtain⟨hat,hsz⟩:=X.script_at L
 have ha:=X.script_obj L hL
 have hh:s₀.heap=h_k w.params:=QJ Prod.fst y
 have htk:=X.script_toks L (show s₀.toks=1481 from QJ Prod.snd y)
 rw[hh,I1]at hat
 subst hat
 have keep:∀b o,(h_k w.params).get? b=QE o->s₁.heap.get? b=QE o:=λb o e=>L.keeps b o (by rw[hh];exact e)
 have hK:(KS w.params).In s₁.heap:=(Km w.params).keeps keep
 have hfa:=mg_of hK T.g (FA w.params)
 rw[hmg]at hfa
 obtain rfl:fa=911:=by cases hfa;rfl
 obtain⟨S',l,hrun,hled⟩:=(H vs zs (by lia)).ex
 refine enter_call ?_
 refine B0 (topRead_of T) hK (keep _ _ (On _)) ⟨877,o877 w.params,H8 w.params,keep _ _ (Oq _),rfl,ON _,N6 _⟩ hI ha (by lia) hg ?_ @hrun hled ?_
 .obtain⟨o,e⟩:=Option.isSome_iff_exists.mp (Nq w.params)
  exact⟨o,keep _ _ e⟩
 .intro s' h1 h2 h3
  exact⟨.inl ⟨.bool QF, .bool QF,[],rfl,λ_=>rfl, .bool QF,by wrow_post,λ_=>⟨List.nodup_nil,λa h=>nomatch h⟩⟩,h1,h2,h3⟩
end
noncomputable def Kl(hi:Int)(n:Nat):Nat:=(sliceRange (sliceBounds QD (QE hi) QD n).1 (sliceBounds QD (QE hi) QD n).2.1 (sliceBounds QD (QE hi) QD n).2.2).length
theorem PH:∀n,n<64->Kl 5 n<=5:=by decide+kernel
theorem NQ:∀n,n<64->Kl 30 n<=30:=by decide+kernel
theorem JF{zs:List Int}(h:zs.length<=63):(eO zs QD (QE 5) QD).length<=5:=PW (List.length_filterMap_le _ _) (PH _ (by lia))
theorem E6{zs:List Int}(h:zs.length<=63):(eO zs QD (QE 30) QD).length<=30:=PW (List.length_filterMap_le _ _) (NQ _ (by lia))
def tlJ(js:Nat->List Nat)(j:Nat):List Str:=(js j).map nm
noncomputable def plN(x:Nat->Int):Nat->List (List Str)
 |0=>[]
 |n+1=>plN x n++[fg (x n)]
theorem j8(x:Nat->Int):∀n,(plN x n).length=n
 |0=>rfl
 |n+1=>by rw[plN,Qf,j8 x n];rfl
theorem mN(x:Nat->Int):∀n,c8 x n=(plN x n).map cu
 |0=>rfl
 |n+1=>by rw[plN,c8,mN x n,List.map_append];rfl
theorem Kq(b:Nat->Bool):∀j,(tlJ (jsK b) j).length<=20/\∀y∈tlJ (jsK b) j,y∈nms:=by
 intro j
 have key:∀l:List Nat,(∀k∈l,k<5)->l.length<=20->(l.map nm).length<=20/\∀y∈l.map nm,y∈nms:=λl h1 h2=>⟨by simpa using h2,λy hy=>by
  obtain⟨k,hk,rfl⟩:=Qe.mp hy
  exact cg (P:=λk=>nm k∈nms) (h1 k hk) (by simp[nms]) (by simp[nms]) (by simp[nms]) (by simp[nms]) (by simp[nms])⟩
 have sub:∀i,i<5->∀l∈b5 i,(∀k∈l,k<5)/\l.length<=20:=by decide+kernel
 by_cases hj:j<5
 .obtain⟨a,c⟩:=sub j hj _ (ui b j hj)
  exact key _ a c
 .have:jsK b j=[]:=by
   match j,hj with
   |0,h=>exact absurd (by decide) h
   |1,h=>exact absurd (by decide) h
   |2,h=>exact absurd (by decide) h
   |3,h=>exact absurd (by decide) h
   |4,h=>exact absurd (by decide) h
   |j+5,_=>rfl
  unfold tlJ
  rw[this]
  exact key [] (λk h=>nomatch h) (by simp)
structure uG (js:Nat->List Nat) (x:Nat->Int) (n:Nat):Prop where
 hs:∀j,∀y∈(stA js 5).2 j,y∈nms.drop (j+1)
 hs5:∀j,((stA js 5).2 j).length<=5
 hu:∀ep,aS ⟨ep,(stA js 5).1,(stA js 5).2,bz (stA js 5).1 5,0⟩ []+5<900
 hg:eh (stA js 5).2 0 (t0T (stA js 5).1) (plN x n)
 he:dH (d7 (stA js 5).2 0 (t0T (stA js 5).1) (plN x n)).e n=dH (dK ⟨tlJ js,plX x⟩ n).e n
 hk:(dH (dK ⟨tlJ js,plX x⟩ n).e n).all (kqdOk 8)=QF
theorem JX(hP:∀(b:Nat->Bool)(x:Nat->Int)(n:Nat),2<=n->n<8->uG (jsK b) x n):∀vs zs,zs.length<=63->Nc vs zs:=by
 intro vs zs hz
 have h5:=JF hz
 have h30:=E6 hz
 have hn:(p5 ⟨vs,zs⟩).length=2+(eO zs QD (QE 5) QD).length:=by unfold p5;rw[Qf];rfl
 have Q:=hP (ndB (p30 ⟨vs,zs⟩)) (λi=>(p5 ⟨vs,zs⟩).getD i 0) (p5 ⟨vs,zs⟩).length (by lia) (by lia)
 have hj:=Kq (ndB (p30 ⟨vs,zs⟩))
 have hT:=ya (rsT (tlJ (jsK (ndB (p30 ⟨vs,zs⟩))))) (c8 (λi=>(p5 ⟨vs,zs⟩).getD i 0) (p5 ⟨vs,zs⟩).length) (jsK (ndB (p30 ⟨vs,zs⟩))) (ui _) (λ_ _=>rfl) (plN (λi=>(p5 ⟨vs,zs⟩).getD i 0) (p5 ⟨vs,zs⟩).length) (by rw[j8];lia) (mN _ _) Q.hs Q.hs5 Q.hu Q.hg
 rw[j8]at hT
 have hD:=AP ⟨tlJ (jsK (ndB (p30 ⟨vs,zs⟩))),plX (λi=>(p5 ⟨vs,zs⟩).getD i 0)⟩ ⟨⟨λj=>(hj j).2,λj=>(hj j).1⟩,λj=>List.length_pos_iff.mpr (kO _).ne,λj=>(kO _).nl⟩ (n:=(p5 ⟨vs,zs⟩).length) (by lia) (by lia)
 have L:=BJ ⟨vs,zs⟩ (tlJ (jsK (ndB (p30 ⟨vs,zs⟩)))) (λi=>(p5 ⟨vs,zs⟩).getD i 0) (p5 ⟨vs,zs⟩).length _ _ (by lia) (by lia) (PW hz (by decide)) (PW h30 (by decide)) (by lia) (Ef _) (λj hj=>NP _ j hj) ⟨λ_=>kO _,Q.he▸Q.hk,Q.hk,hT,hD⟩ Q.he
 exact⟨_,_,@L,rfl⟩
theorem yk(hw:rwl.row.toRowW.promised)(hP:∀(b:Nat->Bool)(x:Nat->Int)(n:Nat),2<=n->n<8->uG (jsK b) x n):rwl.Holds:=head hw (AM (JX hP))
structure gY (js:Nat->List Nat):Prop where
 lt:∀i,i<5->∀k∈js i,k<i
 nd:∀i,(js i).Nodup
theorem fh:∀(l:List Bool)(j:Nat),(∀k∈jsB j l,j<=k/\k<j+l.length)/\(jsB j l).Nodup
 |[],j=>⟨λk h=>(nomatch h),List.nodup_nil⟩
 |true::r,j=>by
  obtain⟨a,b⟩:=fh r (j+1)
  refine⟨λk hk=>?_,Ql.mpr ⟨λh=>by have:=(a _ h).1;lia,b⟩⟩
  rcases Qb.mp hk with h|h
  .subst h;simp
  .have:=a k h
   simp only[Qg];lia
 |false::r,j=>by
  obtain⟨a,b⟩:=fh r (j+1)
  refine⟨λk hk=>?_,b⟩
  have:=a k hk
  simp only[Qg];lia
theorem LQ(b:Nat->Bool):gY (jsK b):=by
 refine⟨λi hi k hk=>?_,λi=>?_⟩
 .match i,hi,hk with
  |0,_,h=>cases h
  |1,_,h=>have:=((fh _ 0).1 k h).2;simpa using this
  |2,_,h=>have:=((fh _ 0).1 k h).2;simpa using this
  |3,_,h=>have:=((fh _ 0).1 k h).2;simpa using this
  |4,_,h=>have:=((fh _ 0).1 k h).2;simpa using this
 .match i with
  |0=>exact List.nodup_nil
  |1=>exact(fh _ 0).2
  |2=>exact(fh _ 0).2
  |3=>exact(fh _ 0).2
  |4=>exact(fh _ 0).2
  |i+5=>exact List.nodup_nil
theorem kq{α:Type}(p:Nat->α)(j k:Nat)(v:α):upd p j v k=if k=j then v else p k:=by
 by_cases h:k=j
 .subst h;rw[b7,if_pos rfl]
 .rw[eJ _ _ h,if_neg h]
theorem uW(i:Nat):∀(js:List Nat)(s:Nat->List Str)(j:Nat),js.Nodup->i3 i js s j=s j++if j∈js then[nm i]else[]
 |[],s,j,_=>by simp[i3]
 |k::r,s,j,h=>by
  obtain⟨h1,h2⟩:=Ql.mp h
  have:=uW i r (upd s k (s k++[nm i])) j h2
  unfold i3 at this ⊢
  rw[List.foldl_cons,this,kq]
  by_cases hj:j=k
  .subst hj
   rw[if_pos rfl,if_neg h1,if_pos (Qj)];simp
  .rw[if_neg hj]
   simp[hj]
noncomputable def fW(js:Nat->List Nat)(j:Nat):Nat->List Str
 |0=>[]
 |m+1=>fW js j m++if j∈js m then[nm m]else[]
theorem qd{js:Nat->List Nat}(H:gY js){j:Nat}:∀m,m<=5->m<=j+1->fW js j m=[]
 |0,_,_=>rfl
 |m+1,h5,h=>by
  rw[fW,qd H m (by lia) (by lia),if_neg (λq=>by have:=H.lt m (by lia) j q;lia)];rfl
theorem j5{js:Nat->List Nat}(H:gY js):∀m,m<=5->∀j,(stA js m).2 j=fW js j m
 |0,_,_=>rfl
 |m+1,h,j=>by
  show upd (i3 m (js m) (stA js m).2) m [] j=_
  rw[kq,uW m _ _ j (H.nd m),j5 H m (by lia) j,fW]
  by_cases hj:j=m
  .subst hj
   rw[if_pos rfl,qd H j (by lia) (by lia),if_neg (λq=>by have:=H.lt j (by lia) j q;lia)];rfl
  .rw[if_neg hj]
theorem uu(js:Nat->List Nat):∀m i,(stA js m).1 i=if i<m then((js i).length:Int)else 0
 |0,i=>by simp[stA]
 |m+1,i=>by
  show upd (stA js m).1 m ((js m).length:Int) i=_
  rw[kq,uu js m i]
  by_cases h:i=m
  .subst h;simp
  .by_cases h2:i<m
   .rw[if_neg h,if_pos h2,if_pos (by lia)]
   .rw[if_neg h,if_neg h2,if_neg (by lia)]
theorem uO(js:Nat->List Nat)(j:Nat):∀m,(fW js j m).length<=m
 |0=>PX _
 |m+1=>by
  have:=uO js j m
  rw[fW,Qf]
  split<;>simp<;>lia
theorem ER:∀j,j<5->∀k,k<5->j<k->nm k∈nms.drop (j+1):=by decide+kernel
theorem gJ{js:Nat->List Nat}(H:gY js){j:Nat}{y:Str}:∀m,m<=5->(y∈fW js j m↔∃k,k<m/\j∈js k/\y=nm k)
 |0,_=>by simp[fW]
 |m+1,h=>by
  rw[fW,Qd,gJ H m (by lia)]
  constructor
  .rintro(⟨k,a,b,c⟩|q)
   .exact⟨k,by lia,b,c⟩
   .by_cases e:j∈js m
    .rw[if_pos e]at q;exact⟨m,by lia,e,Qc.mp q⟩
    .rw[if_neg e]at q;cases q
  .rintro⟨k,a,b,c⟩
   by_cases e:k=m
   .subst e;rw[if_pos b];exact .inr (Qc.mpr c)
   .exact .inl ⟨k,by lia,b,c⟩
theorem Ab{js:Nat->List Nat}(H:gY js):∀j,∀y∈(stA js 5).2 j,y∈nms.drop (j+1):=λj y hy=>by
 rw[j5 H 5 (PX _)]at hy
 obtain⟨k,a,b,rfl⟩:=(gJ H 5 (PX _)).mp hy
 have:=H.lt k a j b
 exact ER j (by lia) k a this
theorem mO{js:Nat->List Nat}(H:gY js):∀j,((stA js 5).2 j).length<=5:=λj=>by
 rw[j5 H 5 (PX _)];exact uO js j 5
theorem BZ(q:Cy)(h:∀j,(q.s j).length<=5)(j:Nat):fN q [] j<=7:=by
 unfold fN
 have:=h j
 show 2+(q.s j).length<=7
 lia
theorem zD{js:Nat->List Nat}(H:gY js):∀ep,aS ⟨ep,(stA js 5).1,(stA js 5).2,bz (stA js 5).1 5,0⟩ []+5<900:=λep=>by
 exact Nat.lt_of_le_of_lt (Nat.add_le_add_right (Do (BZ ⟨ep,(stA js 5).1,(stA js 5).2,bz (stA js 5).1 5,0⟩ (mO H)) 5) 5) (by decide)
theorem ie:∀k,k<5->bG (nm k)=k:=by decide+kernel
theorem d6:∀j,j<5->∀k,k<5->nm j=nm k->j=k:=by decide+kernel
theorem nJ{y:Str}(h:y∈nms):∃k,k<5/\y=nm k:=by
 simp only[nms,Qb,Qi,or_false]at h
 rcases h with h|h|h|h|h
 .exact⟨0,by decide,h⟩
 .exact⟨1,by decide,h⟩
 .exact⟨2,by decide,h⟩
 .exact⟨3,by decide,h⟩
 .exact⟨4,by decide,h⟩
theorem jd(k:Nat)(h:k<5):nm k∈nms:=cg (P:=λk=>nm k∈nms) h (by simp[nms]) (by simp[nms]) (by simp[nms]) (by simp[nms]) (by simp[nms])
def jY(d:List Str)(l:List Nat):Nat:=(l.filter λj=>aK d (nm j)).length
def dp(js:Nat->List Nat)(d:List Str)(i:Nat):Prop:=∀j∈js i,nm j∈d
theorem zM{d:List Str}{l:List Nat}:jY d l=0↔∀j∈l,nm j∈d:=by
 unfold jY
 rw[List.length_eq_zero_iff,List.filter_eq_nil_iff]
 constructor
 .intro h j hj
  have:=h j hj
  rw[bU]at this
  exact Classical.byContradiction this
 .intro h j hj q
  exact bU.mp q (h j hj)
theorem oT{d:List Str}{k:Nat}(hk:k<5)(hd:nm k∉d):∀{l:List Nat},l.Nodup->(∀j∈l,j<5)->jY d l=jY (d++[nm k]) l+if k∈l then 1 else 0
 |[],_,_=>rfl
 |j::r,n,h=>by
  obtain⟨n1,n2⟩:=Ql.mp n
  have ih:=oT hk hd n2 λj hj=>h j (.tail _ hj)
  have hj:=h j (.head _)
  unfold jY at ih ⊢
  rw[List.filter_cons,List.filter_cons]
  by_cases e:j=k
  .subst e
   rw[if_pos (bU.mpr hd),if_neg (by rw[bU];simp),if_pos (Qj)]
   rw[if_neg n1]at ih
   simp only[Qg]
   lia
  .have e2:(aK d (nm j)=QF)=(aK (d++[nm k]) (nm j)=QF):=by
    rw[bU,bU]
    simp only[Qd,Qc,not_or,eq_iff_iff]
    exact⟨λa=>⟨a,λb=>e (d6 j hj k hk b)⟩,λa=>a.1⟩
   have e3:(k∈j::r)=(k∈r):=by
    rw[Qb,eq_iff_iff]
    exact⟨λa=>a.resolve_left λb=>e b.symm, .inr⟩
   simp only[e2,e3]
   split
   .simp only[Qg];lia
   .exact ih
theorem Dt{y z:Str}(hy:y∈nms)(hz:z∈nms)(h:bG y=bG z):y=z:=by
 obtain⟨j,a,rfl⟩:=nJ hy
 obtain⟨k,b,rfl⟩:=nJ hz
 rw[ie j a,ie k b]at h
 rw[h]
theorem yD(p:Nat->Int)(rd:List Str)(y:Str):fx (p,rd) y=(upd p (bG y) (p (bG y)-1),match p (bG y)-1==0 with|true=>rd++[y]|false=>rd):=rfl
theorem Gc:∀(sl:List Str)(p:Nat->Int)(rd:List Str),sl.Nodup->(∀y∈sl,y∈nms)->∀k,k<5->(sl.foldl fx (p,rd)).1 k=if nm k∈sl then p k-1 else p k
 |[],p,rd,_,_,k,_=>rfl
 |y::r,p,rd,h,hn,k,hk=>by
  obtain⟨h1,h2⟩:=Ql.mp h
  obtain⟨j,hj,rfl⟩:=nJ (hn _ (Qj))
  rw[List.foldl_cons,yD]
  rw[Gc r _ _ h2 (λy hy=>hn y (.tail _ hy)) k hk,ie j hj,kq]
  by_cases e:k=j
  .subst e
   rw[if_neg h1,if_pos rfl,if_pos (Qj)]
  .have e2:(nm k∈nm j::r)=(nm k∈r):=by
    rw[Qb,eq_iff_iff]
    exact⟨λa=>a.resolve_left λb=>e (d6 k hk j hj b), .inr⟩
   rw[if_neg e]
   simp only[e2]
theorem Gh:∀(sl:List Str)(p:Nat->Int)(rd:List Str),sl.Nodup->(∀y∈sl,y∈nms)->(sl.foldl fx (p,rd)).2=rd++sl.filter (λy=>p (bG y)-1==0)
 |[],p,rd,_,_=>by simp
 |y::r,p,rd,h,hn=>by
  obtain⟨h1,h2⟩:=Ql.mp h
  have hy:=hn y (Qj)
  rw[List.foldl_cons,yD]
  rw[Gh r _ _ h2 (λy hy=>hn y (.tail _ hy)),List.filter_cons]
  have e:r.filter (λz=>upd p (bG y) (p (bG y)-1) (bG z)-1==0)=r.filter (λz=>p (bG z)-1==0):=List.filter_congr λz hz=>by
   rw[eJ _ _ λq=>h1 (by rw[<-Dt (hn z (.tail _ hz)) hy q];exact hz)]
  rw[e]
  cases p (bG y)-1==0<;>simp
structure pG (js:Nat->List Nat) (d P:List Str) (p:Nat->Int) (rd:List Str):Prop where
 cl:∀i,i<5->nm i∈d++P->dp js d i
 p1:∀i,i<5->nm i∈d++P->p i=-2
 p2:∀i,i<5->nm i∉d++P->dp js d i->p i=-1
 p3:∀i,i<5->nm i∉d++P->¬dp js d i->p i=jY (d++P) (js i)
 rn:rd.Nodup
 rm:∀y,y∈rd↔∃i,i<5/\y=nm i/\¬dp js d i/\dp js (d++P) i
theorem sb{js:Nat->List Nat}(H:gY js)(j:Nat):∀m,m<=5->(fW js j m).Nodup
 |0,_=>List.nodup_nil
 |m+1,h=>by
  rw[fW]
  by_cases e:j∈js m
  .rw[if_pos e,List.nodup_append]
   refine⟨sb H j m (by lia),by simp,λa ha b hb q=>?_⟩
   obtain⟨k,hk,_,rfl⟩:=(gJ H m (by lia)).mp ha
   rw[Qc.mp hb]at q
   have:=d6 k (by lia) m (by lia) q
   lia
  .rw[if_neg e,List.append_nil];exact sb H j m (by lia)
theorem nK{js:Nat->List Nat}(H:gY js){j i:Nat}(hi:i<5):nm i∈fW js j 5↔j∈js i:=by
 rw[gJ H 5 (PX _)]
 constructor
 .rintro⟨k,a,b,c⟩
  rw[d6 i hi k a c];exact b
 .intro h;exact⟨i,hi,h,rfl⟩
theorem Ac{js:Nat->List Nat}(H:gY js){d P:List Str}{p:Nat->Int}{rd:List Str}{k:Nat}(hk:k<5)(hd:nm k∉d++P)(hr:dp js d k)(I:pG js d P p rd):pG js d (P++[nm k]) (((stA js 5).2 k).foldl fx (upd p k (-2),rd)).1 (((stA js 5).2 k).foldl fx (upd p k (-2),rd)).2:=by
 rw[j5 H 5 (PX _)]
 have hn:∀y∈fW js k 5,y∈nms:=λy hy=>by
  obtain⟨i,a,_,rfl⟩:=(gJ H 5 (PX _)).mp hy
  exact jd i a
 have hsd:=sb H k 5 (PX _)
 have A:=Gc (fW js k 5) (upd p k (-2)) rd hsd hn
 have B:=Gh (fW js k 5) (upd p k (-2)) rd hsd hn
 have kk:k∉js k:=λh=>by have:=H.lt k hk k h;lia
 have as:d++(P++[nm k])=(d++P)++[nm k]:=(List.append_assoc _ _ _).symm
 have hin:∀i,i<5->(nm i∈d++(P++[nm k])↔nm i∈d++P\/i=k):=λi hi=>by
  rw[as,Qd,Qc]
  exact⟨λh=>h.imp id (d6 i hi k hk),λh=>h.imp id (λq=>by rw[q])⟩
 have nk:∀i,i<5->dp js d i->k∉js i:=λi hi r h=>hd (List.mem_append_left _ (r k h))
 have c5:∀i,i<5->∀j∈js i,j<5:=λi hi j hj=>by have:=H.lt i hi j hj;lia
 have val:∀i,i<5->i≠k->(((fW js k 5).foldl fx (upd p k (-2),rd)).1 i=if k∈js i then p i-1 else p i):=λi hi ne=>by
  rw[A i hi,eJ _ _ ne]
  simp only[nK H hi]
 refine⟨λi hi h=>?_,λi hi h=>?_,λi hi h r=>?_,λi hi h r=>?_,?_,λy=>?_⟩
 .rcases(hin i hi).mp h with h|h
  .exact I.cl i hi h
  .rw[h];exact hr
 .by_cases e:i=k
  .subst e
   rw[A i hi,b7,if_neg (λq=>kk ((nK H hi).mp q))]
  .have h':=((hin i hi).mp h).resolve_right e
   rw[val i hi e,if_neg (nk i hi (I.cl i hi h'))]
   exact I.p1 i hi h'
 .have h':nm i∉d++P/\i≠k:=⟨λq=>h ((hin i hi).mpr (.inl q)),λq=>h ((hin i hi).mpr (.inr q))⟩
  rw[val i hi h'.2,if_neg (nk i hi r)]
  exact I.p2 i hi h'.1 r
 .have h':nm i∉d++P/\i≠k:=⟨λq=>h ((hin i hi).mpr (.inl q)),λq=>h ((hin i hi).mpr (.inr q))⟩
  have c:=oT hk hd (H.nd i) (c5 i hi)
  rw[val i hi h'.2,I.p3 i hi h'.1 r,as,c]
  split<;>lia
 .rw[B,List.nodup_append]
  refine⟨I.rn,hsd.filter _,λa ha b hb q=>?_⟩
  subst q
  obtain⟨i,hi,rfl,_,r⟩:=(I.rm a).mp ha
  exact hd (r k ((nK H hi).mp (List.mem_filter.mp hb).1))
 .have fl:∀i,i<5->k∈js i->((upd p k (-2) (bG (nm i))-1==0)=QF↔dp js (d++(P++[nm k])) i):=λi hi h=>by
   have ne:i≠k:=λq=>kk (q▸h)
   have nr:¬dp js d i:=λr=>nk i hi r h
   have nd:nm i∉d++P:=λq=>nr (I.cl i hi q)
   have c:=oT hk hd (H.nd i) (c5 i hi)
   rw[if_pos h]at c
   rw[ie i hi,eJ _ _ ne,I.p3 i hi nd nr,as,beq_iff_eq]
   show _↔∀j∈js i,nm j∈(d++P)++[nm k]
   rw[<-zM,c]
   lia
  rw[B,Qd,List.mem_filter]
  constructor
  .rintro(h|⟨h1,h2⟩)
   .obtain⟨i,hi,rfl,a,r⟩:=(I.rm y).mp h
    exact⟨i,hi,rfl,a,λj hj=>by rw[as];exact List.mem_append_left _ (r j hj)⟩
   .obtain⟨i,hi,hk',rfl⟩:=(gJ H 5 (PX _)).mp h1
    exact⟨i,hi,rfl,λr=>nk i hi r hk',(fl i hi hk').mp h2⟩
  .rintro⟨i,hi,rfl,a,r⟩
   by_cases q:k∈js i
   .exact .inr ⟨(nK H hi).mpr q,(fl i hi q).mpr r⟩
   .refine .inl ((I.rm _).mpr ⟨i,hi,rfl,a,λj hj=>?_⟩)
    have:=r j hj
    rw[as,Qd,Qc]at this
    exact this.resolve_right λz=>q (d6 j (c5 i hi j hj) k hk z▸hj)
theorem kZ{js:Nat->List Nat}(H:gY js){d:List Str}:∀(l:List Str)(P:List Str)(fi:Int)(p:Nat->Int)(rd:List Str),(P++l).Nodup->(∀y∈l,∃k,k<5/\y=nm k/\nm k∉d/\dp js d k)->pG js d P p rd->
  pG js d (P++l) (l.foldl (bX (stA js 5).2) (fi,p,rd)).2.1 (l.foldl (bX (stA js 5).2) (fi,p,rd)).2.2
 |[],P,fi,p,rd,_,_,I=>by rw[List.append_nil];exact I
 |y::r,P,fi,p,rd,hn,hy,I=>by
  obtain⟨k,hk,rfl,h1,h2⟩:=hy y (Qj)
  have hP:nm k∉P:=λq=>by
   have:=(List.nodup_append.mp hn).2.2 _ q _ (Qj)
   exact this rfl
  have st:=Ac H hk (λq=>by rcases Qd.mp q with q|q;exact h1 q;exact hP q) h2 I
  have e:P++nm k::r=(P++[nm k])++r:=by simp
  rw[e]at hn ⊢
  rw[List.foldl_cons]
  unfold bX
  rw[ie k hk]
  exact kZ H r (P++[nm k]) _ _ _ hn (λz hz=>hy z (.tail _ hz)) st
theorem sQ:∀(l:List Str)(p:Nat->Int)(k:Nat),k<5->(∀y∈l,y∈nms)->(l.foldl k9 p) k=if nm k∈l then -1 else p k
 |[],p,k,_,_=>rfl
 |y::r,p,k,hk,h=>by
  obtain⟨j,hj,rfl⟩:=nJ (h _ (Qj))
  rw[List.foldl_cons,sQ r _ k hk λy hy=>h y (.tail _ hy)]
  unfold k9
  rw[ie j hj,kq]
  by_cases q:nm k∈r
  .rw[if_pos q,if_pos (.tail _ q)]
  .rw[if_neg q]
   by_cases e:k=j
   .subst e;rw[if_pos rfl,if_pos (Qj)]
   .rw[if_neg e,if_neg]
    intro z
    rcases Qb.mp z with z|z
    .exact e (d6 k hk j hj z)
    .exact q z
structure A6 (js:Nat->List Nat) (d:List Str) (p:Nat->Int) (w:List Str):Prop where
 i2:pG js d [] p []
 wn:w.Nodup
 wm:∀y,y∈w↔∃i,i<5/\y=nm i/\nm i∉d/\dp js d i
theorem wB{js:Nat->List Nat}{d d':List Str}(h:∀y,y∈d↔y∈d')(i:Nat):dp js d i↔dp js d' i:=⟨λa j hj=>(h _).mp (a j hj),λa j hj=>(h _).mpr (a j hj)⟩
theorem v9{d d':List Str}(h:∀y,y∈d↔y∈d')(l:List Nat):jY d l=jY d' l:=by
 unfold jY
 congr 1
 refine List.filter_congr λj _=>?_
 rw[Bool.eq_iff_iff,bU,bU,h]
theorem nt{js:Nat->List Nat}{d:List Str}{p:Nat->Int}(c:∀i,i<5->nm i∈d->dp js d i)(a1:∀i,i<5->nm i∈d->p i=-2)(a2:∀i,i<5->nm i∉d->dp js d i->p i=-1)(a3:∀i,i<5->nm i∉d->¬dp js d i->p i=jY d (js i)):pG js d [] p []:=by
 refine⟨?_,?_,?_,?_,List.nodup_nil,λy=>⟨λh=>(nomatch h),λ⟨i,_,_,h1,h2⟩=>absurd (by rwa [List.append_nil]at h2) h1⟩⟩<;>rw[List.append_nil]<;>assumption
theorem Ci{js:Nat->List Nat}(H:gY js){d d' l w' rd':List Str}{p p':Nat->Int}(I:pG js d l p' rd')(hd:∀y,y∈d'↔y∈d++l)(hl:∀y∈l,∃k,k<5/\y=nm k/\nm k∉d/\dp js d k)(hn:w'.Nodup)(hw:∀y,y∈w'↔(∃i,i<5/\y=nm i/\nm i∉d++l/\dp js d i)\/y∈rd'):A6 js d' (rd'.foldl k9 p') w':=by
 have rn:∀y∈rd',y∈nms:=λy hy=>by
  obtain⟨i,a,rfl,_⟩:=(I.rm y).mp hy
  exact jd i a
 have o:=λk hk=>sQ rd' p' k hk rn
 have mono:∀i,dp js d i->dp js (d++l) i:=λi r j hj=>List.mem_append_left _ (r j hj)
 have rr:∀i,dp js d' i↔dp js (d++l) i:=λi=>wB hd i
 have rdm:∀i,i<5->(nm i∈rd'↔¬dp js d i/\dp js (d++l) i):=λi hi=>by
  rw[I.rm]
  constructor
  .rintro⟨k,a,b,c,e⟩
   rw[d6 i hi k a b];exact⟨c,e⟩
  .rintro⟨c,e⟩;exact⟨i,hi,rfl,c,e⟩
 refine⟨nt (λi hi h=>?_) (λi hi h=>?_) (λi hi h r=>?_) (λi hi h r=>?_),hn,λy=>?_⟩
 .exact(rr i).mpr (mono i (I.cl i hi ((hd _).mp h)))
 .rw[o i hi,if_neg (λq=>((rdm i hi).mp q).1 (I.cl i hi ((hd _).mp h)))]
  exact I.p1 i hi ((hd _).mp h)
 .rw[o i hi]
  by_cases q:dp js d i
  .rw[if_neg λz=>((rdm i hi).mp z).1 q]
   exact I.p2 i hi (λz=>h ((hd _).mpr z)) q
  .rw[if_pos ((rdm i hi).mpr ⟨q,(rr i).mp r⟩)]
 .have q:¬dp js d i:=λz=>r ((rr i).mpr (mono i z))
  rw[o i hi,if_neg λz=>r ((rr i).mpr ((rdm i hi).mp z).2),I.p3 i hi (λz=>h ((hd _).mpr z)) q,v9 hd]
 .rw[hw]
  constructor
  .rintro(⟨i,hi,rfl,a,r⟩|h)
   .exact⟨i,hi,rfl,λz=>a ((hd _).mp z),(rr i).mpr (mono i r)⟩
   .obtain⟨i,hi,rfl,a,r⟩:=(I.rm y).mp h
    exact⟨i,hi,rfl,λz=>a (I.cl i hi ((hd _).mp z)),(rr i).mpr r⟩
  .rintro⟨i,hi,rfl,a,r⟩
   by_cases q:dp js d i
   .exact .inl ⟨i,hi,rfl,λz=>a ((hd _).mpr z),q⟩
   .exact .inr ((rdm i hi).mpr ⟨q,(rr i).mp r⟩)
theorem oS:∀{l m:List Str},l.Nodup->(∀y∈l,y∈m)->l.length<=m.length
 |[],_,_,_=>Nat.zero_le _
 |y::r,m,h,hs=>by
  obtain⟨h1,h2⟩:=Ql.mp h
  have hy:=hs y (Qj)
  have:=oS (l:=r) (m:=m.erase y) h2 λz hz=>(List.mem_erase_of_ne (λq=>h1 (by rw[<-q];exact hz):z≠y)).mpr (hs z (.tail _ hz))
  rw[List.length_erase_of_mem hy]at this
  have hp:=List.length_pos_of_mem hy
  simp only[Qg]
  lia
theorem Di{d:List Str}{l:List Nat}:isE ((l.map nm).filter (aK d))=QF↔∀j∈l,nm j∈d:=by
 unfold isE
 rw[List.isEmpty_iff,List.map_eq_nil_iff,List.filter_eq_nil_iff]
 constructor
 .intro h j hj
  have:=h (nm j) (List.mem_map_of_mem hj)
  rw[bU]at this
  exact Classical.byContradiction this
 .intro h y hy q
  obtain⟨j,hj,rfl⟩:=Qe.mp hy
  exact bU.mp q (h j hj)
theorem J7{js:Nat->List Nat}{pl:Nat->List Str}{d:List Str}{j:Nat}:bW ⟨tlJ js,pl⟩ d j=QF↔nm j∉d/\dp js d j:=by
 unfold bW g9
 rw[Qp,Bool.not_eq_true',dY]
 exact and_congr Iff.rfl Di
theorem nE{js:Nat->List Nat}{pl:Nat->List Str}{d:List Str}{y:Str}:∀m,y∈wK ⟨tlJ js,pl⟩ d m↔∃i,i<m/\y=nm i/\nm i∉d/\dp js d i
 |0=>⟨λh=>(nomatch h),λ⟨_,h,_⟩=>absurd h (by lia)⟩
 |m+1=>by
  have ih:=nE (js:=js) (pl:=pl) (d:=d) (y:=y) m
  have key:y∈wK ⟨tlJ js,pl⟩ d (m+1)↔y∈wK ⟨tlJ js,pl⟩ d m\/(bW ⟨tlJ js,pl⟩ d m=QF/\y=nm m):=by
   rw[wK]
   cases e:bW ⟨tlJ js,pl⟩ d m with
   |true=>simp
   |false=>simp
  rw[key,ih,J7]
  constructor
  .rintro(⟨i,a,b⟩|⟨a,b⟩)
   .exact⟨i,by lia,b⟩
   .exact⟨m,by lia,b,a⟩
  .rintro⟨i,a,b,c⟩
   by_cases e:i=m
   .subst e;exact .inr ⟨c,b⟩
   .exact .inl ⟨i,by lia,b,c⟩
theorem zk{js:Nat->List Nat}{pl:Nat->List Str}{d:List Str}:∀m,m<=5->(wK ⟨tlJ js,pl⟩ d m).Nodup
 |0,_=>List.nodup_nil
 |m+1,h=>by
  have ih:=zk (js:=js) (pl:=pl) (d:=d) m (by lia)
  rw[wK]
  cases e:bW ⟨tlJ js,pl⟩ d m with
  |false=>exact ih
  |true=>
   refine List.nodup_append.mpr ⟨ih,by simp,λa ha b hb q=>?_⟩
   obtain⟨i,hi,rfl,_⟩:=(nE m).mp ha
   rw[Qc.mp hb]at q
   have:=d6 i (by lia) m (by lia) q
   lia
structure Jn (js:Nat->List Nat) (pl:Nat->List Str) (k:Nat) (t:Tst) (u:Dst) (ns:List Str):Prop where
 good:Ei (stA js 5).2 t ns
 ent:(a7 (dh t ns),a7 (cR t.w ns).2)=(a7 (fnF ⟨tlJ js,pl⟩ k (wD ⟨tlJ js,pl⟩ u)),a7 (erF ⟨tlJ js,pl⟩ k (wD ⟨tlJ js,pl⟩ u)))
 inv:A6 js (mE ⟨tlJ js,pl⟩ k u).d (eG (stA js 5).2 k t ns).q.p (eG (stA js 5).2 k t ns).w
 rd:(eG (stA js 5).2 k t ns).q.rd=[]
theorem CO{js:Nat->List Nat}(H:gY js){pl:Nat->List Str}{k:Nat}{t:Tst}{u:Dst}{ns:List Str}(hns:pP ns)(hpl:pl k=ns)(I:A6 js u.d t.q.p t.w)(hq:t.q.rd=[]):Jn js pl k t u ns:=by
 have hwd:(wD ⟨tlJ js,pl⟩ u).Nodup:=zk 5 (PX _)
 have hwm:∀y,y∈t.w↔y∈wD ⟨tlJ js,pl⟩ u:=λy=>(I.wm y).trans (nE 5).symm
 have hpm:t.w.Perm (wD ⟨tlJ js,pl⟩ u):=(List.perm_ext_iff_of_nodup I.wn hwd).mpr hwm
 have hw5:t.w.length<=5:=oS I.wn (m:=nms) λy hy=>by
  obtain⟨i,a,rfl,_⟩:=(I.wm y).mp hy
  exact jd i a
 have el:dh t ns=t.w.reverse.filter (aK ns):=Kc I.wn
 have e2:(cR t.w ns).2=cF t.w ns:=Hw I.wn
 have elp:(dh t ns).Perm (t.w.filter (aK ns)):=by rw[el];exact(List.reverse_perm t.w).filter _
 have hleft:∀y,y∈dh t ns↔y∈t.w/\y∉ns:=λy=>by rw[elp.mem_iff,List.mem_filter,bU]
 have hd:∀y,y∈dT t ns↔y∈t.w/\y∈ns:=λy=>by
  unfold dT
  rw[List.mem_filter,bU,hleft]
  constructor
  .rintro⟨a,b⟩;exact⟨a,Classical.byContradiction λq=>b ⟨a,q⟩⟩
  .rintro⟨a,b⟩;exact⟨a,λq=>q.2 b⟩
 have hdn:(dT t ns).Nodup:=I.wn.filter _
 have hdy:∀y∈dT t ns,∃k,k<5/\y=nm k/\nm k∉u.d/\dp js u.d k:=λy hy=>(I.wm y).mp ((hd y).mp hy).1
 have hln:(dh t ns).Nodup:=elp.nodup_iff.mpr (I.wn.filter _)
 have hll:(dh t ns).length<=5:=by rw[elp.length_eq];exact PW (List.length_filter_le _ _) hw5
 have fold:∀(l P:List Str),P++l=dT t ns->P=[]->pG js u.d (P++l) (l.foldl (bX (stA js 5).2) (t.q.fi,t.q.p,t.q.rd)).2.1 (l.foldl (bX (stA js 5).2) (t.q.fi,t.q.p,t.q.rd)).2.2:=λl P e1 e2=>by
  subst e2
  rw[hq]
  exact kZ H l [] _ _ _ (by rw[e1];exact hdn) (λy hy=>hdy y (by rw[<-e1];exact List.mem_append_right _ hy)) I.i2
 have I2:=fold (dT t ns) [] rfl rfl
 rw[List.nil_append]at I2
 have rn:∀y∈(d9 (stA js 5).2 t.q (dT t ns)).rd,y∈nms:=λy hy=>by
  obtain⟨i,a,rfl,_⟩:=(I2.rm y).mp hy
  exact jd i a
 have rl:(d9 (stA js 5).2 t.q (dT t ns)).rd.length<=5:=oS (m:=nms) I2.rn rn
 refine⟨⟨hns.ne,hns.nn,PW hns.nl (by decide),by lia,?_,?_,?_,?_,by rw[hq];exact Nat.zero_le _,?_,rn,by lia⟩,?_,?_,rfl⟩
 .show(dh t ns).length<64
  lia
 .rw[e2,<-ow I.wn ns hns.ne hns.nl]
  have:=j2 ns t.w ns.length
  have:=hns.nl
  lia
 .exact PW (oS (m:=ns) hdn λy hy=>((hd y).mp hy).2) hns.nl
 .exactλy hy=>by
   obtain⟨i,a,rfl,_⟩:=hdy y hy
   exact jd i a
 .intro i y hi
  have hy:=P8 hi
  obtain⟨j,hj,rfl,h1,h2⟩:=hdy y hy
  have st:dT t ns=(dT t ns).take i++(dT t ns).drop i:=(List.take_append_drop i _).symm
  have nd:=hdn
  rw[st]at nd
  have hmem:nm j∈(dT t ns).drop i:=P8 (i:=0) (by rw[List.getElem?_drop];exact hi)
  have nin:nm j∉(dT t ns).take i:=λq=>(List.nodup_append.mp nd).2.2 _ q _ hmem rfl
  have If:=kZ H ((dT t ns).take i) [] t.q.fi t.q.p [] (by rw[List.nil_append];exact(List.nodup_append.mp nd).1) (λy hy=>hdy y (List.mem_of_mem_take hy)) I.i2
  rw[hq,ie j hj]
  exact If.p2 j hj (λq=>by
   rcases Qd.mp q with q|q
   .exact h1 q
   .exact nin (by simpa using q)) h2
 .have z1:a7 (dh t ns)=a7 (fnF ⟨tlJ js,pl⟩ k (wD ⟨tlJ js,pl⟩ u)):=by
   refine lX (elp.trans ?_)
   unfold fnF
   show(t.w.filter (aK ns)).Perm ((wD ⟨tlJ js,pl⟩ u).filter (aK (pl k)))
   rw[hpl]
   exact hpm.filter _
  have z2:(cR t.w ns).2=erF ⟨tlJ js,pl⟩ k (wD ⟨tlJ js,pl⟩ u):=by
   unfold erF
   show _=erK (pl k) (wD ⟨tlJ js,pl⟩ u) (pl k).length
   rw[hpl,ow hwd ns hns.ne hns.nl,e2]
   exact qs I.wn hwd hwm
  rw[z1,z2]
 .refine Ci (p:=t.q.p) H I2 (λy=>?_) hdy ?_ (λy=>?_)
  .show y∈u.d++(wD ⟨tlJ js,pl⟩ u).filter (λy=>af y (pl k))↔_
   rw[hpl,Qd,Qd,List.mem_filter,bY,hd,hwm]
  .show(dh t ns++(d9 (stA js 5).2 t.q (dT t ns)).rd).Nodup
   refine List.nodup_append.mpr ⟨hln,I2.rn,λa ha b hb q=>?_⟩
   subst q
   obtain⟨i,hi,rfl,_,r⟩:=(I.wm a).mp ((hleft a).mp ha).1
   obtain⟨i',hi',e,r',_⟩:=(I2.rm _).mp hb
   rw[d6 i hi i' hi' e]at r
   exact r' r
  .show y∈dh t ns++(d9 (stA js 5).2 t.q (dT t ns)).rd↔_
   rw[Qd,hleft,I.wm]
   refine or_congr ?_ Iff.rfl
   constructor
   .rintro⟨⟨i,hi,rfl,a,r⟩,b⟩
    exact⟨i,hi,rfl,λq=>by
     rcases Qd.mp q with q|q
     .exact a q
     .exact b ((hd _).mp q).2,r⟩
   .rintro⟨i,hi,rfl,a,r⟩
    have a1:nm i∉u.d:=λq=>a (List.mem_append_left _ q)
    exact⟨⟨i,hi,rfl,a1,r⟩,λq=>a (List.mem_append_right _ ((hd _).mpr ⟨(I.wm _).mpr ⟨i,hi,rfl,a1,r⟩,q⟩))⟩
theorem i4{p:Nat->Int}{y:Str}:∀m,y∈bz p m↔∃i,i<m/\y=nm i/\p i=0
 |0=>⟨λh=>(nomatch h),λ⟨_,h,_⟩=>absurd h (by lia)⟩
 |m+1=>by
  have ih:=i4 (p:=p) (y:=y) m
  have key:y∈bz p (m+1)↔y∈bz p m\/(p m=0/\y=nm m):=by
   rw[bz]
   cases e:p m==0 with
   |true=>simp[beq_iff_eq.mp e]
   |false=>simp[beq_eq_false_iff_ne.mp e]
  rw[key,ih]
  constructor
  .rintro(⟨i,a,b⟩|⟨a,b⟩)
   .exact⟨i,by lia,b⟩
   .exact⟨m,by lia,b,a⟩
  .rintro⟨i,a,b,c⟩
   by_cases e:i=m
   .subst e;exact .inr ⟨c,b⟩
   .exact .inl ⟨i,by lia,b,c⟩
theorem vw{p:Nat->Int}:∀m,m<=5->(bz p m).Nodup
 |0,_=>List.nodup_nil
 |m+1,h=>by
  have ih:=vw (p:=p) m (by lia)
  rw[bz]
  cases e:p m==0 with
  |false=>exact ih
  |true=>
   refine List.nodup_append.mpr ⟨ih,by simp,λa ha b hb q=>?_⟩
   obtain⟨i,hi,rfl,_⟩:=(i4 m).mp ha
   rw[Qc.mp hb]at q
   have:=d6 i (by lia) m (by lia) q
   lia
theorem vR{js:Nat->List Nat}(H:gY js):A6 js [] (t0T (stA js 5).1).q.p (t0T (stA js 5).1).w:=by
 have hp:∀i,i<5->(stA js 5).1 i=((js i).length:Int):=λi hi=>by rw[uu,if_pos hi]
 have hr:∀i,dp js [] i↔js i=[]:=λi=>⟨λh=>by
  cases e:js i with
  |nil=>rfl
  |cons j r=>exact absurd (h j (by rw[e];exact Qj)) (by simp),λh j hj=>by rw[h]at hj;cases hj⟩
 have hm:∀i,i<5->(nm i∈bz (stA js 5).1 5↔js i=[]):=λi hi=>by
  rw[i4]
  constructor
  .rintro⟨k,a,b,c⟩
   rw[d6 i hi k a b]
   rw[hp k a]at c
   exact List.eq_nil_of_length_eq_zero (by lia)
  .intro h
   exact⟨i,hi,rfl,by rw[hp i hi,h];rfl⟩
 have o:∀i,i<5->(t0T (stA js 5).1).q.p i=if nm i∈bz (stA js 5).1 5 then -1 else(stA js 5).1 i:=λi hi=>sQ _ _ i hi (lj _ 5 (PX _))
 refine⟨nt (λi _ h=>(nomatch h)) (λi _ h=>(nomatch h)) (λi hi _ r=>?_) (λi hi _ r=>?_),vw 5 (PX _),λy=>?_⟩
 .rw[o i hi,if_pos ((hm i hi).mpr ((hr i).mp r))]
 .rw[o i hi,if_neg (λq=>r ((hr i).mpr ((hm i hi).mp q))),hp i hi]
  have:jY [] (js i)=(js i).length:=by
   unfold jY
   rw[List.filter_eq_self.mpr λj _=>by rw[bU];simp]
  rw[this]
 .show y∈bz (stA js 5).1 5↔_
  constructor
  .intro h
   obtain⟨i,hi,rfl,_⟩:=(i4 5).mp h
   exact⟨i,hi,rfl,by simp,(hr i).mpr ((hm i hi).mp h)⟩
  .rintro⟨i,hi,rfl,_,r⟩
   exact(hm i hi).mpr ((hr i).mp r)
theorem qM(s:Nat->List Str):∀(a:List (List Str))(k:Nat)(t:Tst)(b:List Str),d7 s k t (a++[b])=eG s (k+a.length) (d7 s k t a) b
 |[],k,t,b=>rfl
 |x::r,k,t,b=>by
  show d7 s (k+1) (eG s k t x) (r++[b])=eG s (k+(r.length+1)) (d7 s (k+1) (eG s k t x) r) b
  rw[qM s r (k+1),show k+1+r.length=k+(r.length+1) by lia]
theorem pY(s:Nat->List Str):∀(a:List (List Str))(k:Nat)(t:Tst)(b:List Str),eh s k t a->Ei s (d7 s k t a) b->eh s k t (a++[b])
 |[],k,t,b,_,h=>⟨h,QI⟩
 |x::r,k,t,b,g,h=>⟨g.1,pY s r (k+1) (eG s k t x) b g.2 h⟩
structure Pq (js:Nat->List Nat) (x:Nat->Int) (n:Nat):Prop where
 g:eh (stA js 5).2 0 (t0T (stA js 5).1) (plN x n)
 i:A6 js (dK ⟨tlJ js,plX x⟩ n).d (d7 (stA js 5).2 0 (t0T (stA js 5).1) (plN x n)).q.p (d7 (stA js 5).2 0 (t0T (stA js 5).1) (plN x n)).w
 r:(d7 (stA js 5).2 0 (t0T (stA js 5).1) (plN x n)).q.rd=[]
 e:∀k,k<n->(d7 (stA js 5).2 0 (t0T (stA js 5).1) (plN x n)).e k=(dK ⟨tlJ js,plX x⟩ n).e k
theorem rT{js:Nat->List Nat}(H:gY js)(x:Nat->Int):∀n,Pq js x n
 |0=>⟨QI,vR H,rfl,λk h=>absurd h (by lia)⟩
 |n+1=>by
  have M:=rT H x n
  have T:=CO H (pl:=plX x) (k:=n) (t:=d7 (stA js 5).2 0 (t0T (stA js 5).1) (plN x n)) (u:=dK ⟨tlJ js,plX x⟩ n) (kO (x n)) rfl M.i M.r
  have e1:d7 (stA js 5).2 0 (t0T (stA js 5).1) (plN x (n+1))=eG (stA js 5).2 n (d7 (stA js 5).2 0 (t0T (stA js 5).1) (plN x n)) (fg (x n)):=by
   rw[plN,qM,j8,Nat.zero_add]
  refine⟨pY _ _ _ _ _ M.g T.good,by rw[e1];exact T.inv,by rw[e1];exact T.rd,λk hk=>?_⟩
  rw[e1]
  show upd _ n _ k=upd _ n _ k
  rw[T.ent]
  by_cases q:k=n
  .subst q;rw[b7,b7]
  .rw[eJ _ _ q,eJ _ _ q];exact M.e k (by lia)
theorem jU{e e':Ent}:∀n,(∀k,k<n->e k=e' k)->dH e n=dH e' n
 |0,_=>rfl
 |n+1,h=>by rw[dH,dH,jU n λk hk=>h k (by lia),h n (by lia)]
theorem x8{js:Nat->List Nat}(H:gY js)(x:Nat->Int)(n:Nat)(hk:(dH (dK ⟨tlJ js,plX x⟩ n).e n).all (kqdOk 8)=QF):uG js x n:=
 ⟨Ab H,mO H,zD H,(rT H x n).g,jU n (rT H x n).e,hk⟩
theorem jA{y:Str}:∀(zs w:List Str),y∈cF w zs->y∈zs
 |[],_,h=>h
 |z::r,w,h=>by
  rw[gE]at h
  cases e:af z w with
  |true=>rw[e]at h;exact .tail _ (jA r _ h)
  |false=>
   rw[e]at h
   rcases Qb.mp h with h|h
   .rw[h];exact Qj
   .exact .tail _ (jA r _ h)
theorem uN{js:Nat->List Nat}(x:Nat->Int):∀n k,k<n->(∀y∈((dK ⟨tlJ js,plX x⟩ n).e k).1,y∈nms)/\(∀y∈((dK ⟨tlJ js,plX x⟩ n).e k).2,y∈nms)
 |0,k,h=>absurd h (by lia)
 |n+1,k,h=>by
  have ih:=uN (js:=js) x n
  have hwd:(wD ⟨tlJ js,plX x⟩ (dK ⟨tlJ js,plX x⟩ n)).Nodup:=zk 5 (PX _)
  have hwm:∀y∈wD ⟨tlJ js,plX x⟩ (dK ⟨tlJ js,plX x⟩ n),y∈nms:=λy hy=>by
   obtain⟨i,a,rfl,_⟩:=(nE 5).mp hy
   exact jd i a
  show(∀y∈(upd (dK ⟨tlJ js,plX x⟩ n).e n _ k).1,y∈nms)/\(∀y∈(upd (dK ⟨tlJ js,plX x⟩ n).e n _ k).2,y∈nms)
  by_cases q:k=n
  .subst q
   rw[b7]
   refine⟨λy hy=>?_,λy hy=>?_⟩
   .exact hwm y (List.mem_filter.mp ((cM _).mem_iff.mp hy)).1
   .have h2:=(cM _).mem_iff.mp hy
    unfold erF at h2
    have R:=kO (x k)
    rw[ow hwd (plX x k) R.ne R.nl]at h2
    exact R.nn y (jA _ _ h2)
  .rw[eJ _ _ q]
   exact ih k (by lia)
theorem IF:∀y∈nms,kqdOk 6 (.str y)=QF:=by
 intro y hy
 simp only[nms,Qb,Qi,or_false]at hy
 rcases hy with rfl|rfl|rfl|rfl|rfl<;>decide+kernel
theorem vh{l:List Str}(h:∀y∈l,y∈nms):kqdOk 7 (.list (l.map Dat.str))=QF:=by
 show(l.map Dat.str).all (kqdOk 6)=QF
 rw[List.all_eq_true]
 intro d hd
 obtain⟨y,hy,rfl⟩:=Qe.mp hd
 exact IF y (h y hy)
theorem JZ{a b:List Str}(h1:∀y∈a,y∈nms)(h2:∀y∈b,y∈nms):kqdOk 8 (.tuple [.list (a.map Dat.str), .list (b.map Dat.str)])=QF:=by
 show[Dat.list (a.map Dat.str), .list (b.map Dat.str)].all (kqdOk 7)=QF
 rw[List.all_cons,List.all_cons,vh h1,vh h2];rfl
theorem uv{e:Ent}:∀n,(∀k,k<n->(∀y∈(e k).1,y∈nms)/\(∀y∈(e k).2,y∈nms))->(dH e n).all (kqdOk 8)=QF
 |0,_=>rfl
 |n+1,h=>by
  rw[dH,List.all_append,uv n λk hk=>h k (by lia),List.all_cons,JZ (h n (by lia)).1 (h n (by lia)).2];rfl
theorem Bx(b:Nat->Bool)(x:Nat->Int)(n:Nat):uG (jsK b) x n:=x8 (LQ b) x n (uv n (uN x n))
theorem Ep(hw:rwl.row.toRowW.promised):rwl.Holds:=yk hw λb x n _ _=>Bx b x n
theorem Dp:rwl.row.toRowW.promised:=RowW.promised_of_found (by decide+kernel)
theorem nb0350_01_is:PySem.Challenge.rw_nb0350_01.Holds:=Ep Dp
end
end Mine
theorem PySem.Challenge.cw_nb0350_01_holds : PySem.Challenge.rw_nb0350_01.Holds :=
  Mine.nb0350_01_is
