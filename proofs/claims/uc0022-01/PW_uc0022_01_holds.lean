import PyProof.Rows.All
import Wide.All
import OpenK.AllK
import Wide.FinOn
import Lean
import PySem.Challenge.RW_uc0022_01
set_option Elab.async false
set_option maxRecDepth 100000
set_option linter.all false
set_option genSizeOf false
set_option genInjectivity false
section
open PySem PySem.Calls PySem.W PyProof.Rows
namespace Mine
universe u v
def sR:Lean.Syntax:=Lean.Unhygienic.run `(tacticSeq| rfl)
noncomputable abbrev aa:=@Nat.le_trans
theorem ae{α:Type u}{a:α}{s t:List α}:a∈s++t->a∈s∨a∈t:=List.mem_append.mp
noncomputable abbrev af:=@List.mem_append_right
noncomputable abbrev ah:=@Nat.lt_of_le_of_lt
theorem ak{α:Type u}{a b:α}:a∈[b]->a=b:=List.mem_singleton.mp
noncomputable abbrev al:=@List.mem_cons_of_mem
noncomputable abbrev am:=@Nat.le_refl
noncomputable abbrev ao:=@Heap.get?_push_of_some
noncomputable abbrev aq:=@List.mem_cons_self
noncomputable abbrev au:=@List.mem_append_left
noncomputable abbrev av:=@Nat.le_of_ble_eq_true
theorem aw:¬false=true:=Bool.false_ne_true
noncomputable abbrev ax:=@Nat.le_add_right
noncomputable abbrev ay:=@Nat.add_le_add
noncomputable abbrev az:=@Nat.add_le_add_right
noncomputable abbrev aC:=@Nat.le_of_lt_succ
noncomputable abbrev aG:=@Nat.le_of_lt
theorem aI{α:Type u}{a b:α}{l:List α}:a∈b::l->a=b∨a∈l:=List.mem_cons.mp
noncomputable abbrev aK:=@Heap.get?_none_of_le
noncomputable abbrev aQ:=@Nat.add_le_add_left
noncomputable abbrev aS:=@Nat.succ_le_succ
noncomputable abbrev aT:=@List.mem_of_getElem?
noncomputable abbrev aU:=@Nat.le_of_eq
noncomputable abbrev aX:=@Heap.get?_push_size
noncomputable abbrev a5:=@Prod.mk.inj
noncomputable abbrev a7:=@Nat.lt_succ_self
noncomputable abbrev a9:=@Nat.lt_trans
noncomputable abbrev ba:=@Nat.mul_le_mul_right
noncomputable abbrev bc:=@Nat.mul_le_mul_left
noncomputable abbrev bd:=@Int.le_trans
noncomputable abbrev bf:=@Int.natCast_nonneg
noncomputable abbrev bg:=@Nat.add_right_comm
theorem bj{α:Type u}{p:α->Bool}{l:List α}:l.all p=true->∀x∈l,p x=true:=List.all_eq_true.mp
theorem bk{m n:Nat}:m≤n->(m:Int)≤n:=Int.ofNat_le.mpr
theorem bo{α:Type u}{β:Type v}{f:α->β}{b:β}{l:List α}:b∈l.map f->∃a,a∈l∧f a=b:=List.mem_map.mp
noncomputable abbrev bp:=@wpAny_bind
noncomputable abbrev bq:=@wpAny_mono
noncomputable abbrev br:=@wpAny_pure
noncomputable abbrev bu:=@Nat.lt_of_lt_of_le
noncomputable abbrev bv:=@List.not_mem_nil
noncomputable abbrev bw:=@Nat.not_lt_zero
noncomputable abbrev bx:=@Nat.le_succ
noncomputable abbrev bB:=@Nat.ne_of_gt
noncomputable abbrev bD:=@Nat.mod_lt
noncomputable abbrev bE:=@List.mem_of_mem_take
noncomputable abbrev bG:=@Nat.lt_of_succ_lt_succ
theorem bH{α:Type u}{a b:List α}:(a++b).length=a.length+b.length:=List.length_append
theorem bI{α:Type u}{β:Type v}{l:List α}(f:α->β):(l.map f).length=l.length:=List.length_map f
theorem bJ{α:Type u}(a b c:List α):a++b++c=a++(b++c):=List.append_assoc a b c
theorem bL{α:Type u}{n:Nat}{a:α}:(List.replicate n a).length=n:=List.length_replicate
theorem bM{α:Type u}(a:List α):a++[]=a:=List.append_nil a
theorem bP{α:Type u}{β:Type v}{f:α->β}{a:α}{l:List α}:(a::l).map f=f a::l.map f:=List.map_cons
noncomputable abbrev bQ:=@Nat.lt_succ_of_le
noncomputable abbrev bR:=@Nat.le_of_succ_le
theorem bY{a b:Int}:¬a<b->b≤a:=Int.not_lt.mp
noncomputable abbrev bZ:=@Nat.zero_le
theorem b4{α:Type u}{a b:α}{n:Nat}:b∈List.replicate n a->n≠0∧b=a:=List.mem_replicate.mp
noncomputable abbrev b5:=@Nat.sub_le
noncomputable abbrev b8:=@List.cons_ne_nil
theorem b9{a b:Nat}(h:autoParam (Nat.ble a b=true) sR):a≤b:=Nat.le_of_ble_eq_true h
theorem cps{P:Prop}(h:∀G:Prop,(P->G)->G):P:=h P id
theorem kP{C:Prop}(h:false=true):C:=nomatch h
theorem bT{C:Prop}(h:a∈[]):C:=nomatch h
theorem ar{C:Prop}(h:none=some x):C:=nomatch h
mutual
inductive RD(h:Heap):Value->PyData->List Addr->Prop
|none:RD h .none .none []
|bool (b:Bool):RD h (.bool b) (.bool b) []
|int (i:Int) (t:Tok):RD h (.int i t) (.int i) []
|str (x:Str) (t:Tok):PyData.strOk x=true->RD h (.str x t) (.str x) []
|list {a o vs n xs as}:h.get? a=some o->o.cls=.type "list"->o.dict=none->o.slots=#[]->o.data=.seq vs n->bz h vs.toList xs as->RD h (.ref a) (.list xs) (a::as)
|tuple {a o vs n xs as}:h.get? a=some o->o.cls=.type "tuple"->o.data=.seq vs n->bz h vs.toList xs as->RD h (.ref a) (.tuple xs) (a::as)
inductive bz(h:Heap):List Value->List PyData->List Addr->Prop
|nil:bz h [] [] []
|cons {v vs d ds as bs}:RD h v d as->bz h vs ds bs->bz h (v::vs) (d::ds) (as++bs)
end
inductive PV where
|dat (d:PyData)
|obj (i:Nat)
|gH (i:Nat)
|objs (lst:Bool) (l:List Nat)
inductive MO where
|lst (l:List PyData)
|ins (C:Addr) (at_:List (Nat×PV))
|cH (self:Nat) (f:Addr) (done:Bool)
|tab (a:Addr) (fresh:Bool)
abbrev aJ:=List (Addr×Addr)
abbrev bF(ρ:aJ):List Addr:=ρ.map (·.2)
noncomputable def an:Nat->Str
|0=>"instream"|1=>"lineno"|2=>"whitespace"|3=>"pushback"
|4=>"raw"|5=>"n"|6=>"nt"|7=>"norm"|8=>"is_simple"|_=>"read"
noncomputable def readBody(P:Nat->Pos):List Stmt:=[.Return (some (.IfExp (.Name "signs" (P 0)) (.Call (.Attribute (.Name "signs" (P 1)) "pop" (P 2)) [.Constant (.int 0) 0 (P 3)] [] (P 4)) (.Constant (.str "") 0 (P 5)) (P 6))) (P 7)]
noncomputable def oF:Scope:={kind:=.function,names:=[("size",.local),("signs",.free)],isGenerator:=false,isCoroutine:=false,more:=[]}
noncomputable def L9(fd:FuncData)(c cc:Addr):Prop:=fd.closure=[(("signs":Str),c)]∧fd.globals=mainGlobals∧fd.builtins=builtinsNs∧fd.scope=oF∧(∃P,fd.body=.stmts (readBody P)∧((P 2).endLine==(P 4).line)=true) ∧
 (∃p,fd.params=⟨[],[⟨"size",none,p⟩],none,[],[],none,[]⟩)∧fd.defaults=.none∧fd.kwdefaults=.none∧fd.code=.ref cc
inductive Lk(h:Heap)(a g:Addr)(fs:List Addr):Prop
|mk (o lX:Obj) (d r c cc:Addr) (fd:FuncData):fs=[a,d,r,c,cc]->h.get? a=some o->o.cls=.type "function"->(∃f,o.data=.func f)->o.dict=some d->h.Ns d (λx=>if x="read" then some (.ref r)else none) ->
  h.get? r=some lX->lX.cls=.type "function"->lX.data=.func fd->L9 fd c cc->h.IsCell c (some (.ref g))->h.CodeRec (.ref cc) fd.qualname->Lk h a g fs
structure uJ(h:Heap)(a g:Addr)(fs:List Addr):Prop where
 ex:Lk h a g fs
inductive KI(ρ:aJ)(Z:List Addr)(h:Heap)(lst:Bool)(l:List Nat)(v:Value):Prop
|mk (a:Addr) (o:Obj) (vs:Array Value) (n:Nat):v=Value.ref a->h.get? a=some o->o.cls=.type (if lst then "list" else "tuple")->o.data=.seq vs n->vs.size=l.length ->
  (∀(k i:Nat),l[k]?=some i->∃x y,vs[k]?=some (Value.ref x)∧ρ[i]?=some (x,y))->a∉bF ρ->a∉Z->KI ρ Z h lst l v
noncomputable def VR(ρ:aJ)(Z:List Addr)(h:Heap):PV->Value->Prop
|.dat d,v=>∃as,RD h v d as∧∀a∈as,a∉bF ρ∧a∉Z
|.obj i,v=>∃r b,ρ[i]?=some (r,b)∧v=.ref r
|.gH i,v=>∃r b a fs,ρ[i]?=some (r,b)∧v=.ref a∧uJ h a r fs∧∀a∈fs,a∉bF ρ∧a∉Z
|.objs lst l,v=>KI ρ Z h lst l v
structure Ext(X:List Addr)(ρ:aJ)(s:Shared)(aA:aJ)(s':Shared):Prop where
 more:∃e,aA=ρ++e∧∀p∈e,s.heap.get? p.2=none
 heap:∀b o,b∉bF ρ->b∉X->s.heap.get? b=some o->s'.heap.get? b=some o
 live:∀b o,s.heap.get? b=some o->∃o',s'.heap.get? b=some o'
 drawn:s'.drawn=s.drawn
 os:s'.os=s.os
 gens:∀(g:Nat) (st:GenState),s.gens[g]?=some st->s'.gens[g]?=some st
 bare:AllBare s.gens->AllBare s'.gens
noncomputable def qx(m:Addr)(t:Tok)(done:Bool):Obj:={cls:=.type "callable_iterator",data:=.fields (if done then #[.none,.none,.bool true]else #[.ref m,.str ⟨⟨[]⟩⟩ t,.bool false])}
noncomputable def qS(f r:Addr):Obj:={cls:=.type "method",data:=.fields #[.ref f,.ref r]}
inductive CV(ρ:aJ)(Z:List Addr)(h:Heap)(r b:Addr)(l:List PyData):Prop
|mk:r=b->∀(o:Obj) (vs:Array Value) (n:Nat) (as:List Addr),h.get? b=some o->o.cls=.type "list"->o.dict=none->o.slots=#[]->o.data=.seq vs n->bz h vs.toList l as->(∀a∈as,a∉bF ρ∧a∉Z)->CV ρ Z h r b l
inductive DJ(ρ:aJ)(Z:List Addr)(h:Heap)(r b C:Addr)(bK:List (Nat×PV)):Prop
|mk:r∉bF ρ->r∉Z->∀(o:Obj) (mA:Str->Option Value),h.get? r=some o->o.cls=.ref C->(∀c,o.data≠.cls c)->o.dict=some b->b≠r->h.Ns1 b mA->(∀p∈bK,∃v,mA (an p.1)=some v∧VR ρ Z h p.2 v)->(∀x,(∀p∈bK,x≠an p.1)->mA x=none)->DJ ρ Z h r b C bK
inductive C2(ρ:aJ)(Z:List Addr)(h:Heap)(r b:Addr)(i:Nat)(f:Addr)(done:Bool):Prop
|mk:r=b->∀(m:Addr) (t:Tok) (x y:Addr),ρ[i]?=some (x,y)->m∉bF ρ->m∉Z->h.get? m=some (qS f x)->h.get? b=some (qx m t done)->C2 ρ Z h r b i f done
noncomputable def MR(ρ:aJ)(Z:List Addr)(h:Heap)(r b:Addr):MO->Prop
|.lst l=>CV ρ Z h r b l
|.ins C bK=>DJ ρ Z h r b C bK
|.cH i f done=>C2 ρ Z h r b i f done
|.tab a fr=>r=b∧b=a∧∃vs,h.get? b=some (PySem.W.X.tableObj vs)∧(fr=true->vs=#[])
inductive rZ(ρ:aJ)(Z:List Addr)(h:Heap)(i:Nat)(mo:MO):Prop
|mk (r b:Addr):ρ[i]?=some (r,b)->MR ρ Z h r b mo->rZ ρ Z h i mo
structure HR(ρ:aJ)(Z:List Addr)(hp:List MO)(h:Heap):Prop where
 len:ρ.length=hp.length
 nodup:(bF ρ).Nodup
 fZ:∀b∈bF ρ,b∉Z
 iI:∀a∈Z,∃o,h.get? a=some o
 at_:∀(i:Nat) (mo:MO),hp[i]?=some mo->rZ ρ Z h i mo
noncomputable def dl(K:Addr->Option Obj)(h:Heap):Prop:=∀a o,K a=some o->h.get? a=some o
structure cJ(A:Around)(k:Nat):Prop where
 handled:A.handled=none
 depth:A.depth+k < 900
 units:A.units+40*k < 9000
section
variable (prog:Program)(w:World)(K:Addr->Option Obj)
noncomputable def cE(ρ:aJ)(Z:List Addr)(s:Shared)(pv:PV)(ai:List MO)(v:Value)(s':Shared):Prop :=
 ∃aA,Ext [] ρ s aA s'∧VR aA Z s'.heap pv v∧HR aA Z ai s'.heap
abbrev a8:Value->Shared->Prop:=λ_ _=>False
end
inductive cU(ρ:aJ)(Z:List Addr)(h:Heap):List PV->List Value->Prop
|nil:cU ρ Z h [] []
|cons {p v ps vs}:VR ρ Z h p v->cU ρ Z h ps vs->cU ρ Z h (p::ps) (v::vs)
structure Gl(K:Addr->Option Obj)(mg mb:Str->Option Value):Prop where
 g:∀h,dl K h->h.Ns mainGlobals mg
 b:∀h,dl K h->h.Ns builtinsNs mb
 lim:∀h,dl K h->h.NoLimit
abbrev cV:=List PV->List MO->Option (PV×List MO)
noncomputable def kJ(K:Addr->Option Obj)(ρ:aJ)(Z:List Addr):Prop:=∀a,K a≠none->a∉bF ρ∧a∉Z
structure tJ(prog:Program)(w:World)(K:Addr->Option Obj)(a:Addr)(k:Nat)(G:cV):Prop where
 run:∀(A:Around) (ρ:aJ) (Z:List Addr) (hp:List MO) (s:Shared) (ps:List PV) (vs:List Value) (pv:PV) (ai:List MO),cJ A k->HR ρ Z hp s.heap->dl K s.heap->kJ K ρ Z->cU ρ Z s.heap ps vs->G ps hp=some (pv,ai) ->
  wpAny (model prog w) A (call (.ref a) vs) (cE ρ Z s pv ai) a8 s
section
variable {prog:Program}{w:World}{K:Addr->Option Obj}{O:Fx}{mg mb:Str->Option Value}{A:Around}
inductive Pa(K:Addr->Option Obj)(C:Addr)(mN:Str->Option Value):Prop
|mk (nm q:Str) (N:Addr) (bs:List Value) (sn:List Str) (sub:List Value) (col:Option Bool) (dd:Option Addr) (k0 k1 k2 k3 k5:Option Value) :
  K C=some (excClassObj nm q C N bs [.type "object"] true sn sub false col dd k0 k1 k2 k3 k5 "object.__new__")->(∀h,dl K h->h.Ns N mN)->Pa K C mN
structure jJ(K:Addr->Option Obj)(C:Addr)(mN:Str->Option Value):Prop where
 ex:Pa K C mN
 ga:mN "__getattribute__"=none
 gh:mN "__getattr__"=none
 sa:mN "__setattr__"=none
end
end Mine
end
section
open PySem PySem.Sre
namespace Mine
noncomputable def dc:Array Nat:=#[14,9,4,1,2,16,10,16,13,0,7,7,16,13,16,10,15,18,5,16,10,15,13,11,16,13,5,5,0,16,10,1,15,2,0,1]
noncomputable def je:Array Nat:=#[14,4,0,1,1,6,1,16,46,1]
end Mine
end
section
open PySem PySem.Sre PySem.Builtin.Re PySem.Calls PyProof.Rows open Builtin Builtin.Str
namespace Mine
inductive H7(h:Heap)(pa ca:Addr)(code:Array Nat):Prop
|mk (o oc:Obj) (x:PySem.Str) (t t1 t2 t3:Tok) (fl:Int) (vs:Array Value) (n:Nat):h.get? pa=some o->o.cls=.type "re.Pattern"->o.dict=none->o.data=.fields #[.str x t,.int fl t1,.int 0 t2,.none,.none,.ref ca,.int 0 t3] ->
  h.get? ca=some oc->oc.data=.seq vs n->(vs.map reRawOf).map (·.toNat)=code->H7 h pa ca code
structure oH(h:Heap)(pa ca:Addr)(code:Array Nat):Prop where
 ex:H7 h pa ca code
end Mine
end
section
open PySem PySem.Calls PySem.W PyProof.Rows
namespace Mine
noncomputable def Stmt.parts:Stmt->Str×Arguments×List Stmt×List Stmt×Scope
|.FunctionDef n args body _ _ _ scope ..=>(n,args,body,[],scope)
|.ClassDef _ _ _ body ..=>("",⟨[],[],none,[],[],none,[]⟩,body,[],oF)
|.For _ _ b _ _=>("",⟨[],[],none,[],[],none,[]⟩,b,[],oF)
|.If _ b e _=>("",⟨[],[],none,[],[],none,[]⟩,b,e,oF)
|_=>("",⟨[],[],none,[],[],none,[]⟩,[],[],oF)
noncomputable def Stmt.params(s:Stmt):Arguments:=(Stmt.parts s).2.1
noncomputable def Stmt.bodyOf(s:Stmt):List Stmt:=(Stmt.parts s).2.2.1
noncomputable def Stmt.mG(s:Stmt):Scope:=(Stmt.parts s).2.2.2.2
noncomputable def Stmt.nameOf(s:Stmt):Str:=(Stmt.parts s).1
noncomputable def fdOf(st:Stmt)(q:Str)(pm code doc:Value):FuncData :=
 {name:=Stmt.nameOf st,qualname:=q,params:=Stmt.params st,body:=.stmts (Stmt.bodyOf st),scope:=Stmt.mG st,globals:=mainGlobals,closure:=[],defaults:=.none,kwdefaults:=.none,doc,pyModule:=pm,code,builtins:=builtinsNs}
inductive FnAt(K:Addr->Option Obj)(a:Addr)(st:Stmt):Prop
|mk (o:Obj) (q:Str) (pm:Value) (c:Addr) (doc:Value):K a=some o->o.cls=.type "function"->o.data=.func (fdOf st q pm (.ref c) doc)->(∀h,dl K h->h.CodeRec (.ref c) q)->FnAt K a st
noncomputable def qC(P N a:Addr):Bool:=!(a==P)&&decide (a < N)
noncomputable def K0(P N:Addr)(h:Heap):Addr->Option Obj:=λa=>if qC P N a then h.get? a else none
noncomputable def PZ(o:Option Obj):Array DictEntry:=match o with
|some ⟨_,_,.dict es _,_⟩=>es
|_=>#[]
noncomputable def Ej:Option Value->Tok
|some (.str _ t)=>t
|_=>0
noncomputable def sS{h:Heap}{t:PySem.W.X.KT}(_:PySem.W.X.KT.Holds h 1 0 t)(a:Addr):Str->Option Value:=nsFind (PZ (t.get a))
section
variable {h h':Heap}{P N:Addr}
noncomputable def Mf{Kf:Frag}(_:Kf.In h)(P N:Addr):Frag:=Kf.filter λq=>qC P N q.1
theorem w6(e:qC P N a=true):K0 P N h a=h.get? a:=if_pos e
theorem o8(x:dl (K0 P N h) h')(e:h.get? a=some o)(ha:qC P N a=true):h'.get? a=some o:=x a o ((w6 ha).symm▸e)
theorem Sc:dl (K0 P N h) h:=λa o e=>by
 unfold K0 at e
 split at e
 ·exact e
 ·exact ar e
theorem wU(n:h.Ns a m)(ha:qC P N a=true)(x:dl (K0 P N h) h'):h'.Ns a m:=by
 obtain⟨o,es,ep,ho,r⟩:=n
 exact⟨o,es,ep,o8 x ho ha,r⟩
theorem MA(n:h.Ns a m)(e:h.get? a=some o)(hd:o.data=.dict es ep)(x):m x=nsFind es x:=by
 refine cps λ_ KK=>?_
 obtain⟨o',es',ep',ho,i0,_,r⟩:=n
 refine KK ?_
 replace ho:=e▸ho
 cases ho
 replace i0:=hd▸i0
 cases i0
 exact(r x).symm
noncomputable def XB(es:Array DictEntry):Bool:=es.toList.all λe=>match e.key with
|.str _ _=>true
|_=>false
theorem Lv(e:h.get? a=some o)(hd:o.data=.dict es ep)(hk:XB es=true):h.Ns a (nsFind es):=by
 refine⟨o,es,ep,e,hd,λx hx=>?_,λ_=>rfl⟩
 have:=bj hk x (Array.mem_toList_iff.mpr hx)
 revert this
 cases x.key<;>intro q<;>first|exact⟨_,_,rfl⟩|cases q
theorem jQ{a c:Addr}{o oc:Obj}{st:Stmt}{q:Str}{pm doc:Value}{vs:Array Value}{tq:Tok}(e:h.get? a=some o)(ha:qC P N a=true)(hc:o.cls=.type "function")(hd:o.data=.func (fdOf st q pm (.ref c) doc))(e2:h.get? c=some oc)(GS:qC P N c=true)(hv:oc.data=.fields vs)(hq:vs[1]?=some (.str q tq)):FnAt (K0 P N h) a st :=
 ⟨o,q,pm,c,doc,(w6 ha).trans e,hc,hd,λh' x=>⟨c,oc,vs,tq,rfl,o8 x e2 GS,hv,hq⟩⟩
theorem FO{α:Type}(p:Nat->Bool):∀(l:List (Nat×α)) (a:Nat) (o:α),(l.filter λq=>p q.1).lookup a=some o->p a=true∧l.lookup a=some o
|[],_,_,e=>ar e
|(b,x)::l,a,o,e=>by
  cases hb:p b with
 |false =>
   rw[List.filter_cons_of_neg (p:=λq:Nat×α=>p q.1) (a:=(b,x)) (hb.symm▸(aw))]at e
   obtain⟨h1,h2⟩:=FO p l a o e
   refine⟨h1,?_⟩
   rw[List.lookup_cons]
   have:(a==b)=false:=by
    rw[beq_eq_false_iff_ne]
    intro q
    replace h1:=hb▸q▸h1
    exact kP h1
   refine this.symm▸?_
   exact h2
 |true =>
   rw[List.filter_cons_of_pos (p:=λq:Nat×α=>p q.1) (a:=(b,x)) hb,List.lookup_cons]at e
   rw[List.lookup_cons]
   cases hq:a==b with
  |true =>
    replace e:=hq▸e
    refine(eq_of_beq hq).symm▸?_
    exact⟨hb,e⟩
  |false =>
    replace e:=hq▸e
    exact FO p l a o e
theorem SI{Kf:Frag}(x:Kf.In h):∀h',dl (K0 P N h) h'->Frag.In (Mf x P N) h':=λh' t a o e=>by
 obtain⟨h1,h2⟩:=FO (qC P N) Kf a o e
 exact o8 t (x a o h2) h1
theorem Zs(e:IntsAre vs xs):bz h vs (xs.map .int) []:=by
 induction e with
|nil=>exact .nil
|cons n t _ ih=>exact .cons (.int n t) ih
theorem Xm(hk:k≤100)(hf:tJ p w (K0 P N s_1.heap) f k G)
  (hG:G [.dat (.list (dh.map .int))] [.tab P true]=some (.dat (.bool true),[.tab P false])) (h1:s_1.heap.get? P=some (PySem.W.X.tableObj #[])) (Tn:P≠L) (hLN:N≤L) (ht:isCodeTable s_1.heap P)
  (h2:s_1.heap.get? L=some {cls:=.type "list",data:=.seq its}) (hi:IntsAre its.toList dh) (hb:AllBare s_1.gens) (hr:∀cls,c.raises args cls=false) (hp:c.post args (.bool true) args=true) :
  wpAny (model p w) callerA (call (.ref f) [.ref L]) (λv s'=>GoodWG c cl Tp args s_1 (.ok (.ret v)) s') (λe s'=>GoodWG c cl Tp args s_1 (.error e) s') s_1:=by
 have H:HR [(P,P)] [] [.tab P true] s_1.heap:=⟨rfl,by simp,λ_ _ h=>(bT h),λ_ h=>(bT h),λi mo e=>by
  match i,e with
 |0,e=>cases e;exact⟨P,P,rfl,rfl,rfl,#[],h1,λ_=>rfl⟩⟩
 have V:cU [(P,P)] [] s_1.heap [.dat (.list (dh.map .int))] [.ref L]:=by
  refine .cons ⟨[L],.list h2 rfl rfl rfl rfl (Zs hi),λa ha=>⟨λm=>?_,λm=>(bT m)⟩⟩ .nil
  simp at ha m
  exact Tn (m.symm.trans ha)
 have off:kJ (K0 P N s_1.heap) [(P,P)] []:=λa ha=>⟨λm=>by
  simp at m
  refine ha ?_
  unfold K0 qC
  refine m.symm▸?_
  simp,λm=>(bT m)⟩
 refine bq (hf.run callerA [(P,P)] [] _ s_1 _ _ _ _ ⟨rfl,?_,?_⟩ H Sc off V hG) (λv s' q=>?_) λ_ _ q=>q.elim
 ·show 1+claimMargin+k < 900
  have:claimMargin≤700:=by decide
  exact ah (ay (aQ this 1) hk) b9
 ·show 4+40*k < 9000
  exact ah (aQ (bc 40 hk) 4) b9
 ·obtain⟨aA,x,⟨as,rv,_⟩,H'⟩:=q
  cases rv
  refine⟨.inl ⟨_,_,[],rfl,hr,ReadsW.bool true,hp,λ_=>⟨List.nodup_nil,λ_ hm=>(nomatch hm)⟩⟩,⟨λb o e=>?_,λb o e=>x.live b o e⟩,x.os,x.bare hb⟩
  by_cases xG:b=P
  ·subst xG
   obtain⟨e',rfl,_⟩:=x.more
   obtain⟨r,b',pd,hm⟩:=H'.at_ 0 _ rfl
   cases pd
   obtain⟨_,_,vs,hv,_⟩:=hm
   replace e:=h1▸e
   cases e
   exact .inr (.inl ⟨ht,rfl,#[],vs,rfl,by rw[hv];simp[PySem.W.X.tableObj]⟩)
  ·exact .inl (x.heap b o (λm=>by simp at m;exact xG m) (λm=>(bT m)) e)
end
noncomputable def iq(i:Nat):Stmt:=(PySem.Challenge.pw_uc0022_01.main.body)[i]?.getD (.Pass ⟨0,0,0,0⟩)
noncomputable def stM(c m:Nat):Stmt:=(Stmt.bodyOf (iq c))[m]?.getD (.Pass ⟨0,0,0,0⟩)
set_option genInjectivity false in
set_option genSizeOf false in
structure Tab(K:Addr->Option Obj)(mg mb:Str->Option Value) where
 mL:Str->Option Value
 mW:Str->Option Value
 Kf:Frag
 mc:Value
 tC:Tok
 tS:Tok
 tT:Tok
 gl:Gl K mg mb
 JN:mg "len"=none
 Nv:mb "len"=some (.builtin "len")
 Ol:mg "sum"=none
 J5:mb "sum"=some (.builtin "sum")
 NY:mg "int"=none
 Lu:mb "int"=some (.type "int")
 Os:mg "tuple"=none
 Ma:mb "tuple"=some (.type "tuple")
 O8:mg "list"=none
 OS:mb "list"=some (.type "list")
 A0:mg "max"=none
 y7:mb "max"=some (.builtin "max")
 Nt:mg "min"=none
 Kk:mb "min"=some (.builtin "min")
 XX:mg "sorted"=none
 aaM:mb "sorted"=some (.builtin "sorted")
 Ko:mg "iter"=none
 MX:mb "iter"=some (.builtin "iter")
 yw:mg "enumerate"=none
 yu:mb "enumerate"=some (.type "enumerate")
 Wt:mg "zip"=none
 Vc:mb "zip"=some (.type "zip")
 DL:mg "range"=none
 Ct:mb "range"=some (.type "range")
 C5:FnAt K 111 (iq 5)
 Eb:mg "_iter_escaped_chars"=some (.ref 111)
 EW:FnAt K 118 (iq 6)
 M7:mg "_strip_quoted_realnames"=some (.ref 118)
 z8:FnAt K 125 (iq 7)
 Ez:mg "_check_parenthesis"=some (.ref 125)
 FL:FnAt K 184 (iq 14)
 Js:mg "quotedata"=some (.ref 184)
 MH:FnAt K 191 (iq 16)
 N5:mg "_law_lexer"=some (.ref 191)
 EE:FnAt K 196 (iq 17)
 Nr:mg "_law_couple"=some (.ref 196)
 uC:FnAt K 201 (iq 18)
 xW:mg "_law_lead"=some (.ref 201)
 LE:FnAt K 206 (iq 19)
 V9:mg "law"=some (.ref 206)
 ER:FnAt K 139 (stM 9 0)
 Jo:mL "__init__"=some (.ref 139)
 sE:FnAt K 146 (stM 9 1)
 Dl:mL "_read_char"=some (.ref 146)
 Fh:FnAt K 153 (stM 9 2)
 Kh:mL "get_token"=some (.ref 153)
 DX:FnAt K 160 (stM 9 3)
 HD:mL "push_token"=some (.ref 160)
 FA:FnAt K 55 (stM 3 1)
 O6:mW "__init__"=some (.ref 55)
 BG:FnAt K 62 (stM 3 2)
 EX:mW "longest_run_of_spaces"=some (.ref 62)
 GR:FnAt K 69 (stM 3 3)
 Nq:mW "indent_level"=some (.ref 69)
 D5:FnAt K 83 (stM 3 5)
 J7:mW "not_equal_witness"=some (.ref 83)
 cL:jJ K 163 mL
 aL:∀j,j≤9->mL (an j)=none
 Ia:mg "_netrclex"=some (.ref 163)
 cW:jJ K 100 mW
 aW:∀j,j≤9->mW (an j)=none
 Ce:mg "Whitespace"=some (.ref 100)
 Ng:∀h,dl K h->oH h 172 171 je
 Oi:∀h,dl K h->oH h 177 176 dc
 L5:mg "_twin_re_1"=some (.ref 172)
 IO:mg "_twin_re_2"=some (.ref 177)
 L7:mg "CRLF"=some (.str "\r\n" tC)
 cX:∀h,dl K h->Kf.In h
 cR:readsIn Kf 100 mc=true
 Pf:findCls Kf (.ref 100) mc "S"=some (.val (.str " " tS))
 O0:findCls Kf (.ref 100) mc "T"=some (.val (.str "\t" tT))
 Ld:∃o q pm doc,K 191=some o∧o.cls=.type "function"∧o.data=.func (fdOf (iq 16) q pm (.ref 190) doc)∧∀h,dl K h->h.CodeRec (.ref 190) q
 hC:∀h,dl K h->CodeHd h 190 186
 hB:∀h,dl K h->h.BuiltinsAt mg 186
theorem le0{P:Nat->Prop}(h:P 0):∀j,j≤0->P j:=λ_ q=>Nat.le_zero.mp q▸h
theorem qD{P:Nat->Prop}{n:Nat}(h:∀j,j≤n->P j)(k:P (n+1)):∀j,j≤n+1->P j:=λj q=>(Nat.lt_or_eq_of_le q).elim (λq=>h j (aC q)) λe=>e▸k
theorem EO{P:Nat->Prop}(h0:P 0)(h1:P 1)(h2:P 2)(h3:P 3)(h4:P 4)(h5:P 5)(h6:P 6)(h7:P 7)(h8:P 8)(h9:P 9):∀j,j≤9->P j:=qD (qD (qD (qD (qD (qD (qD (qD (qD (le0 h0) h1) h2) h3) h4) h5) h6) h7) h8) h9
end Mine
end
section
open PySem PySem.Calls PySem.W PyProof.Rows PySem.W.X PySem.W.ZRun
def Mine.Q1:Prop:=∃F:Mine.cV,(∀{prog:Program} {w:World} {K:Addr->Option Obj} {mg mb:Str->Option Value},Mine.Tab K mg mb->Mine.tJ prog w K 206 9 F)∧∀dh:List Int,dh.length≤63->F [.dat (.list (dh.map .int))] [.tab 186 true]=some (.dat (.bool true),[.tab 186 false])
theorem Mine.ZL{A B:Prop}(q:A)(k:A->B):B:=k q
section
local macro_rules
|`(tactic| refine $f:ident $args*) =>
  if f.getId.eraseMacroScopes==`PySem.W.holds_openX&&(args.back?.map λa=>a.raw.isOfKind `Lean.Parser.Term.syntheticHole).getD false then do
   let a:Lean.TSyntax `term:=⟨args.back!.raw⟩
   let b ← `(Mine.ZL $(Lean.mkIdent `hQ) $a)
   let as:=args.pop.push ⟨b.raw⟩
   `(tactic| refine $f $as*)
  else Lean.Macro.throwUnsupported
set_option maxRecDepth 100000 in
set_option maxHeartbeats 8000000 in
theorem Mine.Ts(hQ:Mine.Q1):PySem.Challenge.rw_uc0022_01.Holds:=by
 w_on
 o_law
 z_head
 (case hw=>w_witness2)
 intro hQ
 k_fill
 intro w s_0 s_1 mg mb G y fa o pm cd doc dV kV ho hd hcd hD hmg hg args vals as L hpre hlay hrd hwl hlo
 z_open y L KX ZH ZN ZT
 refine Ground.open G ?_
 intro T B D TE TW
 wrow_args hpre hlay hrd hwl hlo
 obtain⟨hat,hsz⟩:=script_at L
 have htk:=script_toks L ZT
 rw[ZN]at hat hsz
 subst hat
 x_fa T KX hmg
 have Gm:∀x,mg x=Mine.sS ZH 3 x:=Mine.MA T.g (kt_at ZH (a:=3) (o:=_) rfl) rfl
 have Bn:∀x,mb x=Mine.sS ZH 0 x:=Mine.MA T.b (kt_at ZH (a:=0) (o:=_) rfl) rfl
 obtain⟨ml,nl1,nl2⟩:=T.nolimit
 have ng:=T.g
 have nb:=T.b
 have Tb:Mine.Tab (Mine.K0 186 207 s_1.heap) mg mb:={
  mL:=Mine.sS ZH 162
  mW:=Mine.sS ZH 99
  Kf:=Mine.Mf KX 186 207
  mc:=.type "type"
  tC:=Mine.Ej (Mine.sS ZH 3 "CRLF")
  tS:=Mine.Ej (Mine.sS ZH 99 "S")
  tT:=Mine.Ej (Mine.sS ZH 99 "T")
  gl:=⟨λ_ x=>Mine.wU ng rfl x,λ_ x=>Mine.wU nb rfl x,λ_ x=>⟨_,Mine.wU nl1 rfl x,nl2⟩⟩
  JN:=(Gm _).trans (by kernel_rfl)
  Nv:=(Bn _).trans (by kernel_rfl)
  Ol:=(Gm _).trans (by kernel_rfl)
  J5:=(Bn _).trans (by kernel_rfl)
  NY:=(Gm _).trans (by kernel_rfl)
  Lu:=(Bn _).trans (by kernel_rfl)
  Os:=(Gm _).trans (by kernel_rfl)
  Ma:=(Bn _).trans (by kernel_rfl)
  O8:=(Gm _).trans (by kernel_rfl)
  OS:=(Bn _).trans (by kernel_rfl)
  A0:=(Gm _).trans (by kernel_rfl)
  y7:=(Bn _).trans (by kernel_rfl)
  Nt:=(Gm _).trans (by kernel_rfl)
  Kk:=(Bn _).trans (by kernel_rfl)
  XX:=(Gm _).trans (by kernel_rfl)
  aaM:=(Bn _).trans (by kernel_rfl)
  Ko:=(Gm _).trans (by kernel_rfl)
  MX:=(Bn _).trans (by kernel_rfl)
  yw:=(Gm _).trans (by kernel_rfl)
  yu:=(Bn _).trans (by kernel_rfl)
  Wt:=(Gm _).trans (by kernel_rfl)
  Vc:=(Bn _).trans (by kernel_rfl)
  DL:=(Gm _).trans (by kernel_rfl)
  Ct:=(Bn _).trans (by kernel_rfl)
  C5:=Mine.jQ (kt_at ZH (a:=111) (o:=_) rfl) rfl rfl rfl (kt_at ZH (a:=110) (o:=_) rfl) rfl rfl rfl
  Eb:=(Gm _).trans (by kernel_rfl)
  EW:=Mine.jQ (kt_at ZH (a:=118) (o:=_) rfl) rfl rfl rfl (kt_at ZH (a:=117) (o:=_) rfl) rfl rfl rfl
  M7:=(Gm _).trans (by kernel_rfl)
  z8:=Mine.jQ (kt_at ZH (a:=125) (o:=_) rfl) rfl rfl rfl (kt_at ZH (a:=124) (o:=_) rfl) rfl rfl rfl
  Ez:=(Gm _).trans (by kernel_rfl)
  FL:=Mine.jQ (kt_at ZH (a:=184) (o:=_) rfl) rfl rfl rfl (kt_at ZH (a:=183) (o:=_) rfl) rfl rfl rfl
  Js:=(Gm _).trans (by kernel_rfl)
  MH:=Mine.jQ (kt_at ZH (a:=191) (o:=_) rfl) rfl rfl rfl (kt_at ZH (a:=190) (o:=_) rfl) rfl rfl rfl
  N5:=(Gm _).trans (by kernel_rfl)
  EE:=Mine.jQ (kt_at ZH (a:=196) (o:=_) rfl) rfl rfl rfl (kt_at ZH (a:=195) (o:=_) rfl) rfl rfl rfl
  Nr:=(Gm _).trans (by kernel_rfl)
  uC:=Mine.jQ (kt_at ZH (a:=201) (o:=_) rfl) rfl rfl rfl (kt_at ZH (a:=200) (o:=_) rfl) rfl rfl rfl
  xW:=(Gm _).trans (by kernel_rfl)
  LE:=Mine.jQ (kt_at ZH (a:=206) (o:=_) rfl) rfl rfl rfl (kt_at ZH (a:=205) (o:=_) rfl) rfl rfl rfl
  V9:=(Gm _).trans (by kernel_rfl)
  ER:=Mine.jQ (kt_at ZH (a:=139) (o:=_) rfl) rfl rfl rfl (kt_at ZH (a:=138) (o:=_) rfl) rfl rfl rfl
  Jo:=by kernel_rfl
  sE:=Mine.jQ (kt_at ZH (a:=146) (o:=_) rfl) rfl rfl rfl (kt_at ZH (a:=145) (o:=_) rfl) rfl rfl rfl
  Dl:=by kernel_rfl
  Fh:=Mine.jQ (kt_at ZH (a:=153) (o:=_) rfl) rfl rfl rfl (kt_at ZH (a:=152) (o:=_) rfl) rfl rfl rfl
  Kh:=by kernel_rfl
  DX:=Mine.jQ (kt_at ZH (a:=160) (o:=_) rfl) rfl rfl rfl (kt_at ZH (a:=159) (o:=_) rfl) rfl rfl rfl
  HD:=by kernel_rfl
  FA:=Mine.jQ (kt_at ZH (a:=55) (o:=_) rfl) rfl rfl rfl (kt_at ZH (a:=54) (o:=_) rfl) rfl rfl rfl
  O6:=by kernel_rfl
  BG:=Mine.jQ (kt_at ZH (a:=62) (o:=_) rfl) rfl rfl rfl (kt_at ZH (a:=61) (o:=_) rfl) rfl rfl rfl
  EX:=by kernel_rfl
  GR:=Mine.jQ (kt_at ZH (a:=69) (o:=_) rfl) rfl rfl rfl (kt_at ZH (a:=68) (o:=_) rfl) rfl rfl rfl
  Nq:=by kernel_rfl
  D5:=Mine.jQ (kt_at ZH (a:=83) (o:=_) rfl) rfl rfl rfl (kt_at ZH (a:=82) (o:=_) rfl) rfl rfl rfl
  J7:=by kernel_rfl
  cL:=⟨⟨_,_,162,_,_,_,_,_,_,_,_,_,_,(Mine.w6 rfl).trans (kt_at ZH (a:=163) (o:=_) rfl),λ_ x=>Mine.wU (Mine.Lv (kt_at ZH (a:=162) (o:=_) rfl) rfl (by kernel_rfl)) rfl x⟩,by kernel_rfl,by kernel_rfl,by kernel_rfl⟩
  aL:=Mine.EO (by kernel_rfl) (by kernel_rfl) (by kernel_rfl) (by kernel_rfl) (by kernel_rfl) (by kernel_rfl) (by kernel_rfl) (by kernel_rfl) (by kernel_rfl) (by kernel_rfl)
  Ia:=(Gm _).trans (by kernel_rfl)
  cW:=⟨⟨_,_,99,_,_,_,_,_,_,_,_,_,_,(Mine.w6 rfl).trans (kt_at ZH (a:=100) (o:=_) rfl),λ_ x=>Mine.wU (Mine.Lv (kt_at ZH (a:=99) (o:=_) rfl) rfl (by kernel_rfl)) rfl x⟩,by kernel_rfl,by kernel_rfl,by kernel_rfl⟩
  aW:=Mine.EO (by kernel_rfl) (by kernel_rfl) (by kernel_rfl) (by kernel_rfl) (by kernel_rfl) (by kernel_rfl) (by kernel_rfl) (by kernel_rfl) (by kernel_rfl) (by kernel_rfl)
  Ce:=(Gm _).trans (by kernel_rfl)
  Ng:=λ_ x=>⟨_,_,_,_,_,_,_,_,_,_,Mine.o8 x (kt_at ZH (a:=172) (o:=_) rfl) rfl,rfl,rfl,rfl,Mine.o8 x (kt_at ZH (a:=171) (o:=_) rfl) rfl,rfl,by kernel_rfl⟩
  L5:=(Gm _).trans (by kernel_rfl)
  Oi:=λ_ x=>⟨_,_,_,_,_,_,_,_,_,_,Mine.o8 x (kt_at ZH (a:=177) (o:=_) rfl) rfl,rfl,rfl,rfl,Mine.o8 x (kt_at ZH (a:=176) (o:=_) rfl) rfl,rfl,by kernel_rfl⟩
  IO:=(Gm _).trans (by kernel_rfl)
  L7:=(Gm _).trans (by kernel_rfl)
  cX:=Mine.SI KX
  cR:=by kernel_rfl
  Pf:=by kernel_rfl
  O0:=by kernel_rfl
  Ld:=⟨_,_,_,_,(Mine.w6 rfl).trans (kt_at ZH (a:=191) (o:=_) rfl),rfl,rfl,λ_ x=>⟨190,_,_,_,rfl,Mine.o8 x (kt_at ZH (a:=190) (o:=_) rfl) rfl,rfl,rfl⟩⟩
  hC:=λ_ x=>⟨_,_,_,_,_,_,_,_,_,Mine.o8 x (kt_at ZH (a:=190) (o:=_) rfl) rfl,rfl,rfl,rfl,rfl,rfl,rfl,rfl,rfl,by decide⟩
  hB:=λ_ x=>⟨4,_,(Gm _).trans (by kernel_rfl),by decide,by decide,by decide,Mine.o8 x (kt_at ZH (a:=4) (o:=_) rfl) rfl,rfl,rfl,rfl⟩
}
 rename IntsAre _ _=>hI
 rename Heap.IsList _ _ _=>hLs
 refine hQ.elim λF hF=>?_
 refine Mine.Xm (P:=186) (N:=207) (k:=9) (by decide) (hF.1 Tb) (hF.2 _ (by omega)) (kt_at ZH (a:=186) (o:=_) rfl) (by decide) (by decide) ⟨190,_,_,kt_at ZH (a:=190) (o:=_) rfl,rfl,rfl,rfl⟩ (script_obj L hLs) hI (AllBare.of_eq hg) (λ_=>rfl) ?_
 first|rfl|wrow_post
end
end
section
open PySem PySem.Calls PySem.W PyProof.Rows
namespace Mine
def sK:Lean.Syntax:=Lean.Unhygienic.run `(tacticSeq| kernel_rfl)
def sI:Lean.Syntax:=Lean.Unhygienic.run `(tacticSeq| (intro _;rfl))
def sJ:Lean.Syntax:=Lean.Unhygienic.run `(tacticSeq| (intro _ _;rfl))
def sZ:Lean.Syntax:=Lean.Unhygienic.run `(tacticSeq| decide)
theorem vD{C:Prop}(h:some x=none):C:=nomatch h
theorem FJ{C:Prop}(h:true=false):C:=nomatch h
theorem tP{C:Prop}(h:a::l=[]):C:=nomatch h
theorem LQ{C:Prop}(h:[]=a::l):C:=nomatch h
theorem td{n:Nat}(h:i.natAbs≤n):-(n:Int)≤i:=Int.neg_le_of_neg_le (bd (Int.natAbs_neg i▸Int.le_natAbs (a:=-i)) (bk h))
theorem rU{n:Nat}(h:i.natAbs≤n):i≤(n:Int):=bd Int.le_natAbs (bk h)
theorem Oe(h:n - p < f+1)(h1:p < e)(h2:e≤n):n - e < f:=bu (Nat.sub_lt_sub_left (bu h1 h2) h1) (aC h)
theorem Dz(h:a+40*(k+1) < c)(hb:b≤40):a+b+40*k < c:=ah (by rw[Nat.mul_succ,Nat.add_comm (40*k),← Nat.add_assoc];exact az (aQ hb a) _) h
theorem UL{s b:Nat}(h:s+1≤b):b - s=b - (s+1)+1:=(Nat.succ_pred (Nat.sub_ne_zero_of_lt h)).symm
theorem ar8(h:c≤b):c+(b - c+1)=b+1:=congrArg (·+1) (Nat.add_sub_of_le h)
theorem bX(h:some x=some y):x=y:=Option.some.inj h
theorem b7(h:some (a,b)=some (c,d)):a=c∧b=d:=a5 (Option.some.inj h)
theorem all1{P:Addr->Prop}(h:P a):∀b∈[a],P b:=λ_ hb=>ak hb▸h
theorem nU{P:Addr->Prop}(h:P a)(k:∀b∈l,P b):∀c∈a::l,P c:=λc hc=>(aI hc).elim (λe=>e▸h) (k c)
theorem all2{P:Addr->Prop}(h1:P a)(h2:P b):∀c∈[a,b],P c:=λc hc=>(aI hc).elim (λe=>e▸h1) (all1 h2 c)
theorem iF[Decidable c]{o:Option α}{C:Prop}(e:(if c then o else none)=some y)(k:c->o=some y->C):C:=by
 by_cases h:c
 ·rw[if_pos h]at e;exact k h e
 ·rw[if_neg h]at e;exact ar e
theorem d8[Decidable c]{C:Prop}(e:(if c then some x else none)=some y)(k:c->x=y->C):C:=iF e λh e=>k h (bX e)
theorem RD.ind{h:Heap}{P:Value->PyData->List Addr->Prop}{Q:List Value->List PyData->List Addr->Prop}(p0:P .none .none [])(p1:∀b,P (.bool b) (.bool b) [])(p2:∀i t,P (.int i t) (.int i) [])(p3:∀x t,PyData.strOk x=true->P (.str x t) (.str x) [])
  (p4:∀{a o vs n xs as},h.get? a=some o->o.cls=.type "list"->o.dict=Option.none->o.slots=#[]->o.data=.seq vs n->Q vs.toList xs as->P (.ref a) (.list xs) (a::as))
  (p5:∀{a o vs n xs as},h.get? a=some o->o.cls=.type "tuple"->o.data=.seq vs n->Q vs.toList xs as->P (.ref a) (.tuple xs) (a::as))
  (q0:Q [] [] []) (q1:∀{v vs d ds as bs},P v d as->Q vs ds bs->Q (v::vs) (d::ds) (as++bs)):(∀{v d as},RD h v d as->P v d as)∧∀{v d as},bz h v d as->Q v d as :=
 ⟨λr=>RD.rec (motive_1:=λv d as _=>P v d as) (motive_2:=λv d as _=>Q v d as) p0 p1 p2 p3 (λe c d u q _ ih=>p4 e c d u q ih) (λe c q _ ih=>p5 e c q ih) q0 (λ_ _ a b=>q1 a b) r,
  λr=>bz.rec (motive_1:=λv d as _=>P v d as) (motive_2:=λv d as _=>Q v d as) p0 p1 p2 p3 (λe c d u q _ ih=>p4 e c d u q ih) (λe c q _ ih=>p5 e c q ih) q0 (λ_ _ a b=>q1 a b) r⟩
noncomputable def Keeps(h h':Heap)(as:List Addr):Prop:=∀a∈as,∀o,h.get? a=some o->h'.get? a=some o
theorem RD.NL(h h'):(∀{v d as},RD h v d as->Keeps h h' as->RD h' v d as)∧∀{v d as},bz h v d as->Keeps h h' as->bz h' v d as :=
 RD.ind (P:=λv d as=>Keeps h h' as->RD h' v d as) (Q:=λv d as=>Keeps h h' as->bz h' v d as) (λ_=>.none) (λb _=>.bool b) (λi t _=>.int i t) (λx t q _=>.str x t q)
  (λe c d u q ih k=>.list (k _ (aq ..) _ e) c d u q (ih λa ha=>k a (al _ ha))) (λe c q ih k=>.tuple (k _ (aq ..) _ e) c q (ih λa ha=>k a (al _ ha)))
  (λ_=>.nil) λx r k=>.cons (x λa ha=>k a (au _ ha)) (r λa ha=>k a (af _ ha))
theorem RD.keep{h h':Heap}{v d as}(r:RD h v d as)(k:∀a∈as,∀o,h.get? a=some o->h'.get? a=some o):RD h' v d as:=(RD.NL h h').1 r k
theorem bz.keep{h h':Heap}{v d as}(r:bz h v d as)(k:∀a∈as,∀o,h.get? a=some o->h'.get? a=some o):bz h' v d as:=(RD.NL h h').2 r k
noncomputable def k7(h:Heap)(as:List Addr):Prop:=∀a∈as,∃o,h.get? a=some o
theorem k7.nil{h:Heap}:k7 h []:=λ_ h=>(bT h)
theorem k7.cons{h:Heap}{a:Addr}{o:Obj}{as:List Addr}(e:h.get? a=some o)(l:k7 h as):k7 h (a::as):=λb hb=>(aI hb).elim (λq=>⟨o,q▸e⟩) (l b)
theorem k7.append{h:Heap}{as bs:List Addr}(x:k7 h as)(y:k7 h bs):k7 h (as++bs):=λb hb=>(ae hb).elim (x b) (y b)
theorem RD.Ph(h):(∀{v d as},RD h v d as->k7 h as)∧∀{v d as},bz h v d as->k7 h as :=
 RD.ind (P:=λ_ _ as=>k7 h as) (Q:=λ_ _ as=>k7 h as) .nil (λ_=>.nil) (λ_ _=>.nil) (λ_ _ _=>.nil) (λe _ _ _ _ ih=>.cons e ih) (λe _ _ ih=>.cons e ih) .nil λx r=>x.append r
theorem RD.live{h:Heap}{v d as}(r:RD h v d as):∀a∈as,∃o,h.get? a=some o:=(RD.Ph h).1 r
theorem bz.live{h:Heap}{v d as}(r:bz h v d as):∀a∈as,∃o,h.get? a=some o:=(RD.Ph h).2 r
theorem RD.Vb(h):(∀{v d as},RD h v d as->∃bs,Reads h v d bs)∧∀{v d as},bz h v d as->∃bs,ReadsAll h v d bs :=
 RD.ind (P:=λv d _=>∃bs,Reads h v d bs) (Q:=λv d _=>∃bs,ReadsAll h v d bs) ⟨_,.none⟩ (λb=>⟨_,.bool b⟩) (λi t=>⟨_,.int i t⟩) (λx t _=>⟨_,.str x t⟩) (λe c _ _ q ih=>ih.elim λ_ r=>⟨_,.list e c q r⟩) (λe c q ih=>ih.elim λ_ r=>⟨_,.tuple e c q r⟩)
  ⟨_,.nil⟩ λx r=>x.elim λ_ x=>r.elim λ_ r=>⟨_,.cons x r⟩
theorem RD.reads{h:Heap}{v d as}(r:RD h v d as):∃bs,Reads h v d bs:=(RD.Vb h).1 r
theorem bz.ind{h:Heap}{Q:List Value->List PyData->List Addr->Prop}(q0:Q [] [] [])(q1:∀{v vs d ds as bs},RD h v d as->bz h vs ds bs->Q vs ds bs->Q (v::vs) (d::ds) (as++bs)){v d as}(r:bz h v d as):Q v d as :=
 bz.rec (motive_1:=λ_ _ _ _=>True) (motive_2:=λv d as _=>Q v d as) trivial (λ_=>trivial) (λ_ _=>trivial) (λ_ _ _=>trivial) (λ_ _ _ _ _ _ _=>trivial) (λ_ _ _ _ _=>trivial) q0 (λx r _ ih=>q1 x r ih) r
theorem bz.length{h:Heap}{v d as}(r:bz h v d as):v.length=d.length:=bz.ind (Q:=λv d _=>v.length=d.length) rfl (λ_ _ ih=>congrArg (·+1) ih) r
theorem bz.append{h:Heap}{v d as w e bs}(r:bz h v d as)(r2:bz h w e bs):bz h (v++w) (d++e) (as++bs) :=
 bz.ind (Q:=λv d as=>bz h (v++w) (d++e) (as++bs)) r2 (λx _ ih=>(bJ _ _ bs).symm▸.cons x ih) r
theorem bz.get{h:Heap}{v d as}(r:bz h v d as):∀(i:Nat) (x:PyData),d[i]?=some x->∃y bs,v[i]?=some y∧RD h y x bs∧∀a∈bs,a∈as :=
 bz.ind (Q:=λv d as=>∀(i:Nat) (x:PyData),d[i]?=some x->∃y bs,v[i]?=some y∧RD h y x bs∧∀a∈bs,a∈as) (λ_ _ e=>ar e)
  (λ{v vs d ds as bs} y _ ih i x e=>match i,e with
  |0,e=>⟨v,as,rfl,Option.some.inj e▸y,λa ha=>au _ ha⟩
  |i+1,e=>(ih i x e).elim λz q=>q.elim λcs q=>⟨z,cs,q.1,q.2.1,λa ha=>af _ (q.2.2 a ha)⟩) r
theorem Ext.refl(X)(ρ)(s:Shared):Ext X ρ s ρ s:=⟨⟨[],by simp,λ_ h=>bT h⟩,λ_ _ _ _ e=>e,λ_ o e=>⟨o,e⟩,rfl,rfl,λ_ _ e=>e,λh=>h⟩
theorem Ext.of_keep{X:List Addr}{ρ:aJ}{s:Shared}{h:Heap}{t:Nat}(k:∀b o,s.heap.get? b=some o->h.get? b=some o):Ext X ρ s ρ {s with heap:=h,toks:=t} :=
 ⟨⟨[],by simp,λ_ h=>bT h⟩,λb o _ _ e=>k b o e,λb o e=>⟨o,k b o e⟩,rfl,rfl,λ_ _ e=>e,λh=>h⟩
section
variable {X:List Addr}{ρ aA xk aD eA:aJ}{s s' s_0 s_1 bn:Shared}{Z:List Addr}
theorem Ext.mem(x:Ext X ρ s aA s')(h:b∈bF aA):b∈bF ρ∨s.heap.get? b=none:=by
 obtain⟨e,rfl,he⟩:=x.more
 simp only[bF,List.map_append,List.mem_append]at h ⊢
 rcases h with q|q
 ·exact .inl q
 ·obtain⟨p,hp,rfl⟩:=bo q
  exact .inr (he p hp)
theorem Ext.lB(x:Ext X ρ s aA s')(hb:s.heap.get? b=some o)(h:b∉bF ρ):b∉bF aA:=λq=>by
 rcases x.mem q with q|q
 ·exact h q
 ·rw[hb]at q;cases q
theorem Ext.old(x:Ext X ρ s aA s'){i:Nat}(h:ρ[i]?=some p):aA[i]?=some p:=by
 obtain⟨e,rfl,_⟩:=x.more
 rw[List.getElem?_append_left]
 ·exact h
 ·exact(List.getElem?_eq_some_iff.mp h).1
theorem Ext.weak(x:Ext X ρ s aA s')(h:∀a∈X,a∈Y):Ext Y ρ s aA s':=⟨x.more,λb o hm hy e=>x.heap b o hm (λq=>hy (h b q)) e,x.live,x.drawn,x.os,x.gens,x.bare⟩
theorem Ext.trans(x:Ext X xk s_0 aD s_1)(y:Ext X aD s_1 eA bn):Ext X xk s_0 eA bn:=by
 refine⟨?_,λb o h hX e=>y.heap b o (x.lB e h) hX (x.heap b o h hX e),λb o e=>?_,y.drawn.trans x.drawn,y.os.trans x.os,λg st e=>y.gens g st (x.gens g st e),λh=>y.bare (x.bare h)⟩
 ·obtain⟨e,rfl,he⟩:=x.more
  obtain⟨e',rfl,uL⟩:=y.more
  refine⟨e++e',by rw[bJ],λp hp=>?_⟩
  rcases ae hp with hp|hp
  ·exact he p hp
  ·cases q:s_0.heap.get? p.2 with
  |none=>rfl
  |some o =>
    obtain⟨o',q'⟩:=x.live _ _ q
    rw[uL p hp]at q'
    exact ar q'
 ·obtain⟨o',e'⟩:=x.live b o e
  exact y.live b o' e'
theorem Ext.shrink(x:Ext X ρ s aA s')(h:∀a∈X,a∈Y∨s.heap.get? a=none):Ext Y ρ s aA s':=⟨x.more,λb o hm hy e=>x.heap b o hm (λq=>by
 rcases h b q with q|q
 ·exact hy q
 ·rw[e]at q;cases q) e,x.live,x.drawn,x.os,x.gens,x.bare⟩
theorem Ns.keep{h h':Heap}(x:h.Ns a m)(k:∀o,h.get? a=some o->h'.get? a=some o):h'.Ns a m:=x.elim λo q=>q.elim λes q=>q.elim λep q=>⟨o,es,ep,k o q.1,q.2⟩
theorem Ns.live{h:Heap}(x:h.Ns a m):∃o,h.get? a=some o:=x.elim λo q=>q.elim λ_ q=>q.elim λ_ q=>⟨o,q.1⟩
theorem CodeRec.keep{h h':Heap}(x:h.CodeRec (.ref a) q)(k:∀o,h.get? a=some o->h'.get? a=some o):h'.CodeRec (.ref a) q:=by
 obtain⟨c,o,vs,t,e,h1,h2⟩:=x
 have e:=Value.ref.inj e
 exact⟨a,o,vs,t,rfl,k o (e▸h1),h2⟩
theorem CodeRec.live{h:Heap}(x:h.CodeRec (.ref a) q):∃o,h.get? a=some o:=by
 refine cps λ_ KK=>?_
 obtain⟨c,o,vs,t,e,h1,h2⟩:=x
 refine KK ?_
 have e:=Value.ref.inj e
 exact⟨o,e▸h1⟩
theorem IsCell.keep{h h':Heap}{a:Addr}{v:Option Value}(x:h.IsCell a v)(k:∀o,h.get? a=some o->h'.get? a=some o):h'.IsCell a v:=x.elim λo q=>⟨o,k o q.1,q.2⟩
theorem uJ.live{h:Heap}(x:uJ h a g fs):∀b∈fs,∃o,h.get? b=some o:=by
 refine cps λ_ KK=>?_
 obtain⟨o,lX,d,r,c,cc,fd,lf,ho,_,_,_,hn,hr,_,_,_,hc,on⟩:=x.ex
 refine KK ?_
 rw[lf]
 refine cps λ_ KK=>?_
 obtain⟨_,hd⟩:=Ns.live hn
 obtain⟨_,hc,_⟩:=hc
 obtain⟨_,on⟩:=CodeRec.live on
 refine KK ?_
 exact k7.cons ho (.cons hd (.cons hr (.cons hc (.cons on .nil))))
theorem uJ.keep{h h':Heap}(x:uJ h a g fs)(k:∀a∈fs,∀o,h.get? a=some o->h'.get? a=some o):uJ h' a g fs:=by
 obtain⟨o,lX,d,r,c,cc,fd,lf,ho,qi,DQ,Te,hn,hr,vR,sU,Ve,hc,on⟩:=x.ex
 have k':Keeps h h' [a,d,r,c,cc]:=lf▸k
 have m:∀(l:List Addr) (b:Addr),b∈b::l:=λl b=>aq ..
 have m1:∀{l:List Addr} {b c:Addr},b∈l->b∈c::l:=λh=>al _ h
 exact⟨⟨o,lX,d,r,c,cc,fd,lf,k' _ (m _ _) _ ho,qi,DQ,Te,Ns.keep hn (k' _ (m1 (m _ _))),k' _ (m1 (m1 (m _ _))) _ hr,vR,sU,Ve,IsCell.keep hc (k' _ (m1 (m1 (m1 (m _ _))))),CodeRec.keep on (k' _ (m1 (m1 (m1 (m1 (m _ _))))))⟩⟩
noncomputable def ou(ρ aA:aJ)(Z Z':List Addr)(h h':Heap):Prop:=∀a o,a∉bF ρ->a∉Z->h.get? a=some o->h'.get? a=some o∧a∉bF aA∧a∉Z'
theorem ou.foot{ρ aA:aJ}{Z Z':List Addr}{h h':Heap}(k:ou ρ aA Z Z' h h'){as:List Addr}(l:∀a∈as,∃o,h.get? a=some o)(q:∀a∈as,a∉bF ρ∧a∉Z):Keeps h h' as∧∀a∈as,a∉bF aA∧a∉Z' :=
 ⟨λa ha o e=>(k a o (q a ha).1 (q a ha).2 e).1,λa ha=>(l a ha).elim λo e=>(k a o (q a ha).1 (q a ha).2 e).2⟩
theorem VR.map{ρ aA:aJ}{Z Z':List Addr}{h h':Heap}(pd:∀(i:Nat) q,ρ[i]?=some q->aA[i]?=some q)(k:ou ρ aA Z Z' h h'){p:PV}{v:Value}(x:VR ρ Z h p v):VR aA Z' h' p v:=by
 cases p with
|dat d =>
  obtain⟨as,r,q⟩:=x
  have f:=k.foot r.live q
  exact⟨as,r.keep f.1,f.2⟩
|obj i =>
  obtain⟨r,b,e,hv⟩:=x
  exact⟨r,b,pd _ _ e,hv⟩
|gH i =>
  obtain⟨r,b,a,fs,e,hv,hs,q⟩:=x
  have f:=k.foot hs.live q
  exact⟨r,b,a,fs,pd _ _ e,hv,hs.keep f.1,f.2⟩
|objs lst l =>
  obtain⟨a,o,vs,n,e,ho,h1,h2,h3,h4,h5,h6⟩:=x
  have f:=k a o h5 h6 ho
  exact⟨a,o,vs,n,e,f.1,h1,h2,h3,λj i hj=>(h4 j i hj).elim λx q=>q.elim λy q=>⟨x,y,q.1,pd _ _ q.2⟩,f.2.1,f.2.2⟩
theorem Ext.moves(x:Ext X ρ s aA s')(hX:∀a∈X,a∈Z):ou ρ aA Z Z s.heap s'.heap:=λa _ h1 h2 e=>⟨x.heap a _ h1 (λq=>h2 (hX a q)) e,x.lB e h1,h2⟩
theorem VR.ext(x:Ext X ρ s aA s')(hX:∀a∈X,a∈Z){p:PV}{v:Value}(r:VR ρ Z s.heap p v):VR aA Z s'.heap p v:=VR.map (λ_ _ e=>x.old e) (x.moves hX) r
theorem VR.weak{Z':List Addr}{h:Heap}(hZ:∀a∈Z',a∈Z){p:PV}{v:Value}(r:VR ρ Z h p v):VR ρ Z' h p v:=VR.map (λ_ _ e=>e) (λa _ h1 h2 e=>⟨e,h1,λq=>h2 (hZ a q)⟩) r
theorem VR.fresh{Z':List Addr}{h:Heap}(hZ:∀a∈Z',a∈Z∨h.get? a=none){p:PV}{v:Value}(r:VR ρ Z h p v):VR ρ Z' h p v :=
 VR.map (λ_ _ e=>e) (λa _ h1 h2 e=>⟨e,h1,λq=>(hZ a q).elim h2 λn=>ar (n.symm.trans e)⟩) r
end
theorem Ns1.keep{h h':Heap}(x:h.Ns1 a m)(k:∀o,h.get? a=some o->h'.get? a=some o):h'.Ns1 a m:=x.elim λo q=>q.elim λes q=>q.elim λep q=>⟨o,es,ep,k o q.1,q.2⟩
theorem MR.map{ρ aA:aJ}{Z Z':List Addr}{h h':Heap}(pd:∀(i:Nat) q,ρ[i]?=some q->aA[i]?=some q)(k:ou ρ aA Z Z' h h'){r b:Addr}(kb:∀o,h.get? b=some o->h'.get? b=some o){mo:MO}(x:MR ρ Z h r b mo):MR aA Z' h' r b mo:=by
 cases mo with
|lst l =>
  obtain⟨hr,o,vs,n,as,ho,h1,h2,h3,h4,rs,q⟩:=x
  have f:=k.foot rs.live q
  exact⟨hr,o,vs,n,as,kb o ho,h1,h2,h3,h4,rs.keep f.1,f.2⟩
|ins c bK =>
  obtain⟨hr,hz,o,mA,ho,h1,h2,h3,h4,h5,h6,h7⟩:=x
  have f:=k r o hr hz ho
  exact⟨f.2.1,f.2.2,o,mA,f.1,h1,h2,h3,h4,Ns1.keep h5 kb,λp hp=>(h6 p hp).elim λv e=>⟨v,e.1,e.2.map pd k⟩,h7⟩
|cH i f dn =>
  obtain⟨hr,m,t,x,y,h1,h2,h3,h4,h5⟩:=x
  have f:=k m _ h2 h3 h4
  exact⟨hr,m,t,x,y,pd _ _ h1,f.2.1,f.2.2,f.1,kb _ h5⟩
|tab a f =>
  obtain⟨hr,ha,vs,ho,hv⟩:=x
  exact⟨hr,ha,vs,kb _ ho,hv⟩
structure Fx where
 env:Env
 sc:Scope
 vars:List (Nat×Str)
 own:List Addr
 k:Nat
abbrev Loc:=List (Option PV)
structure St where
 loc:Loc
 hp:List MO
noncomputable def gc(env:Env)(m cm:Str->Option Value)(x:Str):Option Value :=
 match env.kindOf x with
|some .local=>m x
|some .cell=>(env.cells.lookup x).bind λ_=>cm x
|some .free=>(env.cells.lookup x).bind λ_=>cm x
|_=>none
inductive MD(O:Fx)(ρ:aJ)(Z:List Addr)(loc:Loc)(h:Heap):Prop
|mk (m cm:Str->Option Value):h.Ns O.env.locals m->(∀n c,O.env.cells.lookup n=some c->h.IsCell c (cm n)) ->
  (∀i x pv,O.vars.lookup i=some x->loc[i]?=some (some pv)->∃v,gc O.env m cm x=some v∧VR ρ Z h pv v)->MD O ρ Z loc h
structure sV(O:Fx)(ρ:aJ)(Z:List Addr)(loc:Loc)(h:Heap):Prop where
 ex:MD O ρ Z loc h
 fn:O.env.scope.kind=.function
 sc:O.env.scope=O.sc
 pf:∀i j x,O.vars.lookup i=some x->O.vars.lookup j=some x->i=j
 glob:O.env.globals=mainGlobals
 bi:O.env.builtins=builtinsNs
 ld:O.env.locals∈O.own
 dz:∀a∈O.own,a∈Z
 pj:O.env.locals∉bF ρ
 cell:∀n c,O.env.cells.lookup n=some c->c∉bF ρ∧c≠O.env.locals
 inj:∀n n' c,O.env.cells.lookup n=some c->O.env.cells.lookup n'=some c->n=n'
structure SR(K:Addr->Option Obj)(O:Fx)(ρ:aJ)(Z:List Addr)(σ:St)(s:Shared):Prop where
 hr:HR ρ Z σ.hp s.heap
 er:sV O ρ Z σ.loc s.heap
 top:dl K s.heap
 off:∀a,K a≠none->a∉bF ρ∧a∉Z
theorem cJ.mono(h:cJ A k)(hk:k'≤k):cJ A k':=⟨h.handled,by have:=h.depth;(exact ah (aQ (by assumption) _) (by assumption)),by have:=h.units;(exact ah (aQ (bc _ (by assumption)) _) (by assumption))⟩
section
variable {h:Heap}{v:Value}{as:List Addr}
inductive Dc(h:Heap)(v:Value)(xs:List PyData)(as:List Addr):Prop
|mk (a:Addr) (vs:Array Value) (n:Nat) (bs:List Addr):v=.ref a->as=a::bs->h.get? a=some {cls:=.type "list",dict:=none,data:=.seq vs n,slots:=#[]}->vs.size=xs.length->bz h vs.toList xs bs->Dc h v xs as
theorem MF{o:Obj}(h1:o.cls=.type "list")(h2:o.dict=none)(h3:o.slots=#[])(h4:o.data=.seq vs n):o={cls:=.type "list",dict:=none,data:=.seq vs n,slots:=#[]}:=by
 cases o
 cases h1
 cases h2
 cases h3
 cases h4
 rfl
inductive FW(h:Heap)(v:Value)(xs:List PyData)(as:List Addr):Prop
|mk (a:Addr) (o:Obj) (vs:Array Value) (n:Nat) (bs:List Addr):v=.ref a->as=a::bs->h.get? a=some o->o.cls=.type "tuple"->o.data=.seq vs n->vs.size=xs.length->bz h vs.toList xs bs->FW h v xs as
noncomputable def XR(h:Heap)(v:Value)(as:List Addr):PyData->Prop
|.int x=>∃t,v=.int x t∧as=[]
|.bool x=>v=.bool x∧as=[]
|.none=>v=.none∧as=[]
|.str x=>∃t,v=.str x t∧as=[]∧PyData.strOk x=true
|.list xs=>Dc h v xs as
|.tuple xs=>FW h v xs as
|_=>True
theorem RD.inv{d:PyData}(r:RD h v d as):XR h v as d:=by
 cases r with
|int _ t=>exact⟨t,rfl,rfl⟩
|bool _=>exact⟨rfl,rfl⟩
|none=>exact⟨rfl,rfl⟩
|str _ t q=>exact⟨t,rfl,rfl,q⟩
|list h1 h2 h3 h4 h5 h6=>exact⟨_,_,_,_,rfl,rfl,MF h2 h3 h4 h5▸h1,Array.length_toList▸h6.length,h6⟩
|tuple h1 h2 h3 h4=>exact⟨_,_,_,_,_,rfl,rfl,h1,h2,h3,Array.length_toList▸h4.length,h4⟩
theorem RD.jP(r:RD h v (.int x) as):∃t,v=.int x t∧as=[]:=r.inv
theorem RD.zy(r:RD h v (.bool x) as):v=.bool x∧as=[]:=r.inv
theorem RD.none_(r:RD h v .none as):v=.none∧as=[]:=r.inv
theorem RD.fQ(r:RD h v (.str x) as):∃t,v=.str x t∧as=[]∧PyData.strOk x=true:=r.inv
theorem RD.j8(r:RD h v (.list xs) as):Dc h v xs as:=r.inv
theorem RD.wo(r:RD h v (.tuple xs) as):FW h v xs as:=r.inv
end
section
variable {ρ aA:aJ}{Z C e:List Addr}{h h':Heap}
theorem n5(ρ e):bF (ρ++e)=bF ρ++bF e:=List.map_append
theorem get_append{ρ e:aJ}{i:Nat}(h:ρ[i]?=some p):(ρ++e)[i]?=some p:=by
 rw[List.getElem?_append_left (List.getElem?_eq_some_iff.mp h).1];exact h
theorem Xd{ρ e:aJ}(he:∀p∈e,h.get? p.2=none)(hb:h.get? b=some o)(n:b∉bF ρ):b∉bF (ρ++e):=by
 rw[n5,List.mem_append]
 rintro (q|q)
 ·exact n q
 ·obtain⟨p,hp,rfl⟩:=bo q
  rw[he p hp]at hb;cases hb
theorem aai{e:aJ}(he:∀p∈e,h.get? p.2=none)(hC:∀a∈C,a∈bF ρ)(k:∀a o,a∉C->h.get? a=some o->h'.get? a=some o):ou ρ (ρ++e) Z Z h h':=λa o h1 h2 x=>⟨k a o (λm=>h1 (hC a m)) x,Xd he x h1,h2⟩
theorem MR.step{e:aJ}(he:∀p∈e,h.get? p.2=none)(hC:∀a∈C,a∈bF ρ)(k:∀a o,a∉C->h.get? a=some o->h'.get? a=some o){r b:Addr}(hb:b∉C)(x:MR ρ Z h r b mo):MR (ρ++e) Z h' r b mo:=MR.map (λ_ _ e=>get_append e) (aai he hC k) (λo=>k b o hb) x
theorem MR.live(x:MR ρ Z h r b mo):∃o,h.get? b=some o:=by
 cases mo with
|lst l=>cases x with|mk _ o _ _ _ ho=>exact⟨o,ho⟩
|ins c bK=>cases x with|mk _ _ _ _ _ _ _ _ _ h5=>exact h5.elim λo q=>q.elim λ_ q=>q.elim λ_ q=>⟨o,q.1⟩
|cH i f dn=>cases x with|mk _ _ _ _ _ _ _ _ _ ho=>exact⟨_,ho⟩
|tab _ _=>exact x.2.2.elim λ_ q=>⟨_,q.1⟩
variable {hp:List MO}
theorem HR.live(H:HR ρ Z hp h):∀b∈bF ρ,∃o,h.get? b=some o:=λb hb=>by
 obtain⟨p,ai,rfl⟩:=bo hb
 obtain⟨i,hi⟩:=List.mem_iff_getElem?.mp ai
 have dJ:i < hp.length:=H.len▸(List.getElem?_eq_some_iff.mp hi).1
 obtain⟨r,b,hr,hm⟩:=H.at_ i hp[i] (List.getElem?_eq_getElem dJ)
 replace hr:=hi▸hr
 cases hr
 exact hm.live
theorem HR.fresh(H:HR ρ Z hp h)(ha:h.get? a=none):a∉bF ρ∧a∉Z :=
 ⟨λq=>(by obtain⟨o,e⟩:=H.live a q;rw[ha]at e;cases e),λq=>(by obtain⟨o,e⟩:=H.iI a q;rw[ha]at e;cases e)⟩
theorem HR.keep(H:HR ρ Z hp h)(k:∀b o,h.get? b=some o->h'.get? b=some o):HR ρ Z hp h' :=
 ⟨H.len,H.nodup,H.fZ,λa ha=>let⟨o,e⟩:=H.iI a ha;⟨o,k a o e⟩,λi mo e=>by
  obtain⟨r,b,hr,hm⟩:=H.at_ i mo e
  exact⟨r,b,hr,MR.map (λ_ _ e=>e) (λa o h1 h2 e=>⟨k a o e,h1,h2⟩) (k b) hm⟩⟩
theorem HR.set(H:HR ρ Z hp h)(hi:ρ[i]?=some (r,b))(k:∀a o,a≠b->h.get? a=some o->h'.get? a=some o)(hm:MR ρ Z h' r b mo):HR ρ Z (hp.set i mo) h':=by
 have ot:b∈bF ρ:=List.mem_map_of_mem (f:=Prod.snd) (aT hi)
 refine⟨List.length_set.symm▸H.len,H.nodup,H.fZ,λa ha=>?_,λj wE e=>?_⟩
 ·obtain⟨o,e⟩:=H.iI a ha
  exact⟨o,k a o (λq=>H.fZ b ot (q▸ha)) e⟩
 ·replace e:=(List.getElem?_set)▸e
  split at e
  ·rename_i g8
   subst g8
   split at e
   ·cases e;exact⟨r,b,hi,hm⟩
   ·exact ar e
  ·rename_i g8
   refine cps λ_ KK=>?_
   obtain⟨r',b',gL,kA⟩:=H.at_ j wE e
   refine KK ?_
   refine⟨r',b',gL,?_⟩
   have eU:b'≠b:=λq=>by
    have nd:=H.nodup
    have e1:(bF ρ)[i]?=some b:=by rw[List.getElem?_map,hi];rfl
    have e2:(bF ρ)[j]?=some b:=by rw[List.getElem?_map,gL,← q];rfl
    exact g8 ((List.getElem?_inj (List.getElem?_eq_some_iff.mp e1).1 nd).mp (e1.trans e2.symm))
   exact MR.map (λ_ _ e=>e) (λa o h1 h2 e=>⟨k a o (λq=>h1 (q▸ot)) e,h1,h2⟩) (λo=>k b' o eU) kA
theorem HR.push(H:HR ρ Z hp h){r b:Addr}{mo:MO}(hb:h.get? b=none)(k:∀a o,h.get? a=some o->h'.get? a=some o)(hm:MR (ρ++[(r,b)]) Z h' r b mo):HR (ρ++[(r,b)]) Z (hp++[mo]) h':=by
 have fr:=H.fresh hb
 have he:∀p∈([(r,b)]:aJ),h.get? p.2=none:=λp hp=>(ak hp).symm▸hb
 refine⟨by rw[bH,bH,H.len];rfl,?_,λa ha=>?_,λa ha=>let⟨o,e⟩:=H.iI a ha;⟨o,k a o e⟩,λj wE e=>?_⟩
 ·rw[n5,List.nodup_append]
  refine⟨H.nodup,by simp,λa ha b' Dk q=>?_⟩
  have:b'=b:=by simpa using Dk
  exact fr.1 (this▸q▸ha)
 ·rw[n5,List.mem_append]at ha
  rcases ha with ha|ha
  ·exact H.fZ a ha
  ·have:a=b:=by simpa using ha
   exact this▸fr.2
 ·by_cases hj:j < hp.length
  ·replace e:=(List.getElem?_append_left hj)▸e
   refine cps λ_ KK=>?_
   obtain⟨r',b',gL,kA⟩:=H.at_ j wE e
   refine KK ?_
   exact⟨r',b',get_append gL,kA.step (C:=[]) he (λ_ h=>bT h) (λa o _=>k a o) bv⟩
  ·have i8:hp.length≤j:=Nat.le_of_not_lt hj
   replace e:=(List.getElem?_append_right i8)▸e
   have:j - hp.length=0:=by
    cases q:j - hp.length with
   |zero=>rfl
   |succ n=>rw[q]at e;simp at e
   replace e:=this▸e
   have Xq:j=hp.length:=Nat.le_antisymm (Nat.le_of_sub_eq_zero this) i8
   cases e
   refine⟨r,b,?_,hm⟩
   rw[Xq,← H.len,List.getElem?_append_right (Nat.le_refl _),Nat.sub_self]
   rfl
theorem HR.forget{e:aJ}{ai:List MO}(H:HR (ρ++e) Z (hp++ai) h)(hl:ρ.length=hp.length)
  (hm:∀(i:Nat) (mo:MO) (r b:Addr),hp[i]?=some mo->MR (ρ++e) Z h r b mo->MR ρ Z h r b mo):HR ρ Z hp h :=
 ⟨hl,(List.nodup_append.mp (n5 ρ e▸H.nodup)).1,λb hb=>H.fZ b (by rw[n5];exact au _ hb),H.iI,λi mo hi=>by
  have dJ:i < hp.length:=(List.getElem?_eq_some_iff.mp hi).1
  obtain⟨r,b,hr,q⟩:=H.at_ i mo ((List.getElem?_append_left dJ).symm▸hi)
  refine⟨r,b,?_,hm i mo r b hi q⟩
  rwa [List.getElem?_append_left (hl.symm▸dJ)]at hr⟩
end
section
variable {K:Addr->Option Obj}{O:Fx}{ρ aA:aJ}{Z:List Addr}{σ:St}{s s':Shared}{ai:List MO}
noncomputable def vM(O:Fx)(h h':Heap):Prop:=(∀o,h.get? O.env.locals=some o->h'.get? O.env.locals=some o)∧∀n c,O.env.cells.lookup n=some c->∀o,h.get? c=some o->h'.get? c=some o
theorem SR.map(R:SR K O ρ Z σ s)(pd:∀(i:Nat) q,ρ[i]?=some q->aA[i]?=some q)(k:ou ρ aA Z Z' s.heap s'.heap)(kf:vM O s.heap s'.heap)(hm:∀a o,s.heap.get? a=some o->a∉bF ρ->a∉bF aA)(ho:∀a∈O.own,a∈Z')(H:HR aA Z' ai s'.heap):SR K O aA Z' ⟨σ.loc,ai⟩ s':=by
 refine cps λ_ KK=>?_
 obtain⟨m,cm,hn,hc,hv⟩:=R.er.ex
 refine KK ?_
 refine⟨H,⟨⟨m,cm,Ns.keep hn kf.1,λn c e=>IsCell.keep (hc n c e) (kf.2 n c e),λi y pv hi hl=>(hv i y pv hi hl).elim λv q=>⟨v,q.1,q.2.map pd k⟩⟩,R.er.fn,R.er.sc,R.er.pf,R.er.glob,R.er.bi,R.er.ld,ho,(Ns.live hn).elim λo e=>hm _ o e R.er.pj,
  λn c e=>⟨(hc n c e).elim λo q=>hm c o q.1 (R.er.cell n c e).1,(R.er.cell n c e).2⟩,R.er.inj⟩,λa o e=>?_,λa ha=>?_⟩
 ·have q:=R.off a λh=>ar (h.symm.trans e)
  exact(k a o q.1 q.2 (R.top a o e)).1
 ·cases q:K a with
 |none=>exact absurd q ha
 |some o=>exact(k a o (R.off a ha).1 (R.off a ha).2 (R.top a o q)).2
theorem SR.next(R:SR K O ρ Z σ s)(x:Ext [] ρ s aA s')(H:HR aA Z ai s'.heap):SR K O aA Z ⟨σ.loc,ai⟩ s' :=
 R.map (λ_ _ e=>x.old e) (x.moves λ_ h=>nomatch h) ⟨λo e=>x.heap _ o R.er.pj bv e,λn c e o q=>x.heap c o (R.er.cell n c e).1 bv q⟩ (λa o e h=>x.lB e h) R.er.dz H
end
section
variable (prog:Program)(w:World)(K:Addr->Option Obj)
abbrev EF:=St->Option (PV×List MO)
structure Ev(O:Fx)(e:Expr)(F:EF):Prop where
 run:∀(A:Around) (ρ:aJ) (Z:List Addr) (σ:St) (s:Shared) (pv:PV) (ai:List MO),cJ A O.k->SR K O ρ Z σ s->F σ=some (pv,ai) ->
  wpAny (model prog w) A (eval e O.env) (cE ρ Z s pv ai) a8 s
noncomputable def rd(hp:List MO):PV->Option PyData
|.dat d=>some d
|.obj i=>match hp[i]? with
 |some (.lst l)=>some (.list l)
 |_=>none
|.gH _=>none
|.objs _ _=>none
end
theorem lst_inv{o:Option MO}{C:Prop}(e:(match o with|some (.lst l)=>some (PyData.list l)|_=>none)=some d)(k:∀l,o=some (.lst l)->.list l=d->C):C:=by
 cases o with
|none=>exact ar e
|some mo=>cases mo with
 |lst l=>exact k l rfl (bX e)
 |_=>exact ar e
theorem HR.lst{ρ:aJ}{Z:List Addr}{h:Heap}{hp:List MO}(H:HR ρ Z hp h){i:Nat}{l:List PyData}(hl:hp[i]?=some (.lst l)){r b:Addr}(hr:ρ[i]?=some (r,b)):CV ρ Z h r b l:=by
 refine cps λ_ KK=>?_
 obtain⟨r',b',gL,hm⟩:=H.at_ i _ hl
 obtain⟨rfl,rfl⟩:=b7 (hr.symm.trans gL)
 refine KK ?_
 exact hm
theorem jA{ρ:aJ}{Z:List Addr}{h:Heap}{hp:List MO}{d:PyData}{v:Value}(H:HR ρ Z hp h){pv:PV}(x:VR ρ Z h pv v)(e:rd hp pv=some d):∃as,RD h v d as∧∀a∈as.tail,a∉bF ρ∧a∉Z:=by
 cases pv with
|dat d' =>
  obtain⟨as,r,q⟩:=x
  exact⟨as,bX e▸r,λa ha=>q a (List.mem_of_mem_tail ha)⟩
|obj i =>
  obtain⟨r,b,e1,hv⟩:=x
  refine lst_inv e λl hl hd=>?_
  obtain⟨kU,o,vs,n,as,ho,h1,h2,h3,h4,rs,q⟩:=H.lst hl e1
  exact⟨b::as,hd▸hv.symm▸kU.symm▸.list ho h1 h2 h3 h4 rs,q⟩
|gH _=>exact ar e
|objs _ _=>exact ar e
noncomputable def lim:Nat:=1048576
noncomputable def wk:PyData->PyData->Option PyData
|.int a,.int b=>some (.int (a+b))
|.str x,.str y=>if x.cps.size+y.cps.size≤lim then some (.str ⟨⟨x.cps.toList++y.cps.toList⟩⟩)else none
|.list xs,.list ys=>if xs.length+ys.length≤lim then some (.list (xs++ys))else none
|_,_=>none
noncomputable def K9:PyData->PyData->Option PyData
|.int a,.int b=>some (.int (a - b))
|_,_=>none
noncomputable def xZ:PyData->PyData->Option PyData
|.int a,.int b=>if b.natAbs < 2 ^ 60 then some (.int (a*b))else none
|.str x,.int n=>if x.cps.size*n.toNat≤lim∧n.natAbs≤lim then some (.str ⟨⟨(List.replicate n.toNat x.cps.toList).flatten⟩⟩)else none
|.list xs,.int n=>if xs.length*n.toNat≤lim∧n.natAbs≤lim then some (.list (List.replicate n.toNat xs).flatten)else none
|_,_=>none
noncomputable def Bs:PyData->PyData->Option PyData
|.int a,.int b=>if b≠0∧b.natAbs < 2 ^ 60 then some (.int (a.fdiv b))else none
|_,_=>none
noncomputable def DP:PyData->PyData->Option PyData
|.int a,.int b=>if b≠0 then some (.int (a.fmod b))else none
|_,_=>none
noncomputable def Nx:PyData->PyData->Option PyData
|.int a,.int b=>if 0≤b∧b≤1000∧a.natAbs < 2 ^ 60 then some (.int (a ^ b.toNat))else none
|_,_=>none
noncomputable def lO:Operator->PyData->PyData->Option PyData
|.Add=>wk
|.Sub=>K9
|.Mult=>xZ
|.FloorDiv=>Bs
|.Mod=>DP
|.Pow=>Nx
|_=>λ_ _=>none
noncomputable def gV:Nat->PyData->Bool
|0,.list _=>false
|0,.tuple _=>false
|n+1,.list l=>l.all (gV n)
|n+1,.tuple l=>l.all (gV n)
|_,.dict _=>false
|_,_=>true
theorem RD.KR(h):(∀{v d as},RD h v d as->d.canLay0=true)∧∀{v d as},bz h v d as->PyData.canLayAll0 d=true :=
 RD.ind (P:=λ_ d _=>d.canLay0=true) (Q:=λ_ d _=>PyData.canLayAll0 d=true) rfl (λ_=>rfl) (λ_ _=>rfl) (λx t q=>(by rw[PyData.canLay0];exact q)) (λ_ _ _ _ _ ih=>(by rw[PyData.canLay0];exact ih)) (λ_ _ _ ih=>(by rw[PyData.canLay0];exact ih)) rfl
  λx r=>(by rw[PyData.canLayAll0,x,r];rfl)
theorem RD.canLay{v d as}(r:RD h v d as):d.canLay0=true:=(RD.KR h).1 r
theorem bz.canLay{v d as}(r:bz h v d as):PyData.canLayAll0 d=true:=(RD.KR h).2 r
noncomputable def bO(s:Shared)(d:PyData)(P:Addr->Prop)(v:Value)(s':Shared):Prop :=
 ∃h t as,s'={s with heap:=h,toks:=t}∧(∀b o,s.heap.get? b=some o->h.get? b=some o)∧RD h v d as∧(∀a∈as,s.heap.get? a=none∨P a)∧∀a,as.head?=some a->s.heap.get? a=none∧a∉as.tail
section
variable {prog:Program}{w:World}{A:Around}{E:Value->Shared->Prop}{s:Shared}{P:Addr->Prop}
theorem bO.val{v:Value}{d:PyData}{t:Nat}(r:RD s.heap v d []):bO s d P v {s with toks:=t}:=⟨s.heap,t,[],rfl,λ_ _ e=>e,r,(λ_ h=>bT h),(λ_ h=>ar h)⟩
theorem bO.weak{P':Addr->Prop}{v:Value}{d:PyData}{s':Shared}(n:bO s d P v s')(k:∀a,P a->P' a):bO s d P' v s' :=
 n.elim λh n=>n.elim λt n=>n.elim λas n=>⟨h,t,as,n.1,n.2.1,n.2.2.1,λa ha=>(n.2.2.2.1 a ha).imp id (k a),n.2.2.2.2⟩
theorem bO.list(r:bz s.heap vs ds as)(q:∀a∈as,s.heap.get? a=none∨P a) :
  bO s (.list ds) P (.ref s.heap.objs.size) {s with heap:=s.heap.push {cls:=.type "list",data:=.seq vs.toArray},toks:=t} :=
 ⟨_,t,s.heap.objs.size::as,rfl,λb o e=>ao _ e,.list (aX _ rfl) rfl rfl rfl rfl (r.keep λa _ o e=>ao _ e),λa ha=>by
  rcases aI ha with rfl|ha
  ·exact .inl (aK (am _))
  ·exact q a ha,λa h=>by
   cases h
   have e:s.heap.get? s.heap.objs.size=none:=aK (am _)
   exact⟨e,λm=>by obtain⟨o,q⟩:=r.live _ m;rw[e]at q;cases q⟩⟩
theorem bO.tuple(r:bz s.heap vs ds as)(q:∀a∈as,s.heap.get? a=none∨P a) :
  bO s (.tuple ds) P (.ref s.heap.objs.size) {s with heap:=s.heap.push {cls:=.type "tuple",data:=.seq vs.toArray},toks:=t} :=
 ⟨_,t,s.heap.objs.size::as,rfl,λb o e=>ao _ e,.tuple (aX _ rfl) rfl rfl (r.keep λa _ o e=>ao _ e),λa ha=>by
  rcases aI ha with rfl|ha
  ·exact .inl (aK (am _))
  ·exact q a ha,λa h=>by
   cases h
   have e:s.heap.get? s.heap.objs.size=none:=aK (am _)
   exact⟨e,λm=>by obtain⟨o,q⟩:=r.live _ m;rw[e]at q;cases q⟩⟩
theorem bz.flatten(r:bz h vs ds as):∀n,∃bs,bz h (List.replicate n vs).flatten (List.replicate n ds).flatten bs∧∀a∈bs,a∈as
|0=>⟨[],.nil,λ_ h=>bT h⟩
|n+1=>by
  obtain⟨bs,hb,hs⟩:=r.flatten n
  refine⟨as++bs,?_,λa ha=>?_⟩
  ·rw[List.replicate_succ,List.replicate_succ,List.flatten_cons,List.flatten_cons]
   exact r.append hb
  ·rcases ae ha with q|q
   ·exact q
   ·exact hs a q
theorem foldl_append(vs):∀(n:Nat) (a:Array Value),(List.foldl (λx1 x2=>x1++x2) a (List.replicate n vs))=(a.toList++(List.replicate n vs.toList).flatten).toArray
|0,a=>by simp
|n+1,a=>by rw[List.replicate_succ,List.foldl_cons,foldl_append vs n,List.replicate_succ,List.flatten_cons];simp
theorem Pz(h:y.natAbs < 2 ^ 60):Builtin.divisionGoesByPylong x y=false:=by
 unfold Builtin.divisionGoesByPylong
 have h2:y.natAbs.log2 < 60:=by
  by_cases h0:y.natAbs=0
  ·rw[h0];decide
  ·exact(Nat.log2_lt h0).mpr h
 simp only[Bool.and_eq_false_iff,decide_eq_false_iff_not]
 left
 split
 ·decide
 ·exact Nat.not_lt.mpr (aa (aS (Nat.div_le_self _ _)) (aa h2 b9))
theorem Lg(hx:PyData.strOk x=true)(hy:PyData.strOk y=true):PyData.strOk ⟨⟨x.cps.toList++y.cps.toList⟩⟩=true:=by
 unfold PyData.strOk at *
 simp only[Array.all_eq_true_iff_forall_mem]at *
 intro c hc
 simp only[List.mem_toArray,List.mem_append,Array.mem_toList_iff]at hc
 rcases hc with h|h
 ·exact hx c h
 ·exact hy c h
theorem yc(hx:PyData.strOk x=true)(h:∀c∈l,c∈x.cps.toList):PyData.strOk ⟨⟨l⟩⟩=true:=by
 unfold PyData.strOk at *
 simp only[Array.all_eq_true_iff_forall_mem]at *
 intro c hc
 exact hx c (by simpa using h c (by simpa using hc))
theorem Zz(hx:PyData.strOk x=true)(n):PyData.strOk ⟨⟨(List.replicate n x.cps.toList).flatten⟩⟩=true :=
 yc hx λc hc=>by
  obtain⟨l,hl,hc⟩:=List.mem_flatten.mp hc
  replace hc:=((b4 hl).2)▸hc
  exact hc
theorem foldl_append'(vs:Array Nat):∀(n:Nat) (a:Array Nat),(List.foldl (λx1 x2=>x1++x2) a (List.replicate n vs))=(a.toList++(List.replicate n vs.toList).flatten).toArray
|0,a=>by simp
|n+1,a=>by rw[List.replicate_succ,List.foldl_cons,foldl_append' vs n,List.replicate_succ,List.flatten_cons];simp
theorem Xz(x)(n):Txt.mul x n=⟨⟨(List.replicate n.toNat x.cps.toList).flatten⟩⟩:=by
 unfold Txt.mul
 split
 ·have:n.toNat=0:=by lia
  rw[this];rfl
 ·split
  ·rename_i h1 h2
   rw[Bool.or_eq_true]at h2
   rcases h2 with h2|h2
   ·have:n=1:=by simpa using h2
    subst this
    obtain⟨⟨l⟩⟩:=x
    simp
   ·have:x.cps=#[]:=Array.eq_empty_of_size_eq_zero (by simpa[Str.length]using h2)
    obtain⟨l⟩:=x
    simp only at this
    subst this
    simp
  ·rw[foldl_append']
   simp
theorem RD.Bh{C:Value->Value->Prop}(ra:RD h va (.int x) as)(rb:RD h vb (.int y) bs)(k:∀t u,C (.int x t) (.int y u)):C va vb:=by
 obtain⟨t,rfl,_⟩:=ra.jP
 obtain⟨u,rfl,_⟩:=rb.jP
 exact k t u
inductive qY(f:Int->Int->PyData)(c:Int->Int->Prop)(a b d:PyData):Prop
|mk (x y:Int):a=.int x->b=.int y->c x y->d=f x y->qY f c a b d
inductive Ew(f:Str->Str->PyData)(c:Str->Str->Prop)(a b d:PyData):Prop
|mk (x y:Str):a=.str x->b=.str y->c x y->d=f x y->Ew f c a b d
inductive JS(f:List PyData->List PyData->PyData)(c:List PyData->List PyData->Prop)(a b d:PyData):Prop
|mk (x y:List PyData):a=.list x->b=.list y->c x y->d=f x y->JS f c a b d
section
variable {a b d:PyData}
theorem aba(e:wk a b=some d):qY (λx y=>.int (x+y)) (λ_ _=>True) a b d∨Ew (λx y=>.str ⟨⟨x.cps.toList++y.cps.toList⟩⟩) (λx y=>x.cps.size+y.cps.size≤lim) a b d∨JS (λx y=>.list (x++y)) (λx y=>x.length+y.length≤lim) a b d:=by
 cases a with
|int x=>cases b with
 |int y=>exact .inl ⟨x,y,rfl,rfl,trivial,(bX e).symm⟩
 |_=>exact ar e
|str x=>cases b with
 |str y=>exact d8 e λh q=>.inr (.inl ⟨x,y,rfl,rfl,h,q.symm⟩)
 |_=>exact ar e
|list x=>cases b with
 |list y=>exact d8 e λh q=>.inr (.inr ⟨x,y,rfl,rfl,h,q.symm⟩)
 |_=>exact ar e
|_=>exact ar e
theorem S9(e:K9 a b=some d):qY (λx y=>.int (x - y)) (λ_ _=>True) a b d:=by
 cases a with
|int x=>cases b with
 |int y=>exact⟨x,y,rfl,rfl,trivial,(bX e).symm⟩
 |_=>exact ar e
|_=>exact ar e
inductive zx(a b d:PyData):Prop
|ii (x y:Int):a=.int x->b=.int y->y.natAbs < 2 ^ 60->d=.int (x*y)->zx a b d
|si (x:Str) (y:Int):a=.str x->b=.int y->x.cps.size*y.toNat≤lim->y.natAbs≤lim->d=.str ⟨⟨(List.replicate y.toNat x.cps.toList).flatten⟩⟩->zx a b d
|li (x:List PyData) (y:Int):a=.list x->b=.int y->x.length*y.toNat≤lim->y.natAbs≤lim->d=.list (List.replicate y.toNat x).flatten->zx a b d
theorem Rp(e:xZ a b=some d):zx a b d:=by
 cases b with
|int y=>cases a with
 |int x=>exact d8 e λh q=>.ii x y rfl rfl h q.symm
 |str x=>exact d8 e λh q=>.si x y rfl rfl h.1 h.2 q.symm
 |list x=>exact d8 e λh q=>.li x y rfl rfl h.1 h.2 q.symm
 |_=>exact ar e
|_=>cases a<;>exact ar e
theorem abA(e:Bs a b=some d):qY (λx y=>.int (x.fdiv y)) (λ_ y=>y≠0∧y.natAbs < 2 ^ 60) a b d:=by
 cases a with
|int x=>cases b with
 |int y=>exact d8 e λh q=>⟨x,y,rfl,rfl,h,q.symm⟩
 |_=>exact ar e
|_=>exact ar e
theorem Tz(e:DP a b=some d):qY (λx y=>.int (x.fmod y)) (λ_ y=>y≠0) a b d:=by
 cases a with
|int x=>cases b with
 |int y=>exact d8 e λh q=>⟨x,y,rfl,rfl,h,q.symm⟩
 |_=>exact ar e
|_=>exact ar e
theorem RN(e:Nx a b=some d):qY (λx y=>.int (x ^ y.toNat)) (λx y=>0≤y∧y≤1000∧x.natAbs < 2 ^ 60) a b d:=by
 cases a with
|int x=>cases b with
 |int y=>exact d8 e λh q=>⟨x,y,rfl,rfl,h,q.symm⟩
 |_=>exact ar e
|_=>exact ar e
end
theorem vw{a b d D:PyData}(ra:RD s.heap va a as)(rb:RD s.heap vb b bs)(ha:a=.int x)(hb:b=.int y)(hd:d=D)
  (k:∀t u,wpAny (model prog w) A (binaryOp op (.int x t) (.int y u)) (bO s D P) a8 s):wpAny (model prog w) A (binaryOp op va vb) (bO s d P) a8 s:=by
 subst ha hb hd
 exact RD.Bh (C:=λva vb=>wpAny (model prog w) A (binaryOp op va vb) (bO s d P) a8 s) ra rb k
theorem VK(ra:RD s.heap va (.str x) as)(rb:RD s.heap vb (.str y) bs)(hl:x.cps.size+y.cps.size≤lim):wpAny (model prog w) A (binaryOp .Add va vb) (bO s (.str ⟨⟨x.cps.toList++y.cps.toList⟩⟩) P) a8 s:=by
 obtain⟨t,rfl,_,hx⟩:=ra.fQ
 obtain⟨u,rfl,_,hy⟩:=rb.fQ
 refine PyProof.Rows.add_str (λt' tk=>?_) (aa hl b9)
 have:x++y=⟨⟨x.cps.toList++y.cps.toList⟩⟩:=by
  show Str.append x y=_
  unfold Str.append
  congr 1
  rw[← Array.toList_inj,Array.toList_append]
 refine this.symm▸?_
 exact bO.val (.str _ _ (Lg hx hy))
theorem add_lists(ra:RD s.heap va (.list x) as)(rb:RD s.heap vb (.list y) bs)(hl:x.length+y.length≤lim):wpAny (model prog w) A (binaryOp .Add va vb) (bO s (.list (x++y)) (λx=>x∈as.tail∨x∈bs.tail)) a8 s:=by
 obtain⟨la,va,na,jb,rfl,rfl,h1,l1,h6⟩:=ra.j8
 obtain⟨lb,vb,nb,uD,rfl,rfl,k1,l2,k6⟩:=rb.j8
 have hsz:va.size+vb.size≤sizeLine:=l1.symm▸l2.symm▸aa hl b9
 refine binaryOp_concat (T:="list") ⟨_,h1,rfl⟩ ⟨_,k1,rfl⟩ (by first|exact noFill_list_add|decide) (by first|exact seq_list_add|decide) (call_meets F.slot_list_add ⟨_,h1,rfl⟩ F.entry_list_add (F.args_list_add_2 _ _)
  (list_addW la lb va vb na nb none none #[] #[] hsz) ⟨h1,k1,?_⟩)
 have r:=bO.list (P:=λx=>x∈(la::jb).tail∨x∈(lb::uD).tail) (t:=s.toks) (h6.append k6) λa ha=>.inr (ae ha)
 have e2:(va.toList++vb.toList).toArray=va++vb:=by rw[← Array.toList_inj];simp
 replace r:=e2▸r
 exact r
theorem ZD(ra:RD s.heap va (.str x) as)(rb:RD s.heap vb (.int y) bs)(hl:x.cps.size*y.toNat≤lim∧y.natAbs≤lim):wpAny (model prog w) A (binaryOp .Mult va vb) (bO s (.str ⟨⟨(List.replicate y.toNat x.cps.toList).flatten⟩⟩) P) a8 s:=by
 obtain⟨t,rfl,_,hx⟩:=ra.fQ
 obtain⟨u,rfl,_⟩:=rb.jP
 have hm:MulOk x y:=by
  refine⟨by unfold lim at hl;simp only[Bool.or_eq_false_iff,decide_eq_false_iff_not];exact⟨Int.not_lt.mpr (bd (by decide) (td hl.2)),Int.not_le.mpr (Int.lt_of_le_of_lt (rU hl.2) (by decide))⟩,λh1 h2=>?_,λh1 h2=>?_⟩
  ·have lN:=hl.2
   have og:=hl.1
   unfold lim at og lN
   have Wg:0 < y:=Int.lt_of_lt_of_le (by decide) (bY h1)
   have hlen:(x.length:Int)*y≤1048576:=by
    have:((x.cps.size*y.toNat:Nat):Int)≤((1048576:Nat):Int):=bk og
    rw[Int.natCast_mul,Int.toNat_of_nonneg (by (exact Int.le_of_lt (by assumption)))]at this
    exact this
   have hq:(1048576:Int)≤(2 ^ 63 - 1) / y:=(Int.le_ediv_iff_mul_le Wg).mpr (bd (Int.mul_le_mul_of_nonneg_left (rU lN) (by decide)) (by decide))
   have u6:(x.length:Int)≤1048576:=by
    have h3:(x.length:Int)*1≤(x.length:Int)*y:=Int.mul_le_mul_of_nonneg_left (by assumption) (by (exact bf _))
    exact Int.mul_one (x.length:Int)▸bd h3 hlen
   exact Int.not_lt.mpr (bd u6 hq)
  ·have og:=hl.1
   unfold lim at og
   skip
   exact decide_eq_false (by show ¬ x.cps.size*y.toNat > 2 ^ 24;exact Nat.not_lt.mpr (aa og b9))
 refine SB.mul hm λt' k=>?_
 rw[Xz]
 exact bO.val (.str _ _ (Zz hx _))
theorem Xv(ra:RD s.heap va' (.list xs) as)(rb:RD s.heap vb (.int y) bs)(hl:xs.length*y.toNat≤lim∧y.natAbs≤lim):wpAny (model prog w) A (binaryOp .Mult va' vb) (bO s (.list (List.replicate y.toNat xs).flatten) (λx=>x∈as.tail∨x∈bs.tail)) a8 s:=by
 obtain⟨la,va,na,jb,rfl,rfl,h1,hlen,h6⟩:=ra.j8
 obtain⟨u,rfl,rfl⟩:=rb.jP
 have og:=hl.1
 have lN:=hl.2
 unfold lim at og lN
 refine wpAny_binaryOp_repeat_ref (T:="list") (U:="int") (by decide) ⟨_,h1,rfl⟩ (λs'=>typeIs_int s' y u) noFill_list_mul F.fills_int_mul F.slot_int_rmul repeat_list F.slot_int_index.lookup
  (call_meets F.slot_int_rmul (typeIs_int s y u) F.entry_int_rmul (F.args_int_rmul_2 _ _) (int___rmul___int_list y u la va na)
   ⟨h1,rfl,⟨_,h1,rfl⟩,call_meets F.slot_list_mul ⟨_,h1,rfl⟩ F.entry_list_mul (F.args_list_mul_2 _ _)
    (AutoListH.list___mul___list_int_3 la va na y u (by simp[Builtin.List.listFitsIndex];exact⟨bd (by decide) (td lN),Int.lt_of_le_of_lt (rU lN) (by decide)⟩) (by rw[hlen];exact Nat.not_lt.mpr (aa og b9)) (by rw[hlen];show ¬ (decide (_ > 2 ^ 24)=true);exact λq=>absurd (of_decide_eq_true q) (Nat.not_lt.mpr (aa og b9))))
    ⟨h1,?_⟩⟩)
 rw[foldl_append]
 have e3:(List.replicate (if va.isEmpty=true then 0 else y.toNat) va.toList).flatten=(List.replicate y.toNat va.toList).flatten:=by
  cases hv:va.isEmpty with
 |false=>simp
 |true =>
   have:va=#[]:=by simpa using hv
   subst this
   simp
 refine e3.symm▸?_
 obtain⟨bs,hb,Gz⟩:=h6.flatten y.toNat
 have r:=bO.list (P:=λx=>x∈(la::jb).tail∨x∈([]:List Addr).tail) (t:=s.toks) hb λa ha=>.inr (.inl (Gz a ha))
 simpa using r
theorem XI(op:Operator){a b d:PyData}{va vb:Value}{as bs:List Addr}(ra:RD s.heap va a as)(rb:RD s.heap vb b bs)(e:lO op a b=some d) :
  wpAny (model prog w) A (binaryOp op va vb) (bO s d (λx=>x∈as.tail∨x∈bs.tail)) a8 s:=by
 cases op with
|Add =>
  rcases aba e with⟨x,y,h1,h2,_,h3⟩|⟨x,y,h1,h2,h4,h3⟩|⟨x,y,h1,h2,h4,h3⟩
  ·exact vw ra rb h1 h2 h3 λt u=>PyProof.Rows.add_int (bO.val (.int _ _))
  ·rw[h3];exact VK (h1▸ra) (h2▸rb) h4
  ·rw[h3];exact add_lists (h1▸ra) (h2▸rb) h4
|Sub =>
  obtain⟨x,y,h1,h2,_,h3⟩:=S9 e
  exact vw ra rb h1 h2 h3 λt u=>PyProof.Rows.sub_int' (bO.val (.int _ _))
|Mult =>
  cases Rp e with
 |ii x y h1 h2 hl h3 =>
   exact vw ra rb h1 h2 h3 λt u=>PyProof.Rows.mul_int (bO.val (.int _ _)) (by
    have:=intBits_le_64 (k:=y) (Int.lt_of_lt_of_le (by decide) (td (aG hl))) (Int.lt_of_le_of_lt (rU (aG hl)) (by decide))
    simp only[IntMulOk,Bool.and_eq_true,not_and,decide_eq_true_eq]
    intro q
    have h64:shortFactorBits=64:=rfl
    lia)
 |si x y h1 h2 l1 l2 h3=>rw[h3];exact ZD (h1▸ra) (h2▸rb) ⟨l1,l2⟩
 |li x y h1 h2 l1 l2 h3=>rw[h3];exact Xv (h1▸ra) (h2▸rb) ⟨l1,l2⟩
|FloorDiv =>
  obtain⟨x,y,h1,h2,hl,h3⟩:=abA e
  exact vw ra rb h1 h2 h3 λt u=>PyProof.Rows.floordiv_int hl.1 (bO.val (.int _ _)) (.inl (Pz hl.2))
|Mod =>
  obtain⟨x,y,h1,h2,hl,h3⟩:=Tz e
  exact vw ra rb h1 h2 h3 λt u=>PyProof.Rows.mod_int' hl (bO.val (.int _ _))
|Pow =>
  obtain⟨x,y,h1,h2,hl,h3⟩:=RN e
  exact vw ra rb h1 h2 h3 λt u=>pow_int_small hl.1 (bd hl.2.1 (by decide)) (a9 hl.2.2 b9) (bO.val (.int _ _))
|_=>exact ar e
end
mutual
noncomputable def tj:PyData->PyData->Bool
|.none,.none=>true
|.bool a,.bool b=>a==b
|.bool a,.int j=>(if a then 1 else 0)==j
|.int i,.bool b=>i==(if b then 1 else 0)
|.int i,.int j=>i==j
|.str x,.str y=>x.cps.toList==y.cps.toList
|.list xs,.list ys=>mt xs ys
|.tuple xs,.tuple ys=>mt xs ys
|_,_=>false
noncomputable def mt:List PyData->List PyData->Bool
|[],[]=>true
|x::xs,y::ys=>tj x y&&mt xs ys
|_,_=>false
end
mutual
theorem Bi:∀x y:PyData,tj x y=PyData.eqv x y
|.none,y=>by cases y<;>rfl
|.bool a,y=>by cases y<;>rfl
|.int i,y=>by cases y<;>rfl
|.str a,y=>by
  cases y with
 |str b=>exact toList_beq _ _
 |_=>rfl
|.list xs,y=>by
  cases y with
 |list ys=>exact Eu xs ys
 |_=>rfl
|.tuple xs,y=>by
  cases y with
 |tuple ys=>exact Eu xs ys
 |_=>rfl
|.dict _,y=>by cases y<;>rfl
theorem Eu:∀xs ys:List PyData,mt xs ys=PyData.eqvAll xs ys
|[],ys=>by cases ys<;>rfl
|x::xs,ys=>by
  cases ys with
 |nil=>rfl
 |cons y ys =>
   show(tj x y&&mt xs ys)=(PyData.eqv x y&&PyData.eqvAll xs ys)
   exact(Bi x y).symm▸(Eu xs ys).symm▸rfl
end
theorem Dt:∀l:List PyData,(∀x∈l,f x=true->x.depth≤n)->l.all f=true->PyData.depthAll l≤n
|[],_,_=>bZ _
|x::r,k,h=>by
  rw[List.all_cons,Bool.and_eq_true]at h
  exact Nat.max_le.mpr ⟨k x (aq ..) h.1,Dt r (λy hy=>k y (al _ hy)) h.2⟩
theorem vS:∀(n:Nat) (d:PyData),gV n d=true->d.depth≤n
|n,.none,_=>bZ _
|n,.bool _,_=>bZ _
|n,.int _,_=>bZ _
|n,.str _,_=>bZ _
|0,.list l,h=>absurd h aw
|0,.tuple l,h=>absurd h aw
|n+1,.list l,h=>by
  rw[PyData.depth]
  have:=Dt l (λx _=>vS n x) h
  (exact bQ (by assumption))
|n+1,.tuple l,h=>by
  rw[PyData.depth]
  have:=Dt l (λx _=>vS n x) h
  (exact bQ (by assumption))
|0,.dict _,h=>absurd h aw
|n+1,.dict _,h=>absurd h aw
noncomputable def inD(a:PyData):PyData->Option Bool
|.list l=>if gV 3 a then some (l.any λy=>tj y a)else none
|.str x=>match a with
 |.str y=>match y.cps.toList with
  |[c]=>some (x.cps.toList.contains c)
  |_=>none
 |_=>none
|_=>none
noncomputable def vg(f:Int->Int->Bool):PyData->PyData->Option Bool
|.int x,.int y=>some (f x y)
|_,_=>none
noncomputable def Bc:PyData->PyData->Option Bool
|.bool x,.bool y=>some (x==y)
|.none,.none=>some true
|.int _,.none=>some false
|_,_=>none
noncomputable def fq(op:CmpOp)(a b:PyData):Option Bool :=
 match op with
|.Eq=>if gV 3 a||gV 3 b then some (tj a b)else none
|.NotEq=>if gV 3 a||gV 3 b then some (!tj a b)else none
|.Lt=>vg (λx y=>decide (x < y)) a b
|.LtE=>vg (λx y=>decide (x≤y)) a b
|.Gt=>vg (λx y=>decide (y < x)) a b
|.GtE=>vg (λx y=>decide (y≤x)) a b
|.Is=>Bc a b
|.IsNot=>(Bc a b).map (!·)
|.In=>inD a b
|.NotIn=>(inD a b).map (!·)
section
variable {prog:Program}{w:World}{A:Around}{E:Value->Shared->Prop}{s:Shared}
theorem str_of_list{y:Str}(h:y.cps.toList=l):y=⟨⟨l⟩⟩:=by obtain⟨⟨l'⟩⟩:=y;simp at h;rw[h]
theorem K4(l:List Nat)(c):decide (c∈l)=l.contains c:=by rw[Bool.eq_iff_iff];simp
noncomputable def jI(s:Shared)(r:Bool)(v:Value)(s':Shared):Prop:=v=.bool r∧∃t,s'={s with toks:=t}
theorem jI.mk(r):jI s r (.bool r) s:=⟨rfl,s.toks,rfl⟩
theorem Xf(e:vg f a b=some r):∃x y,a=.int x∧b=.int y∧f x y=r:=by
 cases a with
|int x=>cases b with
 |int y=>exact⟨x,y,rfl,rfl,bX e⟩
 |_=>exact ar e
|_=>exact ar e
theorem Ck(ra:RD s.heap va a as)(rb:RD s.heap vb b bs)(e:vg f a b=some r)
  (k:∀x y t u,wpAny (model prog w) A (compareOp op (.int x t) (.int y u)) (jI s (f x y)) a8 s):wpAny (model prog w) A (compareOp op va vb) (jI s r) a8 s:=by
 obtain⟨x,y,rfl,rfl,rfl⟩:=Xf e
 exact RD.Bh (C:=λva vb=>wpAny (model prog w) A (compareOp op va vb) (jI s (f x y)) a8 s) ra rb (k x y)
inductive yK(a b:PyData)(r:Bool):Prop
|bb (x y:Bool):a=.bool x->b=.bool y->(x==y)=r->yK a b r
|nn:a=.none->b=.none->true=r->yK a b r
|nx (x:Int):a=.int x->b=.none->false=r->yK a b r
theorem Sb(e:Bc a b=some r):yK a b r:=by
 cases a with
|bool x=>cases b with
 |bool y=>exact .bb x y rfl rfl (bX e)
 |_=>exact ar e
|none=>cases b with
 |none=>exact .nn rfl rfl (bX e)
 |_=>exact ar e
|int x=>cases b with
 |none=>exact .nx x rfl rfl (bX e)
 |_=>exact ar e
|_=>exact ar e
theorem J8{C:Value->Value->Bool->Prop}(ra:RD s.heap va a as)(rb:RD s.heap vb b bs)(e:Bc a b=some r)
  (k1:∀x y,C (.bool x) (.bool y) (x==y)) (k2:C .none .none true) (k3:∀x t,C (.int x t) .none false):C va vb r:=by
 cases Sb e with
|bb x y h1 h2 h3 =>
  subst h1 h2 h3
  refine ra.zy.1.symm▸rb.zy.1.symm▸?_
  exact k1 x y
|nn h1 h2 h3 =>
  subst h1 h2 h3
  refine ra.none_.1.symm▸rb.none_.1.symm▸?_
  exact k2
|nx x h1 h2 h3 =>
  subst h1 h2 h3
  obtain⟨t,q,_⟩:=ra.jP
  refine q.symm▸rb.none_.1.symm▸?_
  exact k3 x t
inductive zS(a b:PyData)(r:Bool):Prop
|li (l:List PyData):b=.list l->gV 3 a=true->l.any (λy=>PyData.eqv y a)=r->zS a b r
|si (x:Str) (c:Nat):b=.str x->a=.str ⟨⟨[c]⟩⟩->x.cps.toList.contains c=r->zS a b r
theorem acE{l m:List Nat}(e:(match l with|[c]=>some (m.contains c)|_=>none)=some r):∃c,l=[c]∧m.contains c=r :=
 match l,e with
|[c],e=>⟨c,rfl,bX e⟩
|[],e=>ar e
|_::_::_,e=>ar e
theorem M9(e:inD a b=some r):zS a b r:=by
 cases b with
|list l =>
  exact d8 e λh q=>.li l rfl h (q▸(show(λy=>tj y a)=λy=>PyData.eqv y a from funext λy=>Bi y a).symm▸rfl)
|str x=>cases a with
 |str y =>
   obtain⟨c,h1,h2⟩:=acE e
   exact .si x c rfl ((str_of_list h1).symm▸rfl) h2
 |_=>exact ar e
|_=>exact ar e
theorem NZ(R:cJ A 1)(hn:n≤3)(h:x≤n∨y≤n):A.units+1+min x y < cLine:=by
 have hu:=R.units
 have:min x y≤n:=h.elim (aa (Nat.min_le_left _ _)) (aa (Nat.min_le_right _ _))
 exact ah (aQ (aa this hn) (A.units+1)) (a9 (ah (aQ (show 4≤40 by decide) A.units) hu) (show 9000 < 9900 by decide))
theorem Jb(ra:RD s.heap va a as)(rb:RD s.heap vb b bs)(e:zS a b r)
  (k1:∀l x y n,RD s.heap va a as->bz s.heap x l y->∀uD,Reads s.heap vb (.list l) uD->gV 3 a=true->b=.list l->n=l.any (λy=>PyData.eqv y a)->n=r->wpAny (model prog w) A (compareOp op va vb) (jI s r') a8 s)
  (k2:∀x c t u,x.cps.toList.contains c=r->wpAny (model prog w) A (compareOp op (.str ⟨#[c]⟩ t) (.str x u)) (jI s r') a8 s):wpAny (model prog w) A (compareOp op va vb) (jI s r') a8 s:=by
 cases e with
|li l h1 h2 h3 =>
  subst h1
  obtain⟨_,Rb⟩:=rb.reads
  obtain⟨_,vs,_,uD,_,_,_,_,q⟩:=rb.j8
  exact k1 l _ _ _ ra q _ Rb h2 rfl rfl h3
|si x c h1 h2 h3 =>
  subst h1 h2
  obtain⟨t,q1,_⟩:=ra.fQ
  obtain⟨u,q2,_⟩:=rb.fQ
  refine q1.symm▸q2.symm▸?_
  exact k2 x c t u h3
theorem LD(e:o.map (!·)=some r):o=some !r:=by
 cases o with
|none=>exact ar e
|some x=>rw[← bX e];cases x<;>rfl
theorem O9(op:CmpOp){a b:PyData}(R:cJ A 1)(ra:RD s.heap va a as)(rb:RD s.heap vb b bs)(e:fq op a b=some r) :
  wpAny (model prog w) A (compareOp op va vb) (λv s'=>v=.bool r∧∃t,s'={s with toks:=t}) a8 s:=by
 show wpAny (model prog w) A (compareOp op va vb) (jI s r) a8 s
 have room:(gV 3 a||gV 3 b)=true->A.units+min a.depth b.depth < cLine:=λh=>by
  have:=NZ (x:=a.depth) (y:=b.depth) R (am 3) ((Bool.or_eq_true _ _▸h:gV 3 a=true∨gV 3 b=true).imp (vS 3 a) (vS 3 b))
  exact ah (az (ax _ _) _) this
 have H5:∀{l:List PyData},gV 3 a=true->A.units+1+min (PyData.depthAll l) a.depth < cLine:=λh=>NZ R (am 3) (.inr (vS 3 a h))
 cases op with
|Eq =>
  obtain⟨_,Ra⟩:=ra.reads
  obtain⟨_,Rb⟩:=rb.reads
  exact d8 e λh q=>SeqAt.compareEq_reads Ra Rb ra.canLay rb.canLay (room h) (by rw[← Bi,q];exact .mk _)
|NotEq =>
  obtain⟨_,Ra⟩:=ra.reads
  obtain⟨_,Rb⟩:=rb.reads
  exact d8 e λh q=>SeqAt.compareNe_reads Ra Rb ra.canLay rb.canLay (room h) (by rw[← Bi,q];exact .mk _)
|Lt=>exact Ck ra rb e λ_ _ _ _=>PyProof.Rows.lt_int (.mk _)
|LtE=>exact Ck ra rb e λ_ _ _ _=>PyProof.Rows.le_int (.mk _)
|Gt=>exact Ck ra rb e λ_ _ _ _=>PyProof.Rows.gt_int (.mk _)
|GtE=>exact Ck ra rb e λ_ _ _ _=>PyProof.Rows.ge_int (.mk _)
|Is=>exact J8 (C:=λva vb r=>wpAny (model prog w) A (compareOp .Is va vb) (jI s r) a8 s) ra rb e (λ_ _=>is_bool (.mk _)) (is_none_none (.mk _)) λ_ _=>is_none_ne (λh=>nomatch h) (.mk _)
|IsNot =>
  have:=J8 (C:=λva vb r=>wpAny (model prog w) A (compareOp .IsNot va vb) (jI s (!r)) a8 s) ra rb (LD e) (λ_ _=>isnot_bool (.mk _)) (isnot_none_none (.mk _)) λ_ _=>isnot_none_ne (λh=>nomatch h) (.mk _)
  rwa [Bool.not_not]at this
|In =>
  exact Jb ra rb (M9 e) (λl x y n ra q _ Rb h hb hn hr=>by
   obtain⟨_,Ra⟩:=ra.reads
   exact SeqAt.in_list_reads Rb Ra q.canLay ra.canLay (H5 h) (by rw[← hn,hr];exact .mk _)) λx c t u h=>in_str (by rw[StrLaws.found_one,K4,h];exact .mk _)
|NotIn =>
  exact Jb (r:=!r) ra rb (M9 (LD e)) (λl x y n ra q _ Rb h hb hn hr=>by
   obtain⟨_,Ra⟩:=ra.reads
   exact SeqAt.notIn_list_reads Rb Ra q.canLay ra.canLay (H5 h) (by rw[← hn,hr,Bool.not_not];exact .mk _)) λx c t u h=>notIn_str (by rw[StrLaws.found_one,K4,h,Bool.not_not];exact .mk _)
end
theorem cU.map{ρ aA:aJ}{Z Z':List Addr}{h h':Heap}(f:∀{p v},VR ρ Z h p v->VR aA Z' h' p v){ps:List PV}{vs:List Value}(r:cU ρ Z h ps vs):cU aA Z' h' ps vs:=cU.rec (motive:=λps vs _=>cU aA Z' h' ps vs) .nil (λx _ ih=>.cons (f x) ih) r
theorem cU.ext{X:List Addr}{ρ aA:aJ}{s s':Shared}{Z:List Addr}(x:Ext X ρ s aA s')(hX:∀a∈X,a∈Z){ps:List PV}{vs:List Value}(r:cU ρ Z s.heap ps vs):cU aA Z s'.heap ps vs:=r.map λy=>y.ext x hX
noncomputable def Qc(hp:List MO):List PV->Option (List PyData)
|[]=>some []
|p::r=>match rd hp p,Qc hp r with
 |some d,some ds=>some (d::ds)
 |_,_=>none
noncomputable def fV:List PV->Option (List PyData)
|[]=>some []
|.dat d::r=>(fV r).map (d::·)
|_::_=>none
theorem VT{C:Prop}(e:fV (p::r)=some ds)(k:∀d l,p=.dat d->fV r=some l->d::l=ds->C):C:=by
 cases p with
|dat d =>
  obtain⟨l,h1,h2⟩:=Option.map_eq_some_iff.mp (show(fV r).map (d::·)=some ds from e)
  exact k d l rfl h1 h2
|_=>exact ar e
theorem AE{ρ:aJ}{Z:List Addr}{h:Heap}{ps:List PV}{vs:List Value}{ds:List PyData}(x:cU ρ Z h ps vs)(e:fV ps=some ds):∃as,bz h vs ds as∧∀a∈as,a∉bF ρ∧a∉Z:=by
 revert ds
 refine cU.rec (motive:=λps vs _=>∀{ds:List PyData},fV ps=some ds->∃as,bz h vs ds as∧∀a∈as,a∉bF ρ∧a∉Z) (λe=>⟨[],bX e▸.nil,λ_ h=>bT h⟩) (λx _ ih ds e=>VT e λd l h1 h2 h3=>?_) x
 rw[h1]at x
 obtain⟨as,ra,ha⟩:=x
 obtain⟨bs,rb,hb⟩:=ih h2
 exact⟨as++bs,h3▸.cons ra rb,λa h=>(ae h).elim (ha a) (hb a)⟩
section
variable {prog:Program}{w:World}{K:Addr->Option Obj}{O:Fx}{Z:List Addr}
theorem bO.post{ρ:aJ}{Z:List Addr}{hp:List MO}{s s':Shared}{d:PyData}{P:Addr->Prop}{v:Value}(H:HR ρ Z hp s.heap)(x:bO s d P v s')(hP:∀a,P a->a∉bF ρ∧a∉Z):cE ρ Z s (.dat d) hp v s':=by
 refine cps λ_ KK=>?_
 obtain⟨h,t,as,rfl,k,r,q,_⟩:=x
 refine KK ?_
 exact⟨ρ,Ext.of_keep k,⟨as,r,λa ha=>(q a ha).elim H.fresh (hP a)⟩,H.keep k⟩
theorem cE.trans{ρ aD:aJ}{Z:List Addr}{ai:List MO}{s s_1 bn:Shared}{pv:PV}{v:Value}(x:Ext [] ρ s aD s_1)(p:cE aD Z s_1 pv ai v bn):cE ρ Z s pv ai v bn :=
 Exists.elim p λaA q=>⟨aA,x.trans q.1,q.2⟩
theorem cE.of_toks{ρ:aJ}{Z:List Addr}{hp:List MO}{s:Shared}{pv:PV}{v:Value}{t:Nat}(H:HR ρ Z hp s.heap)(r:VR ρ Z s.heap pv v):cE ρ Z s pv hp v {s with toks:=t} :=
 ⟨ρ,Ext.of_keep (h:=s.heap) λ_ _ e=>e,r,H⟩
noncomputable def aN{α:Type}(F:EF)(G:PV->St->Option (α×List MO)):St->Option (α×List MO):=λσ=>match F σ with
|some (v,hp)=>G v ⟨σ.loc,hp⟩
|none=>none
abbrev NF:=St->Option (PyData×List MO)
noncomputable def ev(f:PyData->PyData->Option PyData)(a b:PV):NF:=λσ=>match rd σ.hp a,rd σ.hp b with
|some x,some y=>match f x y with
 |some d=>some (d,σ.hp)
 |none=>none
|_,_=>none
noncomputable def vZ(ρ:aJ)(Z:List Addr)(s:Shared)(d:PyData)(ai:List MO)(v:Value)(s':Shared):Prop :=
 ∃aA bn P,Ext [] ρ s aA bn∧HR aA Z ai bn.heap∧bO bn d P v s'∧∀a,P a->a∉bF aA∧a∉Z
structure bV(prog:Program)(w:World)(K:Addr->Option Obj)(O:Fx)(e:Expr)(F:NF):Prop where
 run:∀(A:Around) (ρ:aJ) (Z:List Addr) (σ:St) (s:Shared) (d:PyData) (ai:List MO),cJ A O.k->SR K O ρ Z σ s->F σ=some (d,ai) ->
  wpAny (model prog w) A (eval e O.env) (vZ ρ Z s d ai) a8 s
theorem vZ.post{ρ:aJ}{Z:List Addr}{hp:List MO}{s s':Shared}{d:PyData}{v:Value}(p:vZ ρ Z s d hp v s'):cE ρ Z s (.dat d) hp v s' :=
 Exists.elim p λ_ p=>p.elim λ_ p=>p.elim λ_ p=>cE.trans p.1 (p.2.2.1.post p.2.1 p.2.2.2)
theorem vZ.Uw{ρ:aJ}{Z:List Addr}{hp:List MO}{s s':Shared}{ds:List PyData}{v:Value}(p:vZ ρ Z s (.list ds) hp v s'):cE ρ Z s (.obj hp.length) (hp++[.lst ds]) v s':=by
 refine cps λ_ KK=>?_
 obtain⟨aA,bn,P,x,H,⟨h,t,as,rfl,k,r,q,q'⟩,hP⟩:=p
 obtain⟨a,vs,n,jb,rfl,has,h1,_,h6⟩:=r.j8
 refine KK ?_
 have fr:=q' a (by rw[has];rfl)
 replace fr:=has▸fr
 refine⟨aA++[(a,a)],x.trans ⟨⟨_,rfl,λp hp=>(ak hp).symm▸fr.1⟩,λb o _ _ e=>k b o e,λb o e=>⟨o,k b o e⟩,rfl,rfl,λ_ _ e=>e,λh=>h⟩,?_,H.push fr.1 k ⟨rfl,_,vs,n,jb,h1,rfl,rfl,rfl,rfl,h6,λc hc=>?_⟩⟩
 ·exact⟨a,a,by rw[List.getElem?_append_right (H.len.symm▸Nat.le_refl _),H.len,Nat.sub_self];rfl,rfl⟩
 ·have base:c∉bF aA∧c∉Z:=(q c (has▸al _ hc)).elim H.fresh (hP c)
  refine⟨λm=>?_,base.2⟩
  rw[n5,List.mem_append]at m
  exact m.elim base.1 λm=>fr.2 ((ak m:c=a)▸hc)
noncomputable def aB(F:NF):EF:=λσ=>match F σ with
|some (d,hp)=>some (.dat d,hp)
|none=>none
noncomputable def lp(F:NF):EF:=λσ=>match F σ with
|some (.list l,hp)=>some (.obj hp.length,hp++[.lst l])
|_=>none
theorem TP{C:Prop}(q:aB F σ=some (pv,ai))(k:∀d,F σ=some (d,ai)->.dat d=pv->C):C:=by
 unfold aB at q
 cases h:F σ with
|none=>rw[h]at q;exact ar q
|some x =>
  replace q:=h▸q
  obtain⟨h1,h2⟩:=b7 q
  exact k x.1 (h.symm▸h2▸rfl) h1
theorem acI{C:Prop}(q:lp F σ=some (pv,ai))(k:∀l hp,F σ=some (.list l,hp)->.obj hp.length=pv->hp++[.lst l]=ai->C):C:=by
 unfold lp at q
 cases h:F σ with
|none=>rw[h]at q;exact ar q
|some x =>
  obtain⟨d,hp⟩:=x
  replace q:=h▸q
  cases d with
 |list l =>
   obtain⟨h1,h2⟩:=b7 q
   exact k l hp h h1 h2
 |_=>exact ar q
theorem bV.dat(h:bV prog w K O e F):Ev prog w K O e (aB F):=.mk λA ρ Z σ s pv ai Rm R q =>
 TP q λd hd hp=>bq (h.run A ρ Z σ s _ _ Rm R hd) (λv s' p=>hp▸p.post) λ_ _ q=>q
theorem bV.cf(h:bV prog w K O e F):Ev prog w K O e (lp F):=.mk λA ρ Z σ s pv ai Rm R q =>
 acI q λl hp hd h1 h2=>bq (h.run A ρ Z σ s _ _ Rm R hd) (λv s' p=>h1▸h2▸p.Uw) λ_ _ q=>q
theorem cE.val{ρ:aJ}{Z:List Addr}{hp ai:List MO}{s:Shared}{d:PyData}{pv:PV}{v:Value}{t:Nat}(H:HR ρ Z hp s.heap)(e:some (PV.dat d,hp)=some (pv,ai))(r:RD s.heap v d []):cE ρ Z s pv ai v {s with toks:=t} :=
 (b7 e).1▸(b7 e).2▸cE.of_toks H ⟨[],r,λ_ h=>bT h⟩
theorem Ev.none_{k pos}:Ev prog w K O (.Constant .none k pos) (λσ=>some (.dat .none,σ.hp)):=.mk λA ρ Z σ s pv ai _ R e=>wpAny_Constant_none (cE.val (t:=s.toks) R.hr e .none)
theorem Ev.bool{b k pos}:Ev prog w K O (.Constant (.bool b) k pos) (λσ=>some (.dat (.bool b),σ.hp)):=.mk λA ρ Z σ s pv ai _ R e=>wpAny_Constant_bool (cE.val (t:=s.toks) R.hr e (.bool b))
theorem Ev.int{i k pos}:Ev prog w K O (.Constant (.int i) k pos) (λσ=>some (.dat (.int i),σ.hp)):=.mk λA ρ Z σ s pv ai _ R e=>wpAny_Constant_int (cE.val R.hr e (.int i _))
theorem Ev.str{x k pos}(hl:x=⟨⟨l⟩⟩)(ho:PyData.strOk x=true):Ev prog w K O (.Constant (.str x) k pos) (λσ=>some (.dat (.str ⟨⟨l⟩⟩),σ.hp)):=.mk λA ρ Z σ s pv ai _ R e =>
 wpAny_Constant_str (cE.val R.hr (hl▸e) (.str x _ ho))
noncomputable def d2(loc:Loc)(i:Nat):Option PV:=match loc[i]? with
|some (some pv)=>some pv
|_=>none
theorem yx(h:d2 loc i=some pv):loc[i]?=some (some pv):=by
 unfold d2 at h
 cases q:loc[i]? with
|none=>rw[q]at h;exact ar h
|some x=>cases x with
 |none=>rw[q]at h;exact ar h
 |some y=>rw[q]at h;rw[bX h]
noncomputable def aj(i:Nat):EF:=λσ=>match d2 σ.loc i with
|some pv=>some (pv,σ.hp)
|none=>none
noncomputable def Ym(env:Env)(m cm:Str->Option Value)(x:Str)(v:Value):Prop :=
 (env.kindOf x=some .local∧m x=some v)∨((env.kindOf x=some .cell∨env.kindOf x=some .free)∧∃c,env.cells.lookup x=some c∧cm x=some v)
theorem E8{o:Option NameKind}{v:Value}{C:Prop}(e:(match o with|some .local=>a|some .cell=>b|some .free=>b|_=>none)=some v)(k1:o=some .local->a=some v->C)(k2:o=some .cell∨o=some .free->b=some v->C):C:=by
 cases o with
|none=>exact ar e
|some x=>cases x with
 |«local»=>exact k1 rfl e
 |cell=>exact k2 (.inl rfl) e
 |free=>exact k2 (.inr rfl) e
 |_=>exact ar e
theorem F3{v:Value}(h:gc env m cm x=some v):Ym env m cm x v :=
 E8 (show(match env.kindOf x with|some .local=>m x|some .cell=>(env.cells.lookup x).bind λ_=>cm x|some .free=>(env.cells.lookup x).bind λ_=>cm x|_=>none)=some v from h) (λh1 h2=>.inl ⟨h1,h2⟩) λh1 h2 =>
  (Option.bind_eq_some_iff.mp h2).elim λc q=>.inr ⟨h1,c,q⟩
theorem Wl(e:aj i σ=some (pv,ai)):d2 σ.loc i=some pv∧σ.hp=ai:=by
 unfold aj at e
 cases h:d2 σ.loc i with
|none=>rw[h]at e;exact ar e
|some x=>rw[h]at e;exact⟨congrArg some (b7 e).1,(b7 e).2⟩
theorem Ev.name(hv:O.vars.lookup i=some x)(hd:autoParam ((x==("__debug__":Str))=false) sZ)(i0:autoParam ((x==("__classdict__":Str))=false) sZ):Ev prog w K O (.Name x pos) (aj i):=.mk λA ρ Z σ s pv ai _ R e=>by
 refine cps λ_ KK=>?_
 obtain⟨hp,hh⟩:=Wl e
 obtain⟨m,cm,hn,hc,i9⟩:=R.er.ex
 obtain⟨v,hs,r⟩:=i9 i x _ hv (yx hp)
 refine KK ?_
 have fin:cE ρ Z s pv ai v s:=cE.of_toks (t:=s.toks) (hh▸R.hr) r
 refine wpAny_Name ?_ hd
 rcases F3 hs with⟨hk,hm⟩|⟨hk|hk,c,hl,hm⟩
 ·exact wpAny_loadName_local R.er.fn hk hn hm fin
 ·exact wpAny_loadName_cell R.er.fn hk hl (hm▸hc x c hl) fin
 ·exact wpAny_loadName_free R.er.fn hk hl (hm▸hc x c hl) fin i0
theorem acQ(e:aN F G σ=some r):∃v hp,F σ=some (v,hp)∧G v ⟨σ.loc,hp⟩=some r:=by
 unfold aN at e
 cases h:F σ with
|none=>rw[h]at e;exact ar e
|some x=>rw[h]at e;exact⟨x.1,x.2,rfl,e⟩
theorem BA{C:Prop}(e:ev f a b σ=some (d,ai))(k:∀x y,rd σ.hp a=some x->rd σ.hp b=some y->f x y=some d->σ.hp=ai->C):C:=by
 unfold ev at e
 cases h1:rd σ.hp a with
|none=>rw[h1]at e;exact ar e
|some x=>cases h2:rd σ.hp b with
 |none=>rw[h1,h2]at e;exact ar e
 |some y =>
   replace e:=h2▸h1▸e
   have e:(match f x y with|some d=>some (d,σ.hp)|none=>none)=some (d,ai):=e
   cases h3:f x y with
  |none=>rw[h3]at e;exact ar e
  |some z =>
    replace e:=h3▸e
    exact k x y h1 h2 (h3.symm▸((b7 e).1).symm▸rfl) (b7 e).2
theorem Ev.then{α:Type}{e:Expr}{F:EF}{G:PV->St->Option (α×List MO)}(h:Ev prog w K O e F){A:Around}{ρ:aJ}{Z:List Addr}{σ:St}{s:Shared}{r:α×List MO}(Rm:cJ A O.k)(R:SR K O ρ Z σ s)
  (q:aN F G σ=some r)
  (k:∀a v h1 aD s_1,G a ⟨σ.loc,h1⟩=some r->Ext [] ρ s aD s_1->VR aD Z s_1.heap a v->SR K O aD Z ⟨σ.loc,h1⟩ s_1->Q v s_1):wpAny (model prog w) A (eval e O.env) Q a8 s:=by
 obtain⟨a,h1,e1,e2⟩:=acQ q
 refine bq (h.run A ρ Z σ s _ _ Rm R e1) (λv s_1 p=>?_) λ_ _ q=>q
 obtain⟨aD,aO,b3,cg⟩:=p
 exact k a v h1 aD s_1 e2 aO b3 (R.next aO cg)
theorem Ev.B7{α:Type}{e e':Expr}{F F':EF}{G:PV->PV->St->Option (α×List MO)}(h:Ev prog w K O e F)(h':Ev prog w K O e' F'){A:Around}{ρ:aJ}{Z:List Addr}{σ:St}{s:Shared}{r:α×List MO}(Rm:cJ A O.k)(R:SR K O ρ Z σ s)
  (q:aN F (λa=>aN F' (G a)) σ=some r) {Q:Value->Value->Shared->Prop}
  (k:∀a b va vb hp aD s_1,G a b ⟨σ.loc,hp⟩=some r->Ext [] ρ s aD s_1->VR aD Z s_1.heap a va->VR aD Z s_1.heap b vb->SR K O aD Z ⟨σ.loc,hp⟩ s_1->Q va vb s_1):wpAny (model prog w) A (eval e O.env) (λva s_1=>wpAny (model prog w) A (eval e' O.env) (Q va) a8 s_1) a8 s :=
 h.then Rm R q λa va h1 aD s_1 e1 aO b3 aP=>h'.then Rm aP e1 λb vb h2 eA bn e2 ct gQ cw=>k a b va vb h2 eA bn e2 (aO.trans ct) (b3.ext ct (λ_ h=>bT h)) gQ cw
theorem bV.bin{Fl Fr:EF}(hl:Ev prog w K O l Fl)(hr:Ev prog w K O r Fr) :
  bV prog w K O (.BinOp l op r pos) (aN Fl λa=>aN Fr λb=>ev (lO op) a b):=.mk λA ρ Z σ s d ai Rm R e =>
 wpAny_BinOp (hl.B7 hr Rm R e λa b va vb h2 eA bn e2 x b3 gQ cw=>BA e2 λx' y hx hy hd q =>
  (jA cw.hr b3 hx).elim λas ra=>(jA cw.hr gQ hy).elim λbs rb =>
  bq (XI op ra.1 rb.1 hd) (λv d4 n=>⟨_,_,_,x,q▸cw.hr,n,λc hc=>hc.elim (ra.2 c) (rb.2 c)⟩) λ_ _ q=>q)
theorem jI.new(n:jI s r v s'):bO s (.bool r) (λ_=>False) v s':=by
 obtain⟨rfl,t,rfl⟩:=n
 exact bO.val (.bool _)
theorem bV.cmp{Fl Fr:EF}(hl:Ev prog w K O l Fl)(hr:Ev prog w K O r Fr)(hk:autoParam (1≤O.k) sZ)(hm:autoParam (behindInMarks op r=false) sR) :
  bV prog w K O (.Compare l [op] [r] pos) (aN Fl λa=>aN Fr λb=>ev (λx y=>(fq op x y).map .bool) a b):=.mk λA ρ Z σ s d ai Rm R e =>
 wpAny_Compare1 (hl.B7 hr Rm R e λa b va vb h2 eA bn e2 x b3 gQ cw=>BA e2 λx' y hx hy hd q =>
  (jA cw.hr b3 hx).elim λas ra=>(jA cw.hr gQ hy).elim λbs rb=>(Option.map_eq_some_iff.mp hd).elim λd' hd =>
  bq (O9 op (Rm.mono hk) ra.1 rb.1 hd.1) (λv d4 n=>⟨_,_,λ_=>False,x,q▸cw.hr,hd.2▸jI.new n,λ_ h=>h.elim⟩) λ_ _ q=>q) hm
theorem Ev.neg{k p}(he:e=.Constant (.int i) k p):Ev prog w K O (.UnaryOp .USub e pos) (λσ=>some (.dat (.int (-i)),σ.hp)):=.mk λA ρ Z σ s pv ai _ R q =>
 he▸wpAny_UnaryOp (wpAny_Constant_int (neg_int (cE.val R.hr q (.int (-i) _))))
end
section
variable {prog:Program}{w:World}{K:Addr->Option Obj}{O:Fx}{Z:List Addr}
abbrev LF:=St->Option (List PV×List MO)
structure fb(prog:Program)(w:World)(K:Addr->Option Obj)(O:Fx)(es:List Expr)(F:LF):Prop where
 run:∀(pos:Pos) (A:Around) (ρ:aJ) (Z:List Addr) (σ:St) (s:Shared) (ps:List PV) (ai:List MO),cJ A O.k->SR K O ρ Z σ s->F σ=some (ps,ai) ->
  wpAny (model prog w) A (spliced (backTo pos (starEach es O.env))) (λvs s'=>∃aA,Ext [] ρ s aA s'∧cU aA Z s'.heap ps vs∧HR aA Z ai s'.heap) a8 s
noncomputable def bA:LF:=λσ=>some ([],σ.hp)
noncomputable def aM(F:EF)(G:LF):LF:=aN F λp σ=>match G σ with
|some (ps,hp)=>some (p::ps,hp)
|none=>none
theorem fb.nil:fb prog w K O [] bA:=.mk λpos A ρ Z σ s ps ai Rm R e=>by
 cases e
 exact wpAny_items_nil ⟨ρ,Ext.refl _ _ _,.nil,R.hr⟩
theorem XQ{G:LF}{C:Prop}(q:(match G σ with|some (ps,hp)=>some (p::ps,hp)|none=>none)=some (ps,ai))(k:∀l,G σ=some (l,ai)->p::l=ps->C):C:=by
 cases h:G σ with
|none=>rw[h]at q;exact ar q
|some x =>
  replace q:=h▸q
  exact k x.1 (h.symm▸((b7 q).2)▸rfl) (b7 q).1
theorem fb.cons{e:Expr}(h:Ev prog w K O e F)(hr:fb prog w K O r G)(he:autoParam (∀env,starEach (e::r) env=(false,eval e env)::starEach r env) sI) :
  fb prog w K O (e::r) (aM F G):=.mk λpos A ρ Z σ s ps ai Rm R q =>
 wpAny_items_cons (h.then Rm R q λa v h1 aD s_1 e1 aO b3 aP=>XQ e1 λl e2 rG =>
  bq (hr.run pos A aD Z ⟨σ.loc,h1⟩ s_1 _ _ Rm aP e2) (λvs bn p=>p.elim λeA p=>⟨eA,aO.trans p.1,rG▸.cons (b3.ext p.1 (λ_ h=>bT h)) p.2.1,p.2.2⟩) λ_ _ q=>q) (he _)
noncomputable def gZ(G:LF):NF:=λσ=>match G σ with
|some (ps,hp)=>match fV ps with
 |some ds=>if ds.length≤lim then some (.list ds,hp)else none
 |none=>none
|none=>none
noncomputable def lH(G:LF):NF:=λσ=>match G σ with
|some (ps,hp)=>match fV ps with
 |some ds=>if ds.length≤lim then some (.tuple ds,hp)else none
 |none=>none
|none=>none
theorem cU.length(r:cU ρ Z h ps vs):ps.length=vs.length:=cU.rec (motive:=λps vs _=>ps.length=vs.length) rfl (λ_ _ ih=>congrArg (·+1) ih) r
theorem Pp{G:LF}{f:List PyData->PyData}{C:Prop}(q:(match G σ with
|some (ps,hp)=>match fV ps with
 |some ds=>if ds.length≤lim then some (f ds,hp)else none
 |none=>none
|none=>none)=some (d,ai)) (k:∀ps ds,G σ=some (ps,ai)->fV ps=some ds->ds.length≤lim->f ds=d->C):C:=by
 cases h:G σ with
|none=>rw[h]at q;exact ar q
|some x =>
  replace q:=h▸q
  have q:(match fV x.1 with|some ds=>if ds.length≤lim then some (f ds,x.2)else none|none=>none)=some (d,ai):=q
  cases h2:fV x.1 with
 |none=>rw[h2]at q;exact ar q
 |some ds =>
   replace q:=h2▸q
   exact d8 (show(if ds.length≤lim then some (f ds,x.2)else none)=_ from q) λhl e=>k x.1 ds (h.symm▸((a5 e).2)▸rfl) h2 hl (a5 e).1
theorem fb.newD(h:fb prog w K O es G)(Rm:cJ A O.k)(R:SR K O ρ Z σ s)(e1:G σ=some (ps,ai))(e2:fV ps=some ds)(hl:ds.length≤lim)
  (k:∀vs s_1 aD as,vs.length≤2 ^ 24->Ext [] ρ s aD s_1->HR aD Z ai s_1.heap->bz s_1.heap vs ds as->(∀a∈as,a∉bF aD∧a∉Z)->Q vs s_1):wpAny (model prog w) A (spliced (backTo pos (starEach es O.env))) Q a8 s :=
 bq (h.run pos A ρ Z σ s _ _ Rm R e1) (λvs s_1 p=>p.elim λaD p=>(AE p.2.1 e2).elim λas r=>k vs s_1 aD as (r.1.length.symm▸aa hl b9) p.1 p.2.2 r.1 r.2) λ_ _ q=>q
theorem bV.list{es:List Expr}{pos:Pos}(h:fb prog w K O es G):bV prog w K O (.List es pos) (gZ G):=.mk λA ρ Z σ s d ai Rm R e =>
 Pp e λps ds e1 e2 hl hd=>wpAny_List (h.newD Rm R e1 e2 hl λvs s_1 aD as hs x H r q=>⟨hs,aD,s_1,λa=>a∈as,x,H,hd▸bO.list (t:=s_1.toks) r λa ha=>.inr ha,q⟩)
theorem bV.tuple{es:List Expr}{k:Nat}(h:fb prog w K O es G):bV prog w K O (.Tuple es k pos) (lH G):=.mk λA ρ Z σ s d ai Rm R e =>
 Pp e λps ds e1 e2 hl hd=>wpAny_Tuple (h.newD Rm R e1 e2 hl λvs s_1 aD as hs x H r q=>⟨hs,aD,s_1,λa=>a∈as,x,H,hd▸bO.tuple (t:=s_1.toks) r λa ha=>.inr ha,q⟩)
abbrev BF:=St->Option (Bool×List MO)
structure Tr(prog:Program)(w:World)(K:Addr->Option Obj)(O:Fx)(e:Expr)(F:BF):Prop where
 run:∀(A:Around) (ρ:aJ) (Z:List Addr) (σ:St) (s:Shared) (b:Bool) (ai:List MO),cJ A O.k->SR K O ρ Z σ s->F σ=some (b,ai) ->
  wpAny (model prog w) A (isTrue e O.env (eval e O.env)) (λb' s'=>b'=b∧∃aA,Ext [] ρ s aA s'∧HR aA Z ai s'.heap) a8 s
noncomputable def ue:PyData->Option Bool
|.none=>some false
|.bool b=>some b
|.int i=>some (i != 0)
|.str x=>if x.cps.size≤lim then some (x.cps.size != 0)else none
|.list l=>if l.length≤lim then some (l.length != 0)else none
|_=>none
noncomputable def mu(p:PV):BF:=λσ=>match rd σ.hp p with
|some d=>match ue d with
 |some b=>some (b,σ.hp)
 |none=>none
|none=>none
noncomputable def Dj(s:Shared)(b:Bool)(b':Bool)(s':Shared):Prop:=b'=b∧∃t,s'={s with toks:=t}
theorem Dj.mk(b):Dj s b b s:=⟨rfl,s.toks,rfl⟩
theorem abM(r:RD s.heap v d as)(e:ue d=some b):wpAny (model prog w) A (truthy v) (λb' s'=>b'=b∧∃t,s'={s with toks:=t}) a8 s:=by
 show wpAny (model prog w) A (truthy v) (Dj s b) a8 s
 cases d with
|none=>rw[r.none_.1,← bX e];exact truthy_none (.mk _)
|bool c=>rw[r.zy.1,← bX e];exact wpAny_truthy_bool (.mk _)
|int i =>
  obtain⟨t,q,_⟩:=r.jP
  refine q.symm▸(bX e)▸?_
  exact PyProof.Rows.truthy_int (.mk _)
|str x =>
  obtain⟨t,q,_⟩:=r.fQ
  refine q.symm▸?_
  refine d8 e λhl hb=>PySem.P.truthy_str (λh=>?_) ⟨?_,_,rfl⟩
  ·exact absurd (bd h (bk hl)) (by decide)
  ·refine hb▸?_
   skip
   rw[Bool.eq_iff_iff,bne_iff_ne,bne_iff_ne]
   exact not_congr Int.natCast_eq_zero
|list xs =>
  obtain⟨a,vs,n,bs,q,_,h1,hlen,_⟩:=r.j8
  refine q.symm▸?_
  refine d8 e λhl hb=>wpAny_truthy_list ⟨_,h1,rfl,n,rfl⟩ (Int.lt_of_le_of_lt (bk (aa (aU hlen) hl)) (by decide)) ⟨?_,_,rfl⟩
  rw[← hb,← hlen,Bool.eq_iff_iff,bne_iff_ne]
  skip
  simp
|_=>exact ar e
theorem abV{C:Prop}(e:mu p σ=some (b,ai))(k:∀d,rd σ.hp p=some d->ue d=some b->σ.hp=ai->C):C:=by
 unfold mu at e
 cases h:rd σ.hp p with
|none=>rw[h]at e;exact ar e
|some d =>
  replace e:=h▸e
  have e:(match ue d with|some b=>some (b,σ.hp)|none=>none)=some (b,ai):=e
  cases h2:ue d with
 |none=>rw[h2]at e;exact ar e
 |some c =>
   replace e:=h2▸e
   exact k d h (h2.symm▸((b7 e).1).symm▸rfl) (b7 e).2
theorem Tr.val(h:Ev prog w K O e F)(he:autoParam (∀env whole,isTrue e env whole=(do let v ← whole;standAt e.pos;holding [v] (truthy v))) sJ):Tr prog w K O e (aN F mu):=.mk λA ρ Z σ s b ai Rm R q =>
 wpAny_isTrue_value (h.then Rm R q λa v h1 aD s_1 e1 aO b3 aP=>abV e1 λd hd hb hh=>(jA aP.hr b3 hd).elim λas r =>
  bq (abM r.1 hb) (λb' s' p=>⟨p.1,p.2.elim λt q=>q▸⟨aD,aO.trans (Ext.of_keep (h:=s_1.heap) λ_ _ e=>e),hh▸aP.hr⟩⟩) λ_ _ q=>q) (he _ _)
noncomputable def qL(op:CmpOp)(a b:PV):BF:=λσ=>match rd σ.hp a,rd σ.hp b with
|some x,some y=>match fq op x y with
 |some d=>some (d,σ.hp)
 |none=>none
|_,_=>none
theorem ZP{C:Prop}(e:qL op a b σ=some (d,ai))(k:∀x y,rd σ.hp a=some x->rd σ.hp b=some y->fq op x y=some d->σ.hp=ai->C):C:=by
 unfold qL at e
 cases h1:rd σ.hp a with
|none=>rw[h1]at e;exact ar e
|some x=>cases h2:rd σ.hp b with
 |none=>rw[h1,h2]at e;exact ar e
 |some y =>
   replace e:=h2▸h1▸e
   have e:(match fq op x y with|some d=>some (d,σ.hp)|none=>none)=some (d,ai):=e
   cases h3:fq op x y with
  |none=>rw[h3]at e;exact ar e
  |some z =>
    replace e:=h3▸e
    exact k x y h1 h2 (h3.symm▸((b7 e).1).symm▸rfl) (b7 e).2
theorem jI.UC(n:jI s r v s')(k:∀t,Q r {s with toks:=t}):wpAny (model prog w) A (truthy v) Q a8 s':=by
 obtain⟨rfl,t,rfl⟩:=n
 exact wpAny_truthy_bool (k t)
theorem Tr.cmp{Fl Fr:EF}(hl:Ev prog w K O l Fl)(hr:Ev prog w K O r Fr)(hk:autoParam (1≤O.k) sZ)(hm:autoParam (behindInMarks op r=false) sR) :
  Tr prog w K O (.Compare l [op] [r] pos) (aN Fl λa=>aN Fr λb=>qL op a b):=.mk λA ρ Z σ s d ai Rm R e =>
 wpAny_isTrue_Compare1 (hl.B7 hr Rm R e λa b va vb h2 eA bn e2 x b3 gQ cw=>ZP e2 λx' y hx hy hd q =>
  (jA cw.hr b3 hx).elim λas ra=>(jA cw.hr gQ hy).elim λbs rb =>
  bq (O9 op (Rm.mono hk) ra.1 rb.1 hd) (λv d4 n=>jI.UC n λt=>⟨rfl,eA,x.trans (Ext.of_keep (h:=bn.heap) λ_ _ e=>e),q▸cw.hr⟩) λ_ _ q=>q) hm
noncomputable def bindB{α:Type}(F:BF)(G:Bool->St->Option (α×List MO)):St->Option (α×List MO):=λσ=>match F σ with
|some (b,hp)=>G b ⟨σ.loc,hp⟩
|none=>none
theorem Ys(e:bindB F G σ=some r):∃v hp,F σ=some (v,hp)∧G v ⟨σ.loc,hp⟩=some r:=by
 unfold bindB at e
 cases h:F σ with
|none=>rw[h]at e;exact ar e
|some x=>rw[h]at e;exact⟨x.1,x.2,rfl,e⟩
theorem Tr.then{α:Type}{e:Expr}{F:BF}{G:Bool->St->Option (α×List MO)}(h:Tr prog w K O e F){A:Around}{ρ:aJ}{Z:List Addr}{σ:St}{s:Shared}{r:α×List MO}(Rm:cJ A O.k)(R:SR K O ρ Z σ s)
  (q:bindB F G σ=some r)
  (k:∀b h1 aD s_1,G b ⟨σ.loc,h1⟩=some r->Ext [] ρ s aD s_1->SR K O aD Z ⟨σ.loc,h1⟩ s_1->Q b s_1):wpAny (model prog w) A (isTrue e O.env (eval e O.env)) Q a8 s:=by
 obtain⟨a,h1,e1,e2⟩:=Ys q
 refine bq (h.run A ρ Z σ s _ _ Rm R e1) (λv s_1 p=>?_) λ_ _ q=>q
 obtain⟨rfl,aD,aO,cg⟩:=p
 exact k v h1 aD s_1 e2 aO (R.next aO cg)
structure gD(prog:Program)(w:World)(K:Addr->Option Obj)(O:Fx)(op:BoolOp)(es:List Expr)(F:BF):Prop where
 run:∀(A:Around) (ρ:aJ) (Z:List Addr) (σ:St) (s:Shared) (b:Bool) (ai:List MO),cJ A O.k->SR K O ρ Z σ s->F σ=some (b,ai) ->
  wpAny (model prog w) A (allTrue op es O.env) (λb' s'=>b'=b∧∃aA,Ext [] ρ s aA s'∧HR aA Z ai s'.heap) a8 s
noncomputable def ia(b:Bool):BF:=λσ=>some (b,σ.hp)
noncomputable def mZ(ρ:aJ)(Z:List Addr)(s:Shared)(b:Bool)(ai:List MO)(b':Bool)(s':Shared):Prop:=b'=b∧∃aA,Ext [] ρ s aA s'∧HR aA Z ai s'.heap
theorem mZ.ret(x:Ext [] ρ s aD s_1)(H:HR aD Z hp s_1.heap)(e:some (b',hp)=some (b,ai)):mZ ρ Z s b ai b' s_1:=⟨(b7 e).1,aD,x,(b7 e).2▸H⟩
theorem mZ.trans(x:Ext [] ρ s aD s_1)(p:mZ aD Z s_1 b ai b' bn):mZ ρ Z s b ai b' bn:=⟨p.1,p.2.elim λeA q=>⟨eA,x.trans q.1,q.2⟩⟩
theorem gD.and_nil:gD prog w K O .And [] (ia true):=.mk λA ρ Z σ s b ai Rm R e=>wpAny_allTrue_And_nil (mZ.ret (Ext.refl _ _ _) R.hr e)
theorem gD.or_nil:gD prog w K O .Or [] (ia false):=.mk λA ρ Z σ s b ai Rm R e=>wpAny_allTrue_Or_nil (mZ.ret (Ext.refl _ _ _) R.hr e)
theorem gD.and_cons(h:Tr prog w K O e F)(hr:gD prog w K O .And r G):gD prog w K O .And (e::r) (bindB F λb=>if b then G else ia false):=.mk λA ρ Z σ s b ai Rm R q =>
 wpAny_allTrue_And_cons (h.then Rm R q λc h1 aD s_1 e1 aO aP=>match c,e1 with
 |true,e1=>bq (hr.run A aD Z ⟨σ.loc,h1⟩ s_1 _ _ Rm aP e1) (λb' bn p=>mZ.trans aO p) λ_ _ q=>q
 |false,e1=>mZ.ret aO aP.hr e1)
theorem gD.or_cons(h:Tr prog w K O e F)(hr:gD prog w K O .Or r G):gD prog w K O .Or (e::r) (bindB F λb=>if b then ia true else G):=.mk λA ρ Z σ s b ai Rm R q =>
 wpAny_allTrue_Or_cons (h.then Rm R q λc h1 aD s_1 e1 aO aP=>match c,e1 with
 |false,e1=>bq (hr.run A aD Z ⟨σ.loc,h1⟩ s_1 _ _ Rm aP e1) (λb' bn p=>mZ.trans aO p) λ_ _ q=>q
 |true,e1=>mZ.ret aO aP.hr e1)
theorem Tr.xP(h:gD prog w K O op es F):Tr prog w K O (.BoolOp op es pos) F:=.mk λA ρ Z σ s b ai Rm R e=>wpAny_isTrue_BoolOp (h.run A ρ Z σ s b ai Rm R e)
theorem Ev.PT(ht:Tr prog w K O t T)(hb:Ev prog w K O b F)(ho:Ev prog w K O o G):Ev prog w K O (.IfExp t b o pos) (bindB T λc=>if c then F else G):=.mk λA ρ Z σ s pv ai Rm R q=>by
 refine wpAny_IfExp (ht.then Rm R q λc h1 aD s_1 e1 aO aP=>?_)
 cases c with
|true=>exact bq (hb.run A aD Z ⟨σ.loc,h1⟩ s_1 _ _ Rm aP e1) (λv bn p=>cE.trans aO p) λ_ _ q=>q
|false=>exact bq (ho.run A aD Z ⟨σ.loc,h1⟩ s_1 _ _ Rm aP e1) (λv bn p=>cE.trans aO p) λ_ _ q=>q
end
noncomputable def idx{α:Type}(l:List α)(i:Int):Option α :=
 if i < 0 then(if 0≤i+l.length then l[(i+l.length).toNat]? else none)else l[i.toNat]?
noncomputable def l7:PyData->PyData->Option PyData
|.list l,.int i=>if i.natAbs≤lim then idx l i else none
|.tuple l,.int i=>if i.natAbs≤lim then idx l i else none
|.str x,.int i=>if i.natAbs≤lim then(idx x.cps.toList i).map (λc=>.str ⟨⟨[c]⟩⟩)else none
|_,_=>none
theorem IZ(h:idx l i=some x):∃j,seqIndex? i l.length=some j∧l[j]?=some x∧((0≤i∧j=i.toNat)∨(i < 0∧-(l.length:Int)≤i∧j=(i+l.length).toNat)):=by
 unfold idx at h
 by_cases hn:i < 0
 ·rw[if_pos hn]at h
  refine iF h λh0 h=>?_
  have h1:-(l.length:Int)≤i:=Int.le_of_sub_nonneg ((Int.sub_neg i (l.length:Int)).symm▸h0)
  exact⟨_,seqIndex_neg hn h1,h,.inr ⟨hn,h1,rfl⟩⟩
 ·rw[if_neg hn]at h
  have dJ:=(List.getElem?_eq_some_iff.mp h).1
  refine⟨_,?_,h,.inl ⟨bY hn,rfl⟩⟩
  unfold seqIndex?
  simp only[hn,if_false]
  rw[if_pos (by simp only[Bool.and_eq_true,decide_eq_true_eq];exact⟨bY hn,(Int.toNat_lt (bY hn)).mp dJ⟩)]
theorem abT(slice)(o i):∃ops,subscripted slice false o i=operate ops (getItem o i):=by
 cases slice with
|Slice a b c d=>cases c<;>exact⟨_,rfl⟩
|_=>exact⟨_,rfl⟩
section
variable {prog:Program}{w:World}{A:Around}{E:Value->Shared->Prop}{s:Shared}
theorem wJ{T id:String}(hT:s.TypeIs o T)
  (hl:typeLookup (.type T) "__getitem__"=pure (some (.builtin id))) (h:wpAny (model prog w) A (getItem o i) Q E s) :
  wpAny (model prog w) A (subscriptTail value slice o i) Q E s:=by
 obtain⟨ops,hs⟩:=abT slice o i
 skip
 refine bp ?_
 refine(getitemInPython_of_ne hT.not_modules).symm▸?_
 refine bp (wpAny_specialOf hT hl ?_)
 have fin:wpAny (model prog w) A (subscripted slice false o i) (λr d4=>wpAny (model prog w) A (letTemporaryGo value o r >>= λ_=>pure r) Q E d4) E s:=by
  refine hs.symm▸?_
  exact wpAny_operating (bq h (λr d4 qW=>bp (wpAny_letTemporaryGo (br qW))) λ_ _ x=>x)
 first
 |exact br (bp fin)
 |exact bp (br (bp fin))
 |exact bp fin
inductive zm(a b d:PyData):Prop
|li (l:List PyData) (i:Int):a=.list l->b=.int i->i.natAbs≤lim->idx l i=some d->zm a b d
|tu (l:List PyData) (i:Int):a=.tuple l->b=.int i->i.natAbs≤lim->idx l i=some d->zm a b d
|st (x:Str) (i:Int) (c:Nat):a=.str x->b=.int i->i.natAbs≤lim->idx x.cps.toList i=some c->.str ⟨⟨[c]⟩⟩=d->zm a b d
theorem Q7(e:l7 a b=some d):zm a b d:=by
 cases b with
|int i=>cases a with
 |list l=>exact iF e λh q=>.li l i rfl rfl h q
 |tuple l=>exact iF e λh q=>.tu l i rfl rfl h q
 |str x=>exact iF e λh q=>(Option.map_eq_some_iff.mp q).elim λc q=>.st x i c rfl rfl h q.1 q.2
 |_=>exact ar e
|_=>cases a<;>exact ar e
noncomputable def rI(s:Shared)(d:PyData)(as:List Addr)(v:Value)(s':Shared):Prop:=(∃t,s'={s with toks:=t})∧∃cs,RD s.heap v d cs∧∀c∈cs,c∈as.tail
theorem MJ{vs:Array Value}(r:bz s.heap vs.toList xs as)(e:idx xs i=some d){C:Prop}
  (k:∀j y cs,seqIndex? i vs.size=some j->vs[j]?=some y->RD s.heap y d cs->(∀c∈cs,c∈as)->((0≤i∧j=i.toNat)∨(i < 0∧-(vs.size:Int)≤i∧j=(i+vs.size).toNat))->C):C:=by
 obtain⟨j,hj,hx,hc⟩:=IZ e
 obtain⟨y,cs,hy,hr,hs⟩:=r.get j d hx
 have hlen:vs.size=xs.length:=r.length▸Array.length_toList.symm▸rfl
 rw[← hlen]at hj hc
 exact k j y cs hj ((Array.getElem?_toList)▸hy) hr hs hc
theorem item_list{value slice:Expr}{as bs:List Addr}(ra:RD s.heap va (.list l) as)(rb:RD s.heap vb (.int i) bs)(hl:i.natAbs≤lim)(e:idx l i=some d) :
  wpAny (model prog w) A (subscriptTail value slice va vb) (rI s d as) a8 s:=by
 obtain⟨a,vs,n,jb,rfl,rfl,h1,hlen,h6⟩:=ra.j8
 obtain⟨u,rfl,_⟩:=rb.jP
 have hL:s.heap.IsList a vs:=⟨_,h1,rfl,n,rfl⟩
 unfold lim at hl
 refine MJ h6 e λj y cs hj hy hr hs hc=>wJ hL.typeIs list_getitem_lookup ?_
 have fin:rI s d (a::jb) y s:=⟨⟨s.toks,rfl⟩,cs,hr,hs⟩
 rcases hc with⟨h0,hj⟩|⟨h0,hlo,hj⟩
 ·exact wpAny_getItem_list hL h0 (Int.lt_of_le_of_lt (rU hl) (by decide)) (hj▸hy) fin
 ·exact wpAny_getItem_list_neg hL h0 hlo (bd (by decide) (td hl)) (hj▸hy) fin
theorem item_tuple{value slice:Expr}{as bs:List Addr}(ra:RD s.heap va (.tuple l) as)(rb:RD s.heap vb (.int i) bs)(hl:i.natAbs≤lim)(e:idx l i=some d) :
  wpAny (model prog w) A (subscriptTail value slice va vb) (rI s d as) a8 s:=by
 obtain⟨a,o,vs,n,jb,rfl,rfl,h1,h2,h3,hlen,h6⟩:=ra.wo
 obtain⟨u,rfl,_⟩:=rb.jP
 unfold lim at hl
 exact MJ h6 e λj y cs hj hy hr hs _=>wJ (T:="tuple") ⟨o,h1,h2⟩ F.slot_tuple_getitem.lookup
  (PyProof.Rows.getItem_tuple ⟨o,h1,h2,n,h3⟩ (bd (by decide) (td hl)) (Int.lt_of_le_of_lt (rU hl) (by decide)) hj hy ⟨⟨s.toks,rfl⟩,cs,hr,hs⟩)
theorem item_str(ra:RD s.heap va (.str x) as)(rb:RD s.heap vb (.int i) bs)(hl:i.natAbs≤lim)(e:idx x.cps.toList i=some c) :
  wpAny (model prog w) A (subscriptTail value slice va vb) (rI s (.str ⟨⟨[c]⟩⟩) as) a8 s:=by
 refine cps λ_ KK=>?_
 obtain⟨t,rfl,_,q⟩:=ra.fQ
 obtain⟨u,rfl,_⟩:=rb.jP
 unfold lim at hl
 obtain⟨j,hj,hx,_⟩:=IZ e
 refine KK ?_
 have jO:(seqIndex? i x.length).bind (x.cps[·]?)=some c:=by
  have:x.length=x.cps.toList.length:=Array.length_toList.symm
  refine this.symm▸hj.symm▸?_
  show x.cps[j]?=some c
  refine(Array.getElem?_toList)▸?_
  exact hx
 exact wJ (typeIs_str s x t) F.slot_str_getitem.lookup (PyProof.Rows.getItem_str (by simp only[Bool.or_eq_false_iff,decide_eq_false_iff_not];exact⟨Int.not_lt.mpr (bd (by decide) (td hl)),Int.not_le.mpr (Int.lt_of_le_of_lt (rU hl) (by decide))⟩) jO
  ⟨⟨_,rfl⟩,[],.str _ _ (yc q λc' me=>(ak me:c'=c)▸aT hx),λ_ h=>nomatch h⟩)
theorem VC(ra:RD s.heap va a as)(rb:RD s.heap vb b bs)(e:l7 a b=some d) :
  wpAny (model prog w) A (subscriptTail value slice va vb) (λv s'=>(∃t,s'={s with toks:=t})∧∃cs,RD s.heap v d cs∧∀c∈cs,c∈as.tail) a8 s:=by
 show wpAny (model prog w) A (subscriptTail value slice va vb) (rI s d as) a8 s
 cases Q7 e with
|li l i h1 h2 hl e=>exact item_list (h1▸ra) (h2▸rb) hl e
|tu l i h1 h2 hl e=>exact item_tuple (h1▸ra) (h2▸rb) hl e
|st x i c h1 h2 hl e hd=>rw[← hd];exact item_str (h1▸ra) (h2▸rb) hl e
noncomputable def clip(n:Nat)(v:Option Int)(dflt:Nat):Nat:=match v with
|none=>dflt
|some i=>(max 0 (min (if i < 0 then i+n else i) n)).toNat
noncomputable def sl{α:Type}(lo hi:Option Int)(l:List α):List α:=(l.take (clip l.length hi l.length)).drop (clip l.length lo 0)
noncomputable def pick{α:Type}(lo hi st:Option Int)(l:List α):List α :=
 (sliceRange (sliceBounds lo hi st l.length).1 (sliceBounds lo hi st l.length).2.1 (sliceBounds lo hi st l.length).2.2).filterMap (l[·]?)
theorem Ob(l:List α)(a):∀n,(List.range n).filterMap (λk=>l[a+k]?)=(l.drop a).take n
|0=>by simp
|n+1=>by
  rw[List.range_succ,List.filterMap_append,Ob l a n,List.take_add_one,List.getElem?_drop]
  simp only[List.filterMap_cons,List.filterMap_nil]
  cases l[a+n]?<;>rfl
theorem Zu(h:d≤n):clip n v d≤n:=by
 cases v with
|none=>exact h
|some i=>exact Int.toNat_le.mpr (Int.max_le.mpr ⟨bf _,Int.min_le_right _ _⟩)
theorem zd(n:Nat)(i)(d):max 0 (min (if i < 0 then i+(n:Int)else i) (n:Int))=((clip n (some i) d:Nat):Int):=(Int.toNat_of_nonneg (Int.le_max_left _ _)).symm
theorem OR(n)(lo hi:Option Int):sliceBounds lo hi none n=(((clip n lo 0:Nat):Int),((clip n hi n:Nat):Int),1):=by
 cases lo with
|none=>cases hi with
 |none=>rfl
 |some j=>exact congrArg (λx=>((0:Int),x,(1:Int))) (zd n j n)
|some i=>cases hi with
 |none=>exact congrArg (λx=>(x,(n:Int),(1:Int))) (zd n i 0)
 |some j=>exact congr (congrArg (λx y=>(x,y,(1:Int))) (zd n i 0)) (zd n j n)
theorem H3(a c:Nat):sliceRange (a:Int) (c:Int) 1=(List.range (c - a)).map (a+·):=by
 unfold sliceRange
 rw[if_pos (by decide),Int.ediv_one]
 dsimp only
 have hn:(if(a:Int) < c then(c:Int) - a+1 - 1 else 0).toNat=c - a:=by
  by_cases h:(a:Int) < c
  ·rw[if_pos h,Int.add_sub_cancel];exact Int.toNat_sub c a
  ·rw[if_neg h];exact(Nat.sub_eq_zero_of_le (Int.ofNat_le.mp (bY h))).symm
 refine hn.symm▸?_
 refine List.map_congr_left λk _=>?_
 rw[Int.one_mul];rfl
theorem JC{α:Type}(lo hi:Option Int)(l:List α):pick lo hi none l=sl lo hi l:=by
 unfold pick sl
 rw[OR,H3,List.filterMap_map]
 exact(Ob l _ _).trans (List.drop_take ..).symm
theorem bz.places(r:bz h vs ds as)(js:List Nat):∃bs,bz h (js.filterMap (vs[·]?)) (js.filterMap (ds[·]?)) bs∧∀a∈bs,a∈as:=by
 induction js with
|nil=>exact⟨[],.nil,λ_ h=>nomatch h⟩
|cons j js ih =>
  obtain⟨bs,hb,hs⟩:=ih
  refine List.filterMap_cons.symm▸List.filterMap_cons.symm▸?_
  cases hn:ds[j]? with
 |some x =>
   refine cps λ_ KK=>?_
   obtain⟨y,cs,hy,hr,Da⟩:=r.get j x hn
   refine KK ?_
   refine hy.symm▸?_
   exact⟨cs++bs,.cons hr hb,λa ha=>(ae ha).elim (Da a) (hs a)⟩
 |none =>
   have hv:vs[j]?=none:=by
    rw[List.getElem?_eq_none_iff]at hn ⊢
    rw[r.length];exact hn
   refine hv.symm▸?_
   exact⟨bs,hb,hs⟩
noncomputable def lr(lo hi st:Option Int):PyData->Option PyData
|.list l=>if l.length≤lim then match st with
 |none=>some (.list (sl lo hi l))
 |some k=>if k≠0 then some (.list (pick lo hi (some k) l))else none
  else none
|.str x=>match st with
 |none=>if x.cps.size≤lim then some (.str ⟨⟨sl lo hi x.cps.toList⟩⟩)else none
 |_=>none
|_=>none
theorem X3{lo hi st:Option Int}{n:Nat}(h1:s.heap.get? l=some o)(h2:o.cls=.type "list")(h5:o.data=.seq items n)
  (r:bz s.heap items.toList xs as) (hs:s.heap.IsSliceOf yA vl vu vs) (pl:IsPart vl lo) (pu:IsPart vu hi) (ps:IsPart vs st) (h0:st≠some 0) (hsz:items.size≤sizeLine) :
  wpAny (model prog w) A (getItem (.ref l) (.ref yA)) (bO s (.list (pick lo hi st xs)) (λa=>a∈as)) a8 s:=by
 refine wpAny_getItem_list_slice ⟨o,h1,h2,n,h5⟩ hs pl pu ps h0 ?_ hsz
 obtain⟨bs,hb,Gz⟩:=r.places (sliceRange (sliceBounds lo hi st xs.length).1 (sliceBounds lo hi st xs.length).2.1 (sliceBounds lo hi st xs.length).2.2)
 have hl:=r.length
 simp only[Array.length_toList]at hl
 have e:slicePick items lo hi st=((sliceRange (sliceBounds lo hi st xs.length).1 (sliceBounds lo hi st xs.length).2.1 (sliceBounds lo hi st xs.length).2.2).filterMap (items.toList[·]?)).toArray:=by
  unfold slicePick
  refine hl.symm▸?_
  simp only[Array.getElem?_toList]
 refine e.symm▸?_
 exact bO.list (t:=s.toks) hb λa ha=>.inr (Gz a ha)
end
section
variable {prog:Program}{w:World}{A:Around}{E:Value->Shared->Prop}{s:Shared}
theorem SH{lo hi:Option Int}{l:List Nat}(h:(sliceRange (sliceBounds lo hi none l.length).1 (sliceBounds lo hi none l.length).2.1 (sliceBounds lo hi none l.length).2.2).length=l.length):sl lo hi l=l:=by
 rw[OR,H3,bI,List.length_range]at h
 have hb:clip l.length hi l.length≤l.length:=Zu (am _)
 unfold sl
 by_cases hl:l.length=0
 ·have:l=[]:=List.eq_nil_of_length_eq_zero hl
  rw[this,List.take_nil,List.drop_nil]
 ·have e1:clip l.length hi l.length=l.length:=Nat.le_antisymm hb (aa (aU h.symm) (b5 _ _))
  have e2:clip l.length lo 0=0:=Nat.eq_zero_of_not_pos λq=>absurd (Nat.sub_lt (Nat.lt_of_lt_of_eq (Nat.pos_of_ne_zero hl) e1.symm) q) (Nat.not_lt.mpr (aU (e1.trans h.symm)))
  exact e1.symm▸e2.symm▸List.take_length.symm▸List.drop_zero.symm▸rfl
theorem part_of(h:IsPart v o):∃p:Option (Int×Tok),v=partValue p∧p.map (·.1)=o:=by
 cases h with
|none=>exact⟨none,rfl,rfl⟩
|int i t=>exact⟨some (i,t),rfl,rfl⟩
theorem XD{x:Str}{t:Tok}{yA:Addr}{vl vu:Value}{lo hi:Option Int}(hx:PyData.strOk x=true)(hs:s.heap.IsSliceOf yA vl vu .none)(pl:IsPart vl lo)(pu:IsPart vu hi)(hsz:x.cps.size≤lim) :
  wpAny (model prog w) A (getItem (.str x t) (.ref yA)) (bO s (.str ⟨⟨sl lo hi x.cps.toList⟩⟩) (λa=>False)) a8 s:=by
 refine cps λ_ KK=>?_
 obtain⟨l,e1,hl⟩:=part_of pl
 obtain⟨u,e2,hu⟩:=part_of pu
 refine KK ?_
 replace hs:=e2▸e1▸hs
 have ok:PyData.strOk (⟨⟨sl lo hi x.cps.toList⟩⟩:Str)=true:=yc hx λc hc=>bE (List.mem_of_mem_drop hc)
 have hpk:slicePicked x l u none=sliceRange (sliceBounds lo hi none x.cps.toList.length).1 (sliceBounds lo hi none x.cps.toList.length).2.1 (sliceBounds lo hi none x.cps.toList.length).2.2:=by
  rw[← hl,← hu,Array.length_toList];rfl
 refine wpAny_getItem_str_slice (l:=l) (u:=u) (st:=none) hs rfl ?_
 unfold sliceMade
 refine hpk.symm▸?_
 split
 ·rename_i h
  have h:=(Bool.and_eq_true _ _▸h:_∧_).2
  have:=SH (l:=x.cps.toList) ((eq_of_beq h).trans Array.length_toList.symm)
  rw[this]at ok ⊢
  exact bO.val (t:=s.toks) (.str _ _ hx)
 ·have e:(⟨((sliceRange (sliceBounds lo hi none x.cps.toList.length).1 (sliceBounds lo hi none x.cps.toList.length).2.1 (sliceBounds lo hi none x.cps.toList.length).2.2).filterMap (x.cps[·]?)).toArray⟩:Str)=⟨⟨sl lo hi x.cps.toList⟩⟩:=by
   rw[← JC]
   unfold pick
   simp only[Array.getElem?_toList]
  refine e.symm▸?_
  refine⟨aa ?_ (aa hsz b9),bO.val (.str _ _ ok)⟩
  show(sl lo hi x.cps.toList).length≤x.cps.size
  unfold sl
  refine List.length_drop.symm▸List.length_take.symm▸Array.length_toList.symm▸?_
  exact aa (b5 _ _) (Nat.min_le_right _ _)
end
section
variable {prog:Program}{w:World}{K:Addr->Option Obj}{O:Fx}
noncomputable def itemF(a b:PV):EF:=λσ=>match rd σ.hp a,rd σ.hp b with
|some x,some y=>match l7 x y with
 |some d=>some (.dat d,σ.hp)
 |none=>none
|_,_=>none
theorem YD{a b:PV}{σ:St}{pv:PV}{ai:List MO}{C:Prop}(e:itemF a b σ=some (pv,ai))(k:∀x y d,rd σ.hp a=some x->rd σ.hp b=some y->l7 x y=some d->.dat d=pv->σ.hp=ai->C):C:=by
 unfold itemF at e
 cases h1:rd σ.hp a with
|none=>rw[h1]at e;exact ar e
|some x=>cases h2:rd σ.hp b with
 |none=>rw[h1,h2]at e;exact ar e
 |some y =>
   replace e:=h2▸h1▸e
   have e:(match l7 x y with|some d=>some (PV.dat d,σ.hp)|none=>none)=some (pv,ai):=e
   cases h3:l7 x y with
  |none=>rw[h3]at e;exact ar e
  |some z =>
    replace e:=h3▸e
    exact k x y z h1 h2 h3 (b7 e).1 (b7 e).2
theorem rI.post{s s':Shared}{d:PyData}{as:List Addr}{v:Value}{ρ:aJ}{Z:List Addr}{hp:List MO}(n:rI s d as v s')(H:HR ρ Z hp s.heap)(q:∀a∈as.tail,a∉bF ρ∧a∉Z):cE ρ Z s (.dat d) hp v s':=by
 refine cps λ_ KK=>?_
 obtain⟨⟨t,rfl⟩,cs,r,Da⟩:=n
 refine KK ?_
 exact cE.of_toks H ⟨cs,r,λc hc=>q c (Da c hc)⟩
theorem Ev.sub{e i:Expr}{pos:Pos}{F G:EF}(he:Ev prog w K O e F)(hi:Ev prog w K O i G):Ev prog w K O (.Subscript e i pos) (aN F λa=>aN G λb=>itemF a b):=.mk λA ρ Z σ s pv ai Rm R q =>
 Subscript_ (he.B7 hi Rm R q λa b va vb h2 eA bn e2 x b3 gQ cw=>YD e2 λx' y d hx hy hd h1 h2 =>
  (jA cw.hr b3 hx).elim λas ra=>(jA cw.hr gQ hy).elim λbs rb =>
  bq (VC ra.1 rb.1 hd) (λv d4 n=>h1▸h2▸cE.trans x (rI.post n cw.hr ra.2)) λ_ _ q=>q)
abbrev PF:=St->Option (Option Int×List MO)
structure ey(prog:Program)(w:World)(K:Addr->Option Obj)(O:Fx)(e:Option Expr)(F:PF):Prop where
 run:∀(A:Around) (ρ:aJ) (Z:List Addr) (σ:St) (s:Shared) (o:Option Int) (ai:List MO),cJ A O.k->SR K O ρ Z σ s->F σ=some (o,ai) ->
  wpAny (model prog w) A (evalPart e O.env) (λv s'=>IsPart v o∧∃aA,Ext [] ρ s aA s'∧HR aA Z ai s'.heap) a8 s
noncomputable def gm:PF:=λσ=>some (none,σ.hp)
noncomputable def ik(F:EF):PF:=aN F λp σ=>match rd σ.hp p with
|some (.int i)=>some (some i,σ.hp)
|_=>none
noncomputable def yQ(ρ:aJ)(Z:List Addr)(s:Shared)(o:Option Int)(ai:List MO)(v:Value)(s':Shared):Prop:=IsPart v o∧∃aA,Ext [] ρ s aA s'∧HR aA Z ai s'.heap
theorem yQ.mk{ρ aA:aJ}{Z:List Addr}{s s':Shared}{o o':Option Int}{hp ai:List MO}{v:Value}(i:IsPart v o')(x:Ext [] ρ s aA s')(H:HR aA Z hp s'.heap)(e:some (o',hp)=some (o,ai)):yQ ρ Z s o ai v s':=⟨(b7 e).1▸i,aA,x,(b7 e).2▸H⟩
theorem ey.none_:ey prog w K O none gm:=.mk λA ρ Z σ s o ai Rm R q=>evalPart_none O.env▸br (yQ.mk .none (Ext.refl _ _ _) R.hr q)
theorem Qj{r:Option PyData}{hp ai:List MO}{o:Option Int}{C:Prop}(e:(match r with|some (.int i)=>some (some i,hp)|_=>none)=some (o,ai))(k:∀i,r=some (.int i)->some (some i,hp)=some (o,ai)->C):C:=by
 cases r with
|none=>exact ar e
|some d=>cases d with
 |int i=>exact k i rfl e
 |_=>exact ar e
theorem ey.mR{e:Expr}{F:EF}(h:Ev prog w K O e F):ey prog w K O (some e) (ik F):=.mk λA ρ Z σ s o ai Rm R q=>by
 rw[evalPart_some]
 refine h.then Rm R q λa va h1 aD s_1 e1 aO b3 aP=>Qj e1 λi hi e=>?_
 refine cps λ_ KK=>?_
 obtain⟨as,ra,_⟩:=jA aP.hr b3 hi
 obtain⟨t,hv,_⟩:=ra.jP
 refine KK ?_
 exact hv▸yQ.mk (.int _ _) aO aP.hr e
noncomputable def o5{α:Type}(F:PF)(G:Option Int->St->Option (α×List MO)):St->Option (α×List MO):=λσ=>match F σ with
|some (o,hp)=>G o ⟨σ.loc,hp⟩
|none=>none
theorem ey.then{α:Type}{e:Option Expr}{F:PF}{G:Option Int->St->Option (α×List MO)}(h:ey prog w K O e F){A:Around}{ρ:aJ}{Z:List Addr}{σ:St}{s:Shared}{r:α×List MO}(Rm:cJ A O.k)(R:SR K O ρ Z σ s)
  (q:o5 F G σ=some r)
  (k:∀o v h1 aD s_1,G o ⟨σ.loc,h1⟩=some r->Ext [] ρ s aD s_1->IsPart v o->SR K O aD Z ⟨σ.loc,h1⟩ s_1->Q v s_1):wpAny (model prog w) A (evalPart e O.env) Q a8 s:=by
 unfold o5 at q
 cases e1:F σ with
|none=>rw[e1]at q;exact ar q
|some x =>
  replace q:=e1▸q
  exact bq (h.run A ρ Z σ s _ _ Rm R e1) (λv s_1 p=>p.2.elim λaD p2=>k x.1 v x.2 aD s_1 q p2.1 p.1 (R.next p2.1 p2.2)) λ_ _ q=>q
noncomputable def um(lo hi st:Option Int)(a:PV):NF:=λσ=>match rd σ.hp a with
|some x=>match lr lo hi st x with
 |some d=>some (d,σ.hp)
 |none=>none
|none=>none
theorem Q0{lo hi st:Option Int}{a:PV}{σ:St}{d:PyData}{ai:List MO}{C:Prop}(e:um lo hi st a σ=some (d,ai))(k:∀x,rd σ.hp a=some x->lr lo hi st x=some d->σ.hp=ai->C):C:=by
 unfold um at e
 cases h1:rd σ.hp a with
|none=>rw[h1]at e;exact ar e
|some x =>
  rw[h1]at e
  have e:(match lr lo hi st x with|some d=>some (d,σ.hp)|none=>none)=some (d,ai):=e
  cases h3:lr lo hi st x with
 |none=>rw[h3]at e;exact ar e
 |some z =>
   rw[h3]at e
   exact k x h1 (by rw[h3,(b7 e).1]) (b7 e).2
inductive Gb(lo hi st:Option Int)(x d:PyData):Prop
|li (l:List PyData):x=.list l->l.length≤lim->st≠some 0->.list (pick lo hi st l)=d->Gb lo hi st x d
|si (y:Str):x=.str y->st=none->y.cps.size≤lim->.str ⟨⟨sl lo hi y.cps.toList⟩⟩=d->Gb lo hi st x d
theorem Uk{lo hi st:Option Int}{x d:PyData}(e:lr lo hi st x=some d):Gb lo hi st x d:=by
 cases st with
|none=>cases x with
 |list l=>exact iF e λh e=>.li l rfl h (λq=>ar q) (by rw[JC];exact bX e)
 |str y=>exact d8 e λh e=>.si y rfl rfl h e
 |_=>exact ar e
|some k=>cases x with
 |list l=>exact iF e λh e=>d8 e λh0 e=>.li l rfl h (λq=>h0 (bX q)) e
 |_=>exact ar e
theorem RK{A:Around}{s:Shared}{e:Expr}{UI:Expr}{vl vu vk va:Value}{lo hi st:Option Int}{x d:PyData}{as:List Addr}(ra:RD s.heap va x as)(hd:lr lo hi st x=some d)(pl:IsPart vl lo)(pu:IsPart vu hi)(pk:IsPart vk st){i:Addr}(hs:s.heap.IsSliceOf i vl vu vk) :
  wpAny (model prog w) A (subscriptTail e UI va (.ref i)) (bO s d (λa=>a∈as.tail)) a8 s:=by
 cases Uk hd with
|li l h1 hl h0 h2 =>
  obtain⟨a,vs,n,jb,rfl,has,g1,Vt,g6⟩:=(h1▸ra:RD s.heap va (.list l) as).j8
  refine h2▸has.symm▸?_
  exact wJ (T:="list") ⟨_,g1,rfl⟩ list_getitem_lookup (X3 g1 rfl rfl g6 hs pl pu pk h0 (Vt.symm▸aa hl b9))
|si y h1 h0 hl h2 =>
  obtain⟨t,rfl,_,hx⟩:=(h1▸ra:RD s.heap va (.str y) as).fQ
  replace pk:=h0▸pk
  have hk:vk=.none:=by cases pk;rfl
  refine h2▸?_
  exact wJ (typeIs_str _ y t) PySem.F.slot_str_getitem.lookup (bq (XD hx (hk▸hs) pl pu hl) (λv s' n=>bO.weak n λ_ h=>h.elim) λ_ _ q=>q)
theorem bV.slice{e:Expr}{lo hi st:Option Expr}{p pos:Pos}{F:EF}{L U S:PF}(he:Ev prog w K O e F)(hl:ey prog w K O lo L)(hu:ey prog w K O hi U)(hs:ey prog w K O st S) :
  bV prog w K O (.Subscript e (.Slice lo hi st p) pos) (aN F λa=>o5 L λl=>o5 U λu=>o5 S λk=>um l u k a):=.mk λA ρ Z σ s d ai Rm R q =>
 Subscript_ (he.then Rm R q λa va h1 aD s_1 e1 aO b3 aP=>wpAny_Slice (hl.then Rm aP e1 λl vl h2 eA bn e2 ct pl cw=>hu.then Rm cw e2 λu vu h3 cT d4 e3 dC pu fY=>hs.then Rm fY e3 λk vk h4 xE dq e4 mh pk jG=>Q0 e4 λx hx hd hh =>
  have xa:=(ct.trans dC).trans mh
  (jA jG.hr (b3.ext xa (λ_ h=>bT h)) hx).elim λas ra =>
  have hk:∀b o,dq.heap.get? b=some o->(dq.heap.push {cls:=.type "slice",data:=.fields #[vl,vu,vk]}).get? b=some o:=λb o e=>ao _ e
  bq (RK (ra.1.keep λa _ o e=>hk a o e) hd pl pu pk (Heap.IsSliceOf.new ..)) (λv gT nd=>⟨_,_,_,(aO.trans xa).trans (Ext.of_keep (X:=[]) (ρ:=xE) (s:=dq) (t:=dq.toks) hk),hh▸jG.hr.keep hk,nd,ra.2⟩) λ_ _ q=>q))
end
section
variable {prog:Program}{w:World}{K:Addr->Option Obj}{O:Fx}{mg mb:Str->Option Value}
theorem l9(gl:Gl K mg mb){x:Str}{v:Value}{pos:Pos}{A:Around}{ρ:aJ}{Z:List Addr}{σ:St}{s:Shared}{Q:Value->Shared->Prop}{E:Value->Shared->Prop}(R:SR K O ρ Z σ s)
  (hk:O.sc.names.lookup x=some .globalImplicit) (hv:mg x=some v∨(mg x=none∧mb x=some v)) (hQ:Q v s) (hd:(x==("__debug__":Str))=false):wpAny (model prog w) A (eval (.Name x pos) O.env) Q E s:=by
 refine wpAny_Name ?_ hd
 have uK:O.env.kindOf x=some .globalImplicit:=by unfold Env.kindOf;rw[R.er.sc];exact hk
 refine(loadName_read R.er.fn uK).symm▸?_
 have g:=gl.g s.heap R.top
 have b:=gl.b s.heap R.top
 replace g:=R.er.glob.symm▸g
 replace b:=R.er.bi.symm▸b
 rcases hv with h|⟨h,h'⟩
 ·exact loadGlobal_global g h hQ
 ·exact loadGlobal_builtin g h b h' hQ
end
noncomputable def jt:List PyData->Option Int
|[]=>some 0
|.int i::r=>(jt r).map (i+·)
|_=>none
noncomputable def Eh:PyData->Option PyData
|.list l=>if l.length≤lim then some (.int l.length)else none
|.tuple l=>if l.length≤lim then some (.int l.length)else none
|.str x=>if x.cps.size≤lim then some (.int x.cps.size)else none
|_=>none
noncomputable def chars(l:List Nat):List PyData:=l.map λc=>.str ⟨⟨[c]⟩⟩
theorem Vy(x:bz h vs ds as)(e:jt ds=some n):∃xs:List (Int×Tok),vs=xs.map (λp=>.int p.1 p.2)∧(xs.map (·.1)).sum=n:=by
 revert n
 refine bz.ind (Q:=λvs ds _=>∀{n:Int},jt ds=some n->∃xs:List (Int×Tok),vs=xs.map (λp=>.int p.1 p.2)∧(xs.map (·.1)).sum=n) (λe=>⟨[],rfl,bX e⟩) (λ{v vs d ds as bs} x _ ih n e=>?_) x
 cases d with
|int i =>
  refine cps λ_ KK=>?_
  obtain⟨m,hm,h2⟩:=Option.map_eq_some_iff.mp (show(jt ds).map (i+·)=some n from e)
  obtain⟨xs,hv,hs⟩:=ih hm
  obtain⟨t,hx,_⟩:=x.jP
  refine KK ?_
  exact⟨(i,t)::xs,by rw[hx,hv];rfl,by rw[bP,List.sum_cons,hs];exact h2⟩
|_=>exact ar e
section
variable {prog:Program}{w:World}{A:Around}{s:Shared}
theorem SY(x:RD s.heap v d as)(e:Eh d=some r):wpAny (model prog w) A (call (.builtin "len") [v]) (bO s r P) a8 s:=by
 cases d with
|list l =>
  refine cps λ_ KK=>?_
  obtain⟨a,vs,n,bs,hv,_,h1,hlen,_⟩:=x.j8
  refine KK ?_
  refine d8 e λhl hr=>?_
  refine hv.symm▸hr▸hlen▸?_
  exact PySem.Calls.call_len_list ⟨_,h1,rfl,n,rfl⟩ (by unfold lim at hl;lia) (bO.val (.int _ _))
|tuple l =>
  refine cps λ_ KK=>?_
  obtain⟨a,o,vs,n,bs,hv,_,h1,h2,h3,hlen,_⟩:=x.wo
  refine KK ?_
  refine d8 e λhl hr=>?_
  refine hv.symm▸hr▸hlen▸?_
  exact PyProof.Rows.len_tuple (items:=vs) ⟨o,h1,h2,n,h3⟩ (by unfold lim at hl;lia) (bO.val (.int _ _))
|str y =>
  refine cps λ_ KK=>?_
  obtain⟨t,hv,_,_⟩:=x.fQ
  refine KK ?_
  refine d8 e λhl hr=>?_
  refine hv.symm▸hr▸?_
  exact PySem.P.len_str (λh=>absurd (bd h (bk hl)) (by decide)) (bO.val (.int _ _))
|_=>exact ar e
theorem bO.of_keep(k:∀b o,s.heap.get? b=some o->h.get? b=some o)(r:RD h v d []):bO s d P v {s with heap:=h,toks:=t} :=
 ⟨h,t,[],rfl,k,r,(λ_ h=>bT h),(λ_ h=>ar h)⟩
theorem abF(hh:A.handled=none)(x:RD s.heap v (.list l) as)(e:jt l=some n):wpAny (model prog w) A (call (.builtin "sum") [v]) (bO s (.int n) P) a8 s:=by
 obtain⟨a,vs,m,bs,hv,_,h1,_,h6⟩:=x.j8
 obtain⟨xs,hx,hs⟩:=Vy h6 e
 have i9:vs=intItems xs.toArray:=by
  apply Array.ext'
  refine hx.symm▸?_
  simp[intItems]
 have hp:preSum (numAt xs.toArray) xs.toArray.size=n:=by
  rw[preSum_eq,List.take_of_length_le (by simp)]
  exact hs
 refine hv.symm▸hp▸?_
 exact PySem.sum_intListG (xs:=xs.toArray) hh ⟨_,h1,rfl,m,i9.symm▸rfl⟩ λh' tk t' k=>bO.of_keep k (.int _ _)
theorem abR(hh:A.handled=none):wpAny (model prog w) A (call (.builtin "max") [.int a t,.int b u]) (bO s (.int (max a b)) P) a8 s :=
 max_two_ints hh λh' tk k=>by
  by_cases h:b > a
  ·rw[if_pos h,show max a b=b from Int.max_eq_right (Int.le_of_lt h)];exact bO.of_keep k (.int _ _)
  ·rw[if_neg h,show max a b=a from Int.max_eq_left (bY h)];exact bO.of_keep k (.int _ _)
theorem Ss(hh:A.handled=none):wpAny (model prog w) A (call (.builtin "min") [.int a t,.int b u]) (bO s (.int (min a b)) P) a8 s :=
 min_two_ints hh λh' tk k=>by
  by_cases h:b < a
  ·rw[if_pos h,show min a b=b from Int.min_eq_right (Int.le_of_lt h)];exact bO.of_keep k (.int _ _)
  ·rw[if_neg h,show min a b=a from Int.min_eq_left (bY h)];exact bO.of_keep k (.int _ _)
theorem X8(hh:A.handled=none):wpAny (model prog w) A (call (.builtin "max") [.int a t,.int b u,.int c x]) (bO s (.int (max (max a b) c)) P) a8 s :=
 max_three_ints hh λh' tk k=>by
  split<;>split
  ·rw[show max (max a b) c=c from Int.max_eq_right (Int.max_le.mpr ⟨Int.le_of_lt (Int.lt_trans ‹b > a› ‹c > b›),Int.le_of_lt ‹c > b›⟩)];exact bO.of_keep k (.int _ _)
  ·rw[show max (max a b) c=b from(Int.max_eq_left (Int.le_trans (bY ‹¬c > b›) (Int.le_max_right a b))).trans (Int.max_eq_right (Int.le_of_lt ‹b > a›))];exact bO.of_keep k (.int _ _)
  ·rw[show max (max a b) c=c from Int.max_eq_right (Int.max_le.mpr ⟨Int.le_of_lt ‹c > a›,Int.le_trans (bY ‹¬b > a›) (Int.le_of_lt ‹c > a›)⟩)];exact bO.of_keep k (.int _ _)
  ·rw[show max (max a b) c=a from(Int.max_eq_left (Int.le_trans (bY ‹¬c > a›) (Int.le_max_left a b))).trans (Int.max_eq_left (bY ‹¬b > a›))];exact bO.of_keep k (.int _ _)
theorem abi:wpAny (model prog w) A (call (.type "int") [.bool b]) (bO s (.int (if b then 1 else 0)) P) a8 s:=call_int_bool (bO.val (.int _ _))
theorem sG{h h':Heap}(k:∀b o,h.get? b=some o->h'.get? b=some o)(e:h'.get? a=none):h.get? a=none:=by
 cases q:h.get? a with
|none=>rfl
|some o=>exact ar (e.symm.trans (k a o q))
theorem bO.aa6{h':Heap}(k:∀b o,s.heap.get? b=some o->h'.get? b=some o)(r:bz h' vs l as)(q:∀a∈as,P a) :
  bO s (.tuple l) P (.ref h'.objs.size) {s with heap:=h'.push {cls:=.type "tuple",data:=.seq vs.toArray},toks:=t}:=by
 have n:h'.get? h'.objs.size=none:=aK (am _)
 exact⟨_,t,h'.objs.size::as,rfl,λb o e=>ao _ (k b o e),.tuple (aX _ rfl) rfl rfl (r.keep λa _ o e=>ao _ e),λa ha=>(aI ha).elim (λe=>.inl (e▸sG k n)) λha=>.inr (q a ha),
  λa e=>bX e▸⟨sG k n,λm=>(r.live _ m).elim λo e=>ar (n.symm.trans e)⟩⟩
theorem SK(x:RD s.heap v (.list l) as)(hl:l.length≤lim):wpAny (model prog w) A (call (.type "tuple") [v]) (bO s (.tuple l) (λa=>a∈as.tail)) a8 s:=by
 obtain⟨a,vs,m,bs,hv,has,h1,hlen,h6⟩:=x.j8
 refine hv.symm▸has.symm▸?_
 exact call_tuple_list ⟨_,h1,rfl,m,rfl⟩ (λh' k=>bO.aa6 (vs:=vs.toList) k (h6.keep (λa _ o e=>k a o e)) λ_ h=>h) (hlen.symm▸aa hl b9)
theorem bz.of_get(hl:vs.length=ds.length)(k:∀(i:Nat) v d,vs[i]?=some v->ds[i]?=some d->RD h v d []):bz h vs ds []:=by
 induction vs generalizing ds with
|nil=>cases ds with
 |nil=>exact .nil
 |cons d ds=>cases hl
|cons v vs ih=>cases ds with
 |nil=>cases hl
 |cons d ds=>exact .cons (k 0 v d rfl rfl) (ih (Nat.succ.inj hl) λi v d hv hd=>k (i+1) v d hv hd)
theorem WI(hh:A.handled=none)(hx:PyData.strOk x=true)(hl:x.cps.size≤lim):wpAny (model prog w) A (call (.type "list") [.str x t]) (bO s (.list (chars x.cps.toList)) P) a8 s:=by
 refine call_list_str hh x t (λh' tk acc c k hg hi=>?_) (by show _≤2 ^ 24;unfold lim at hl;(exact aa (by assumption) b9))
 have hr:bz h' acc.toList (chars x.cps.toList) []:=by
  refine bz.of_get (by rw[Array.length_toList,hi.1,chars,bI,Array.length_toList]) λi v d hv hd=>?_
  obtain⟨c',u,hc,rfl⟩:=hi.2 i v (by simpa using hv)
  unfold chars at hd
  replace hd:=hc▸(Array.getElem?_toList)▸(List.getElem?_map)▸hd
  cases hd
  refine .str _ _ (yc hx λy hy=>?_)
  have:y=c':=by simpa using hy
  refine this.symm▸?_
  exact aT ((Array.getElem?_toList).symm▸hc)
 refine⟨h',tk,s.heap.objs.size::[],rfl,k,.list hg rfl rfl rfl rfl hr,λa ha=>?_,λa ha=>?_⟩
 ·rcases aI ha with rfl|ha
  ·exact .inl (aK (am _))
  ·exact bT ha
 ·cases ha
  exact⟨aK (am _),bv⟩
end
inductive B1 where
|len|sum|int|tuple|list
noncomputable def B1.name:B1->Str
|.len=>"len"|.sum=>"sum"|.int=>"int"|.tuple=>"tuple"|.list=>"list"
noncomputable def B1.val:B1->Value
|.len=>.builtin "len"|.sum=>.builtin "sum"|.int=>.type "int"|.tuple=>.type "tuple"|.list=>.type "list"
noncomputable def B1.f:B1->PyData->Option PyData
|.len=>Eh
|.sum=>λd=>match d with
 |.list l=>(jt l).map .int
 |_=>none
|.int=>λd=>match d with
 |.bool b=>some (.int (if b then 1 else 0))
 |_=>none
|.tuple=>λd=>match d with
 |.list l=>if l.length≤lim then some (.tuple l)else none
 |_=>none
|.list=>λd=>match d with
 |.str x=>if x.cps.size≤lim then some (.list (chars x.cps.toList))else none
 |_=>none
theorem ZQ{prog:Program}{w:World}{A:Around}{s:Shared}(b:B1){d r:PyData}{v:Value}{as:List Addr}(hh:A.handled=none)(x:RD s.heap v d as)(e:b.f d=some r) :
  wpAny (model prog w) A (call b.val [v]) (bO s r (λa=>a∈as.tail)) a8 s:=by
 cases b with
|len=>exact SY x e
|sum=>cases d with
 |list l=>exact(Option.map_eq_some_iff.mp (show(jt l).map .int=some r from e)).elim λn q=>q.2▸abF hh x q.1
 |_=>exact ar e
|int=>cases d with
 |bool c=>rw[x.zy.1,← bX e];exact abi
 |_=>exact ar e
|tuple=>cases d with
 |list l=>exact d8 e λhl hr=>hr▸SK x hl
 |_=>exact ar e
|list=>cases d with
 |str y =>
   refine cps λ_ KK=>?_
   obtain⟨t,hv,_,q⟩:=x.fQ
   refine KK ?_
   exact d8 e λhl hr=>hv▸hr▸WI hh q hl
 |_=>exact ar e
section
variable {prog:Program}{w:World}{K:Addr->Option Obj}{O:Fx}{mg mb:Str->Option Value}
noncomputable def im(f:PyData->Option PyData)(a:PV):NF:=λσ=>match rd σ.hp a with
|some x=>match f x with
 |some d=>some (d,σ.hp)
 |none=>none
|none=>none
theorem Ky{C:Prop}(e:im f a σ=some (d,ai))(k:∀x,rd σ.hp a=some x->f x=some d->σ.hp=ai->C):C:=by
 unfold im at e
 cases h1:rd σ.hp a with
|none=>rw[h1]at e;exact ar e
|some x =>
  rw[h1]at e
  have e:(match f x with|some d=>some (d,σ.hp)|none=>none)=some (d,ai):=e
  cases h3:f x with
 |none=>rw[h3]at e;exact ar e
 |some z =>
   rw[h3]at e
   exact k x h1 (by rw[h3,(b7 e).1]) (b7 e).2
theorem tX{A:Around}{E:Value->Shared->Prop}{s:Shared}{env:Env}{pos:Pos}{f:Value}{e:Expr}{rest:List Expr}{Q:Value->Shared->Prop}(hf:(∃id,f=.builtin id)∨∃T,f=.type T)
  (h:wpAny (model prog w) A (spliced (backTo pos (starEach (e::rest) env))) (λvs s_1=>wpAny (model prog w) A (call f vs) Q E s_1) E s)
  (he:starEach (e::rest) env=(false,eval e env)::starEach rest env) (Bz:(backTo pos (starEach rest env)).any (·.1)=false) :
  wpAny (model prog w) A (callWith pos f [] (backTo pos (starEach (e::rest) env)) []) Q E s:=by
 rw[he]at h ⊢
 rcases hf with⟨id,rfl⟩|⟨T,rfl⟩
 ·exact callWith_builtin (by show(false||(backTo pos (starEach rest env)).any (·.1))=false;rw[Bz];rfl) (evalArgs_plain h)
 ·exact PySem.callWith_type (by show(false||(backTo pos (starEach rest env)).any (·.1))=false;rw[Bz];rfl) (evalArgs_plain h)
theorem bV.vV(gl:Gl K mg mb)(b:B1)(he:Ev prog w K O e F)(hk:O.sc.names.lookup b.name=some .globalImplicit)(hg:mg b.name=none)(hb:mb b.name=some b.val)
  (hs:autoParam (∀env,starEach [e] env=[(false,eval e env)]) sI) :
  bV prog w K O (.Call (.Name b.name np) [e] [] pos) (aN F (im b.f)):=.mk λA ρ Z σ s d ai Rm R q=>by
 refine Call_ (l9 gl R hk (.inr ⟨hg,hb⟩) ?_ (by cases b<;>decide))
 refine tX (by cases b<;>first|exact .inl ⟨_,rfl⟩|exact .inr ⟨_,rfl⟩) ?_ (hs _) rfl
 exact wpAny_items_cons (he.then Rm R q λa va h1 aD s_1 e1 aO b3 aP=>wpAny_items_nil (Ky e1 λx hx hd hh=>(jA aP.hr b3 hx).elim λas ra =>
  bq (ZQ b Rm.handled ra.1 hd) (λv bn n=>⟨_,_,_,aO,hh▸aP.hr,n,ra.2⟩) λ_ _ q=>q)) (hs _)
inductive BM where
|mx|mn
noncomputable def BM.name:BM->Str
|.mx=>"max"|.mn=>"min"
noncomputable def BM.val:BM->Value
|.mx=>.builtin "max"|.mn=>.builtin "min"
noncomputable def rm:PyData->Option Int
|.int a=>some a
|_=>none
noncomputable def BM.g(b:BM):List (Option Int)->Option Int
|[x,y]=>x.bind λx=>y.map λy=>match b with
 |.mx=>max x y
 |.mn=>min x y
|[x,y,z]=>match b with
 |.mx=>x.bind λx=>y.bind λy=>z.map λz=>max (max x y) z
 |.mn=>none
|_=>none
noncomputable def BM.f(b:BM)(ds:List PyData):Option PyData:=(b.g (ds.map rm)).map .int
theorem bz.vq(x:bz h vs (d::ds) as):∃v r bs cs,vs=v::r∧RD h v d bs∧bz h r ds cs:=by
 generalize e:d::ds=l at x
 cases x with
|nil=>exact tP e
|cons y r=>cases e;exact⟨_,_,_,_,rfl,y,r⟩
theorem bz.mi(x:bz h vs [] as):vs=[]:=by
 generalize e:([]:List PyData)=l at x
 cases x with
|nil=>rfl
|cons y r=>cases e
theorem RD.KM(x:RD h v (.int i) as):∃t,v=.int i t:=by
 cases x;exact⟨_,rfl⟩
theorem k9(r:bz h vs (.int i::l) as):∃t r',vs=.int i t::r'∧∃cs,bz h r' l cs:=by
 refine cps λ_ KK=>?_
 obtain⟨v,r',_,cs,e,h1,r1⟩:=r.vq
 obtain⟨t,e'⟩:=h1.KM
 refine KK ?_
 exact⟨t,r',e.symm▸e'.symm▸rfl,cs,r1⟩
inductive qe:BM->List PyData->PyData->Prop
|J1 (a b:Int):qe .mx [.int a,.int b] (.int (max a b))
|Ps (a b c:Int):qe .mx [.int a,.int b,.int c] (.int (max (max a b) c))
|NQ (a b:Int):qe .mn [.int a,.int b] (.int (min a b))
theorem wd{P:PyData->Prop}{Q:Option Int->Prop}(h:∀a,Q (some a)->P (.int a))(h2:¬ Q none)(q:Q (rm d)):P d:=by
 cases d with
|int a=>exact h a q
|_=>exact(h2 q).elim
theorem BM.inv{ds:List PyData}(e:b.f ds=some r):qe b ds r:=by
 replace e:((b.g (ds.map rm)).map .int:Option PyData)=some r:=e
 cases ds with
|nil=>exact ar e
|cons x ds=>cases ds with
 |nil=>exact ar e
 |cons y ds=>cases ds with
  |nil =>
    refine wd (d:=x) (P:=λx=>qe b [x,y] r) (Q:=λu=>(b.g [u,rm y]).map PyData.int=some r) (λa e=>?_) (λe=>ar e) e
    refine wd (d:=y) (P:=λy=>qe b [.int a,y] r) (Q:=λu=>(b.g [some a,u]).map PyData.int=some r) (λc e=>?_) (λe=>ar e) e
    refine(bX e)▸?_
    cases b with
   |mx=>exact .J1 a c
   |mn=>exact .NQ a c
  |cons z ds=>cases ds with
   |nil=>cases b with
    |mn=>exact ar e
    |mx =>
      refine wd (d:=x) (P:=λx=>qe .mx [x,y,z] r) (Q:=λu=>(BM.g .mx [u,rm y,rm z]).map PyData.int=some r) (λa e=>?_) (λe=>ar e) e
      refine wd (d:=y) (P:=λy=>qe .mx [.int a,y,z] r) (Q:=λu=>(BM.g .mx [some a,u,rm z]).map PyData.int=some r) (λc e=>?_) (λe=>ar e) e
      refine wd (d:=z) (P:=λz=>qe .mx [.int a,.int c,z] r) (Q:=λu=>(BM.g .mx [some a,some c,u]).map PyData.int=some r) (λd e=>?_) (λe=>ar e) e
      refine(bX e)▸?_
      exact .Ps a c d
   |cons _ _=>exact ar e
theorem U4{A:Around}{s:Shared}(b:BM){ds:List PyData}{r:PyData}{vs:List Value}{as:List Addr}(hh:A.handled=none)(x:bz s.heap vs ds as)(e:b.f ds=some r) :
  wpAny (model prog w) A (call b.val vs) (bO s r (λ_=>False)) a8 s:=by
 have i:=BM.inv e
 clear e
 refine cps λ_ KK=>?_
 cases i with
|J1 a b =>
  obtain⟨t0,r0,e0,_,x0⟩:=k9 x
  obtain⟨t1,r1,e1,_,x1⟩:=k9 x0
  exact KK (e0.symm▸e1.symm▸x1.mi.symm▸abR hh)
|Ps a b c =>
  obtain⟨t0,r0,e0,_,x0⟩:=k9 x
  obtain⟨t1,r1,e1,_,x1⟩:=k9 x0
  obtain⟨t2,r2,e2,_,x2⟩:=k9 x1
  exact KK (e0.symm▸e1.symm▸e2.symm▸x2.mi.symm▸X8 hh)
|NQ a b =>
  obtain⟨t0,r0,e0,_,x0⟩:=k9 x
  obtain⟨t1,r1,e1,_,x1⟩:=k9 x0
  exact KK (e0.symm▸e1.symm▸x1.mi.symm▸Ss hh)
noncomputable def oC(b:BM)(G:LF):NF:=λσ=>match G σ with
|some (ps,hp)=>match fV ps with
 |some ds=>match b.f ds with
  |some d=>some (d,hp)
  |none=>none
 |none=>none
|none=>none
theorem bV.mm(gl:Gl K mg mb)(b:BM)(he:fb prog w K O (e::es) G)(hk:O.sc.names.lookup b.name=some .globalImplicit)(hg:mg b.name=none)(hb:mb b.name=some b.val)
  (hs:autoParam (∀env,starEach (e::es) env=(false,eval e env)::starEach es env) sI) (hp:autoParam (∀env,(backTo pos (starEach es env)).any (·.1)=false) sI) :
  bV prog w K O (.Call (.Name b.name np) (e::es) [] pos) (oC b G):=.mk λA ρ Z σ s d ai Rm R q=>by
 unfold oC at q
 split at q
 ·rename_i ps hp1 e1
  split at q
  ·rename_i ds e2
   split at q
   ·rename_i d' hd
    cases q
    refine Call_ (l9 gl R hk (.inr ⟨hg,hb⟩) ?_ (by cases b<;>decide))
    refine tX (by cases b<;>exact .inl ⟨_,rfl⟩) (bq (he.run pos A ρ Z σ s _ _ Rm R e1) (λvs s_1 p=>?_) λ_ _ q=>q) (hs _) (hp _)
    refine cps λ_ KK=>?_
    obtain⟨aD,aO,b3,cg⟩:=p
    obtain⟨as,r,_⟩:=AE b3 e2
    refine KK ?_
    exact bq (U4 b Rm.handled r hd) (λv bn n=>⟨_,_,_,aO,cg,n,λ_ h=>h.elim⟩) λ_ _ q=>q
   ·exact ar q
  ·exact ar q
 ·exact ar q
end
section
variable {ρ aA:aJ}{Z:List Addr}{h h':Heap}
theorem Km(k:∀a o,a∉Z->h.get? a=some o->h'.get? a=some o):ou ρ ρ Z Z h h':=λa o h1 h2 e=>⟨k a o h2 e,h1,h2⟩
theorem VR.own(k:∀a o,a∉Z->h.get? a=some o->h'.get? a=some o)(r:VR ρ Z h p v):VR ρ Z h' p v:=VR.map (λ_ _ e=>e) (Km k) r
theorem MR.own(k:∀a o,a∉Z->h.get? a=some o->h'.get? a=some o)(hb:b∉Z)(x:MR ρ Z h r b mo):MR ρ Z h' r b mo:=MR.map (λ_ _ e=>e) (Km k) (λo=>k b o hb) x
theorem HR.own(H:HR ρ Z hp h)(k:∀a o,a∉Z->h.get? a=some o->h'.get? a=some o)(lv:∀a o,h.get? a=some o->∃o',h'.get? a=some o'):HR ρ Z hp h' :=
 ⟨H.len,H.nodup,H.fZ,λa ha=>let⟨o,e⟩:=H.iI a ha;lv a o e,λi mo e=>by
  obtain⟨r,b,hr,hm⟩:=H.at_ i mo e
  exact⟨r,b,hr,hm.own k (H.fZ b (List.mem_map_of_mem (f:=Prod.snd) (aT hr)))⟩⟩
end
section
variable {K:Addr->Option Obj}{O:Fx}{ρ aA:aJ}{Z:List Addr}{σ:St}{s s':Shared}{prog:Program}{w:World}{A:Around}
noncomputable def iB(O:Fx)(x:Str):Prop:=O.env.kindOf x=some .local∨∃c,O.env.kindOf x=some .cell∧O.env.cells.lookup x=some c∧c∈O.own
theorem SR.AX{h:Heap}{t:Nat}{a:Addr}{loc':Loc}(R:SR K O ρ Z σ s)(ha:a∈O.own)(sb:Heap.SameBut a s.heap h)(lv:∃o,h.get? a=some o)(er:sV O ρ Z loc' h) :
  Ext O.own ρ s ρ {s with heap:=h,toks:=t}∧SR K O ρ Z ⟨loc',σ.hp⟩ {s with heap:=h,toks:=t}:=by
 have Kw:=R.er.dz a ha
 have k:∀b o,b≠a->s.heap.get? b=some o->h.get? b=some o:=λb o hb e=>sb.extBut b o hb e
 have OP:∀b o,s.heap.get? b=some o->∃o',h.get? b=some o':=λb o e=>by
  by_cases q:b=a
  ·exact q▸lv
  ·exact⟨o,k b o q e⟩
 exact⟨⟨⟨[],by simp,λ_ h=>bT h⟩,λb o _ hX e=>k b o (λq=>hX (q▸ha)) e,OP,rfl,rfl,λ_ _ e=>e,λh=>h⟩,
  R.hr.own (λb o hb e=>k b o (λq=>hb (q▸Kw)) e) OP,er,λb o e=>k b o (λq=>(R.off b (e.symm▸λq=>vD q)).2 (q▸Kw)) (R.top b o e),R.off⟩
theorem yJ{loc:Loc}(h:(loc.set i (some pv))[j]?=some (some p)):(i=j∧p=pv)∨(i≠j∧loc[j]?=some (some p)):=by
 rw[List.getElem?_set]at h
 by_cases g8:i=j
 ·rw[if_pos g8]at h
  exact iF h λ_ e=>.inl ⟨g8,(bX (bX e)).symm⟩
 ·rw[if_neg g8]at h
  exact .inr ⟨g8,h⟩
theorem Vu(hk:env.kindOf x=some .local)(h:(y=x->u=v)∧(y≠x->gc env m cm y=some u)):gc env (λn=>if n=x then some v else m n) cm y=some u:=by
 by_cases q:y=x
 ·refine(h.1 q).symm▸q.symm▸?_
  unfold gc
  refine hk.symm▸?_
  exact if_pos rfl
 ·have e:=h.2 q
  unfold gc at e ⊢
  refine E8 e (λh1 h2=>?_) λh1 h2=>?_
  ·refine h1.symm▸?_
   exact(if_neg q).trans h2
  ·rcases h1 with h1|h1<;>rw[h1]<;>exact h2
theorem WF(hk:env.kindOf x=some .cell)(hl:env.cells.lookup x=some c)(h:(y=x->u=v)∧(y≠x->gc env m cm y=some u)):gc env m (λn=>if n=x then some v else cm n) y=some u:=by
 by_cases q:y=x
 ·refine(h.1 q).symm▸q.symm▸?_
  unfold gc
  refine hk.symm▸hl.symm▸?_
  exact if_pos rfl
 ·have e:=h.2 q
  unfold gc at e ⊢
  refine E8 e (λh1 h2=>?_) λh1 h2=>?_
  ·rw[h1];exact h2
  ·rcases h1 with h1|h1<;>rw[h1]<;>exact(congrArg (λz=>(env.cells.lookup y).bind λ_=>z) (if_neg q)).trans h2
theorem OV(R:sV O ρ Z σ.loc s.heap){m cm m' Nf:Str->Option Value}{i:Nat}{x:Str}{pv:PV}{v:Value}{h':Heap}(hv:O.vars.lookup i=some x)(r:VR ρ Z s.heap pv v)(k:∀b o,b∉Z->s.heap.get? b=some o->h'.get? b=some o)
  (i9:∀i x pv,O.vars.lookup i=some x->σ.loc[i]?=some (some pv)->∃v,gc O.env m cm x=some v∧VR ρ Z s.heap pv v) (hs:∀y u,((y=x->u=v)∧(y≠x->gc O.env m cm y=some u))->gc O.env m' Nf y=some u) :
  ∀j y p,O.vars.lookup j=some y->(σ.loc.set i (some pv))[j]?=some (some p)->∃v,gc O.env m' Nf y=some v∧VR ρ Z h' p v:=by
 intro j y p hj hl
 rcases yJ hl with⟨q1,q2⟩|⟨g8,hl⟩
 ·have:x=y:=bX (hv.symm.trans (q1▸hj))
  exact⟨v,hs y v ⟨λ_=>rfl,λq=>absurd this.symm q⟩,q2▸r.own k⟩
 ·obtain⟨u,hu,hr⟩:=i9 j y p hj hl
  exact⟨u,hs y u ⟨λq=>absurd (R.pf j i x (q▸hj) hv).symm g8,λ_=>hu⟩,hr.own k⟩
theorem SR.store(R:SR K O ρ Z σ s)(hv:O.vars.lookup i=some x)(ok:iB O x)(r:VR ρ Z s.heap pv v)
  (hQ:∀s',Ext O.own ρ s ρ s'->SR K O ρ Z ⟨σ.loc.set i (some pv),σ.hp⟩ s'->Q () s'):wpAny (model prog w) A (storeName O.env x v) Q a8 s:=by
 refine cps λ_ KK=>?_
 obtain⟨m,cm,hn,hc,i9⟩:=R.er.ex
 refine KK ?_
 rcases ok with hk|⟨c,hk,hl,qm⟩
 ·refine wpAny_storeName_local hk hn (λh' kY sb=>?_) (by rw[R.er.fn];rfl)
  have k:∀b o,b∉Z->s.heap.get? b=some o->h'.get? b=some o:=λb o hb e=>sb.extBut b o (λq=>hb (q▸R.er.dz _ R.er.ld)) e
  have hx:=R.AX (t:=s.toks+1) (loc':=σ.loc.set i (some pv)) R.er.ld sb (Ns.live kY) ⟨⟨_,cm,kY,λn c e=>IsCell.keep (hc n c e) λo ho=>sb.extBut c o (R.er.cell n c e).2 ho,OV R.er hv r k i9 λy u h=>Vu hk h⟩,R.er.fn,R.er.sc,R.er.pf,R.er.glob,R.er.bi,R.er.ld,R.er.dz,R.er.pj,R.er.cell,R.er.inj⟩
  exact hQ _ hx.1 hx.2
 ·refine wpAny_storeName_cell R.er.fn hk hl (hc x c hl) λh' me sb=>?_
  have k:∀b o,b∉Z->s.heap.get? b=some o->h'.get? b=some o:=λb o hb e=>sb.extBut b o (λq=>hb (q▸R.er.dz _ qm)) e
  have hx:=R.AX (t:=s.toks) (loc':=σ.loc.set i (some pv)) qm sb (me.elim λo q=>⟨o,q.1⟩) ⟨⟨m,λn=>if n=x then some v else cm n,Ns.keep hn λo e=>sb.extBut _ o (λq=>(R.er.cell x c hl).2 q.symm) e,λn c' e=>?_,OV R.er hv r k i9 λy u h=>WF hk hl h⟩,R.er.fn,R.er.sc,R.er.pf,R.er.glob,R.er.bi,R.er.ld,R.er.dz,R.er.pj,R.er.cell,R.er.inj⟩
  ·exact hQ _ hx.1 hx.2
  ·show h'.IsCell c' (if n=x then some v else cm n)
   by_cases q:n=x
   ·have:c'=c:=bX ((q▸e:O.env.cells.lookup x=some c').symm.trans hl)
    refine(if_pos q).symm▸this.symm▸?_
    exact me
   ·refine(if_neg q).symm▸?_
    exact IsCell.keep (hc n c' e) λo ho=>sb.extBut c' o (λq'=>q (R.er.inj n x c (q'▸e) hl)) ho
end
inductive Fl where
|next|brk|cont|ret (v:PV)
noncomputable def sk(ρ:aJ)(Z:List Addr)(h:Heap):Fl->Flow->Prop
|.next,f=>f=.next
|.brk,f=>f=.brk
|.cont,f=>f=.cont
|.ret pv,f=>∃v,f=.ret v∧VR ρ Z h pv v
abbrev XF:=St->Option (Fl×St)
noncomputable def eY(K:Addr->Option Obj)(O:Fx)(ρ:aJ)(Z:List Addr)(s:Shared)(fl:Fl)(σ':St)(f:Flow)(s':Shared):Prop :=
 ∃aA,Ext O.own ρ s aA s'∧SR K O aA Z σ' s'∧sk aA Z s'.heap fl f
structure Ex(prog:Program)(w:World)(K:Addr->Option Obj)(O:Fx)(st:Stmt)(F:XF):Prop where
 run:∀(A:Around) (ρ:aJ) (Z:List Addr) (σ:St) (s:Shared) (fl:Fl) (σ':St),cJ A O.k->SR K O ρ Z σ s->F σ=some (fl,σ') ->
  wpAny (model prog w) A (exec st O.env) (eY K O ρ Z s fl σ') a8 s
structure a6(prog:Program)(w:World)(K:Addr->Option Obj)(O:Fx)(st:List Stmt)(F:XF):Prop where
 run:∀(A:Around) (ρ:aJ) (Z:List Addr) (σ:St) (s:Shared) (fl:Fl) (σ':St),cJ A O.k->SR K O ρ Z σ s->F σ=some (fl,σ') ->
  wpAny (model prog w) A (execs st O.env) (eY K O ρ Z s fl σ') a8 s
noncomputable def bh:XF:=λσ=>some (.next,σ)
noncomputable def aH(F G:XF):XF:=λσ=>match F σ with
|some (.next,σ')=>G σ'
|r=>r
section
variable {prog:Program}{w:World}{K:Addr->Option Obj}{O:Fx}{A:Around}{ρ aD aA:aJ}{Z:List Addr}{σ σ':St}{s s_1 bn s':Shared}
theorem eY.trans(x:Ext X ρ s aD s_1)(hX:∀a∈X,a∈O.own)(p:eY K O aD Z s_1 fl σ' f s'):eY K O ρ Z s fl σ' f s' :=
 Exists.elim p λaA q=>⟨aA,(x.weak hX).trans q.1,q.2⟩
theorem eY.eq(e:some (km,iN)=some (fl,σ'))(p:eY K O ρ Z s km iN f s'):eY K O ρ Z s fl σ' f s':=(b7 e).1▸(b7 e).2▸p
theorem dF{Y:List Addr}:∀a∈([]:List Addr),a∈Y:=λ_ h=>bT h
theorem a6.nil:a6 prog w K O [] bh:=.mk λA ρ Z σ s fl σ' _ R e=>wpAny_execs_nil (eY.eq e ⟨ρ,Ext.refl _ _ _,R,rfl⟩)
theorem G4{C:Prop}(e:aH F G σ=some (fl,σ'))(k1:∀iN,F σ=some (.next,iN)->G iN=some (fl,σ')->C)(k2:F σ=some (fl,σ')->fl≠.next->C):C:=by
 unfold aH at e
 cases h:F σ with
|none=>rw[h]at e;exact ar e
|some x =>
  obtain⟨km,iN⟩:=x
  replace e:=h▸e
  cases km with
 |next=>exact k1 iN h e
 |_=>exact k2 (h.trans e) (λq=>nomatch (b7 e).1.trans q)
theorem a6.cons{st:Stmt}{F G:XF}(h:Ex prog w K O st F)(k:a6 prog w K O rest G):a6 prog w K O (st::rest) (aH F G):=.mk λA ρ Z σ s fl σ' Rm R e =>
 wpAny_execs_cons (G4 e (λiN e1 e2=>bq (h.run A ρ Z σ s _ _ Rm R e1) (λf s_1 p=>by
  obtain⟨aD,aO,aP,q⟩:=p
  refine(show f=.next from q).symm▸?_
  exact bq (k.run A aD Z iN s_1 _ _ Rm aP e2) (λf bn p=>p.trans aO λ_ h=>h) λ_ _ q=>q) λ_ _ q=>q)
  λe1 hn=>bq (h.run A ρ Z σ s _ _ Rm R e1) (λf s_1 p=>by
   cases fl with
  |next=>exact absurd rfl hn
  |ret pv=>obtain⟨aD,aO,aP,v,hf,r⟩:=p;rw[hf];exact⟨aD,aO,aP,v,rfl,r⟩
  |brk=>obtain⟨aD,aO,aP,q⟩:=p;rw[show f=.brk from q];exact⟨aD,aO,aP,rfl⟩
  |cont=>obtain⟨aD,aO,aP,q⟩:=p;rw[show f=.cont from q];exact⟨aD,aO,aP,rfl⟩) λ_ _ q=>q)
noncomputable def dg(i:Nat):PV->St->Option (Fl×St):=λpv σ=>some (.next,⟨σ.loc.set i (some pv),σ.hp⟩)
noncomputable def bN(F:EF)(G:PV->St->Option (Fl×St)):XF:=λσ=>match F σ with
|some (v,hp)=>G v ⟨σ.loc,hp⟩
|none=>none
theorem N6{F:EF}{G:PV->St->Option (Fl×St)}{σ:St}{r:Fl×St}(e:bN F G σ=some r):∃v hp,F σ=some (v,hp)∧G v ⟨σ.loc,hp⟩=some r:=by
 unfold bN at e
 cases h:F σ with
|none=>rw[h]at e;exact ar e
|some x=>rw[h]at e;exact⟨x.1,x.2,rfl,e⟩
theorem Ev.lK{e:Expr}{F:EF}{G:PV->St->Option (Fl×St)}(h:Ev prog w K O e F){A:Around}{ρ:aJ}{Z:List Addr}{σ:St}{s:Shared}{r:Fl×St}(Rm:cJ A O.k)(R:SR K O ρ Z σ s)
  (q:bN F G σ=some r)
  (k:∀a v h1 aD s_1,G a ⟨σ.loc,h1⟩=some r->Ext [] ρ s aD s_1->VR aD Z s_1.heap a v->SR K O aD Z ⟨σ.loc,h1⟩ s_1->Q v s_1):wpAny (model prog w) A (eval e O.env) Q a8 s:=by
 obtain⟨a,h1,e1,e2⟩:=N6 q
 refine bq (h.run A ρ Z σ s _ _ Rm R e1) (λv s_1 p=>?_) λ_ _ q=>q
 obtain⟨aD,aO,b3,cg⟩:=p
 exact k a v h1 aD s_1 e2 aO b3 (R.next aO cg)
theorem Ex.assign{x:Str}(hv:O.vars.lookup i=some x)(ok:iB O x)(he:Ev prog w K O e F)(hs:swapsWith e (some (.Name x p)) p'.line O.env=pure false) :
  Ex prog w K O (.Assign [.Name x p] e p') (bN F (dg i)):=.mk λA ρ Z σ s fl σ' Rm R q =>
 wpAny_Assign_Name (he.lK Rm R q λa v h1 aD s_1 e1 aO b3 aP=>aP.store hv ok b3 λbn ct cw=>eY.eq e1 ⟨aD,(aO.weak dF).trans ct,cw,rfl⟩) hs
theorem Ex.ret{e:Expr}(he:Ev prog w K O e F):Ex prog w K O (.Return (some e) p) (bN F λpv σ=>some (.ret pv,σ)):=.mk λA ρ Z σ s fl σ' Rm R q =>
 wpAny_Return_some (he.lK Rm R q λa v h1 aD s_1 e1 aO b3 aP=>eY.eq e1 ⟨aD,aO.weak dF,aP,v,rfl,b3⟩)
theorem Ex.brk:Ex prog w K O (.Break p) (λσ=>some (.brk,σ)):=.mk λA ρ Z σ s fl σ' Rm R q=>wpAny_Break (eY.eq q ⟨ρ,Ext.refl _ _ _,R,rfl⟩)
theorem Ex.cont:Ex prog w K O (.Continue p) (λσ=>some (.cont,σ)):=.mk λA ρ Z σ s fl σ' Rm R q=>wpAny_Continue (eY.eq q ⟨ρ,Ext.refl _ _ _,R,rfl⟩)
theorem Ex.expr{e:Expr}(he:Ev prog w K O e F)(hi:interactive O.env=false)(hs:swapsWith e none p.line O.env=pure false) :
  Ex prog w K O (.Expr e p) (bN F λpv σ=>match pv with
  |.dat .none=>some (.next,σ)
  |_=>none):=.mk λA ρ Z σ s fl σ' Rm R q=>by
 refine wpAny_Expr (he.lK Rm R q λa v h1 aD s_1 e1 aO b3 aP=>?_) hi hs
 cases a with
|dat d=>cases d with
 |none =>
   obtain⟨as,r,_⟩:=b3
   refine r.none_.1.symm▸?_
   exact eY.eq e1 ⟨aD,aO.weak dF,aP,rfl⟩
 |_=>exact ar e1
|_=>exact ar e1
noncomputable def cZ(F:St->Option (Bool×List MO))(G H:XF):XF:=λσ=>match F σ with
|some (b,hp)=>if b then G ⟨σ.loc,hp⟩else H ⟨σ.loc,hp⟩
|none=>none
end
structure d5(X:List Addr)(G:Nat->Prop)(ρ:aJ)(s:Shared)(aA:aJ)(s':Shared):Prop where
 e:Ext X ρ {s with gens:=#[]} aA {s' with gens:=#[]}
 gens:∀(g:Nat) (st:GenState),¬ G g->s.gens[g]?=some st->s'.gens[g]?=some st
 bare:AllBare s.gens->AllBare s'.gens
section
variable {X Y Z:List Addr}{G:Nat->Prop}{ρ aA xk aD eA:aJ}{s s' s_0 s_1 bn:Shared}
theorem Ext.toG(x:Ext X ρ s aA s'):d5 X G ρ s aA s':=⟨⟨x.more,x.heap,x.live,x.drawn,x.os,λ_ _ e=>e,λh=>h⟩,λg st _ e=>x.gens g st e,x.bare⟩
theorem d5.refl:d5 X G ρ s ρ s:=(Ext.refl X ρ s).toG
theorem d5.trans(x:d5 X G xk s_0 aD s_1)(y:d5 X G aD s_1 eA bn):d5 X G xk s_0 eA bn:=⟨x.e.trans y.e,λg st h e=>y.gens g st h (x.gens g st h e),λh=>y.bare (x.bare h)⟩
theorem d5.weak(x:d5 X G ρ s aA s')(h:∀a∈X,a∈Y):d5 Y G ρ s aA s':=⟨x.e.weak h,x.gens,x.bare⟩
theorem d5.ext(x:d5 X G ρ s aA s')(h:∀a∈X,a∈Y∨s.heap.get? a=none)(hg:∀g st,s.gens[g]?=some st->¬ G g):Ext Y ρ s aA s' :=
 let y:=x.e.shrink (Y:=Y) h
 ⟨y.more,y.heap,y.live,y.drawn,y.os,λg st e=>x.gens g st (hg g st e) e,x.bare⟩
end
section
variable {K:Addr->Option Obj}{O:Fx}{ρ aA:aJ}{Z Z' wr:List Addr}{σ:St}{s s':Shared}{hp:List MO}
noncomputable def Off(O:Fx)(wr:List Addr):Prop:=O.env.locals∉wr∧∀n c,O.env.cells.lookup n=some c->c∉wr
theorem vM.ext{X:List Addr}(R:SR K O ρ Z σ s)(x:Ext X ρ s aA s')(off:Off O X):vM O s.heap s'.heap:=⟨λo e=>x.heap _ o R.er.pj off.1 e,λn c e o q=>x.heap c o (R.er.cell n c e).1 (off.2 n c e) q⟩
theorem SR.EB{X:List Addr}{ai:List MO}(R:SR K O ρ Z σ s)(x:Ext X ρ s aA s')(hX:∀a∈X,a∈Z)(off:Off O X)(H:HR aA Z ai s'.heap):SR K O aA Z ⟨σ.loc,ai⟩ s' :=
 R.map (λ_ _ e=>x.old e) (x.moves hX) (vM.ext R x off) (λa o e h=>x.lB e h) R.er.dz H
theorem SR.I6(R:SR K O ρ Z σ s):SR K O ρ Z σ {s with gens:=g}:=⟨R.hr,R.er,R.top,R.off⟩
theorem SR.wM{X:List Addr}{G:Nat->Prop}{ai:List MO}(R:SR K O ρ Z σ s)(x:d5 X G ρ s aA s')(hX:∀a∈X,a∈Z)(off:Off O X)(H:HR aA Z ai s'.heap):SR K O aA Z ⟨σ.loc,ai⟩ s' :=
 have R1:=(R.I6 (g:=#[])).EB x.e hX off H
 ⟨R1.hr,R1.er,R1.top,R1.off⟩
theorem SR.sx(R:SR K O ρ Z σ s)(hw:∀a∈wr,s.heap.get? a=none):Off O wr:=by
 obtain⟨m,cm,hn,hc,_⟩:=R.er.ex
 exact⟨λq=>(Ns.live hn).elim λo e=>ar ((hw _ q).symm.trans e),λn c e q=>(hc n c e).elim λo h=>ar ((hw _ q).symm.trans h.1)⟩
theorem IC{h h':Heap}(hw:∀a∈wr,h.get? a=none)(k:∀b o,h.get? b=some o->h'.get? b=some o):ou ρ ρ Z (wr++Z) h h':=λa o h1 h2 e=>⟨k a o e,h1,λm=>(ae m).elim (λm=>ar ((hw a m).symm.trans e)) h2⟩
theorem Om(hZ:∀a∈Z',a∈Z):ou ρ ρ Z Z' h h:=λa o h1 h2 e=>⟨e,h1,λm=>h2 (hZ a m)⟩
theorem MR.more{h h':Heap}(hw:∀a∈wr,h.get? a=none)(k:∀b o,h.get? b=some o->h'.get? b=some o){r b:Addr}{mo:MO}(x:MR ρ Z h r b mo):MR ρ (wr++Z) h' r b mo:=MR.map (λ_ _ e=>e) (IC hw k) (k b) x
theorem HR.more{h h':Heap}(H:HR ρ Z hp h)(hw:∀a∈wr,h.get? a=none)(k:∀b o,h.get? b=some o->h'.get? b=some o)(lv:∀a∈wr,∃o,h'.get? a=some o):HR ρ (wr++Z) hp h' :=
 ⟨H.len,H.nodup,λb hb m=>(ae m).elim (λm=>(H.live b hb).elim λo e=>ar ((hw b m).symm.trans e)) (H.fZ b hb),
  λa ha=>(ae ha).elim (lv a) λha=>(H.iI a ha).elim λo e=>⟨o,k a o e⟩,λi mo e=>rZ.rec (motive:=λ_=>rZ ρ (wr++Z) h' i mo) (λr b hr hm=>⟨r,b,hr,hm.more hw k⟩) (H.at_ i mo e)⟩
theorem SR.more(R:SR K O ρ Z σ s)(hw:∀a∈wr,s.heap.get? a=none)(k:∀b o,s.heap.get? b=some o->s'.heap.get? b=some o)(lv:∀a∈wr,∃o,s'.heap.get? a=some o):SR K O ρ (wr++Z) σ s' :=
 R.map (λ_ _ e=>e) (IC hw k) ⟨k _,λ_ c _=>k c⟩ (λ_ _ _ h=>h) (λa ha=>af _ (R.er.dz a ha)) (R.hr.more hw k lv)
theorem MR.weak(hZ:∀a∈Z',a∈Z)(x:MR ρ Z h r b mo):MR ρ Z' h r b mo:=MR.map (λ_ _ e=>e) (Om hZ) (λ_ e=>e) x
theorem HR.weak(H:HR ρ Z hp h)(hZ:∀a∈Z',a∈Z):HR ρ Z' hp h :=
 ⟨H.len,H.nodup,λb hb m=>H.fZ b hb (hZ b m),λa ha=>H.iI a (hZ a ha),λi mo e=>rZ.rec (motive:=λ_=>rZ ρ Z' h i mo) (λr b hr hm=>⟨r,b,hr,hm.weak hZ⟩) (H.at_ i mo e)⟩
theorem SR.weak(R:SR K O ρ Z σ s)(hZ:∀a∈Z',a∈Z)(ho:∀a∈O.own,a∈Z'):SR K O ρ Z' σ s :=
 R.map (λ_ _ e=>e) (Om hZ) ⟨λ_ e=>e,λ_ _ _ _ e=>e⟩ (λ_ _ _ h=>h) ho (R.hr.weak hZ)
theorem SR.JH{X uS:List Addr}{G:Nat->Prop}{ai:List MO}(R:SR K O ρ Z σ s)(x:d5 X G ρ s aA s')(hX:∀a∈X,a∈uS)(off:Off O X)(hZ:∀a∈uS,a∈Z∨s.heap.get? a=none)(ho:∀a∈O.own,a∈uS)(H:HR aA uS ai s'.heap):SR K O aA uS ⟨σ.loc,ai⟩ s':=by
 have e':=x.e
 have nz:∀a o,a∉Z->s.heap.get? a=some o->a∉uS:=λa o h e m=>(hZ a m).elim h λn=>ar (n.symm.trans e)
 exact R.map (λ_ _ e=>e'.old e) (λa o h1 h2 e=>⟨e'.heap a o h1 (λq=>nz a o h2 e (hX a q)) e,e'.lB (o:=o) e h1,nz a o h2 e⟩) (vM.ext (s:={s with gens:=#[]}) (s':={s' with gens:=#[]}) (R.I6 (g:=#[])) e' off) (λa o e h=>e'.lB (o:=o) e h) ho H
theorem SR.Xc{X fj:List Addr}{G:Nat->Prop}{ai:List MO}(R:SR K O ρ Z σ s)(x:d5 X G ρ s aA s')(hX:∀a∈X,a∈Z)(off:Off O X)(hw:∀a∈fj,s.heap.get? a=none)(H:HR aA (fj++Z) ai s'.heap):SR K O aA (fj++Z) ⟨σ.loc,ai⟩ s' :=
 R.JH x (λa h=>af _ (hX a h)) off (λa h=>(ae h).elim (λh=>.inr (hw a h)) .inl) (λa h=>af _ (R.er.dz a h)) H
theorem HR.drop{h h':Heap}(H:HR ρ (wr++Z) hp h)(hZ:∀a∈wr,a∉Z)(k:∀b o,b∉wr->h.get? b=some o->h'.get? b=some o):HR ρ Z hp h' :=
 ⟨H.len,H.nodup,λb hb m=>H.fZ b hb (af _ m),λa ha=>(H.iI a (af _ ha)).elim λo e=>⟨o,k a o (λq=>hZ a q ha) e⟩,λi mo e =>
  rZ.rec (motive:=λ_=>rZ ρ Z h' i mo) (λr b hr hm=>⟨r,b,hr,MR.map (λ_ _ e=>e) (λa o h1 h2 e=>⟨k a o (λq=>h2 (au _ q)) e,h1,λq=>h2 (af _ q)⟩)
   (λo=>k b o λq=>H.fZ b (List.mem_map_of_mem (f:=Prod.snd) (aT hr)) (au _ q)) hm⟩) (H.at_ i mo e)⟩
theorem SR.drop{h':Heap}{t:Nat}(R:SR K O ρ (wr++Z) σ s)(hZ:∀a∈wr,a∉Z)(off:Off O wr)(ho:∀a∈O.own,a∈Z)(k:∀b o,b∉wr->s.heap.get? b=some o->h'.get? b=some o):SR K O ρ Z σ {s with heap:=h',toks:=t} :=
 R.map (s':={s with heap:=h',toks:=t}) (λ_ _ e=>e) (λa o h1 h2 e=>⟨k a o (λq=>h2 (au _ q)) e,h1,λq=>h2 (af _ q)⟩) ⟨λo=>k _ o off.1,λn c e o=>k c o (off.2 n c e)⟩ (λ_ _ _ h=>h) ho (R.hr.drop hZ k)
theorem Ext.drop{X:List Addr}{h':Heap}{t:Nat}{s_1:Shared}(x:Ext X ρ s aA s_1)(hw:∀a∈wr,s.heap.get? a=none)(k:∀b o,b∉wr->s_1.heap.get? b=some o->h'.get? b=some o):Ext X ρ s aA {s_1 with heap:=h',toks:=t} :=
 have n:∀b o,s.heap.get? b=some o->b∉wr:=λb o e q=>by rw[hw b q]at e;cases e
 ⟨x.more,λb o hb hX e=>k b o (n b o e) (x.heap b o hb hX e),λb o e=>let⟨o',e'⟩:=x.live b o e;⟨o',k b o' (n b o e) e'⟩,x.drawn,x.os,x.gens,x.bare⟩
end
inductive IS where
|rem (l:List PyData)
|cf (i k:Nat)
abbrev g0:=IS->List MO->Option (Option (PyData×IS)×List MO)
noncomputable def stepI:g0
|.rem [],hp=>some (none,hp)
|.rem (d::l),hp=>some (some (d,.rem l),hp)
|.cf i k,hp=>match hp[i]? with
 |some (.lst l)=>match l[k]? with
  |some d=>some (some (d,.cf i (k+1)),hp)
  |none=>some (none,hp)
 |_=>none
inductive EP(wr:List Addr)(G:Nat->Prop)(ρ:aJ)(Z:List Addr)(s:Shared)(ai:List MO)(r:Option Value)(s':Shared):Prop
|mk:r=none->∀(aA:aJ) (s_1:Shared) (h':Heap) (tk:Nat),d5 wr G ρ s aA s_1->HR aA Z ai s_1.heap->s'={s_1 with heap:=h',toks:=tk}->(∀b o,b∉wr->s_1.heap.get? b=some o->h'.get? b=some o)->EP wr G ρ Z s ai r s'
inductive Ec(wr:List Addr)(G:Nat->Prop)(ρ:aJ)(Z:List Addr)(s:Shared)(ai:List MO)(d:PyData)(v:Value)(J:aJ->Shared->Prop)(dA:Shared):Prop
|mk (aA:aJ):d5 wr G ρ s aA dA->HR aA Z ai dA.heap->VR aA Z dA.heap (.dat d) v->J aA dA->Ec wr G ρ Z s ai d v J dA
inductive uq(wr:List Addr)(G:Nat->Prop)(ρ:aJ)(Z:List Addr)(s:Shared)(ai:List MO)(d:PyData)(v:Value)(J:List Addr->aJ->Shared->Prop)(dA:Shared):Prop
|mk (aA:aJ) (fj:List Addr):(∀a∈fj,s.heap.get? a=none)->d5 wr G ρ s aA dA->HR aA (fj++Z) ai dA.heap->VR aA (fj++Z) dA.heap (.dat d) v->J fj aA dA->uq wr G ρ Z s ai d v J dA
inductive u5(prog:Program)(w:World)(A:Around)(tg:Expr)(it:Value)(Q:Value->Shared->Prop)(r:Option Value)(s':Shared):Prop
|mk (v:Value):r=some v->wpAny (model prog w) A (letOwnedTupleGo tg it v) (λ_=>Q v) a8 s'->u5 prog w A tg it Q r s'
structure Iter(prog:Program)(w:World)(A:Around)(it:Value)(tg:Expr)(wr:List Addr)(G:Nat->Prop)(step:g0)(J:IS->aJ->List Addr->Shared->Prop):Prop where
 ext:∀{l ρ Z s X aA s'},J l ρ Z s->Ext X ρ s aA s'->(∀a∈X,a∈Z∧a∉wr)->J l aA Z s'
 next:∀{l hp d l' ai ρ Z s},step l hp=some (some (d,l'),ai)->J l ρ Z s->HR ρ Z hp s.heap->(∀a∈wr,a∈Z)->wpAny (model prog w) A (pyNext it) (u5 prog w A tg it λv=>Ec wr G ρ Z s ai d v λaA=>J l' aA Z) a8 s
 done:∀{l hp ai ρ Z s},step l hp=some (none,ai)->J l ρ Z s->HR ρ Z hp s.heap->(∀a∈wr,a∈Z)->wpAny (model prog w) A (pyNext it) (EP wr G ρ Z s ai) a8 s
 self:∀{l hp r ρ Z s} {Q:Value->Shared->Prop},step l hp=some r->J l ρ Z s->HR ρ Z hp s.heap->Q it s->wpAny (model prog w) A (pyIter it) Q a8 s
 more:∀{l ρ Z Z' s s'},J l ρ Z s->(∀a∈Z',a∈Z∨s.heap.get? a=none)->(∀b o,s.heap.get? b=some o->s'.heap.get? b=some o)->(∀(g:Nat) (st:GenState),s.gens[g]?=some st->s'.gens[g]?=some st)->J l ρ Z' s'
structure ze(prog:Program)(w:World)(A:Around)(it:Value)(tg:Expr)(G:Nat->Prop)(step:g0)(J:IS->List Addr->aJ->List Addr->Shared->Prop):Prop where
 ext:∀{l wr ρ Z s X aA s'},J l wr ρ Z s->Ext X ρ s aA s'->(∀a∈X,a∈Z∧a∉wr)->J l wr aA Z s'
 next:∀{l wr hp d l' ai ρ Z s},step l hp=some (some (d,l'),ai)->J l wr ρ Z s->HR ρ Z hp s.heap->(∀a∈wr,a∈Z)->wpAny (model prog w) A (pyNext it) (u5 prog w A tg it λv=>uq wr G ρ Z s ai d v λfj aA=>J l' (fj++wr) aA (fj++Z)) a8 s
 done:∀{l wr hp ai ρ Z s},step l hp=some (none,ai)->J l wr ρ Z s->HR ρ Z hp s.heap->(∀a∈wr,a∈Z)->wpAny (model prog w) A (pyNext it) (EP wr G ρ Z s ai) a8 s
 self:∀{l wr hp r ρ Z s} {Q:Value->Shared->Prop},step l hp=some r->J l wr ρ Z s->HR ρ Z hp s.heap->Q it s->wpAny (model prog w) A (pyIter it) Q a8 s
 more:∀{l wr ρ Z Z' s s'},J l wr ρ Z s->(∀a∈Z',a∈Z∨s.heap.get? a=none)->(∀b o,s.heap.get? b=some o->s'.heap.get? b=some o)->(∀(g:Nat) (st:GenState),s.gens[g]?=some st->s'.gens[g]?=some st)->J l wr ρ Z' s'
theorem u5.mono{prog:Program}{w:World}{A:Around}{tg:Expr}{it:Value}{Q Q':Value->Shared->Prop}{r:Option Value}{s':Shared}(n:u5 prog w A tg it Q r s')(k:∀v s,Q v s->Q' v s):u5 prog w A tg it Q' r s':=by
 obtain⟨v,h,p⟩:=n
 exact⟨v,h,bq p (λ_ s q=>k v s q) λ_ _ q=>q⟩
theorem Iter.toD{prog:Program}{w:World}{A:Around}{it:Value}{tg:Expr}{wr:List Addr}{G:Nat->Prop}{step:g0}{J:IS->aJ->List Addr->Shared->Prop}(W:Iter prog w A it tg wr G step J) :
  ze prog w A it tg G step (λl b6 ρ Z s=>b6=wr∧J l ρ Z s) where
 ext:=λj x hX=>⟨j.1,W.ext j.2 x (j.1▸hX)⟩
 next:=λ{l b6 hp d l' ai ρ Z s} e j H hw=>by
  obtain⟨h,j⟩:=j
  subst h
  exact bq (W.next e j H hw) (λr s' p=>p.mono λv dA p=>by
   obtain⟨aA,x,H',V,j'⟩:=p
   exact⟨aA,[],(λ_ h=>bT h),x,H',V,rfl,j'⟩) λ_ _ q=>q
 done:=λe j H hw=>j.1▸W.done e j.2 H (j.1▸hw)
 self:=λe j H hQ=>W.self e j.2 H hQ
 more:=λj hZ k g=>⟨j.1,W.more j.2 hZ k g⟩
inductive dQ(prog:Program)(w:World)(A:Around)(tg:Expr)(step:g0)(ρ:aJ)(Z:List Addr)(s:Shared)(is:IS)(ai:List MO)(it:Value)(s':Shared):Prop
|mk (aD:aJ) (s_1:Shared) (wr:List Addr) (G:Nat->Prop) (J:IS->List Addr->aJ->List Addr->Shared->Prop):Ext [] ρ s aD s_1->HR aD Z ai s_1.heap->Ext [] aD s_1 aD s'->(∀b o,s_1.heap.get? b=some o->s'.heap.get? b=some o)->(∀a∈wr,s_1.heap.get? a=none) ->
  (∀a∈wr,∃o,s'.heap.get? a=some o)->(∀g,G g->s_1.gens[g]?=none)->J is wr aD (wr++Z) s'->ze prog w A it tg G step J->dQ prog w A tg step ρ Z s is ai it s'
abbrev SF:=St->Option ((IS×Nat)×List MO)
structure eT(prog:Program)(w:World)(K:Addr->Option Obj)(O:Fx)(e tg:Expr)(step:g0)(F:SF):Prop where
 run:∀(A:Around) (ρ:aJ) (Z:List Addr) (σ:St) (s:Shared) (is:IS) (n:Nat) (ai:List MO),cJ A O.k->SR K O ρ Z σ s->F σ=some ((is,n),ai) ->
  wpAny (model prog w) A (eval e O.env) (λx s_1=>wpAny (model prog w) A (pyIter x) (dQ prog w A tg step ρ Z s is ai) a8 s_1) a8 s
structure As(prog:Program)(w:World)(K:Addr->Option Obj)(O:Fx)(tg:Expr)(T:PyData->Loc->Option Loc):Prop where
 run:∀(A:Around) (ρ:aJ) (Z:List Addr) (σ:St) (s:Shared) (d:PyData) (v:Value) (loc':Loc),cJ A O.k->SR K O ρ Z σ s->VR ρ Z s.heap (.dat d) v->T d σ.loc=some loc' ->
  wpAny (model prog w) A (assign tg O.env v) (λ_ s'=>Ext O.own ρ s ρ s'∧SR K O ρ Z ⟨loc',σ.hp⟩ s') a8 s
noncomputable def cx(step:g0)(T:PyData->Loc->Option Loc)(B:XF):Nat->IS->XF
|0,_=>λ_=>none
|n+1,is=>λσ=>match step is σ.hp with
 |none=>none
 |some (none,hp)=>some (.next,⟨σ.loc,hp⟩)
 |some (some (d,is'),hp)=>match T d σ.loc with
  |none=>none
  |some loc=>match B ⟨loc,hp⟩with
   |some (.next,dv)=>cx step T B n is' dv
   |some (.cont,dv)=>cx step T B n is' dv
   |some (.brk,dv)=>some (.next,dv)
   |some (.ret v,dv)=>some (.ret v,dv)
   |none=>none
noncomputable def fu(F:SF)(G:IS->Nat->XF):XF:=λσ=>match F σ with
|some ((is,n),hp)=>G is n ⟨σ.loc,hp⟩
|none=>none
section
variable {prog:Program}{w:World}{K:Addr->Option Obj}{O:Fx}
theorem Ui{F:SF}{G:IS->Nat->XF}{σ:St}{r:Fl×St}(e:fu F G σ=some r):∃is n hp,F σ=some ((is,n),hp)∧G is n ⟨σ.loc,hp⟩=some r:=by
 unfold fu at e
 cases h:F σ with
|none=>rw[h]at e;exact ar e
|some x=>rw[h]at e;exact⟨x.1.1,x.1.2,x.2,rfl,e⟩
inductive FS(step:g0)(T:PyData->Loc->Option Loc)(B:XF)(k:Nat)(is:IS)(σ:St)(fl:Fl)(σ':St):Prop
|done (hp:List MO):step is σ.hp=some (none,hp)->some (Fl.next,⟨σ.loc,hp⟩)=some (fl,σ')->FS step T B k is σ fl σ'
|turn (d:PyData) (is':IS) (hp:List MO) (loc:Loc) (km:Fl) (dv:St):step is σ.hp=some (some (d,is'),hp)->T d σ.loc=some loc->B ⟨loc,hp⟩=some (km,dv) ->
  ((km=.next∨km=.cont)∧cx step T B k is' dv=some (fl,σ')∨km=.brk∧some (Fl.next,dv)=some (fl,σ')∨(∃v,km=.ret v)∧some (km,dv)=some (fl,σ'))->FS step T B k is σ fl σ'
theorem X2{step:g0}{T:PyData->Loc->Option Loc}{B:XF}{k:Nat}{is:IS}{σ:St}{fl:Fl}{σ':St}(e:cx step T B (k+1) is σ=some (fl,σ')):FS step T B k is σ fl σ':=by
 rw[cx]at e
 dsimp only at e
 cases h1:step is σ.hp with
|none=>rw[h1]at e;exact ar e
|some x =>
  obtain⟨x,hp⟩:=x
  replace e:=h1▸e
  cases x with
 |none=>exact .done hp h1 e
 |some x =>
   obtain⟨d,is'⟩:=x
   dsimp only at e
   cases h2:T d σ.loc with
  |none=>rw[h2]at e;exact ar e
  |some loc =>
    replace e:=h2▸e
    dsimp only at e
    cases h3:B ⟨loc,hp⟩with
   |none=>rw[h3]at e;exact ar e
   |some y =>
     obtain⟨km,dv⟩:=y
     replace e:=h3▸e
     refine .turn d is' hp loc km dv h1 h2 h3 ?_
     cases km with
    |next=>exact .inl ⟨.inl rfl,e⟩
    |cont=>exact .inl ⟨.inr rfl,e⟩
    |brk=>exact .inr (.inl ⟨rfl,e⟩)
    |ret v=>exact .inr (.inr ⟨⟨v,rfl⟩,e⟩)
inductive FU(K:Addr->Option Obj)(O:Fx)(Z:List Addr)(G:Nat->Prop)(J:IS->List Addr->aJ->List Addr->Shared->Prop)(F:IS->XF)(fl:Fl)(σ':St)(aD:aJ)(s_1:Shared)(s':Shared):Prop
|mk (aA:aJ) (kF:St) (is':IS) (b6:List Addr):(∀a∈b6,s_1.heap.get? a=none)->d5 (b6++O.own) G aD s_1 aA s'->SR K O aA (b6++Z) kF s'->J is' b6 aA (b6++Z) s'->F is' kF=some (fl,σ')->FU K O Z G J F fl σ' aD s_1 s'
section
variable {A:Around}{ρ aA aD cT:aJ}{Z b6 W' X:List Addr}{kF dv:St}{s s' s_1 dq gT i7:Shared}{G:Nat->Prop}{hp:List MO}{d:PyData}{v:Value}{fl:Fl}{f:Flow}{h':Heap}{tk:Nat}
inductive Py(K:Addr->Option Obj)(O:Fx)(b6:List Addr)(G:Nat->Prop)(aA:aJ)(Z:List Addr)(s':Shared)(σ:St)(d:PyData)(v:Value)(J:List Addr->aJ->List Addr->Shared->Prop)(dq:Shared):Prop
|mk (W':List Addr) (cT:aJ):(∀a∈b6,a∈W')->(∀a∈W',s'.heap.get? a=none∨a∈b6)->d5 b6 G aA s' cT dq->SR K O cT (W'++Z) σ dq->VR cT (W'++Z) dq.heap (.dat d) v->J W' cT (W'++Z) dq->Py K O b6 G aA Z s' σ d v J dq
theorem uq.facts(R':SR K O aA (b6++Z) kF s')(ku:Off O b6)(p:uq b6 G aA (b6++Z) s' hp d v (λfj ρ=>J (fj++b6) ρ (fj++(b6++Z))) dq):Py K O b6 G aA Z s' ⟨kF.loc,hp⟩ d v J dq:=by
 obtain⟨cT,fj,j0,dC,nJ,nk,pH⟩:=p
 have fY:=R'.Xc dC (λa h=>au _ h) ku j0 nJ
 rw[← bJ]at fY nk pH
 exact⟨fj++b6,cT,λa h=>af _ h,λa h=>(ae h).imp (j0 a) id,dC,fY,nk,pH⟩
theorem Im(aO:Ext [] ρ s aD s_1)(hg:∀g,G g->s_1.gens[g]?=none)(hu:∀a∈b6,s_1.heap.get? a=none)(x:d5 (b6++O.own) G aD s_1 aA s'):Ext O.own ρ s aA s' :=
 (aO.weak dF).trans (x.ext (λa h=>(ae h).elim (λh=>.inr (hu a h)) .inl) λg st e h=>ar ((hg g h).symm.trans e))
theorem zz(R:SR K O aD Z kF s_1)(hu:∀a∈b6,s_1.heap.get? a=none)(h:a∈Z):a∉b6:=λm=>(R.hr.iI a h).elim λo e=>ar ((hu a m).symm.trans e)
theorem YQ(aP:SR K O aD Z iN s_1)(aO:Ext [] ρ s aD s_1)(hg:∀g,G g->s_1.gens[g]?=none)(hu:∀a∈b6,s_1.heap.get? a=none)(xg:d5 (b6++O.own) G aD s_1 aA s')(R':SR K O aA (b6++Z) kF s')
  (dC:d5 b6 G aA s' cT dq) (nJ:HR cT (b6++Z) ai dq.heap) (kd:∀b o,b∉b6->dq.heap.get? b=some o->h'.get? b=some o):eY K O ρ Z s .next ⟨kF.loc,ai⟩ .next {dq with heap:=h',toks:=tk}:=by
 have ku:=aP.sx hu
 have dz:∀a∈O.own,a∈Z:=aP.er.dz
 have mh:=xg.trans (dC.weak (Y:=b6++O.own) λa h=>au _ h)
 have rR:Ext O.own aD s_1 cT dq:=mh.ext (λa h=>(ae h).elim (λh=>.inr (hu a h)) .inl) λg st e h=>ar ((hg g h).symm.trans e)
 exact⟨cT,(aO.weak dF).trans (rR.drop hu kd),(R'.wM dC (λa h=>au _ h) ku nJ).drop (λa h m=>zz aP hu m h) ku dz kd,rfl⟩
inductive Ji(K:Addr->Option Obj)(O:Fx)(Z:List Addr)(G:Nat->Prop)(J:List Addr->aJ->List Addr->Shared->Prop)(dv:St)(aD:aJ)(s_1:Shared)(W':List Addr)(fl:Fl)(f:Flow)(i7:Shared):Prop
|mk (lT:aJ):(∀a∈W',s_1.heap.get? a=none)->d5 (W'++O.own) G aD s_1 lT i7->SR K O lT (W'++Z) dv i7->J W' lT (W'++Z) i7->sk lT (W'++Z) i7.heap fl f->Ji K O Z G J dv aD s_1 W' fl f i7
theorem acF(Cj:∀{ρ Z s X aA s'},J W' ρ Z s->Ext X ρ s aA s'->(∀a∈X,a∈Z∧a∉W')->J W' aA Z s')(aP:SR K O aD Z iN s_1)(hu:∀a∈b6,s_1.heap.get? a=none)(xg:d5 (b6++O.own) G aD s_1 aA s')
  (pQ:∀a∈b6,a∈W') (lW:∀a∈W',s'.heap.get? a=none∨a∈b6) (dC:d5 b6 G aA s' cT dq) (pH:J W' cT (W'++Z) dq) (rR:Ext O.own cT dq cT gT) (q:eY K O cT (W'++Z) gT fl dv f i7):Ji K O Z G J dv aD s_1 W' fl f i7:=by
 have hw:∀a∈W',s_1.heap.get? a=none:=λa h=>(lW a h).elim (λn=>by
  cases q:s_1.heap.get? a with
 |none=>rfl
 |some o=>exact(xg.e.live a o q).elim λo' e=>ar (n.symm.trans e)) (hu a)
 have hX:∀a∈O.own,a∈W'++Z∧a∉W':=λa h=>⟨af _ (aP.er.dz a h),zz aP hw (aP.er.dz a h)⟩
 have oX:∀a∈O.own,a∈W'++O.own:=λa h=>af _ h
 have wh:d5 (W'++O.own) G aD s_1 cT gT:=((xg.weak λa h=>(ae h).elim (λh=>au _ (pQ a h)) (oX a)).trans (dC.weak λa h=>au _ (pQ a h))).trans (rR.weak oX).toG
 obtain⟨lT,tA,rE,r⟩:=q
 exact⟨lT,hw,wh.trans (tA.weak oX).toG,rE,Cj (Cj pH rR hX) tA hX,r⟩
end
theorem Ex.i6{tg e:Expr}{body:List Stmt}{pos:Pos}{step:g0}{F:SF}{T:PyData->Loc->Option Loc}{B:XF}(he:eT prog w K O e tg step F)(ht:As prog w K O tg T)(hb:a6 prog w K O body B)
  (hs:autoParam (∀x,foldedSetIterable e O.env x=pure x) sI):Ex prog w K O (.For tg e body [] pos) (fu F λis n=>cx step T B n is):=.mk λA ρ Z σ s fl σ' Rm R q=>by
 obtain⟨is,n,hp,e1,e2⟩:=Ui q
 refine wpAny_For (bq (he.run A ρ Z σ s is n hp Rm R e1) (λx s_1 eF=>bq eF (λit bn l6=>?_) λ_ _ q=>q.elim) λ_ _ q=>q.elim) hs
 obtain⟨aD,tH,wr,G,J,aO,cg,ct,keep,hw,lv,hg,hJ,W⟩:=l6
 have aP:=R.next aO cg
 refine codeAny_forLoop_any (λk s'=>FU K O Z G J (cx step T B k) fl σ' aD tH s') ?_ n ⟨aD,_,is,wr,hw,(ct.weak dF).toG,aP.more hw keep lv,hJ,e2⟩
 rintro k s' ⟨aA,kF,is',b6,m7,xg,R',J',hF⟩
 have tR:∀a∈b6,a∈b6++Z:=λa h=>au _ h
 cases k with
|zero=>exact ar hF
|succ k=>cases X2 hF with
 |done hp dN e =>
   refine bq (W.done dN J' R'.hr tR) (λr d4 p=>?_) λ_ _ q=>q.elim
   obtain⟨rfl,cT,dq,h',tk,dC,nJ,rfl,kd⟩:=p
   exact wpAny_execs_nil (eY.eq e (YQ aP aO hg m7 xg R' dC nJ kd))
 |turn d qZ hp loc km dv dN hT hB pK =>
   refine bq (W.next dN J' R'.hr tR) (λr d4 p=>?_) λ_ _ q=>q.elim
   obtain⟨v,rfl,p⟩:=p
   refine bq p (λ_ dq p=>?_) λ_ _ q=>q.elim
   obtain⟨W',cT,pQ,lW,dC,fY,nk,pH⟩:=uq.facts (J:=J qZ) R' (aP.sx m7) p
   refine bq (ht.run A cT _ _ dq d v loc Rm fY nk hT) (λ_ gT p=>bq (hb.run A cT _ _ gT km dv Rm p.2 hB) (λf i7 q=>?_) λ_ _ q=>q.elim) λ_ _ q=>q.elim
   obtain⟨lT,DK,vj,rE,Au,hf⟩:=acF (J:=J qZ) (λj x h=>W.ext j x h) aP m7 xg pQ lW dC pH p.1 q
   rcases pK with⟨hn,e⟩|⟨rfl,e⟩|⟨⟨v,rfl⟩,e⟩
   ·have I:FU K O Z G J (cx step T B k) fl σ' aD tH i7:=⟨lT,dv,qZ,W',DK,vj,rE,Au,e⟩
    rcases hn with rfl|rfl
    ·rw[show f=.next from hf];exact⟨k,a7 k,I⟩
    ·rw[show f=.cont from hf];exact⟨k,a7 k,I⟩
   ·refine(show f=.brk from hf).symm▸?_
    exact eY.eq e ⟨lT,Im aO hg DK vj,rE.weak (λa h=>af _ h) aP.er.dz,rfl⟩
   ·obtain⟨u,hf,r⟩:=hf
    refine hf.symm▸?_
    exact eY.eq e ⟨lT,Im aO hg DK vj,rE.weak (λa h=>af _ h) aP.er.dz,u,rfl,r.weak λa h=>af _ h⟩
theorem abI{F:BF}{G H:XF}{σ:St}{r:Fl×St}{C:Prop}(q:cZ F G H σ=some r)(k:∀b hp,F σ=some (b,hp)->(if b then G ⟨σ.loc,hp⟩else H ⟨σ.loc,hp⟩)=some r->C):C:=by
 unfold cZ at q
 cases h:F σ with
|none=>rw[h]at q;exact ar q
|some x=>rw[h]at q;exact k x.1 x.2 h q
theorem Ex.fR{test:Expr}{body orelse:List Stmt}{pos:Pos}{F:BF}{B C:XF}(ht:Tr prog w K O test F)(hb:a6 prog w K O body B)(hc:a6 prog w K O orelse C):Ex prog w K O (.If test body orelse pos) (cZ F B C):=.mk λA ρ Z σ s fl σ' Rm R q =>
 abI q λb hp e1 e2=>wpAny_If (bq (ht.run A ρ Z σ s b hp Rm R e1) (λb' s_1 p=>by
  refine cps λ_ KK=>?_
  obtain⟨Dk,aD,aO,cg⟩:=p
  refine KK ?_
  have aP:=R.next aO cg
  refine Dk.symm▸?_
  cases b with
 |true=>exact bq (hb.run A aD Z _ s_1 _ _ Rm aP e2) (λf bn p=>p.trans aO dF) λ_ _ q=>q
 |false=>exact bq (hc.run A aD Z _ s_1 _ _ Rm aP e2) (λf bn p=>p.trans aO dF) λ_ _ q=>q) λ_ _ q=>q)
noncomputable def cr(i:Nat):PyData->Loc->Option Loc:=λd loc=>some (loc.set i (some (.dat d)))
theorem As.name(hv:O.vars.lookup i=some x)(ok:iB O x):As prog w K O (.Name x p) (cr i):=.mk λA ρ Z σ s d v loc' Rm R r q=>by
 exact wpAny_assign_Name (R.store hv ok r λs' x R'=>⟨x,bX q▸R'⟩)
end
structure WJ(eD:Heap)(fp wr fd:List Addr)(ds:List PyData)(n:Nat)(Sx:Nat->Heap->Prop)(l:List PyData)(ρ:aJ)(Z:List Addr)(s:Shared):Prop where
 at_:∃i,Sx i s.heap∧l=ds.drop i∧i≤n
 data:∀b∈fd,∃o,eD.get? b=some o∧s.heap.get? b=some o
 ada:∀b∈fd,b∉bF ρ∧b∉Z
 adh:∀b∈fp,b∉bF ρ∧(b∉wr->b∉Z)
noncomputable def ke(eD:Heap)(fp wr fd:List Addr)(ds:List PyData)(n:Nat)(Sx:Nat->Heap->Prop):IS->aJ->List Addr->Shared->Prop
|.rem l,ρ,Z,s=>WJ eD fp wr fd ds n Sx l ρ Z s
|.cf _ _,_,_,_=>False
section
variable {eD:Heap}{fp wr fd:List Addr}{ds:List PyData}{n:Nat}{Sx:Nat->Heap->Prop}{l:List PyData}{ρ aA:aJ}{Z X:List Addr}{s s':Shared}
theorem WJ.ext(J:WJ eD fp wr fd ds n Sx l ρ Z s)(x:Ext X ρ s aA s')(hX:∀a∈X,a∈Z∧a∉wr)(hf:∀i h h',Sx i h->(∀b∈fp,∀o,h.get? b=some o->h'.get? b=some o)->Sx i h')(lv:∀i h,Sx i h->∀a∈fp,∃o,h.get? a=some o) :
  WJ eD fp wr fd ds n Sx l aA Z s' :=
 have⟨⟨i,hi,hl,hn⟩,hd,od,op⟩:=J
 ⟨⟨i,hf i _ _ hi λb hb o e=>x.heap b o (op b hb).1 (λq=>(op b hb).2 (hX b q).2 (hX b q).1) e,hl,hn⟩,λb hb=>(hd b hb).elim λo e=>⟨o,e.1,x.heap b o (od b hb).1 (λq=>(od b hb).2 (hX b q).1) e.2⟩,
  λb hb=>⟨(hd b hb).elim λo e=>x.lB e.2 (od b hb).1,(od b hb).2⟩,λb hb=>⟨(lv i _ hi b hb).elim λo e=>x.lB e (op b hb).1,(op b hb).2⟩⟩
theorem WJ.more(J:WJ eD fp wr fd ds n Sx l ρ Z s)(hZ:∀a∈Z',a∈Z∨s.heap.get? a=none)(k:∀b o,s.heap.get? b=some o->s'.heap.get? b=some o)(hf:∀i h h',Sx i h->(∀b∈fp,∀o,h.get? b=some o->h'.get? b=some o)->Sx i h')(lv:∀i h,Sx i h->∀a∈fp,∃o,h.get? a=some o) :
  WJ eD fp wr fd ds n Sx l ρ Z' s' :=
 have⟨⟨i,hi,hl,hn⟩,hd,od,op⟩:=J
 ⟨⟨i,hf i _ _ hi λb hb o e=>k b o e,hl,hn⟩,λb hb=>(hd b hb).elim λo e=>⟨o,e.1,k b o e.2⟩,λb hb=>⟨(od b hb).1,λq=>(hZ b q).elim (od b hb).2 λq=>(hd b hb).elim λo e=>ar (q.symm.trans e.2)⟩,
  λb hb=>⟨(op b hb).1,λhw q=>(hZ b q).elim ((op b hb).2 hw) λq=>(lv i _ hi b hb).elim λo e=>ar (q.symm.trans e)⟩⟩
theorem ke.inv(J:ke eD fp wr fd ds n Sx is ρ Z s):∃l,is=.rem l∧WJ eD fp wr fd ds n Sx l ρ Z s:=by
 cases is with
|rem l=>exact⟨l,rfl,J⟩
|cf=>exact J.elim
theorem ke.ext(J:ke eD fp wr fd ds n Sx is ρ Z s)(x:Ext X ρ s aA s')(hX:∀a∈X,a∈Z∧a∉wr)(hf:∀i h h',Sx i h->(∀b∈fp,∀o,h.get? b=some o->h'.get? b=some o)->Sx i h')(lv:∀i h,Sx i h->∀a∈fp,∃o,h.get? a=some o) :
  ke eD fp wr fd ds n Sx is aA Z s':=J.inv.elim λ_ q=>q.1▸q.2.ext x hX hf lv
theorem ke.more(J:ke eD fp wr fd ds n Sx is ρ Z s)(hZ:∀a∈Z',a∈Z∨s.heap.get? a=none)(k:∀b o,s.heap.get? b=some o->s'.heap.get? b=some o)(hf:∀i h h',Sx i h->(∀b∈fp,∀o,h.get? b=some o->h'.get? b=some o)->Sx i h')(lv:∀i h,Sx i h->∀a∈fp,∃o,h.get? a=some o) :
  ke eD fp wr fd ds n Sx is ρ Z' s':=J.inv.elim λ_ q=>q.1▸q.2.more hZ k hf lv
inductive Ke(eD:Heap)(fp wr fd:List Addr)(ds:List PyData)(n:Nat)(Sx:Nat->Heap->Prop)(ρ:aJ)(Z:List Addr)(s:Shared)(d:PyData)(is':IS):Prop
|mk (i:Nat):i < n->Sx i s.heap->ds[i]?=some d->(∀s',Sx (i+1) s'.heap->(∀b∈fd,∃o,eD.get? b=some o∧s'.heap.get? b=some o)->ke eD fp wr fd ds n Sx is' ρ Z s')->(∀b∈fd,∃o,eD.get? b=some o∧s.heap.get? b=some o)->(∀b∈fd,b∉bF ρ∧b∉Z)->Ke eD fp wr fd ds n Sx ρ Z s d is'
theorem Bl{l:List PyData}{hp ai:List MO}{r:Option (PyData×IS)}(e:stepI (.rem l) hp=some (r,ai)):hp=ai∧((l=[]∧r=none)∨∃d l',l=d::l'∧r=some (d,.rem l')):=by
 cases l with
|nil=>exact⟨(b7 e).2,.inl ⟨rfl,(b7 e).1.symm⟩⟩
|cons d l=>exact⟨(b7 e).2,.inr ⟨d,l,rfl,(b7 e).1.symm⟩⟩
theorem ke.step(hn:ds.length=n)(J:ke eD fp wr fd ds n Sx is ρ Z s)(e:stepI is hp=some (some (d,is'),ai)):hp=ai∧Ke eD fp wr fd ds n Sx ρ Z s d is':=by
 refine cps λ_ KK=>?_
 obtain⟨l,h,⟨i,hi,hl,jO⟩,nD,od,op⟩:=J.inv
 refine KK ?_
 rw[h]at e
 obtain⟨hh,⟨_,q⟩|⟨d',l',eZ,q⟩⟩:=Bl e
 ·exact ar q.symm
 ·obtain⟨q1,q2⟩:=b7 q
  have dJ:i < ds.length:=by
   rcases Nat.lt_or_ge i ds.length with h|h
   ·exact h
   ·rw[List.drop_eq_nil_of_le h,eZ]at hl;exact tP hl
  have lN:=List.cons.inj ((eZ.symm.trans hl).trans (List.drop_eq_getElem_cons dJ))
  exact⟨hh,i,hn▸dJ,hi,by rw[List.getElem?_eq_getElem dJ,q1,lN.1],λs' h1 h2=>q2▸⟨⟨i+1,h1,lN.2,hn▸dJ⟩,h2,od,op⟩,nD,od⟩
theorem ke.over(hn:ds.length=n)(J:ke eD fp wr fd ds n Sx is ρ Z s)(e:stepI is hp=some (none,ai)):hp=ai∧Sx n s.heap:=by
 refine cps λ_ KK=>?_
 obtain⟨l,h,⟨i,hi,hl,jO⟩,nD,od,op⟩:=J.inv
 refine KK ?_
 rw[h]at e
 obtain⟨hh,⟨q,_⟩|⟨d',l',eZ,q⟩⟩:=Bl e
 ·have:ds.length≤i:=List.drop_eq_nil_iff.mp (hl.symm.trans q)
  have:i=n:=Nat.le_antisymm jO (hn▸this)
  exact⟨hh,this▸hi⟩
 ·exact ar q
theorem Ext.Ds(k:∀b o,b∉X->s.heap.get? b=some o->h.get? b=some o)(lv:∀b∈X,∃o,h.get? b=some o):Ext X ρ s ρ {s with heap:=h,toks:=t} :=
 ⟨⟨[],by simp,λ_ h=>bT h⟩,λb o _ hb e=>k b o hb e,λb o e=>by
  by_cases q:b∈X
  ·exact lv b q
  ·exact⟨o,k b o q e⟩,rfl,rfl,λ_ _ e=>e,λh=>h⟩
end
section
variable {prog:Program}{w:World}{A:Around}{tg:Expr}
theorem HR.chg{ρ:aJ}{Z X:List Addr}{hp:List MO}{s:Shared}{h:Heap}{t:Nat}(H:HR ρ Z hp s.heap)(hX:∀a∈X,a∈Z)(k:∀b o,b∉X->s.heap.get? b=some o->h.get? b=some o)(lv:∀b∈X,∃o,h.get? b=some o):HR ρ Z hp h :=
 H.own (λa o ha e=>k a o (λq=>ha (hX a q)) e) λa o e=>by
  by_cases q:a∈X
  ·exact lv a q
  ·exact⟨o,k a o q e⟩
theorem ET{ρ:aJ}{Z wr:List Addr}{G:Nat->Prop}{hp:List MO}{s:Shared}{h':Heap}{tk:Nat}{d:PyData}{v:Value}{J:aJ->Shared->Prop}(H:HR ρ Z hp s.heap)(hw:∀a∈wr,a∈Z)(hk:∀b o,b∉wr->s.heap.get? b=some o->h'.get? b=some o)(lw:∀b∈wr,∃o,h'.get? b=some o)
  (V:VR ρ Z h' (.dat d) v) (j:J ρ {s with heap:=h',toks:=tk}):Ec wr G ρ Z s hp d v J {s with heap:=h',toks:=tk}:=⟨ρ,(Ext.Ds hk lw).toG,H.chg (t:=tk) hw hk lw,V,j⟩
theorem MQ{ρ:aJ}{Z wr fd:List Addr}{eD h h':Heap}(nD:∀b∈fd,∃o,eD.get? b=some o∧h.get? b=some o)(od:∀b∈fd,b∉bF ρ∧b∉Z)(hw:∀a∈wr,a∈Z)(hk:∀b o,b∉wr->h.get? b=some o->h'.get? b=some o):∀b∈fd,∃o,eD.get? b=some o∧h'.get? b=some o :=
 λb hb=>(nD b hb).elim λo e=>⟨o,e.1,hk b o (λq=>(od b hb).2 (hw b q)) e.2⟩
theorem Iter.walks{I:Addr}{fp wr fd:List Addr}{n:Nat}{P:Nat->Value->Prop}{Sx:Nat->Heap->Prop}{eD:Heap}{ds:List PyData}(W:Walks prog w A I fp wr n P Sx)(hn:ds.length=n)
  (lv:∀i h,Sx i h->∀a∈fp,∃o,h.get? a=some o)
  (hd:∀i v d h,P i v->ds[i]?=some d->(∀b∈fd,∃o,eD.get? b=some o∧h.get? b=some o)->∃as,RD h v d as∧∀a∈as,a∈fd)
  (qg:∀i (s:Shared) v (Q:Unit->Shared->Prop),Sx i s.heap->Q () s->wpAny (model prog w) A (letOwnedTupleGo tg (.ref I) v) Q a8 s) :
  Iter prog w A (.ref I) tg wr (λ_=>False) stepI (ke eD fp wr fd ds n Sx) where
 ext:=λJ x hX=>J.ext x hX W.frame lv
 next:=λ{l hp d l' ai ρ Z s} e J H hw=>by
  obtain⟨hh,i,dJ,hi,Em,hJ,nD,od⟩:=J.step hn e
  refine W.item i s _ _ dJ hi λv h' tk hP mC hk=>⟨v,rfl,qg (i+1) _ v _ mC ?_⟩
  have vO:=MQ nD od hw hk
  obtain⟨as,ra,qa⟩:=hd i v d h' hP Em vO
  exact ET (hh▸H) hw hk (λb hb=>lv _ _ mC b (W.sub b hb)) ⟨as,ra,λa ha=>od a (qa a ha)⟩ (hJ _ mC vO)
 done:=λ{l hp ai ρ Z s} e J H hw=>by
  obtain⟨hh,hi⟩:=J.over hn e
  exact W.done s _ _ hi λh' tk hk=>⟨rfl,ρ,s,h',tk,d5.refl,hh▸H,rfl,hk⟩
 self:=λ{l hp r ρ Z s Q} _ J _ hQ=>J.inv.elim λ_ q=>q.2.at_.elim λi h=>W.self i s Q _ h.1 hQ
 more:=λJ hZ k _=>J.more hZ k W.frame lv
theorem Iter.Eo{I:Addr}{fp wr fd:List Addr}{n:Nat}{P:Nat->Array Value->Prop}{Sx:Nat->Heap->Prop}{YN:Nat->Addr->Heap->Prop}{eD:Heap}{ds:List PyData}{elts:List Expr}{k:Nat}{pos:Pos}
  (W:WalksT prog w A I fp wr n P Sx YN) (hn:ds.length=n)
  (lv:∀i h,Sx i h->∀a∈fp,∃o,h.get? a=some o)
  (hd:∀i vs d h,P i vs->ds[i]?=some d->(∀b∈fd,∃o,eD.get? b=some o∧h.get? b=some o)->∃xs as,d=.tuple xs∧bz h vs.toList xs as∧∀a∈as,a∈fd) :
  Iter prog w A (.ref I) (.Tuple elts k pos) wr (λ_=>False) stepI (ke eD fp wr fd ds n Sx) where
 ext:=λJ x hX=>J.ext x hX W.frame lv
 next:=λ{l hp d l' ai ρ Z s} e J H hw=>by
  refine cps λ_ KK=>?_
  obtain⟨hh,i,dJ,hi,Em,hJ,nD,od⟩:=J.step hn e
  refine KK ?_
  refine W.item i s _ _ dJ hi λT vs eF tk hP hT X1 hm hk=>⟨.ref T,rfl,W.go elts k pos i T _ _ _ hm λh' mC pr=>?_⟩
  have AC:∀b o,b∉wr->s.heap.get? b=some o->h'.get? b=some o:=λb o hb e=>pr b o hb (hk b o hb e)
  have vO:=MQ nD od hw AC
  refine cps λ_ KK=>?_
  obtain⟨xs,as,hx,ra,qa⟩:=hd i vs d h' hP Em vO
  obtain⟨o,ho,hc,m,Gi⟩:=X1
  refine KK ?_
  exact ET (hh▸H) hw AC (λb hb=>lv _ _ mC b (W.sub b hb)) (hx▸⟨T::as,.tuple (pr T o (W.apart _ _ _ hm) ho) hc Gi ra,λa ha=>(aI ha).elim (λq=>q▸H.fresh (aK hT)) λha=>od a (qa a ha)⟩) (hJ _ mC vO)
 done:=λ{l hp ai ρ Z s} e J H hw=>by
  obtain⟨hh,hi⟩:=J.over hn e
  exact W.done s _ _ hi λh' tk hk=>⟨rfl,ρ,s,h',tk,d5.refl,hh▸H,rfl,hk⟩
 self:=λ{l hp r ρ Z s Q} _ J _ hQ=>J.inv.elim λ_ q=>q.2.at_.elim λi h=>W.self i s Q _ h.1 hQ
 more:=λJ hZ k _=>J.more hZ k W.frame lv
end
noncomputable def iR(tg:Expr):Prop:=(∃x p,tg=.Name x p)∨∃es k p,tg=.Tuple es k p
section
variable {prog:Program}{w:World}{K:Addr->Option Obj}{O:Fx}{A:Around}{tg:Expr}
theorem ua(ht:iR tg)(ho:s.heap.get? I=some o)(hc:o.cls=.type T)
  (hn:(["enumerate","zip","dict_itemiterator","dict_reverseitemiterator","odict_iterator","itertools.zip_longest","itertools.pairwise"]:List String).contains T=false) (hQ:Q () s) :
  wpAny (model prog w) A (letOwnedTupleGo tg (.ref I) v) Q a8 s:=by
 rcases ht with⟨x,p,rfl⟩|⟨es,k,p,rfl⟩
 ·exact br hQ
 ·skip
  cases v with
 |ref a =>
   refine bp (wpAny_load ho ?_)
   refine hc.symm▸?_
   cases o.data with
  |fields vs =>
    show wpAny _ A (if(["enumerate","zip","dict_itemiterator","dict_reverseitemiterator","odict_iterator","itertools.zip_longest","itertools.pairwise"].contains T&&vs[0]?==some (rawInt a))=true then _ else _) Q a8 s
    rw[hn,Bool.false_and,if_neg (by decide)]
    exact br hQ
  |_=>exact br hQ
 |_=>exact br hQ
theorem dQ.vi
  (aO:Ext [] ρ s aD s_1) (cg:HR aD Z ai s_1.heap) (keep:∀b o,s_1.heap.get? b=some o->h.get? b=some o) (hw:∀a∈wr,s_1.heap.get? a=none) (lv:∀i h,Sx i h->∀a∈fp,∃o,h.get? a=some o) (Va:∀b∈wr,b∈fp)
  (h0:Sx 0 h) (hd:∀b∈fd,(∃o,s_1.heap.get? b=some o)∧b∉bF aD∧b∉Z)
  (hp:∀b∈fp,s_1.heap.get? b=none∨((∃o,s_1.heap.get? b=some o)∧b∉bF aD∧b∉Z))
  (W:Iter prog w A (.ref I) tg wr (λ_=>False) stepI (ke s_1.heap fp wr fd ds n Sx)) :
  dQ prog w A tg stepI ρ Z s (.rem ds) ai (.ref I) {s_1 with heap:=h,toks:=tk}:=by
 have qt:∀b,(∃o,s_1.heap.get? b=some o)->b∉wr:=λb e q=>e.elim λo e=>ar ((hw b q).symm.trans e)
 exact⟨aD,s_1,wr,λ_=>False,_,aO,cg,Ext.of_keep keep,keep,hw,λa ha=>lv 0 h h0 a (Va a ha),λ_ f=>f.elim,⟨rfl,⟨⟨0,h0,rfl,bZ _⟩,λb hb=>(hd b hb).1.elim λo e=>⟨o,e,keep b o e⟩,
  λb hb=>⟨(hd b hb).2.1,λq=>(ae q).elim (qt b (hd b hb).1) (hd b hb).2.2⟩,
  λb hb=>⟨(hp b hb).elim (λf=>(cg.fresh f).1) λf=>f.2.1,λRh q=>(ae q).elim Rh ((hp b hb).elim (λf=>(cg.fresh f).2) λf=>f.2.2)⟩⟩⟩,W.toD⟩
theorem bz.item{eD h:Heap}{vs:Array Value}{ds:List PyData}{as:List Addr}(r:bz eD vs.toList ds as){i:Nat}{v:Value}{d:PyData}(hv:vs[i]?=some v)(hd:ds[i]?=some d)
  (k:∀b∈as,∃o,eD.get? b=some o∧h.get? b=some o):∃bs,RD h v d bs∧∀a∈bs,a∈as:=by
 refine cps λ_ KK=>?_
 obtain⟨y,bs,hy,ry,qy⟩:=r.get i d hd
 refine KK ?_
 rw[Array.getElem?_toList]at hy
 exact⟨bs,bX (hy.symm.trans hv)▸ry.keep λa ha o e=>(k a (qy a ha)).elim λo' q=>bX (q.1.symm.trans e)▸q.2,qy⟩
theorem dQ.one{ρ aD:aJ}{Z:List Addr}{s s_1:Shared}{ai:List MO}{a:Addr}{ds:List PyData}{as:List Addr}{o:Obj}{n:Nat}{P:Nat->Value->Prop}{It:Nat->Heap->Prop}{Sq:Heap->Prop}{T:String}(ht:iR tg)
  (hT:(["enumerate","zip","dict_itemiterator","dict_reverseitemiterator","odict_iterator","itertools.zip_longest","itertools.pairwise"]:List String).contains T=false)
  (aO:Ext [] ρ s aD s_1) (cg:HR aD Z ai s_1.heap) (ha:∃o,s_1.heap.get? a=some o) (l1:∀i h,It i h->∃o,h.get? s_1.heap.objs.size=some o∧o.cls=.type T) (l2:∀h,Sq h->∃o,h.get? a=some o) (h0:It 0 (s_1.heap.push o)) (h1:Sq (s_1.heap.push o)) (ho:o.cls≠.none)
  (lv:∀b∈as,∃o,s_1.heap.get? b=some o) (q:∀b∈a::as,b∉bF aD∧b∉Z) (W:Walks prog w A s_1.heap.objs.size [s_1.heap.objs.size,a] [s_1.heap.objs.size] n P (λi h=>It i h∧Sq h)) (hn:ds.length=n)
  (hd:∀i v d h,P i v->ds[i]?=some d->(∀b∈as,∃o,s_1.heap.get? b=some o∧h.get? b=some o)->∃jb,RD h v d jb∧∀a∈jb,a∈as) :
  dQ prog w A tg stepI ρ Z s (.rem ds) ai (.ref s_1.heap.objs.size) {s_1 with heap:=s_1.heap.push o}:=by
 have fr:s_1.heap.get? s_1.heap.objs.size=none:=aK (am _)
 have live:∀i h,It i h∧Sq h->∀b∈[s_1.heap.objs.size,a],∃o,h.get? b=some o:=λi h x=>all2 ((l1 i h x.1).elim λo q=>⟨o,q.1⟩) (l2 h x.2)
 exact dQ.vi (tk:=s_1.toks) (fp:=[s_1.heap.objs.size,a]) (wr:=[s_1.heap.objs.size]) (fd:=as) (n:=n) (Sx:=λi h=>It i h∧Sq h) aO cg (λb o e=>ao _ e) (all1 fr) live (all1 (aq ..)) ⟨h0,h1⟩ (λb hb=>⟨lv b hb,q b (al _ hb)⟩)
  (all2 (.inl fr) (.inr ⟨ha,q a (aq ..)⟩)) (Iter.walks W hn live hd λi s v Q h hQ=>(l1 i _ h.1).elim λo q=>ua ht q.1 q.2 hT hQ)
theorem dQ.list{ρ aD:aJ}{Z:List Addr}{s s_1:Shared}{ai:List MO}{a:Addr}{vs:Array Value}{ds:List PyData}{as:List Addr}(ht:iR tg)(hh:A.handled=none)
  (aO:Ext [] ρ s aD s_1) (cg:HR aD Z ai s_1.heap) (hl:s_1.heap.IsList a vs) (r:bz s_1.heap vs.toList ds as) (q:∀b∈a::as,b∉bF aD∧b∉Z) :
  wpAny (model prog w) A (pyIter (.ref a)) (dQ prog w A tg stepI ρ Z s (.rem ds) ai) a8 s_1:=by
 have ha:∃o,s_1.heap.get? a=some o:=hl.elim λo q=>⟨o,q.1⟩
 have eU:a≠s_1.heap.objs.size:=ha.elim λo e=>Nat.ne_of_lt (Heap.lt_size e)
 exact wpAny_pyIter_list hl (dQ.one (It:=λi h=>h.IsListIter s_1.heap.objs.size a i) (Sq:=λh=>h.IsList a vs) (T:="list_iterator") ht (by decide) aO cg ha (λi h x=>x.elim λo q=>⟨o,q.1,q.2.1⟩) (λh x=>x.elim λo q=>⟨o,q.1⟩)
  ⟨_,aX _ rfl,rfl,rfl⟩ (hl.push _) (λh=>nomatch h) r.live q (Walks.list hh _ a eU vs) r.length.symm (λi v d h hv hd k=>r.item hv hd k))
theorem dQ.tuple{ρ aD:aJ}{Z:List Addr}{s s_1:Shared}{ai:List MO}{a:Addr}{vs:Array Value}{ds:List PyData}{as:List Addr}(ht:iR tg)(hh:A.handled=none)
  (aO:Ext [] ρ s aD s_1) (cg:HR aD Z ai s_1.heap) (hl:s_1.heap.IsTuple a vs) (r:bz s_1.heap vs.toList ds as) (q:∀b∈a::as,b∉bF aD∧b∉Z) :
  wpAny (model prog w) A (pyIter (.ref a)) (dQ prog w A tg stepI ρ Z s (.rem ds) ai) a8 s_1:=by
 have ha:∃o,s_1.heap.get? a=some o:=hl.elim λo q=>⟨o,q.1⟩
 have eU:a≠s_1.heap.objs.size:=ha.elim λo e=>Nat.ne_of_lt (Heap.lt_size e)
 exact wpAny_pyIter_tuple hl (dQ.one (It:=λi h=>h.IsTupleIter s_1.heap.objs.size a i) (Sq:=λh=>h.IsTuple a vs) (T:="tuple_iterator") ht (by decide) aO cg ha (λi h x=>x.elim λo q=>⟨o,q.1,q.2.1⟩) (λh x=>x.elim λo q=>⟨o,q.1⟩)
  ⟨_,aX _ rfl,rfl,rfl⟩ (hl.push _) (λh=>nomatch h) r.live q (Walks.tuple hh _ a eU vs) r.length.symm (λi v d h hv hd k=>r.item hv hd k))
theorem FT(hx:PyData.strOk x=true)(hv:SignAt x i v)(hd:(chars x.cps.toList)[i]?=some d):∃as,RD h v d as∧∀a∈as,a∈([]:List Addr):=by
 refine cps λ_ KK=>?_
 obtain⟨c,u,hc,hv⟩:=hv
 refine KK ?_
 unfold chars at hd
 replace hd:=hc▸(Array.getElem?_toList)▸(List.getElem?_map)▸hd
 refine⟨[],hv▸bX hd▸.str _ _ (yc hx λy hy=>?_),λ_ h=>bT h⟩
 refine(ak hy).symm▸?_
 exact aT ((Array.getElem?_toList).symm▸hc)
theorem dQ.str(ht:iR tg)(hh:A.handled=none)(hx:PyData.strOk x=true)
  (aO:Ext [] ρ s aD s_1) (cg:HR aD Z ai s_1.heap):wpAny (model prog w) A (pyIter (.str x t)) (dQ prog w A tg stepI ρ Z s (.rem (chars x.cps.toList)) ai) a8 s_1:=by
 have main:∀T (hn:(["enumerate","zip","dict_itemiterator","dict_reverseitemiterator","odict_iterator","itertools.zip_longest","itertools.pairwise"]:List String).contains T=false)
   (W:Walks prog w A s_1.heap.objs.size [s_1.heap.objs.size] [s_1.heap.objs.size] x.cps.size (SignAt x) (λi h=>h.IsStrIter s_1.heap.objs.size T x t i)),
   dQ prog w A tg stepI ρ Z s (.rem (chars x.cps.toList)) ai (.ref s_1.heap.objs.size) {s_1 with heap:=s_1.heap.push {cls:=.type T,data:=.fields #[.str x t,.int 0 0]}}:=λT hn W=>by
  have fr:s_1.heap.get? s_1.heap.objs.size=none:=aK (am _)
  have live:∀i (h:Heap),h.IsStrIter s_1.heap.objs.size T x t i->∀b∈[s_1.heap.objs.size],∃o,h.get? b=some o:=λi h z=>all1 (z.elim λo q=>⟨o,q.1⟩)
  exact dQ.vi (fp:=[s_1.heap.objs.size]) (wr:=[s_1.heap.objs.size]) (fd:=[]) (n:=x.cps.size) (Sx:=λi h=>h.IsStrIter s_1.heap.objs.size T x t i) aO cg (λb o e=>ao _ e) (all1 fr) live (λb hb=>hb)
   ⟨_,aX _ rfl,rfl,rfl⟩ (λb hb=>bT hb) (all1 (.inl fr)) (Iter.walks W (by rw[chars,bI,Array.length_toList]) live (λi v d h hv hd k=>FT hx hv hd) λi s v Q h hQ=>h.elim λo q=>ua ht q.1 q.2.1 hn hQ)
 cases ha:x.cps.all (· < 128)
 ·exact wpAny_pyIter_wide ha (main _ (by decide) (Walks.strWide hh _ x t))
 ·exact wpAny_pyIter_ascii ha (main _ (by decide) (Walks.strAscii hh _ x t))
theorem xL(i k)(hp):stepI (.cf i k) hp=(match hp[i]? with
 |some (.lst l)=>match l[k]? with
  |some d=>some (some (d,.cf i (k+1)),hp)
  |none=>some (none,hp)
 |_=>none):=rfl
noncomputable def TJ(I:Addr):IS->aJ->List Addr->Shared->Prop
|.cf i k,ρ,Z,s=>∃r,ρ[i]?=some (r,r)∧s.heap.IsListIter I r k∧I∉bF ρ∧r≠I
|.rem _,_,_,_=>False
inductive OW(I:Addr)(is:IS)(ρ:aJ)(Z:List Addr)(s:Shared):Prop
|mk (i k:Nat) (r:Addr):is=.cf i k->ρ[i]?=some (r,r)->s.heap.IsListIter I r k->I∉bF ρ->r≠I->OW I is ρ Z s
theorem TJ.inv(J:TJ I is ρ Z s):OW I is ρ Z s:=by
 cases is with
|rem l=>exact False.elim J
|cf i k=>exact J.elim λr q=>⟨i,k,r,rfl,q.1,q.2.1,q.2.2.1,q.2.2.2⟩
theorem HO{i k:Nat}{hp ai:List MO}{r:Option (PyData×IS)}{C:Prop}(e:stepI (.cf i k) hp=some (r,ai))(k1:∀l d,hp[i]?=some (.lst l)->l[k]?=some d->r=some (d,.cf i (k+1))->hp=ai->C)(k2:∀l,hp[i]?=some (.lst l)->l[k]?=none->r=none->hp=ai->C):C:=by
 rw[xL]at e
 cases h:hp[i]? with
|none=>rw[h]at e;exact ar e
|some mo =>
  replace e:=h▸e
  cases mo with
 |lst l =>
   have e:(match l[k]? with|some d=>some (some (d,IS.cf i (k+1)),hp)|none=>some (none,hp))=some (r,ai):=e
   cases h2:l[k]? with
  |none=>rw[h2]at e;exact k2 l h h2 (b7 e).1.symm (b7 e).2
  |some d=>rw[h2]at e;exact k1 l d h h2 (b7 e).1.symm (b7 e).2
 |_=>exact ar e
theorem Iter.cf(ht:iR tg)(hh:A.handled=none)(I:Addr):Iter prog w A (.ref I) tg [I] (λ_=>False) stepI (TJ I) where
 ext:=λ{l ρ Z s X aA s'} J x hX=>by
  refine cps λ_ KK=>?_
  obtain⟨i,k,r,hl,h1,⟨o,e,h2⟩,h3,h4⟩:=J.inv
  refine KK ?_
  exact hl▸⟨r,x.old h1,⟨o,x.heap I o h3 (λq=>(hX I q).2 (List.mem_singleton_self _)) e,h2⟩,x.lB e h3,h4⟩
 next:=λ{l hp d l' ai ρ Z s} e J H hw=>by
  refine cps λ_ KK=>?_
  obtain⟨i,k,r,oK,h1,hit,h3,h4⟩:=J.inv
  refine KK ?_
  refine HO (oK▸e) (λl d' hl hd hr DM=>?_) λ_ _ _ hr _=>ar hr.symm
  ·have vR:=(b7 hr).1
   have sU:=(b7 hr).2
   refine cps λ_ KK=>?_
   obtain⟨_,o,vs,n,as,ho,c1,c2,c3,c4,rs,q⟩:=H.lst hl h1
   obtain⟨y,bs,hy,ry,qy⟩:=rs.get k d' hd
   refine KK ?_
   refine wpAny_pyNext_list_item hit ⟨o,ho,c1,n,c4⟩ (x:=y) (by rw[← Array.getElem?_toList];exact hy) λh' NC lC=>⟨y,rfl,?_⟩
   refine cps λ_ KK=>?_
   obtain⟨oi,ei,hc,_⟩:=id NC
   refine KK ?_
   have k':∀b o,b∉[I]->s.heap.get? b=some o->h'.get? b=some o:=λb o hb e=>lC.extBut b o (λq=>hb (q▸List.mem_singleton_self _)) e
   exact ua (s:={s with heap:=h'}) ht ei hc (by decide) (ET (tk:=s.toks) (DM▸H) hw k' (all1 ⟨_,ei⟩) (vR▸⟨bs,ry.keep λa ha o e=>k' a o (λm=>(q a (qy a ha)).2 (hw a m)) e,λa ha=>q a (qy a ha)⟩) (sU▸⟨r,h1,NC,h3,h4⟩))
 done:=λ{l hp ai ρ Z s} e J H hw=>by
  refine cps λ_ KK=>?_
  obtain⟨i,k,r,oK,h1,hit,h3,h4⟩:=J.inv
  refine KK ?_
  refine HO (oK▸e) (λ_ _ _ _ hr _=>ar hr) λl hl hd hr DM=>?_
  ·refine cps λ_ KK=>?_
   obtain⟨_,o,vs,n,as,ho,c1,c2,c3,c4,rs,q⟩:=H.lst hl h1
   refine KK ?_
   have hlen:=rs.length
   rw[Array.length_toList]at hlen
   exact wpAny_pyNext_list_end hh hit ⟨o,ho,c1,n,c4⟩ (Array.getElem?_eq_none (hlen▸List.getElem?_eq_none_iff.mp hd)) λh' he=>⟨rfl,ρ,s,h',s.toks,d5.refl,DM▸H,rfl,λb o hb e=>he b o (λq=>hb (q▸List.mem_singleton_self _)) e⟩
 self:=λ{l hp r ρ Z s Q} _ J _ hQ=>by
  refine cps λ_ KK=>?_
  obtain⟨i,k,r,oK,h1,hit,_⟩:=J.inv
  refine KK ?_
  exact wpAny_pyIter_listiter hit hQ
 more:=λ{l ρ Z Z' s s'} J hZ k _=>by
  refine cps λ_ KK=>?_
  obtain⟨i,j,r,hl,h1,⟨o,e,h2⟩,h3,h4⟩:=J.inv
  refine KK ?_
  exact hl▸⟨r,h1,⟨o,k I o e,h2⟩,h3,h4⟩
noncomputable def uk:PyData->Option (List PyData)
|.list l=>some l
|.tuple l=>some l
|.str x=>some (chars x.cps.toList)
|_=>none
noncomputable def ej(F:EF):SF:=λσ=>match F σ with
|some (.dat d,hp)=>match uk d with
 |some l=>some ((.rem l,l.length+1),hp)
 |none=>none
|some (.obj i,hp)=>match hp[i]? with
 |some (.lst l)=>some ((.cf i 0,l.length+1),hp)
 |_=>none
|_=>none
inductive Gx(F:EF)(σ:St)(is:IS)(n:Nat)(ai:List MO):Prop
|dat (d:PyData) (l:List PyData):F σ=some (.dat d,ai)->uk d=some l->.rem l=is->l.length+1=n->Gx F σ is n ai
|obj (i:Nat) (l:List PyData):F σ=some (.obj i,ai)->ai[i]?=some (.lst l)->.cf i 0=is->l.length+1=n->Gx F σ is n ai
theorem acd(q:ej F σ=some ((is,n),ai)):Gx F σ is n ai:=by
 unfold ej at q
 cases h:F σ with
|none=>rw[h]at q;exact ar q
|some x =>
  obtain⟨pv,hp⟩:=x
  replace q:=h▸q
  cases pv with
 |dat d =>
   have q:(match uk d with|some l=>some ((IS.rem l,l.length+1),hp)|none=>none)=some ((is,n),ai):=q
   cases h2:uk d with
  |none=>rw[h2]at q;exact ar q
  |some l =>
    replace q:=h2▸q
    obtain⟨q1,q2⟩:=b7 q
    exact .dat d l (q2▸h) h2 (a5 q1).1 (a5 q1).2
 |obj i =>
   have q:(match hp[i]? with|some (.lst l)=>some ((IS.cf i 0,l.length+1),hp)|_=>none)=some ((is,n),ai):=q
   cases h2:hp[i]? with
  |none=>rw[h2]at q;exact ar q
  |some mo =>
    replace q:=h2▸q
    cases mo with
   |lst l =>
     obtain⟨q1,q2⟩:=b7 q
     exact .obj i l (q2▸h) (q2▸h2) (a5 q1).1 (a5 q1).2
   |_=>exact ar q
 |gH _=>exact ar q
 |objs _ _=>exact ar q
theorem dQ.cf(ht:iR tg)(hh:A.handled=none)(aO:Ext [] ρ s aD s_1)(V:VR aD Z s_1.heap (.obj i) v)(cg:HR aD Z ai s_1.heap)(hl:ai[i]?=some (.lst l)) :
  wpAny (model prog w) A (pyIter v) (dQ prog w A tg stepI ρ Z s (.cf i 0) ai) a8 s_1:=by
 refine cps λ_ KK=>?_
 obtain⟨r,b,hr,hv⟩:=V
 obtain⟨kU,o,vs,m,as,ho,c1,c2,c3,c4,rs,qa⟩:=cg.lst hl hr
 refine KK ?_
 rw[hv]
 rw[kU]at hr ⊢
 have fr:s_1.heap.get? s_1.heap.objs.size=none:=aK (am _)
 exact wpAny_pyIter_list ⟨o,ho,c1,m,c4⟩ ⟨aD,s_1,[s_1.heap.objs.size],λ_=>False,_,aO,cg,Ext.of_keep (t:=s_1.toks) λb o e=>ao _ e,λb o e=>ao _ e,all1 fr,
  all1 ⟨_,aX _ rfl⟩,λ_ f=>f.elim,⟨rfl,b,hr,⟨_,aX _ rfl,rfl,rfl⟩,(cg.fresh fr).1,Nat.ne_of_lt (Heap.lt_size ho)⟩,(Iter.cf ht hh _).toD⟩
theorem dQ.dat(ht:iR tg)(hh:A.handled=none)(aO:Ext [] ρ s aD s_1)(V:VR aD Z s_1.heap (.dat d) v)(cg:HR aD Z ai s_1.heap)(hl:uk d=some l) :
  wpAny (model prog w) A (pyIter v) (dQ prog w A tg stepI ρ Z s (.rem l) ai) a8 s_1:=by
 refine cps λ_ KK=>?_
 obtain⟨as,r,qa⟩:=V
 refine KK ?_
 cases d with
|list m =>
  refine cps λ_ KK=>?_
  obtain⟨a,vs,n,bs,hv,has,h1,_,rs⟩:=r.j8
  refine KK ?_
  refine hv.symm▸(bX hl)▸?_
  exact dQ.list ht hh aO cg ⟨_,h1,rfl,_,rfl⟩ rs (has▸qa)
|tuple m =>
  refine cps λ_ KK=>?_
  obtain⟨a,o,vs,n,bs,hv,has,h1,h2,h3,_,rs⟩:=r.wo
  refine KK ?_
  refine hv.symm▸(bX hl)▸?_
  exact dQ.tuple ht hh aO cg ⟨_,h1,h2,_,h3⟩ rs (has▸qa)
|str x =>
  refine cps λ_ KK=>?_
  obtain⟨t,hv,_,hx⟩:=r.fQ
  refine KK ?_
  refine hv.symm▸(bX hl)▸?_
  exact dQ.str ht hh hx aO cg
|_=>exact ar hl
theorem eT.seq(ht:iR tg)(he:Ev prog w K O e F):eT prog w K O e tg stepI (ej F):=.mk λA ρ Z σ s is n ai Rm R q=>by
 cases acd q with
|dat d l e1 hl h1 _=>exact h1▸bq (he.run A ρ Z σ s _ _ Rm R e1) (λv s_1 p=>p.elim λaD p=>dQ.dat ht Rm.handled p.1 p.2.1 p.2.2 hl) λ_ _ q=>q
|obj i l e1 hl h1 _=>exact h1▸bq (he.run A ρ Z σ s _ _ Rm R e1) (λv s_1 p=>p.elim λaD p=>dQ.cf ht Rm.handled p.1 p.2.1 p.2.2 hl) λ_ _ q=>q
end
noncomputable def jN:Nat->List PyData->List PyData
|_,[]=>[]
|n,d::l=>.tuple [.int n,d]::jN (n+1) l
theorem Bt:∀(n:Nat) (l:List PyData),(jN n l).length=l.length
|_,[]=>rfl
|n,d::l=>congrArg (·+1) (Bt (n+1) l)
theorem GI:∀(l:List PyData) (n i:Nat) {d:PyData},(jN n l)[i]?=some d->∃x,l[i]?=some x∧d=.tuple [.int ((n+i:Nat):Int),x]
|[],n,i,d,h=>ar h
|x::l,n,0,d,h=>⟨x,rfl,(bX h).symm⟩
|x::l,n,i+1,d,h=>(GI l (n+1) i (d:=d) h).elim λy q=>⟨y,q.1,by rw[q.2,show n+1+i=n+(i+1)by (exact Nat.add_right_comm _ _ _)]⟩
noncomputable def ew:Int->Int->Nat->List PyData
|_,_,0=>[]
|a,c,n+1=>.int a::ew (a+c) c n
theorem iz:∀(n:Nat) (a c:Int),(ew a c n).length=n
|0,_,_=>rfl
|n+1,a,c=>congrArg (·+1) (iz n (a+c) c)
theorem tv:∀(n:Nat) (a c:Int) (i:Nat) {d:PyData},(ew a c n)[i]?=some d->d=.int (a+i*c)
|0,a,c,i,d,h=>ar h
|n+1,a,c,0,d,h=>by rw[← bX h];simp
|n+1,a,c,i+1,d,h=>by
  rw[tv n (a+c) c i (d:=d) h]
  have e:a+c+(i:Int)*c=a+((i+1:Nat):Int)*c:=by
   rw[show((i+1:Nat):Int)=(i:Int)+1 by rfl,Int.add_mul];exact(Int.add_assoc a c _).trans (congrArg (a+·) ((Int.add_comm c _).trans (congrArg (↑i*c+·) (Int.one_mul c).symm)))
  rw[e]
section
variable {prog:Program}{w:World}{K:Addr->Option Obj}{O:Fx}{mg mb:Str->Option Value}
noncomputable def enumSrc(F:EF):SF:=λσ=>match F σ with
|some (.dat (.list l),hp)=>some ((.rem (jN 0 l),l.length+1),hp)
|some (.dat (.str x),hp)=>some ((.rem (jN 0 (chars x.cps.toList)),x.cps.size+1),hp)
|_=>none
inductive EC(F:EF)(σ:St)(is:IS)(n:Nat)(ai:List MO):Prop
|li (l:List PyData):F σ=some (.dat (.list l),ai)->.rem (jN 0 l)=is->EC F σ is n ai
|st (x:Str):F σ=some (.dat (.str x),ai)->.rem (jN 0 (chars x.cps.toList))=is->EC F σ is n ai
theorem Sh{F:EF}{σ:St}{is:IS}{n:Nat}{ai:List MO}(q:enumSrc F σ=some ((is,n),ai)):EC F σ is n ai:=by
 unfold enumSrc at q
 cases h:F σ with
|none=>rw[h]at q;exact ar q
|some x =>
  obtain⟨pv,hp⟩:=x
  rw[h]at q
  cases pv with
 |dat d=>cases d with
  |list l=>exact .li l ((b7 q).2▸h) (a5 (b7 q).1).1
  |str x=>exact .st x ((b7 q).2▸h) (a5 (b7 q).1).1
  |_=>exact ar q
 |_=>exact ar q
theorem KQ{h:Heap}{l:List PyData}{i:Nat}{d:PyData}{t:Tok}{x:Value}{fd:List Addr}(hd:(jN 0 l)[i]?=some d)(k:∀y,l[i]?=some y->∃bs,RD h x y bs∧∀a∈bs,a∈fd) :
  ∃xs as,d=.tuple xs∧bz h [.int i t,x] xs as∧∀a∈as,a∈fd:=by
 refine cps λ_ KK=>?_
 obtain⟨y,hy,e⟩:=GI l 0 i hd
 obtain⟨bs,rb,qb⟩:=k y hy
 refine KK ?_
 rw[Nat.zero_add]at e
 exact⟨_,[]++(bs++[]),e,.cons (.int _ _) (.cons rb .nil),λb hb=>qb b (by rwa [bM,List.nil_append]at hb)⟩
section
variable {A:Around}{ρ aD:aJ}{Z:List Addr}{s s_1:Shared}{ai:List MO}{es:List Expr}{k:Nat}{p:Pos}
theorem BK(n)(h:s_1.heap.objs.size≤n):s_1.heap.get? n=none:=aK h
theorem Sa{v:Value}{l:List PyData}(hh:A.handled=none)(aO:Ext [] ρ s aD s_1)(V:VR aD Z s_1.heap (.dat (.list l)) v)(cg:HR aD Z ai s_1.heap) :
  wpAny (model prog w) A (call (.type "enumerate") [v]) (λv bn=>wpAny (model prog w) A (pyIter v) (dQ prog w A (.Tuple es k p) stepI ρ Z s (.rem (jN 0 l)) ai) a8 bn) a8 s_1:=by
 refine cps λ_ KK=>?_
 obtain⟨as,r,qa⟩:=V
 obtain⟨a,vs,m,jb,hv,has,ho,hlen,rs⟩:=r.j8
 refine KK ?_
 refine hv.symm▸?_
 replace qa:=has▸qa
 refine call_enumerate_list ⟨_,ho,rfl,m,rfl⟩ λh he hit hz keep=>wpAny_pyIter_enum (s:={s_1 with heap:=h}) he ?_
 have dJ:=Heap.lt_size ho
 have ea:a≠s_1.heap.objs.size+1:=Nat.ne_of_lt (Nat.lt_succ_of_lt dJ)
 have ei:a≠s_1.heap.objs.size:=Nat.ne_of_lt dJ
 have n0:=BK (s_1:=s_1) _ (am _)
 have n1:=BK (s_1:=s_1) _ (bx _)
 have live:∀(i:Nat) (h:Heap),(∃old,IsEnum h (s_1.heap.objs.size+1) s_1.heap.objs.size i old)∧h.IsListIter s_1.heap.objs.size a i∧h.IsList a vs->∀b∈[s_1.heap.objs.size+1,s_1.heap.objs.size,a],∃o,h.get? b=some o :=
  λi h x=>nU (x.1.elim λ_ q=>⟨_,q⟩) (all2 (x.2.1.elim λo q=>⟨o,q.1⟩) (x.2.2.elim λo q=>⟨o,q.1⟩))
 exact dQ.vi (fp:=[s_1.heap.objs.size+1,s_1.heap.objs.size,a]) (wr:=[s_1.heap.objs.size+1,s_1.heap.objs.size]) (fd:=jb) (n:=vs.size)
  (Sx:=λi h=>(∃old,IsEnum h (s_1.heap.objs.size+1) s_1.heap.objs.size i old)∧h.IsListIter s_1.heap.objs.size a i∧h.IsList a vs)
  aO cg keep (all2 n1 n0) live (all2 (aq ..) (al _ (aq ..))) ⟨⟨_,he⟩,hit,⟨_,keep _ _ ho,rfl,m,rfl⟩⟩ (λb hb=>⟨rs.live b hb,qa b (al _ hb)⟩)
  (nU (.inl n1) (all2 (.inl n0) (.inr ⟨⟨_,ho⟩,qa a (aq ..)⟩)))
  (Iter.Eo (WalksT.enumerate hh _ _ a (Nat.succ_ne_self _) ea ei vs) (by rw[Bt,hlen]) live (λi xs d h hv hd kd=>by
   refine cps λ_ KK=>?_
   obtain⟨t,x,hx,e⟩:=hv
   refine KK ?_
   refine e.symm▸?_
   exact KQ hd λy hy=>rs.item hx hy kd))
theorem TD{v:Value}{x:Str}(hh:A.handled=none)(aO:Ext [] ρ s aD s_1)(V:VR aD Z s_1.heap (.dat (.str x)) v)(cg:HR aD Z ai s_1.heap) :
  wpAny (model prog w) A (call (.type "enumerate") [v]) (λv bn=>wpAny (model prog w) A (pyIter v) (dQ prog w A (.Tuple es k p) stepI ρ Z s (.rem (jN 0 (chars x.cps.toList))) ai) a8 bn) a8 s_1:=by
 refine cps λ_ KK=>?_
 obtain⟨as,r,qa⟩:=V
 obtain⟨t,hv,_,hx⟩:=r.fQ
 refine KK ?_
 refine hv.symm▸?_
 refine call_enumerate_str λh he hit hz keep=>wpAny_pyIter_enum (s:={s_1 with heap:=h}) he ?_
 have n0:=BK (s_1:=s_1) _ (am _)
 have n1:=BK (s_1:=s_1) _ (bx _)
 have main:∀T,h.IsStrIter s_1.heap.objs.size T x t 0->Draws prog w A.in1 s_1.heap.objs.size [s_1.heap.objs.size] x.cps.size (λi v=>∃c u,x.cps[i]?=some c∧v=.str ⟨#[c]⟩ u) (λi h=>h.IsStrIter s_1.heap.objs.size T x t i) ->
   dQ prog w A (.Tuple es k p) stepI ρ Z s (.rem (jN 0 (chars x.cps.toList))) ai (.ref (s_1.heap.objs.size+1)) {s_1 with heap:=h}:=λT hit D=>by
  have live:∀(i:Nat) (h:Heap),(∃old,IsEnum h (s_1.heap.objs.size+1) s_1.heap.objs.size i old)∧h.IsStrIter s_1.heap.objs.size T x t i->∀b∈[s_1.heap.objs.size+1,s_1.heap.objs.size],∃o,h.get? b=some o :=
   λi h x=>all2 (x.1.elim λ_ q=>⟨_,q⟩) (x.2.elim λo q=>⟨o,q.1⟩)
  exact dQ.vi (fp:=[s_1.heap.objs.size+1,s_1.heap.objs.size]) (wr:=[s_1.heap.objs.size+1,s_1.heap.objs.size]) (fd:=[]) (n:=x.cps.size)
   (Sx:=λi h=>(∃old,IsEnum h (s_1.heap.objs.size+1) s_1.heap.objs.size i old)∧h.IsStrIter s_1.heap.objs.size T x t i)
   aO cg keep (all2 n1 n0) live (λb hb=>hb) ⟨⟨_,he⟩,hit⟩ (λb hb=>bT hb) (all2 (.inl n1) (.inl n0))
   (Iter.Eo (WalksT.enumerateD D _ (Nat.succ_ne_self _) (by simp) (by simp)) (by rw[Bt,chars,bI,Array.length_toList]) live (λi xs d h hv hd kd=>by
    refine cps λ_ KK=>?_
    obtain⟨t,y,Ek,e⟩:=hv
    refine KK ?_
    refine e.symm▸?_
    exact KQ hd λy hy=>FT hx Ek hy))
 cases ha:x.cps.all (· < 128)
 ·exact main _ (by simpa[strIterType,ha]using hit) (Draws.strWide (A:=A.in1) hh _ x t)
 ·exact main _ (by simpa[strIterType,ha]using hit) (Draws.strAscii (A:=A.in1) hh _ x t)
end
theorem eT.enum(gl:Gl K mg mb){e:Expr}{es:List Expr}{k:Nat}{p pos np:Pos}{F:EF}(he:Ev prog w K O e F)(hk:O.sc.names.lookup ("enumerate":Str)=some .globalImplicit)(hg:mg "enumerate"=none)(hb:mb "enumerate"=some (.type "enumerate"))
  (hs:autoParam (∀env,starEach [e] env=[(false,eval e env)]) sI):eT prog w K O (.Call (.Name "enumerate" np) [e] [] pos) (.Tuple es k p) stepI (enumSrc F):=.mk λA ρ Z σ s is n ai Rm R q=>by
 refine Call_ (l9 gl R hk (.inr ⟨hg,hb⟩) (tX (.inr ⟨_,rfl⟩) (wpAny_items_cons ?_ (hs _)) (hs _) rfl) (by decide))
 cases Sh q with
|li l e1 h1=>exact h1▸bq (he.run A ρ Z σ s _ _ Rm R e1) (λv s_1 p=>wpAny_items_nil (p.elim λaD p=>Sa Rm.handled p.1 p.2.1 p.2.2)) λ_ _ q=>q
|st x e1 h1=>exact h1▸bq (he.run A ρ Z σ s _ _ Rm R e1) (λv s_1 p=>wpAny_items_nil (p.elim λaD p=>TD Rm.handled p.1 p.2.1 p.2.2)) λ_ _ q=>q
end
section
variable {prog:Program}{w:World}{K:Addr->Option Obj}{O:Fx}{mg mb:Str->Option Value}{tg:Expr}
theorem cU.inv{ρ:aJ}{Z:List Addr}{h:Heap}{ps:List PV}{vs:List Value}(x:cU ρ Z h ps vs):(∀p r,ps=p::r->∃v w,vs=v::w∧VR ρ Z h p v∧cU ρ Z h r w)∧(ps=[]->vs=[]) :=
 cU.rec (motive:=λps vs _=>(∀p r,ps=p::r->∃v w,vs=v::w∧VR ρ Z h p v∧cU ρ Z h r w)∧(ps=[]->vs=[])) ⟨λ_ _ h=>(LQ h),λ_=>rfl⟩
  (λa b _=>⟨λp r e=>⟨_,_,rfl,(List.cons.inj e).1▸a,(List.cons.inj e).2▸b⟩,λh=>(tP h)⟩) x
theorem cU.vq{ρ:aJ}{Z:List Addr}{h:Heap}{p:PV}{ps:List PV}{vs:List Value}(x:cU ρ Z h (p::ps) vs):∃v r,vs=v::r∧VR ρ Z h p v∧cU ρ Z h ps r:=x.inv.1 p ps rfl
theorem cU.mi{ρ:aJ}{Z:List Addr}{h:Heap}{vs:List Value}(x:cU ρ Z h [] vs):vs=[]:=x.inv.2 rfl
noncomputable def zq:List PyData->Option (Int×Int×Int)
|[.int b]=>some (0,b,1)
|[.int a,.int b]=>some (a,b,1)
|_=>none
noncomputable def fE(G:LF):SF:=λσ=>match G σ with
|some (ps,hp)=>match fV ps with
 |some ds=>match zq ds with
  |some (a,b,c)=>if c≠0∧Builtin.Range.small a b c=true∧c.natAbs < 2 ^ 60 then some ((.rem (ew a c (Builtin.Range.rangeSize a b c).toNat),(Builtin.Range.rangeSize a b c).toNat+1),hp)else none
  |none=>none
 |none=>none
|none=>none
theorem EI(a b):Builtin.Range.rangeSize a b 1=if a < b then b - a else 0:=by
 unfold Builtin.Range.rangeSize
 rw[if_pos (by decide),Int.ediv_one,Int.sub_add_cancel]
theorem Xh(a b):0≤Builtin.Range.rangeSize a b 1:=by
 rw[EI]
 by_cases h:a < b
 ·rw[if_pos h];exact Int.sub_nonneg_of_le (Int.le_of_lt h)
 ·rw[if_neg h];exact Int.le_refl 0
theorem dQ.range{A:Around}{ρ aD:aJ}{Z:List Addr}{s s_1:Shared}{ai:List MO}{r:Addr}{a b c:Int}{t u v:Tok}(ht:iR tg)(hh:A.handled=none)
  (aO:Ext [] ρ s aD s_1) (cg:HR aD Z ai s_1.heap) (hr:IsRange s_1.heap r a b c t u v) (xO:Builtin.Range.small a b c=true) (h1:c=1) :
  wpAny (model prog w) A (pyIter (.ref r)) (dQ prog w A tg stepI ρ Z s (.rem (ew a c (Builtin.Range.rangeSize a b c).toNat)) ai) a8 s_1:=by
 have hn:(((Builtin.Range.rangeSize a b c).toNat:Nat):Int)=Builtin.Range.rangeSize a b c:=h1▸Int.toNat_of_nonneg (Xh a b)
 have fr:s_1.heap.get? s_1.heap.objs.size=none:=aK (am _)
 have live:∀(i:Nat) (h:Heap),IsRangeIter h s_1.heap.objs.size (a+(i:Nat)*c) (((Builtin.Range.rangeSize a b c).toNat:Int) - (i:Nat)) c->∀b∈[s_1.heap.objs.size],∃o,h.get? b=some o:=λi h e=>all1 ⟨_,e⟩
 refine wpAny_pyIter_range hr xO (dQ.vi (fp:=[s_1.heap.objs.size]) (wr:=[s_1.heap.objs.size]) (fd:=[]) (n:=(Builtin.Range.rangeSize a b c).toNat) (Sx:=λi h'=>IsRangeIter h' s_1.heap.objs.size (a+(i:Nat)*c) (((Builtin.Range.rangeSize a b c).toNat:Int) - (i:Nat)) c)
  aO cg (λb o e=>ao _ e) (all1 fr) live (λb hb=>hb) ?_ (λb hb=>bT hb) (all1 (.inl fr))
  (Iter.walks (Walks.range hh _ a c _) (iz _ _ _) live (λi v d h hv hd k=>hv.elim λt e=>⟨[],e.symm▸(tv _ _ _ i hd).symm▸.int _ _,λ_ h=>bT h⟩) λi s v Q h hQ=>ua ht h rfl (by decide) hQ))
 have:=aX s_1.heap (o:={cls:=.type "range_iterator",data:=.fields #[rawInt a,rawInt (Builtin.Range.rangeSize a b c),rawInt c]}) rfl
 simpa[hn]using this
theorem XA{G:LF}{σ:St}{is:IS}{n:Nat}{ai:List MO}{C:Prop}(q:fE G σ=some ((is,n),ai))(k:∀ps ds a b c,G σ=some (ps,ai)->fV ps=some ds->zq ds=some (a,b,c)->c≠0∧Builtin.Range.small a b c=true∧c.natAbs < 2 ^ 60->.rem (ew a c (Builtin.Range.rangeSize a b c).toNat)=is->C):C:=by
 unfold fE at q
 cases h:G σ with
|none=>rw[h]at q;exact ar q
|some x =>
  obtain⟨ps,hp⟩:=x
  replace q:=h▸q
  dsimp only at q
  cases h2:fV ps with
 |none=>rw[h2]at q;exact ar q
 |some ds =>
   replace q:=h2▸q
   dsimp only at q
   cases h3:zq ds with
  |none=>rw[h3]at q;exact ar q
  |some y =>
    obtain⟨a,b,c⟩:=y
    replace q:=h3▸q
    exact d8 q λhc e=>k ps ds a b c (((a5 e).2)▸h) h2 h3 hc (a5 (a5 e).1).1
inductive uG(ds:List PyData)(a b c:Int):Prop
|one:ds=[.int b]->a=0->c=1->uG ds a b c
|two:ds=[.int a,.int b]->c=1->uG ds a b c
theorem KY(e:zq ds=some (a,b,c)):uG ds a b c:=by
 cases ds with
|nil=>exact ar e
|cons d ds=>cases d with
 |int x=>cases ds with
  |nil=>exact(a5 (bX e)).2 |> λh=>.one (((a5 h).1).symm▸rfl) (a5 (bX e)).1.symm (a5 h).2.symm
  |cons d ds=>cases d with
   |int y=>cases ds with
    |nil=>exact(a5 (bX e)).2 |> λh=>.two (((a5 (bX e)).1).symm▸((a5 h).1).symm▸rfl) (a5 h).2.symm
    |cons _ _=>exact ar e
   |_=>exact ar e
 |_=>exact ar e
theorem Qx{A:Around}{s_1:Shared}{ds:List PyData}{vs:List Value}{as:List Addr}{a b c:Int}{Q:Value->Shared->Prop}(r:bz s_1.heap vs ds as)(e:uG ds a b c)
  (k:∀t u v tk,Q (.ref s_1.heap.objs.size) {s_1 with heap:=s_1.heap.push {cls:=.type "range",data:=.fields #[.int a t,.int b u,.int c v]},toks:=tk}):wpAny (model prog w) A (call (.type "range") vs) Q a8 s_1:=by
 cases e with
|one h ha h1 =>
  replace r:=h▸r
  refine cps λ_ KK=>?_
  obtain⟨t1,r1,e1,_,x1⟩:=k9 r
  refine KK ?_
  refine e1.symm▸x1.mi.symm▸?_
  subst ha h1
  exact call_range_1 (k _ _ _ _)
|two h h1 =>
  replace r:=h▸r
  refine cps λ_ KK=>?_
  obtain⟨t1,r1,e1,_,x1⟩:=k9 r
  obtain⟨t2,r2,e2,_,x2⟩:=k9 x1
  refine KK ?_
  refine e1.symm▸e2.symm▸x2.mi.symm▸?_
  subst h1
  exact call_range_2 (k _ _ _ _)
theorem uG.abu(e:uG ds a b c):c=1:=by
 cases e with
|one _ _ h=>exact h
|two _ h=>exact h
theorem eT.range(gl:Gl K mg mb)(ht:iR tg){e:Expr}{es:List Expr}{pos np:Pos}{G:LF}(he:fb prog w K O (e::es) G)(hk:O.sc.names.lookup ("range":Str)=some .globalImplicit)(hg:mg "range"=none)(hb:mb "range"=some (.type "range"))
  (hs:autoParam (∀env,starEach (e::es) env=(false,eval e env)::starEach es env) sI) (hp:autoParam (∀env,(backTo pos (starEach es env)).any (·.1)=false) sI) :
  eT prog w K O (.Call (.Name "range" np) (e::es) [] pos) tg stepI (fE G):=.mk λA ρ Z σ s is n ai Rm R q =>
 XA q λps ds a b c e1 e2 e3 hc h1=>h1▸Call_ (l9 gl R hk (.inr ⟨hg,hb⟩) (tX (.inr ⟨_,rfl⟩) (bq (he.run pos A ρ Z σ s _ _ Rm R e1) (λvs s_1 P=>P.elim λaD P=>(AE P.2.1 e2).elim λas r =>
  Qx r.1 (KY e3) λt u v tk=>dQ.range (s_1:={s_1 with heap:=s_1.heap.push {cls:=.type "range",data:=.fields #[.int a t,.int b u,.int c v]},toks:=tk}) ht Rm.handled (P.1.trans (Ext.of_keep λb o e=>ao _ e)) (P.2.2.keep λb o e=>ao _ e) (IsRange.new _ _ _ _ _ _ _) hc.2.1 (KY e3).abu) λ_ _ q=>q) (hs _) (hp _)) (by decide))
noncomputable def jp(i j:Nat):PyData->Loc->Option Loc
|.tuple [a,b],loc=>some ((loc.set i (some (.dat a))).set j (some (.dat b)))
|_,_=>none
noncomputable def mz(i j k:Nat):PyData->Loc->Option Loc
|.tuple [a,b,c],loc=>some (((loc.set i (some (.dat a))).set j (some (.dat b))).set k (some (.dat c)))
|_,_=>none
theorem VR.keep{ρ:aJ}{Z:List Addr}{h h':Heap}(k:∀a o,h.get? a=some o->h'.get? a=some o){p:PV}{v:Value}(r:VR ρ Z h p v):VR ρ Z h' p v:=r.own λa o _ e=>k a o e
theorem ExtBut.Do(x:Heap.ExtBut h.objs.size h h')(b)(o)(e:h.get? b=some o):h'.get? b=some o :=
 x b o (Nat.ne_of_lt (Heap.lt_size e)) e
theorem SR.keep{ρ:aJ}{Z:List Addr}{σ:St}{s:Shared}{h:Heap}{t:Nat}(R:SR K O ρ Z σ s)(k:∀b o,s.heap.get? b=some o->h.get? b=some o):SR K O ρ Z σ {s with heap:=h,toks:=t} :=
 R.next (s':={s with heap:=h,toks:=t}) (Ext.of_keep k) (R.hr.keep k)
theorem bz.xv(x:bz h vs (d::ds) as):∃v r bs cs,vs=v::r∧RD h v d bs∧bz h r ds cs∧as=bs++cs :=
 bz.ind (Q:=λvs l as=>∀d ds,l=d::ds->∃v r bs cs,vs=v::r∧RD h v d bs∧bz h r ds cs∧as=bs++cs) (λ_ _ h=>(LQ h)) (λy r _ d ds e=>⟨_,_,_,_,rfl,(List.cons.inj e).1▸y,(List.cons.inj e).2▸r,rfl⟩) x d ds rfl
theorem aaI(q:jp i j d loc=some loc'):∃a b,d=.tuple [a,b]∧(loc.set i (some (.dat a))).set j (some (.dat b))=loc':=by
 cases d with
|tuple l=>match l,q with
 |[a,b],q=>exact⟨a,b,rfl,bX q⟩
 |[],q=>exact ar q
 |[_],q=>exact ar q
 |_::_::_::_,q=>exact ar q
|_=>exact ar q
theorem As.Ox{i j:Nat}{x y:Str}{px py p:Pos}{m:Nat}(hi:O.vars.lookup i=some x)(oi:iB O x)(hj:O.vars.lookup j=some y)(oj:iB O y):As prog w K O (.Tuple [.Name x px,.Name y py] m p) (jp i j):=.mk λA ρ Z σ s d v loc' Rm R r q=>by
 refine cps λ_ KK=>?_
 obtain⟨a,b,hd,hl⟩:=aaI q
 obtain⟨as,r,qa⟩:=r
 replace r:=hd▸r
 obtain⟨ad,o,vs,n,jb,hv,has,ho,h1,h4,hlen,rs⟩:=r.wo
 obtain⟨v0,r0,b0,c0,e0,CA,s0,f0⟩:=rs.xv
 obtain⟨v1,r1,b1,c1,e1,CO,s1,f1⟩:=s0.xv
 refine KK ?_
 have DV:vs.toList=[v0,v1]:=e0.symm▸e1.symm▸s1.mi.symm▸rfl
 replace qa:=f1▸f0▸has▸qa
 have w0:VR ρ Z s.heap (.dat a) v0:=⟨b0,CA,λc hc=>qa c (al _ (au _ hc))⟩
 have w1:VR ρ Z s.heap (.dat b) v1:=⟨b1,CO,λc hc=>qa c (al _ (af _ (au _ hc)))⟩
 refine hv.symm▸hl▸?_
 refine wpAny_assign_Tuple Rm.handled ⟨o,ho,h1,n,h4⟩ (by rw[hlen];rfl) rfl λh' he=>?_
 refine DV.symm▸?_
 have k0:=ExtBut.Do he
 exact wpAny_assignInOrder_more (wpAny_assign_Name ((R.keep (t:=s.toks) k0).store hi oi (w0.keep k0) λP7 uF xR=>wpAny_assignInOrder_more (wpAny_assign_Name (xR.store hj oj (VR.ext uF R.er.dz (w1.keep k0)) λs1' BX Dv =>
  wpAny_assignInOrder_none ⟨((Ext.of_keep (t:=s.toks) k0).trans uF).trans BX,Dv⟩))))
theorem UO{i j k:Nat}{d:PyData}{loc loc':Loc}(q:mz i j k d loc=some loc'):∃a b c,d=.tuple [a,b,c]∧((loc.set i (some (.dat a))).set j (some (.dat b))).set k (some (.dat c))=loc':=by
 cases d with
|tuple l=>cases l with
 |nil=>exact ar q
 |cons a l=>cases l with
  |nil=>exact ar q
  |cons b l=>cases l with
   |nil=>exact ar q
   |cons c l=>cases l with
    |nil=>exact⟨a,b,c,rfl,bX q⟩
    |cons _ _=>exact ar q
|_=>exact ar q
theorem As.QN{i j k:Nat}{x y z:Str}{px py pz p:Pos}{m:Nat}(hi:O.vars.lookup i=some x)(oi:iB O x)(hj:O.vars.lookup j=some y)(oj:iB O y)(hk:O.vars.lookup k=some z)(ok:iB O z):As prog w K O (.Tuple [.Name x px,.Name y py,.Name z pz] m p) (mz i j k):=.mk λA ρ Z σ s d v loc' Rm R r q=>by
 refine cps λ_ KK=>?_
 obtain⟨a,b,c,hd,hl⟩:=UO q
 obtain⟨as,r,qa⟩:=r
 replace r:=hd▸r
 obtain⟨ad,o,vs,n,jb,hv,has,ho,h1,h4,hlen,rs⟩:=r.wo
 obtain⟨v0,r0,b0,c0,e0,CA,s0,f0⟩:=rs.xv
 obtain⟨v1,r1,b1,c1,e1,CO,s1,f1⟩:=s0.xv
 obtain⟨v2,r2,b2,c2,e2,Qt,s2,f2⟩:=s1.xv
 refine KK ?_
 have DV:vs.toList=[v0,v1,v2]:=e0.symm▸e1.symm▸e2.symm▸s2.mi.symm▸rfl
 replace qa:=f2▸f1▸f0▸has▸qa
 have w0:VR ρ Z s.heap (.dat a) v0:=⟨b0,CA,λc hc=>qa c (al _ (au _ hc))⟩
 have w1:VR ρ Z s.heap (.dat b) v1:=⟨b1,CO,λc hc=>qa c (al _ (af _ (au _ hc)))⟩
 have w2:VR ρ Z s.heap (.dat c) v2:=⟨b2,Qt,λc hc=>qa c (al _ (af _ (af _ (au _ hc))))⟩
 refine hv.symm▸hl▸?_
 refine wpAny_assign_Tuple Rm.handled ⟨o,ho,h1,n,h4⟩ (by rw[hlen];rfl) rfl λh' he=>?_
 refine DV.symm▸?_
 have k0:=ExtBut.Do he
 exact wpAny_assignInOrder_more (wpAny_assign_Name ((R.keep (t:=s.toks) k0).store hi oi (w0.keep k0) λP7 uF xR=>wpAny_assignInOrder_more (wpAny_assign_Name (xR.store hj oj (VR.ext uF R.er.dz (w1.keep k0)) λs1' BX Dv =>
  wpAny_assignInOrder_more (wpAny_assign_Name (Dv.store hk ok (VR.ext BX R.er.dz (VR.ext uF R.er.dz (w2.keep k0))) λs2' V8 R2' =>
  wpAny_assignInOrder_none ⟨(((Ext.of_keep (t:=s.toks) k0).trans uF).trans BX).trans V8,R2'⟩))))))
end
noncomputable def vd(e elt:Expr)(gens:List Comprehension)(d:Nat)(acc:Value)(env:Env):Sem Unit :=
 match gens[d+1]? with
|some g'=>do
  let x ← eval g'.iter env
  standAt g'.iter.pos
  let x ← foldedSetIterable g'.iter env x
  let it ← holding [x] (pyIter x)
  let _ ← runOwn (.compStart e (d+1) it acc env) env
  pure ()
|none=>do
  let x ← eval elt env
  let _ ← call (.builtin "list.append") [acc,x]
  pure ()
theorem Xy(elt)(gens:List Comprehension)(scope)(pos)(d)(it acc)(env)(hg:gens[d]?=some ⟨target,iter,ifs,0⟩)(ha:∀g'∈gens,g'.is_async=0) :
  compTurn (.ListComp elt gens scope pos) d it acc env=(do
   standAt iter.pos
   match ← pyNext it with
  |none=>pure (.done .next)
  |some v =>
    letOwnedTupleGo target it v
    assign target env v
    let mut ok:=true
    for c in ifs do
     if ok then ok ← isTrue c env (eval c env)
    if ok then
     vd (.ListComp elt gens scope pos) elt gens d acc env
    again (.compLoop (.ListComp elt gens scope pos) d it acc env)):=by
 unfold compTurn vd
 simp only[hg]
 cases q:gens[d+1]? with
|none=>rfl
|some g' =>
  have:=ha g' (aT q)
  simp only[this,bne_self_eq_false,Bool.false_eq_true,if_false,bind_assoc,pure_bind]
  rfl
section
variable {prog:Program}{w:World}{A:Around}{R:Result->Shared->Prop}{s:Shared}
theorem QS(hg:gens[d]?=some ⟨target,iter,ifs,0⟩)(ha:∀g'∈gens,g'.is_async=0)(I:Nat->Shared->Prop)
  (turn:∀n s,I n s->wpAny (model prog w) A (pyNext it) (λr s_1=>match r with
  |none=>R (.ok .next) s_1
  |some v=>wpAny (model prog w) A (letOwnedTupleGo target it v) (λ_ tH=>wpAny (model prog w) A (assign target env v) (λ_ bn =>
     wpAny (model prog w) A (forIn ifs true λc r=>if r=true then do let ok ← isTrue c env (eval c env);pure (ForInStep.yield ok)else pure (ForInStep.yield r)) (λok d4 =>
      if ok=true then wpAny (model prog w) A (vd (.ListComp elt gens scope pos) elt gens d acc env) (λ_ gT=>∃m,m < n∧I m gT) a8 d4
      else ∃m,m < n∧I m d4) a8 bn) a8 tH) a8 s_1) a8 s)
  (n:Nat) (h:I n s) :
  codeAny (model prog w) A (.compLoop (.ListComp elt gens scope pos) d it acc env) R s:=by
 refine codeAny_loop rfl I (λn s hI=>?_) n h
 show wpAny _ A ((compTurn (.ListComp elt gens scope pos) d it acc env).onRaise (λx=>do noteFrame x env;theTreesLotGoes x)) _ _ s
 refine wpAny_noted ?_
 refine(Xy _ _ _ _ _ _ _ _ hg ha).symm▸?_
 refine bp (wpAny_standAt (bp (bq (turn n s hI) (λr s_1 eF=>?_) λ_ _ h'=>h'.elim)))
 cases r with
|none=>exact br eF
|some v =>
  refine bp (bq eF (λ_ tH ZO=>?_) λ_ _ h'=>h'.elim)
  refine bp (bq ZO (λ_ bn l6=>bp (bq l6 (λok d4 qW=>?_) λ_ _ h'=>h'.elim)) λ_ _ h'=>h'.elim)
  cases ok with
 |false=>exact br ⟨rfl,qW⟩
 |true=>exact bp (bq qW (λ_ gT Qr=>br ⟨rfl,Qr⟩) λ_ _ h'=>h'.elim)
theorem Ks(hg:gens[d]?=some g)(ha:g.is_async=0)
  (h0:codeAny (model prog w) A (.compLoop (.ListComp elt gens scope pos) d it acc env) R s)
  (h:wpAny (model prog w) A (pyIter it) (λM4 s'=>M4=it∧s'=s) a8 s) :
  codeAny (model prog w) A (.compStart (.ListComp elt gens scope pos) d it acc env) R s:=by
 refine codeAny_of_tree ?_
 show wpAny _ _ ((compStart (.ListComp elt gens scope pos) d it acc env).onRaise (λx=>do noteFrame x env;standAt theWindowsPlace)) _ _ s
 refine wpAny_notedAt ?_
 unfold compStart
 have e:clausesOf (.ListComp elt gens scope pos)=gens:=rfl
 refine e.symm▸hg.symm▸?_
 simp only[Option.elim_some,ha,bne_self_eq_false,Bool.false_eq_true,if_false]
 refine bp (wpAny_askSetting (wpAny_ite ?_))
 split
 ·exact bp (br (br (And.intro rfl h0)))
 ·refine bp (wpAny_rule ?_)
  refine bp (wpAny_standAt (bp (bq h (λM4 s' h'=>?_) λ_ _ x=>x.elim)))
  obtain⟨rfl,rfl⟩:=h'
  exact br (And.intro rfl h0)
end
abbrev CF:=St->Option (List PyData×St)
structure Acc(D:Addr)(ds:List PyData)(ρ:aJ)(Z:List Addr)(h:Heap):Prop where
 ex:∃vs as,h.PlainList D vs∧bz h vs.toList ds as∧∀a∈as,a∉bF ρ∧a∉Z
 rp:D∈Z
section
variable {K:Addr->Option Obj}{O:Fx}{D:Addr}{ds:List PyData}{ρ aA:aJ}{Z Z' X wr:List Addr}{s s':Shared}{hp:List MO}{h h':Heap}
theorem Acc.map(a:Acc D ds ρ Z h)(k:ou ρ aA Z Z' h h')(kD:∀o,h.get? D=some o->h'.get? D=some o)(hD:D∈Z'):Acc D ds aA Z' h':=by
 obtain⟨⟨vs,as,hl,r,q⟩,_⟩:=a
 have f:=k.foot r.live q
 exact⟨⟨vs,as,hl.at λo e=>kD o e,r.keep f.1,f.2⟩,hD⟩
theorem Acc.ext(a:Acc D ds ρ Z s.heap)(x:Ext X ρ s aA s')(hX:∀b∈X,b∈Z∧b≠D)(hD:D∉bF ρ):Acc D ds aA Z s'.heap :=
 a.map (x.moves λb h=>(hX b h).1) (λo e=>x.heap D o hD (λm=>(hX D m).2 rfl) e) a.rp
theorem Acc.wM(a:Acc D ds ρ Z s.heap)(x:d5 X G ρ s aA s')(hX:∀b∈X,b∈Z∧b≠D)(hD:D∉bF ρ):Acc D ds aA Z s'.heap:=Acc.ext (s:={s with gens:=#[]}) (s':={s' with gens:=#[]}) a x.e hX hD
theorem Acc.drop(a:Acc D ds ρ (wr++Z) h)(hD:D∉wr)(k:∀b o,b∉wr->h.get? b=some o->h'.get? b=some o):Acc D ds ρ Z h' :=
 a.map (λb o h1 h2 e=>⟨k b o (λq=>h2 (au _ q)) e,h1,λq=>h2 (af _ q)⟩) (λo=>k D o hD) ((ae a.rp).resolve_left hD)
theorem Acc.more(a:Acc D ds ρ Z h)(hw:∀b∈Z',b∈Z∨h.get? b=none)(hD:D∈Z')(k:∀b o,h.get? b=some o->h'.get? b=some o):Acc D ds ρ Z' h' :=
 a.map (λb o h1 h2 e=>⟨k b o e,h1,λm=>(hw b m).elim h2 λn=>ar (n.symm.trans e)⟩) (k D) hD
end
noncomputable def HK(K:Addr->Option Obj)(O:Fx)(D:Addr)(ρ:aJ)(Z:List Addr)(s:Shared)(ds:List PyData)(σ':St)(s':Shared):Prop :=
 ∃aA,Ext (D::O.own) ρ s aA s'∧SR K O aA Z σ' s'∧Acc D ds aA Z s'.heap
structure fM(prog:Program)(w:World)(K:Addr->Option Obj)(O:Fx)(D:Addr)(e elt:Expr)(gens:List Comprehension)(d:Nat)(F:CF):Prop where
 run:∀(A:Around) (ρ:aJ) (Z:List Addr) (σ:St) (s:Shared) (done ds:List PyData) (σ':St),cJ A O.k->SR K O ρ Z σ s->Acc D done ρ Z s.heap->(done++ds).length≤lim->F σ=some (ds,σ') ->
  wpAny (model prog w) A (vd e elt gens d (.ref D) O.env) (λ_ s'=>HK K O D ρ Z s (done++ds) σ' s') a8 s
structure ji(prog:Program)(w:World)(K:Addr->Option Obj)(O:Fx)(ifs:List Expr)(F:BF):Prop where
 run:∀(A:Around) (ρ:aJ) (Z:List Addr) (σ:St) (s:Shared) (b:Bool) (ai:List MO),cJ A O.k->SR K O ρ Z σ s->F σ=some (b,ai) ->
  wpAny (model prog w) A (forIn ifs true λc r=>if r=true then do let ok ← isTrue c O.env (eval c O.env);pure (ForInStep.yield ok)else pure (ForInStep.yield r)) (λb' s'=>b'=b∧∃aA,Ext [] ρ s aA s'∧HR aA Z ai s'.heap) a8 s
noncomputable def gM(F:EF):CF:=λσ=>match F σ with
|some (.dat d,hp)=>some ([d],⟨σ.loc,hp⟩)
|_=>none
noncomputable def gx(step:g0)(T:PyData->Loc->Option Loc)(tests:BF)(inner:CF):Nat->IS->CF
|0,_=>λ_=>none
|n+1,is=>λσ=>match step is σ.hp with
 |none=>none
 |some (none,hp)=>some ([],⟨σ.loc,hp⟩)
 |some (some (d,is'),hp)=>match T d σ.loc with
  |none=>none
  |some loc=>match tests ⟨loc,hp⟩with
   |none=>none
   |some (false,hp)=>gx step T tests inner n is' ⟨loc,hp⟩
   |some (true,hp)=>match inner ⟨loc,hp⟩with
    |none=>none
    |some (ds,dv)=>match gx step T tests inner n is' dv with
     |none=>none
     |some (r,Yz)=>some (ds++r,Yz)
noncomputable def tQ(F:SF)(L:Nat->IS->CF):CF:=λσ=>match F σ with
|some ((is,n),hp)=>L n is ⟨σ.loc,hp⟩
|none=>none
section
variable {prog:Program}{w:World}{K:Addr->Option Obj}{O:Fx}{D:Addr}
theorem ji.nil:ji prog w K O [] (λσ=>some (true,σ.hp)):=.mk λA ρ Z σ s b ai Rm R q=>wpAny_tests_nil (mZ.ret (Ext.refl _ _ _) R.hr q)
theorem ji.one(h:Tr prog w K O c F):ji prog w K O [c] F:=.mk λA ρ Z σ s b ai Rm R q=>wpAny_tests_one (h.run A ρ Z σ s b ai Rm R q)
theorem T9{F:EF}{σ σ':St}{ds:List PyData}{C:Prop}(q:gM F σ=some (ds,σ'))(k:∀d hp,F σ=some (.dat d,hp)->[d]=ds->⟨σ.loc,hp⟩=σ'->C):C:=by
 unfold gM at q
 cases h:F σ with
|none=>rw[h]at q;exact ar q
|some x =>
  obtain⟨pv,hp⟩:=x
  rw[h]at q
  cases pv with
 |dat d=>exact k d hp h (b7 q).1 (b7 q).2
 |_=>exact ar q
theorem Zp{ρ:aJ}{Z:List Addr}{σ:St}{s:Shared}{done:List PyData}{d:PyData}{v:Value}{A:Around}{Q:Unit->Shared->Prop}(R:SR K O ρ Z σ s)(ac:Acc D done ρ Z s.heap)(V:VR ρ Z s.heap (.dat d) v)(hD:Off O [D])(hlen:(done++[d]).length≤lim)
  (k:∀s',Ext [D] ρ s ρ s'->SR K O ρ Z σ s'->Acc D (done++[d]) ρ Z s'.heap->Q () s'):wpAny (model prog w) A (call (.builtin "list.append") [.ref D,v] >>= λ_=>pure ()) Q a8 s:=by
 refine cps λ_ KK=>?_
 obtain⟨⟨vs,as,hl,r,qa⟩,hz⟩:=ac
 obtain⟨bs,rv,qv⟩:=V
 refine KK ?_
 have hsz:vs.size≤sizeLine:=by
  have e1:=r.length
  rw[Array.length_toList]at e1
  rw[bH]at hlen
  rw[e1]
  exact aa (aa (ax _ _) hlen) b9
 refine bp (wpAny_list_append_plain hl (λh' eZ sb=>br ?_) hsz)
 have k':∀b o,b∉[D]->s.heap.get? b=some o->h'.get? b=some o:=λb o hb e=>sb.extBut b o (λm=>hb (m▸List.mem_singleton_self _)) e
 have lv:∀b∈[D],∃o,h'.get? b=some o:=all1 (eZ.elim λn e=>⟨_,e⟩)
 have hX:∀a∈[D],a∈Z:=all1 hz
 have ct:Ext [D] ρ s ρ {s with heap:=h'}:=Ext.Ds (t:=s.toks) k' lv
 have kk:∀a,a∉Z->∀o,s.heap.get? a=some o->h'.get? a=some o:=λa ha o e=>k' a o (λm=>ha (hX a m)) e
 exact k _ ct (R.EB ct hX hD (R.hr.chg (t:=s.toks) hX k' lv)) ⟨⟨vs.push v,as++(bs++[]),eZ,by
  rw[Array.toList_push]
  exact(r.keep λa ha o e=>kk a (qa a ha).2 o e).append (.cons (rv.keep λa ha o e=>kk a (qv a ha).2 o e) .nil),λa ha=>(ae ha).elim (qa a) λha=>qv a (by rwa [bM]at ha)⟩,hz⟩
theorem fM.emit{e elt:Expr}{gens:List Comprehension}{d:Nat}{F:EF}(hg:gens[d+1]?=none)(he:Ev prog w K O elt F)(hD:Off O [D])(lJ:D∉O.own):fM prog w K O D e elt gens d (gM F):=.mk λA ρ Z σ s done ds σ' Rm R ac hlen q =>
 T9 q λx hp e1 yP ig=>by
  unfold vd
  refine hg.symm▸?_
  refine bp (bq (he.run A ρ Z σ s _ _ Rm R e1) (λv s_1 p=>p.elim λaD p=>?_) λ_ _ q=>q)
  exact Zp (R.next p.1 p.2.2) (ac.ext p.1 (λ_ h=>bT h) λm=>R.hr.fZ D m ac.rp) p.2.1 hD (yP▸hlen) λs' x R' uQ=>⟨aD,(p.1.weak dF).trans (x.weak (all1 (aq ..))),ig▸R',yP▸uQ⟩
inductive D7(step:g0)(T:PyData->Loc->Option Loc)(tests:BF)(inner:CF)(k:Nat)(is:IS)(σ:St)(ds:List PyData)(σ':St):Prop
|done (hp:List MO):step is σ.hp=some (none,hp)->[]=ds->⟨σ.loc,hp⟩=σ'->D7 step T tests inner k is σ ds σ'
|turn (d:PyData) (is':IS) (hp:List MO) (loc:Loc) (b:Bool) (rT:List MO):step is σ.hp=some (some (d,is'),hp)->T d σ.loc=some loc->tests ⟨loc,hp⟩=some (b,rT) ->
  (b=false∧gx step T tests inner k is' ⟨loc,rT⟩=some (ds,σ')∨b=true∧∃rB dv r,inner ⟨loc,rT⟩=some (rB,dv)∧gx step T tests inner k is' dv=some (r,σ')∧rB++r=ds)->D7 step T tests inner k is σ ds σ'
theorem LR{step:g0}{T:PyData->Loc->Option Loc}{tests:BF}{inner:CF}{k:Nat}{is:IS}{σ:St}{ds:List PyData}{σ':St}(e:gx step T tests inner (k+1) is σ=some (ds,σ')):D7 step T tests inner k is σ ds σ':=by
 rw[gx]at e
 dsimp only at e
 cases h1:step is σ.hp with
|none=>rw[h1]at e;exact ar e
|some x =>
  obtain⟨x,hp⟩:=x
  replace e:=h1▸e
  cases x with
 |none=>exact .done hp h1 (b7 e).1 (b7 e).2
 |some x =>
   obtain⟨d,is'⟩:=x
   dsimp only at e
   cases h2:T d σ.loc with
  |none=>rw[h2]at e;exact ar e
  |some loc =>
    replace e:=h2▸e
    dsimp only at e
    cases h3:tests ⟨loc,hp⟩with
   |none=>rw[h3]at e;exact ar e
   |some y =>
     obtain⟨b,rT⟩:=y
     replace e:=h3▸e
     refine .turn d is' hp loc b rT h1 h2 h3 ?_
     cases b with
    |false=>exact .inl ⟨rfl,e⟩
    |true =>
      dsimp only at e
      cases h4:inner ⟨loc,rT⟩with
     |none=>rw[h4]at e;exact ar e
     |some z =>
       replace e:=h4▸e
       dsimp only at e
       cases h5:gx step T tests inner k is' z.2 with
      |none=>rw[h5]at e;exact ar e
      |some u=>rw[h5]at e;exact .inr ⟨rfl,z.1,z.2,u.1,rfl,h5.symm▸((b7 e).2)▸rfl,(b7 e).1⟩
inductive yX(K:Addr->Option Obj)(O:Fx)(D:Addr)(wr:List Addr)(G:Nat->Prop)(ρ:aJ)(Z:List Addr)(s:Shared)(ds:List PyData)(σ':St)(r:Result)(s':Shared):Prop
|mk:r=.ok .next->∀(aA:aJ) (s_1:Shared) (h':Heap) (tk:Nat) (b6:List Addr),(∀a∈b6,a∈wr∨s.heap.get? a=none)->(∀a∈b6,a∉Z)->Off O b6->d5 (b6++D::O.own) G ρ s aA s_1->SR K O aA (b6++Z) σ' s_1->Acc D ds aA (b6++Z) s_1.heap->s'={s_1 with heap:=h',toks:=tk} ->
  (∀b o,b∉b6->s_1.heap.get? b=some o->h'.get? b=some o)->yX K O D wr G ρ Z s ds σ' r s'
inductive IE(K:Addr->Option Obj)(O:Fx)(D:Addr)(wr:List Addr)(G:Nat->Prop)(J:IS->List Addr->aJ->List Addr->Shared->Prop)(ρ:aJ)(Z:List Addr)(s:Shared)(all:List PyData)(F:IS->CF)(σ':St)(s':Shared):Prop
|mk (aA:aJ) (kF:St) (is':IS) (pO r:List PyData) (b6:List Addr):(∀a∈b6,a∈wr∨s.heap.get? a=none)->(∀a∈b6,a∉Z)->Off O b6->d5 (b6++D::O.own) G ρ s aA s'->SR K O aA (b6++Z) kF s'->J is' b6 aA (b6++Z) s'->Acc D pO aA (b6++Z) s'.heap->pO++r=all->F is' kF=some (r,σ') ->
  IE K O D wr G J ρ Z s all F σ' s'
inductive JU(K:Addr->Option Obj)(O:Fx)(D:Addr)(wr:List Addr)(G:Nat->Prop)(J:List Addr->aJ->List Addr->Shared->Prop)(ρ:aJ)(Z:List Addr)(s:Shared)(done:List PyData)(W':List Addr)(cT:aJ)(gT:Shared):Prop
|mk:(∀a∈W',a∈wr∨s.heap.get? a=none)->(∀a∈W',a∉Z)->Off O W'->d5 (W'++D::O.own) G ρ s cT gT->J W' cT (W'++Z) gT->Acc D done cT (W'++Z) gT.heap->D∉bF cT->JU K O D wr G J ρ Z s done W' cT gT
theorem YF{wr b6 W' Z:List Addr}{ρ aA cT:aJ}{s s' dq gT:Shared}{kF aca:St}{G:Nat->Prop}{J:List Addr->aJ->List Addr->Shared->Prop}{done:List PyData}(Cj:∀{ρ Z s X aA s'},J W' ρ Z s->Ext X ρ s aA s'->(∀a∈X,a∈Z∧a∉W')->J W' aA Z s')(lJ:D∉O.own)(dz:∀a∈O.own,a∈Z)(nj:D∈Z)
  (qH:∀a∈b6,a∈wr∨s.heap.get? a=none) (ma:∀a∈b6,a∉Z) (ku:Off O b6) (xg:d5 (b6++D::O.own) G ρ s aA s') (R':SR K O aA (b6++Z) kF s') (uQ:Acc D done aA (b6++Z) s'.heap)
  (pQ:∀a∈b6,a∈W') (lW:∀a∈W',s'.heap.get? a=none∨a∈b6) (dC:d5 b6 G aA s' cT dq) (fY:SR K O cT (W'++Z) aca dq) (pH:J W' cT (W'++Z) dq) (rR:Ext O.own cT dq cT gT):JU K O D wr G J ρ Z s done W' cT gT:=by
 have yg:D∉bF aA:=λm=>R'.hr.fZ D m (af _ nj)
 have zE:D∉bF cT:=λm=>fY.hr.fZ D m (af _ nj)
 have DA:=dC.e
 have wT:Acc D done cT (W'++Z) dq.heap:=uQ.map (λa o h1 h2 e=>⟨DA.heap a o h1 (λq=>h2 (au _ q)) e,DA.lB (o:=o) e h1,λm=>(ae m).elim (λm=>(lW a m).elim (λn=>ar (n.symm.trans e)) λq=>h2 (au _ q)) λm=>h2 (af _ m)⟩)
  (λo e=>DA.heap D o yg (λq=>ma D q nj) e) (af _ nj)
 have t4:∀a∈W',a∉Z:=λa h m=>(lW a h).elim (λn=>(R'.hr.iI a (af _ m)).elim λo e=>ar (n.symm.trans e)) λq=>ma a q m
 have zZ:∀a∈W',a∈wr∨s.heap.get? a=none:=λa h=>(lW a h).elim (λn=>.inr (by
  cases q:s.heap.get? a with
 |none=>rfl
 |some o=>exact(xg.e.live a o q).elim λo' e=>ar (n.symm.trans e))) (qH a)
 refine cps λ_ KK=>?_
 obtain⟨m,cm,hn,hc,_⟩:=R'.er.ex
 refine KK ?_
 have AF:Off O W':=⟨λq=>(lW _ q).elim (λn=>(Ns.live hn).elim λo e=>ar (n.symm.trans e)) ku.1,λn c e q=>(lW _ q).elim (λn'=>(hc n c e).elim λo h=>ar (n'.symm.trans h.1)) (ku.2 n c e)⟩
 have oX:∀a∈O.own,a∈W'++D::O.own:=λa h=>af _ (al _ h)
 have WO:∀a∈O.own,a∈W'++Z∧a∉W':=λa h=>⟨af _ (dz a h),λm=>t4 a m (dz a h)⟩
 have wh:d5 (W'++D::O.own) G ρ s cT gT:=((xg.weak λa h=>(ae h).elim (λh=>au _ (pQ a h)) λh=>af _ h).trans (dC.weak λa h=>au _ (pQ a h))).trans (rR.weak oX).toG
 exact⟨zZ,t4,AF,wh,Cj pH rR WO,wT.ext rR (λa h=>⟨af _ (dz a h),λq=>lJ (q▸h)⟩) zE,zE⟩
theorem Oc{elt target iter:Expr}{gens:List Comprehension}{ifs:List Expr}{scope:Scope}{pos:Pos}{d:Nat}{it:Value}{wr:List Addr}{G:Nat->Prop}{step:g0}{J:IS->List Addr->aJ->List Addr->Shared->Prop}{T:PyData->Loc->Option Loc}{tests:BF}{inner:CF}{A:Around}
  (hg:gens[d]?=some ⟨target,iter,ifs,0⟩) (ha:∀g'∈gens,g'.is_async=0) (W:ze prog w A it target G step J) (ht:As prog w K O target T) (qG:ji prog w K O ifs tests)
  (jO:fM prog w K O D (.ListComp elt gens scope pos) elt gens d inner) (Rm:cJ A O.k) (off:Off O wr) (lJ:D∉O.own)
  {ρ:aJ} {Z:List Addr} {σ σ':St} {s:Shared} {is:IS} {n:Nat} {done ds:List PyData} (R:SR K O ρ (wr++Z) σ s) (hJ:J is wr ρ (wr++Z) s) (hwZ:∀a∈wr,a∉Z) (dz:∀a∈O.own,a∈Z) (nj:D∈Z) (ac:Acc D done ρ (wr++Z) s.heap) (hlen:(done++ds).length≤lim)
  (hF:gx step T tests inner n is σ=some (ds,σ')) :
  codeAny (model prog w) A (.compLoop (.ListComp elt gens scope pos) d it (.ref D) O.env) (yX K O D wr G ρ Z s (done++ds) σ') s:=by
 refine QS hg ha (λk s'=>IE K O D wr G J ρ Z s (done++ds) (gx step T tests inner k) σ' s') ?_ n ⟨ρ,σ,is,done,ds,wr,λa h=>.inl h,hwZ,off,d5.refl,R,hJ,ac,rfl,hF⟩
 rintro k s' ⟨aA,kF,is',pO,r,b6,qH,ma,ku,xg,R',J',uQ,AZ,hF⟩
 have tR:∀a∈b6,a∈b6++Z:=λa h=>au _ h
 cases k with
|zero=>exact ar hF
|succ k=>cases LR hF with
 |done hp dN h1 h2 =>
   refine bq (W.done dN J' R'.hr tR) (λr d4 p=>?_) λ_ _ q=>q.elim
   obtain⟨rfl,cT,dq,h',tk,dC,nJ,rfl,kd⟩:=p
   rw[← h1,bM]at AZ
   exact⟨rfl,cT,dq,h',tk,b6,qH,ma,ku,xg.trans (dC.weak λa h=>au _ h),h2▸R'.wM dC tR ku nJ,AZ▸uQ.wM dC (λa h=>⟨tR a h,λq=>ma a h (q▸nj)⟩) λm=>R'.hr.fZ D m (af _ nj),rfl,kd⟩
 |turn NT qZ hp loc b rT dN hT U5 pK =>
   refine bq (W.next dN J' R'.hr tR) (λr_0 d4 p=>?_) λ_ _ q=>q.elim
   obtain⟨v,rfl,p⟩:=p
   refine bq p (λ_ dq p=>?_) λ_ _ q=>q.elim
   obtain⟨W',cT,pQ,lW,dC,fY,nk,pH⟩:=uq.facts (J:=J qZ) R' ku p
   refine bq (ht.run A cT _ _ dq NT v loc Rm fY nk hT) (λ_ gT p=>?_) λ_ _ q=>q.elim
   obtain⟨zZ,t4,AF,wh,ZK,SW,zE⟩:=YF (J:=J qZ) (λj x h=>W.ext j x h) lJ dz nj qH ma ku xg R' uQ pQ lW dC fY pH p.1
   refine bq (qG.run A cT _ _ gT _ _ Rm p.2 U5) (λb' i7 q=>?_) λ_ _ q=>q.elim
   obtain⟨hb,lT,tA,VI⟩:=q
   have rE:=p.2.next tA VI
   have Au:=W.ext ZK tA (λ_ h=>bT h)
   have Pq:=SW.ext tA (λ_ h=>bT h) zE
   have vj:=wh.trans ((tA.weak dF).toG)
   refine hb.symm▸?_
   rcases pK with⟨rfl,e⟩|⟨rfl,rB,dv,MK,hi,hl,nD⟩
   ·exact⟨k,a7 k,lT,_,qZ,pO,r,W',zZ,t4,AF,vj,rE,Au,Pq,AZ,e⟩
   ·have mq:(pO++rB)++MK=done++ds:=by rw[bJ,nD];exact AZ
    have Ye:(pO++rB).length≤lim:=aa (mq▸(List.length_append (as:=pO++rB)).symm▸ax _ _) hlen
    have hXd:∀a∈D::O.own,a∈W'++Z∧a∉W':=nU ⟨af _ nj,λm=>t4 D m nj⟩ λa h=>⟨af _ (dz a h),λm=>t4 a m (dz a h)⟩
    exact bq (jO.run A lT _ _ i7 pO rB dv Rm rE Pq Ye hi) (λ_ s_7 p=>p.elim λYC p=>⟨k,a7 k,YC,dv,qZ,pO++rB,MK,W',zZ,t4,AF,vj.trans ((p.1.weak λa h=>af _ h).toG),p.2.1,W.ext Au p.1 hXd,p.2.2,mq,hl⟩) λ_ _ q=>q.elim
theorem OI{step:g0}{T:PyData->Loc->Option Loc}{tests:BF}{inner:CF}{n:Nat}{is:IS}{σ:St}{r:List PyData×St}(q:gx step T tests inner n is σ=some r):∃x,step is σ.hp=some x:=by
 cases n with
|zero=>exact ar q
|succ n=>cases LR (ds:=r.1) (σ':=r.2) q with
 |done hp h=>exact⟨_,h⟩
 |turn d is' hp loc b rT h=>exact⟨_,h⟩
theorem Yi(q:tQ S L σ=some r):∃is n hp,S σ=some ((is,n),hp)∧L n is ⟨σ.loc,hp⟩=some r:=by
 unfold tQ at q
 cases h:S σ with
|none=>rw[h]at q;exact ar q
|some x=>rw[h]at q;exact⟨x.1.1,x.1.2,x.2,rfl,q⟩
theorem Ik{wr:List Addr}{G:Nat->Prop}{ρ aD:aJ}{Z:List Addr}{s s_1 bn s':Shared}{ds:List PyData}{iN σ':St}{r:Result}(aO:Ext [] ρ s aD s_1)(aP:SR K O aD Z iN s_1)(ct:Ext [] aD s_1 aD bn)(keep:∀b o,s_1.heap.get? b=some o->bn.heap.get? b=some o)(hw:∀a∈wr,s_1.heap.get? a=none)
  (hg:∀g,G g->s_1.gens[g]?=none) (nj:D∈Z) (p:yX K O D wr G aD Z bn ds σ' r s'):r=.ok .next∧HK K O D ρ Z s ds σ' s':=by
 obtain⟨rfl,cT,d4,h',tk,b6,qH,ma,ku,xg,fY,wT,rfl,kd⟩:=p
 have m7:∀a∈b6,s_1.heap.get? a=none:=λa h=>(qH a h).elim (hw a) λh=>sG keep h
 have dC:Ext (D::O.own) aD s_1 cT d4:=((ct.weak dF).toG.trans xg).ext (λa h=>(ae h).elim (λh=>.inr (m7 a h)) .inl) λg st e h=>ar ((hg g h).symm.trans e)
 exact⟨rfl,cT,(aO.weak dF).trans (dC.drop m7 kd),fY.drop ma ku aP.er.dz kd,wT.drop (λm=>ma D m nj) kd⟩
theorem fM.nest{elt target iter:Expr}{gens:List Comprehension}{ifs:List Expr}{scope:Scope}{pos:Pos}{d:Nat}{step:g0}{S:SF}{T:PyData->Loc->Option Loc}{tests:BF}{inner:CF}
  (hg:gens[d+1]?=some ⟨target,iter,ifs,0⟩) (ha:∀g'∈gens,g'.is_async=0) (hi:eT prog w K O iter target step S) (ht:As prog w K O target T) (qG:ji prog w K O ifs tests)
  (jO:fM prog w K O D (.ListComp elt gens scope pos) elt gens (d+1) inner) (lJ:D∉O.own) (hs:autoParam (∀env x,foldedSetIterable iter env x=pure x) sJ) :
  fM prog w K O D (.ListComp elt gens scope pos) elt gens d (tQ S (gx step T tests inner)):=.mk λA ρ Z σ s done ds σ' Rm R ac hlen q=>by
 refine cps λ_ KK=>?_
 obtain⟨is,n,hp,e1,q⟩:=Yi q
 refine KK ?_
 unfold vd
 refine hg.symm▸?_
 dsimp only
 refine bp (bq (hi.run A ρ Z σ s is n hp Rm R e1) (λx s_1 eF=>?_) λ_ _ q=>q.elim)
 refine bp (wpAny_standAt (bp (wpAny_of_eq (hs _ x) (bp (wpAny_holding (bq eF (λit bn l6=>?_) λ_ _ q=>q.elim))))))
 refine cps λ_ KK=>?_
 obtain⟨aD,tH,wr,G,J,aO,cg,ct,keep,hw,lv,zj,hJ,W⟩:=l6
 refine KK ?_
 have aP:=R.next aO cg
 have cw:=aP.more (s':=bn) hw keep lv
 have aaw:=(ac.ext aO (λ_ h=>bT h) λm=>R.hr.fZ D m ac.rp).more (Z':=wr++Z) (h':=bn.heap) (λb hb=>(ae hb).elim (λm=>.inr (hw b m)) .inl) (af _ ac.rp) keep
 have main:=Oc (done:=done) (ds:=ds) (n:=n) hg ha W ht qG jO Rm (aP.sx hw) lJ cw hJ (λa h m=>zz aP hw m h) R.er.dz ac.rp aaw hlen q
 exact bp (wpAny_runOwn (h:=none) ((OI q).elim λ_ D9=>Ks hg rfl (codeAny_mono main λr s' p=>(Ik aO aP ct keep hw zj ac.rp p).1▸br (Ik aO aP ct keep hw zj ac.rp p).2) (W.self D9 hJ cw.hr ⟨rfl,rfl⟩)))
end
noncomputable def kc(env:Env):List (Str×NameKind)->List (Str×Addr)->List (Str×Addr)
|[],cs=>cs
|(n,k)::r,cs=>if k==.free then(match env.cells.lookup n with
 |some c=>kc env r ((n,c)::cs)
 |none=>kc env r cs)else kc env r cs
theorem y3(env):∀(l:List (Str×NameKind)) (cs:List (Str×Addr)),(∀p∈cs,env.cells.lookup p.1=some p.2)->∀p∈kc env l cs,env.cells.lookup p.1=some p.2
|[],cs,h,p,hp=>h p hp
|(n,k)::r,cs,h,p,hp=>by
  unfold kc at hp
  split at hp
  ·split at hp
   ·rename_i c hc
    exact y3 env r _ (λq hq=>by rcases aI hq with rfl|hq;exact hc;exact h q hq) p hp
   ·exact y3 env r cs h p hp
  ·exact y3 env r cs h p hp
theorem sd(h:(kc env l []).lookup n=some c):env.cells.lookup n=some c :=
 y3 env l [] (λ_ h=>bT h) (n,c) (mem_of_lookup h)
theorem GD{env:Env}{scope:Scope}(h:scope.names.all (λx=>x.2 != .free||(env.cells.lookup x.1).isSome)=true):closureFor scope env=pure (kc env scope.names []):=by
 have main:∀(l:List (Str×NameKind)) (cs:List (Str×Addr)),l.all (λx=>x.2 != .free||(env.cells.lookup x.1).isSome)=true ->
   (forIn l cs λx r=>do
    let cs:=r
    match x with
   |(name,kind)=>if(kind==NameKind.free)=true then do let c ← cellOf env name;pure (ForInStep.yield ((name,c)::cs))else pure (ForInStep.yield cs):Sem (List (Str×Addr)))=pure (kc env l cs):=by
  intro l
  induction l with
 |nil=>intro cs _;rfl
 |cons x l ih =>
   intro cs mq
   obtain⟨n,k⟩:=x
   rw[List.all_cons,Bool.and_eq_true]at mq
   rw[List.forIn_cons]
   unfold kc
   by_cases hk:(k==NameKind.free)=true
   ·simp only[hk,if_true]
    have:k=.free:=by simpa using hk
    subst this
    have hs:(env.cells.lookup n).isSome=true:=by simpa using mq.1
    cases hc:env.cells.lookup n with
   |none=>rw[hc]at hs;cases hs
   |some c =>
     unfold cellOf
     simp only[hc,pure_bind]
     exact ih _ mq.2
   ·simp only[hk,if_false,pure_bind,Bool.false_eq_true]
    exact ih _ mq.2
 have:=main scope.names [] h
 simp only[closureFor]
 rw[show(forIn scope.names ([]:List (Str×Addr)) _:Sem (List (Str×Addr)))=_ from this]
 rfl
noncomputable def gu(O:Fx)(scope:Scope)(vs:List (Nat×Str))(L:Addr):Fx:=⟨compEnvC scope (kc O.env scope.names []) L O.env,relabel scope O.env,vs,[L],O.k⟩
noncomputable def Cm:Option NameKind->Bool
|some .cell=>true
|some .free=>true
|_=>false
noncomputable def tm(O:Fx)(scope:Scope)(ts:List Nat)(vs:List (Nat×Str)):Bool :=
 scope.names.all (λx=>x.2 != .free||(O.env.cells.lookup x.1).isSome) &&
 (scope.names.all (λx=>x.2 != .cell) &&
 (scope.names.all (λx=>x.2 != .local||scope.names.lookup x.1==some .local) &&
 (scope.kind==.function &&
 (vs.all (λp=>vs.all λq=>p.2 != q.2||p.1==q.1) &&
 vs.all (λp=>ts.contains p.1||(O.vars.lookup p.1==some p.2&&(Cm ((relabel scope O.env).names.lookup p.2)&&(Cm (O.sc.names.lookup p.2)&&((kc O.env scope.names []).lookup p.2).isSome))))))))
noncomputable def unset:List Nat->Loc->Loc
|[],l=>l
|i::r,l=>unset r (l.set i none)
theorem Lh:∀(ts:List Nat) (l:Loc) (i:Nat) (pv:PV),(unset ts l)[i]?=some (some pv)->i∉ts∧l[i]?=some (some pv)
|[],l,i,pv,h=>⟨bv,h⟩
|t::r,l,i,pv,h=>by
  obtain⟨h1,h2⟩:=Lh r _ i pv h
  rw[List.getElem?_set]at h2
  by_cases q:t=i
  ·rw[if_pos q]at h2
   exact iF h2 λ_ e=>ar (bX e)
  ·rw[if_neg q]at h2
   exact⟨λm=>(aI m).elim (λe=>q e.symm) h1,h2⟩
theorem lookup_mem[BEq α][LawfulBEq α]:∀{l:List (α×β)} {a:α} {b:β},l.lookup a=some b->(a,b)∈l
|(k,v)::r,a,b,h=>by
  rw[List.lookup_cons]at h
  cases hb:a==k with
 |true=>rw[hb]at h;cases h;rw[eq_of_beq hb];exact aq
 |false=>rw[hb]at h;exact al _ (lookup_mem h)
section
variable {prog:Program}{w:World}{K:Addr->Option Obj}{O:Fx}{ρ:aJ}{Z:List Addr}{loc:Loc}{s:Shared}{scope:Scope}{ts:List Nat}{vs:List (Nat×Str)}{L:Addr}
theorem Mo(h:Cm (env.kindOf x)=true)(hl:env.cells.lookup x=some c):gc env m cm x=cm x:=by
 unfold gc
 cases q:env.kindOf x with
|none=>rw[q]at h;cases h
|some k=>cases k<;>first|(rw[q]at h;cases h;done)|(simp only[hl];rfl)
theorem sV.comp(R:sV O ρ Z loc s.heap)(jc:tm O scope ts vs=true)(hn:s.heap.Ns L (λ_=>none))(hLZ:L∈Z)(hLm:L∉bF ρ)(Q9:∀n c,O.env.cells.lookup n=some c->c≠L):sV (gu O scope vs L) ρ Z (unset ts loc) s.heap:=by
 unfold tm at jc
 simp only[Bool.and_eq_true]at jc
 refine cps λ_ KK=>?_
 obtain⟨c1,c2,c3,c4,c5,c6⟩:=jc
 obtain⟨m,cm,hm,hc,hv⟩:=R.ex
 refine KK ?_
 refine⟨⟨λ_=>none,cm,hn,λn c e=>hc n c (sd e),λi x pv hi hl=>?_⟩,eq_of_beq c4,rfl,λi j x hi hj=>?_,R.glob,R.bi,List.mem_singleton_self _,λa ha=>by rw[ak ha];exact hLZ,hLm,
  λn c e=>⟨(R.cell n c (sd e)).1,Q9 n c (sd e)⟩,λn n' c e e'=>R.inj n n' c (sd e) (sd e')⟩
 ·obtain⟨hts,hl⟩:=Lh ts loc i pv hl
  have kA:=lookup_mem hi
  have:=bj c6 _ kA
  rw[Bool.or_eq_true]at this
  rcases this with h|h
  ·exact absurd (by simpa using h) hts
  ·simp only[Bool.and_eq_true]at h
   refine cps λ_ KK=>?_
   obtain⟨h1,h2,h3,h4⟩:=h
   have h1:O.vars.lookup i=some x:=by simpa using h1
   obtain⟨v,hs,hr⟩:=hv i x pv h1 hl
   refine KK ?_
   cases fN:(kc O.env scope.names []).lookup x with
  |none=>rw[fN]at h4;cases h4
  |some c =>
    have me:=sd fN
    have UP:Cm (O.env.kindOf x)=true:=by unfold Env.kindOf;rw[R.sc];exact h3
    rw[Mo UP me]at hs
    refine⟨v,?_,hr⟩
    rw[Mo (env:=(gu O scope vs L).env) h2 fN]
    exact hs
 ·have:=bj (bj c5 _ (lookup_mem hi)) _ (lookup_mem hj)
  simpa using this
end
noncomputable def ix(S:SF)(step:g0)(T:PyData->Loc->Option Loc)(tests:BF)(inner:CF)(ts:List Nat):EF:=λσ=>match S σ with
|some ((is,n),hp)=>match gx step T tests inner n is ⟨unset ts σ.loc,hp⟩with
 |some (ds,σ')=>if ds.length≤lim then some (.dat (.list ds),σ'.hp)else none
 |none=>none
|none=>none
section
variable {prog:Program}{w:World}{K:Addr->Option Obj}{O:Fx}
inductive CompEnd(K:Addr->Option Obj)(O:Fx)(ρ:aJ)(Z:List Addr)(loc:Loc)(s:Shared)(ds:List PyData)(ai:List MO)(D L:Addr)(s':Shared):Prop
|mk (aA:aJ):Ext [] ρ s aA s'->SR K O aA ([L,D]++Z) ⟨loc,ai⟩ s'->Acc D ds aA ([L,D]++Z) s'.heap->s.heap.get? D=none->s.heap.get? L=none->D≠L->(∃m,s'.heap.Ns L m)->L∉O.own->Off O [L]->Off O [L,D]->D∉bF aA->CompEnd K O ρ Z loc s ds ai D L s'
structure Jv(K:Addr->Option Obj)(O:Fx)(scope:Scope)(ts:List Nat)(vs:List (Nat×Str))(wr:List Addr)(J:List Addr->aJ->List Addr->Shared->Prop)(ρ:aJ)(Z:List Addr)(σ:St)(D L:Addr)(dq:Shared):Prop where
 jG:SR K O ρ (wr++([L,D]++Z)) σ dq
 Rc:SR K (gu O scope vs L) ρ (wr++([L,D]++Z)) ⟨unset ts σ.loc,σ.hp⟩ dq
 ac:Acc D [] ρ (wr++([L,D]++Z)) dq.heap
 Le:J wr ρ (wr++([L,D]++Z)) dq
 QO:Off (gu O scope vs L) wr
 aaU:Off (gu O scope vs L) [D]
 lJ:D∉(gu O scope vs L).own
 WT:∀a∈wr,a∉[L,D]++Z
 oa:Off O [L,D]
section
variable {scope:Scope}{ts:List Nat}{vs:List (Nat×Str)}{wr Z:List Addr}{ρ aD:aJ}{σ iN σ':St}{s s_1 bn dq s':Shared}{D L:Addr}{eF:Heap}{BU:Nat}{G:Nat->Prop}{ds:List PyData}{r:Result}
theorem SC(jc:tm O scope ts vs=true)(aP:SR K O aD Z iN s_1)(hw:∀a∈wr,s_1.heap.get? a=none)(cw:SR K O aD (wr++Z) σ bn)(lv:∀a∈wr,∃o,bn.heap.get? a=some o)(hJ:J wr aD (wr++Z) bn)
  (hJm:∀{ρ Z Z' s s'},J wr ρ Z s->(∀a∈Z',a∈Z∨s.heap.get? a=none)->(∀b o,s.heap.get? b=some o->s'.heap.get? b=some o)->(∀(g:Nat) (st:GenState),s.gens[g]?=some st->s'.gens[g]?=some st)->J wr ρ Z' s')
  (pg:D≠L) (old:∀b o,bn.heap.get? b=some o->eF.get? b=some o) (A2:eF.PlainList D #[]) (oR:eF.Ns L (λ_=>none)) (freshD:bn.heap.get? D=none) (sg:bn.heap.get? L=none) :
  Jv K O scope ts vs wr J aD Z σ D L {bn with heap:=eF,toks:=BU}:=by
 have GG:∀a∈[L,D],bn.heap.get? a=none:=all2 sg freshD
 have aaK:SR K O aD ([L,D]++(wr++Z)) σ {bn with heap:=eF,toks:=BU}:=cw.more GG old (all2 (Ns.live oR) (A2.elim λn e=>⟨_,e⟩))
 have perm:∀a∈wr++([L,D]++Z),a∈[L,D]++(wr++Z):=λa h=>(ae h).elim (λh=>af _ (au _ h)) λh=>(ae h).elim (λh=>au _ h) λh=>af _ (af _ h)
 have jG:SR K O aD (wr++([L,D]++Z)) σ {bn with heap:=eF,toks:=BU}:=aaK.weak perm λa h=>af _ (af _ (aP.er.dz a h))
 have Yf:L∈wr++([L,D]++Z):=af _ (au _ (.head _))
 have memD:D∈wr++([L,D]++Z):=af _ (au _ (.tail _ (.head _)))
 have oa:=cw.sx GG
 have FX:∀a∈wr,a≠L∧a≠D:=λa h=>(lv a h).elim λo e=>⟨λq=>ar (sg.symm.trans (q▸e)),λq=>ar (freshD.symm.trans (q▸e))⟩
 have qt:=aP.sx hw
 refine⟨jG,⟨jG.hr,jG.er.comp jc oR Yf (cw.hr.fresh sg).1 λn c e q=>oa.2 n c e (q▸.head _),jG.top,jG.off⟩,⟨⟨#[],[],A2,.nil,λ_ h=>bT h⟩,memD⟩,hJm hJ (λa h=>?_) old (λ_ _ e=>e),⟨λm=>(FX L m).1 rfl,λn c e m=>qt.2 n c (sd e) m⟩,
  ⟨λm=>pg (ak m).symm,λn c e m=>oa.2 n c (sd e) (ak m▸.tail _ (.head _))⟩,λm=>pg (ak m),λa h m=>?_,oa⟩
 ·exact(ae h).elim (λh=>.inl (au _ h)) λh=>(ae h).elim (λh=>.inr (GG a h)) λh=>.inl (af _ h)
 ·exact(ae m).elim (λm=>(all2 (P:=λb=>a=b->False) (FX a h).1 (FX a h).2) a m rfl) λm=>zz aP hw m h
theorem RV{J:List Addr->aJ->List Addr->Shared->Prop}{loc:Loc}{hp:List MO}(S:Jv K O scope ts vs wr J aD Z ⟨loc,hp⟩ D L dq)(aO:Ext [] ρ s aD s_1)(aP:SR K O aD Z iN s_1)(ct:Ext [] aD s_1 aD bn)(keep:∀b o,s_1.heap.get? b=some o->bn.heap.get? b=some o)(mh:Ext [] aD bn aD dq)(old:∀b o,bn.heap.get? b=some o->dq.heap.get? b=some o)
  (hw:∀a∈wr,s_1.heap.get? a=none) (hg:∀g,G g->s_1.gens[g]?=none) (pg:D≠L) (freshD:bn.heap.get? D=none) (sg:bn.heap.get? L=none) (p:yX K (gu O scope vs L) D wr G aD ([L,D]++Z) dq ds σ' r s'):r=.ok .next∧CompEnd K O ρ Z loc s ds σ'.hp D L s':=by
 obtain⟨rfl,cT,d4,h',tk,b6,qH,ma,ku,xg,fY,wT,rfl,kd⟩:=p
 have m7:∀a∈b6,s_1.heap.get? a=none:=λa h=>(qH a h).elim (hw a) λh=>sG keep (sG old h)
 have fD:=sG keep freshD
 have fL:=sG keep sg
 have Yt:D∈b6++([L,D]++Z):=af _ (au _ (.tail _ (.head _)))
 have Cy:∀a∈D::(gu O scope vs L).own,a∈[L,D]:=nU (.tail _ (.head _)) (all1 (.head _))
 have dC:Ext [] aD s_1 cT d4:=((ct.trans mh).weak (Y:=b6++D::(gu O scope vs L).own) dF |>.toG.trans xg).ext (λa h=>.inr ((ae h).elim (m7 a) λh=>nU (P:=λa=>s_1.heap.get? a=none) fD (all1 fL) a (show a∈[D,L]from h))) λg st e h=>ar ((hg g h).symm.trans e)
 have Dr:Off O b6:=aP.sx m7
 have WV:Off O (b6++D::(gu O scope vs L).own):=⟨λm=>(ae m).elim Dr.1 λm=>S.oa.1 (Cy _ m),λn c e m=>(ae m).elim (Dr.2 n c e) λm=>S.oa.2 n c e (Cy _ m)⟩
 have Ro:SR K O cT (b6++([L,D]++Z)) ⟨loc,σ'.hp⟩ d4:=S.jG.JH xg (λa h=>(ae h).elim (λh=>au _ h) λh=>af _ (au _ (Cy a h))) WV
  (λa h=>(ae h).elim (λh=>(qH a h).imp_left λh=>au _ h) λh=>.inl (af _ h)) (λa h=>af _ (af _ (aP.er.dz a h))) fY.hr
 obtain⟨m,_,hn,_⟩:=fY.er.ex
 have back:∀{a},s_1.heap.get? a=none->s.heap.get? a=none:=λ{a} n=>by
  cases q:s.heap.get? a with
 |none=>rfl
 |some o=>exact(aO.live a o q).elim λo1 e=>ar (n.symm.trans e)
 exact⟨rfl,cT,aO.trans (dC.drop m7 kd),Ro.drop ma Dr (λa h=>af _ (aP.er.dz a h)) kd,wT.drop (λm=>ma D m (au _ (.tail _ (.head _)))) kd,back fD,back fL,pg,
  ⟨m,Ns.keep (a:=L) hn λo e=>kd L o (λm=>ma L m (au _ (.head _))) e⟩,λm=>(aP.hr.iI L (aP.er.dz L m)).elim λo e=>ar (fL.symm.trans e),⟨λm=>S.oa.1 (ak m▸.head _),λn c e m=>S.oa.2 n c e (ak m▸.head _)⟩,S.oa,λm=>fY.hr.fZ D m Yt⟩
end
theorem X5{S:SF}{step:g0}{T:PyData->Loc->Option Loc}{tests:BF}{inner:CF}{ts:List Nat}{σ:St}{pv:PV}{ai:List MO}{C:Prop}(q:ix S step T tests inner ts σ=some (pv,ai))
  (k:∀is n hp ds σ',S σ=some ((is,n),hp)->gx step T tests inner n is ⟨unset ts σ.loc,hp⟩=some (ds,σ')->ds.length≤lim->.dat (.list ds)=pv->σ'.hp=ai->C):C:=by
 unfold ix at q
 cases h:S σ with
|none=>rw[h]at q;exact ar q
|some x =>
  replace q:=h▸q
  dsimp only at q
  cases h2:gx step T tests inner x.1.2 x.1.1 ⟨unset ts σ.loc,x.2⟩with
 |none=>rw[h2]at q;exact ar q
 |some y =>
   replace q:=h2▸q
   exact d8 q λhl e=>k x.1.1 x.1.2 x.2 y.1 y.2 h h2 hl (a5 e).1 (a5 e).2
theorem Ur{h eF:Heap}{o o':Obj}(ho:o={cls:=.type "list",dict:=none,data:=.seq ([]:List Value).toArray})(sb:Heap.SameBut (h.push o).objs.size ((h.push o).push o') eF) :
  h.objs.size≠(h.push o).objs.size∧(∀b o,h.get? b=some o->eF.get? b=some o)∧eF.PlainList h.objs.size #[]∧h.get? h.objs.size=none∧h.get? (h.push o).objs.size=none:=by
 subst ho
 have hC:(h.push {cls:=.type "list",dict:=none,data:=.seq ([]:List Value).toArray}).objs.size=h.objs.size+1:=Heap.size_push ..
 have pg:h.objs.size≠(h.push {cls:=.type "list",dict:=none,data:=.seq ([]:List Value).toArray}).objs.size:=by rw[hC];exact Nat.ne_of_lt (a7 _)
 refine⟨pg,λb o e=>sb.extBut b o (by rw[hC];exact Nat.ne_of_lt (Nat.lt_succ_of_lt (Heap.lt_size e))) (ao _ (ao _ e)),⟨_,sb.extBut _ _ pg (ao _ (aX _ rfl))⟩,aK (am _),aK (by rw[hC];exact bx _)⟩
theorem Pl{elt target iter:Expr}{rest:List Comprehension}{ifs:List Expr}{scope:Scope}{pos:Pos}{step:g0}{S:SF}{T:PyData->Loc->Option Loc}{tests:BF}{inner:CF}{ts:List Nat}{vs:List (Nat×Str)}{A:Around}
  {use:Option (Value->Sem Unit)} {Q:Value->Shared->Prop} {na:Sem Value} (QF:na=newList [])
  (ha:∀g'∈(⟨target,iter,ifs,0⟩:Comprehension)::rest,g'.is_async=0) (jc:tm O scope ts vs=true) (hi:eT prog w K O iter target step S) (ht:∀L,As prog w K (gu O scope vs L) target T) (qG:∀L,ji prog w K (gu O scope vs L) ifs tests)
  (jO:∀L D,Off (gu O scope vs L) [D]->D∉(gu O scope vs L).own->fM prog w K (gu O scope vs L) D (.ListComp elt (⟨target,iter,ifs,0⟩::rest) scope pos) elt (⟨target,iter,ifs,0⟩::rest) 0 inner)
  (hs:∀env x,foldedSetIterable iter env x=pure x)
  {ρ:aJ} {Z:List Addr} {σ:St} {s:Shared} {pv:PV} {ai:List MO} (Rm:cJ A O.k) (R:SR K O ρ Z σ s) (q:ix S step T tests inner ts σ=some (pv,ai))
  (fin:∀ds D L s',pv=.dat (.list ds)->CompEnd K O ρ Z σ.loc s ds ai D L s'->compPost (model prog w) A a8 use Q (.ref D) L (.ok .next) s') :
  wpAny (model prog w) A (comprehension (.ListComp elt (⟨target,iter,ifs,0⟩::rest) scope pos) scope O.env (firstIterPos (⟨target,iter,ifs,0⟩::rest) pos) na false (eval iter O.env) use) Q a8 s:=by
 refine QF.symm▸?_
 refine X5 q λis n hp ds σ' e1 e2 hlen oB oh=>?_
 have Ha:=jc
 unfold tm at Ha
 simp only[Bool.and_eq_true]at Ha
 refine cps λ_ KK=>?_
 obtain⟨c1,c2,c3,c4,c5,c6⟩:=Ha
 refine KK ?_
 have Q3:∀y∈scope.names,y.2≠.cell:=λy hy=>by simpa using bj c2 y hy
 have uK:scope.kind=.function:=eq_of_beq c4
 have Zd:∀y∈scope.names,y.2=.local->scope.names.lookup y.1=some .local:=λy hy e=>by
  have:=bj c3 y hy
  simpa[e]using this
 refine wpAny_comprehension_free (use:=use) (cl:=kc O.env scope.names []) rfl (hs _) (GD c1) uK Zd ?_
 refine bq (hi.run A ρ Z σ s is n hp Rm R e1) (λx s_1 eF=>bq eF (λit bn l6=>?_) λ_ _ q=>q) λ_ _ q=>q
 refine cps λ_ KK=>?_
 obtain⟨aD,tH,wr,G,J,aO,cg,ct,keep,hw,lv,zj,hJ,W⟩:=l6
 refine KK ?_
 have aP:=R.next aO cg
 refine wpAny_newObj_type (wpAny_newFunctionEnv Q3 (by intro y hy;simp at hy) (λeF aag Wj=>?_) uK)
 refine cps λ_ KK=>?_
 obtain⟨pg,old,A2,freshD,sg⟩:=Ur rfl Wj
 refine KK ?_
 have CS:=SC (J:=J is) (BU:=bn.toks+([]:List (Str×Value)).length) jc aP hw (aP.more hw keep lv) lv hJ (λj a b c=>W.more j a b c) pg old A2 aag freshD sg
 have main:=Oc (elt:=elt) (gens:=⟨target,iter,ifs,0⟩::rest) (scope:=scope) (pos:=pos) (d:=0) (iter:=iter) (done:=[]) (ds:=ds) (n:=n) rfl ha W (ht _) (qG _) (jO _ _ CS.aaU CS.lJ) Rm CS.QO CS.lJ CS.Rc CS.Le CS.WT (all1 (au _ (.head _))) (au _ (.tail _ (.head _))) CS.ac hlen e2
 exact(OI e2).elim λ_ D9=>Ks rfl rfl (codeAny_mono main λr s' p =>
  have e:=RV CS aO aP ct keep (Ext.of_keep old) old hw zj pg freshD sg p
  e.1▸fin ds _ _ _ oB.symm (oh▸e.2)) (W.self D9 CS.Le CS.Rc.hr ⟨rfl,rfl⟩)
theorem CompEnd.off{ρ:aJ}{Z:List Addr}{s s':Shared}{loc:Loc}{σ:St}{ds:List PyData}{ai:List MO}{D L:Addr}(R:SR K O ρ Z σ s)(C:CompEnd K O ρ Z loc s ds ai D L s'):∀a∈[L,D],a∉Z:=by
 obtain⟨aA,x,R',ac,fD,fL,_⟩:=C
 exact all2 (λm=>(R.hr.iI L m).elim λo e=>ar (fL.symm.trans e)) λm=>(R.hr.iI D m).elim λo e=>ar (fD.symm.trans e)
theorem CompEnd.post{ρ:aJ}{Z:List Addr}{s s':Shared}{loc:Loc}{σ:St}{ds:List PyData}{ai:List MO}{D L:Addr}{h':Heap}{t:Nat}(R:SR K O ρ Z σ s)(C:CompEnd K O ρ Z loc s ds ai D L s')(k:∀b o,b≠L->s'.heap.get? b=some o->h'.get? b=some o):cE ρ Z s (.dat (.list ds)) ai (.ref D) {s' with heap:=h',toks:=t}:=by
 have nZ:=C.off R
 refine cps λ_ KK=>?_
 obtain⟨aA,x,R',ac,fD,fL,DD,_,N3,KC,oa,yg⟩:=C
 obtain⟨⟨us,as,⟨n,hl⟩,r,qa⟩,hz⟩:=ac
 refine KK ?_
 exact⟨aA,x.drop (wr:=[L]) (t:=t) (all1 fL) λb o hb e=>k b o (λq=>hb (q▸.head _)) e,⟨D::as,.list (k D _ DD hl) rfl rfl rfl rfl (r.keep λb hb o e=>k b o (λm=>(qa b hb).2 (au _ (m▸.head _))) e),
  nU ⟨yg,nZ D (.tail _ (.head _))⟩ λa ha=>⟨(qa a ha).1,λm=>(qa a ha).2 (af _ m)⟩⟩,R'.hr.drop nZ λb o hb e=>k b o (λq=>hb (q▸.head _)) e⟩
theorem Ev.comp{elt target iter:Expr}{rest:List Comprehension}{ifs:List Expr}{scope:Scope}{pos:Pos}{step:g0}{S:SF}{T:PyData->Loc->Option Loc}{tests:BF}{inner:CF}(ts:List Nat)(vs:List (Nat×Str))
  (jc:tm O scope ts vs=true) (hi:eT prog w K O iter target step S) (ht:∀L,As prog w K (gu O scope vs L) target T) (qG:∀L,ji prog w K (gu O scope vs L) ifs tests)
  (jO:∀L D,Off (gu O scope vs L) [D]->D∉(gu O scope vs L).own->fM prog w K (gu O scope vs L) D (.ListComp elt (⟨target,iter,ifs,0⟩::rest) scope pos) elt (⟨target,iter,ifs,0⟩::rest) 0 inner)
  (ha:autoParam (((⟨target,iter,ifs,0⟩:Comprehension)::rest).all (λg=>g.is_async==0)=true) sR) (hs:autoParam (∀env x,foldedSetIterable iter env x=pure x) sJ) :
  Ev prog w K O (.ListComp elt (⟨target,iter,ifs,0⟩::rest) scope pos) (ix S step T tests inner ts):=.mk λA ρ Z σ s pv ai Rm R q=>by
 rw[eval_ListComp]
 refine Pl rfl (λg hg=>by simpa using bj ha g hg) jc hi ht qG jO hs Rm R q λds D L s' e C=>?_
 obtain⟨m,hn⟩:∃m,s'.heap.Ns L m:=by obtain⟨_,_,_,_,_,_,_,h,_⟩:=C;exact h
 exact⟨m,hn,λh' sb=>e▸C.post (t:=s'.toks) R λb o hb e=>sb.extBut b o hb e⟩
theorem CompEnd.stored{A:Around}{ρ:aJ}{Z:List Addr}{s s':Shared}{σ:St}{ds:List PyData}{hp:List MO}{D L:Addr}{i:Nat}{x:Str}{p:Pos}{Q:Unit->Shared->Prop}(hv:O.vars.lookup i=some x)(ok:iB O x)(R:SR K O ρ Z σ s)(C:CompEnd K O ρ Z σ.loc s ds hp D L s')
  (k:∀bn C7,bn.heap.Ns L C7->(∀h',(∀b o,b≠L->bn.heap.get? b=some o->h'.get? b=some o)->eY K O ρ Z s .next ⟨σ.loc.set i (some (.dat (.list ds))),hp⟩ .next {bn with heap:=h'})->Q () bn):wpAny (model prog w) A (PySem.assign (.Name x p) O.env (.ref D)) Q a8 s':=by
 have nZ:=C.off R
 refine cps λ_ KK=>?_
 obtain⟨aA,aO,R',ac,fD,fL,DD,⟨m,hn⟩,N3,KC,oa,yg⟩:=C
 have sub:∀a∈[L]++Z,a∈[L,D]++Z:=λa h=>(ae h).elim (λh=>au _ (ak h▸.head _)) λh=>af _ h
 have aP:SR K O aA ([L]++Z) ⟨σ.loc,hp⟩ s':=R'.weak sub λa h=>af _ (R.er.dz a h)
 obtain⟨⟨us,as,⟨n,hl⟩,r,qa⟩,hz⟩:=ac
 refine KK ?_
 have V:VR aA ([L]++Z) s'.heap (.dat (.list ds)) (.ref D):=⟨D::as,.list hl rfl rfl rfl rfl r,nU ⟨yg,λm=>(ae m).elim (λm=>DD (ak m)) (nZ D (.tail _ (.head _)))⟩ λa ha=>⟨(qa a ha).1,λm=>(qa a ha).2 (sub a m)⟩⟩
 exact wpAny_assign_Name (aP.store hv ok V λbn ct cw=>k bn m (Ns.keep (a:=L) hn λo e=>ct.heap L o (λq=>aP.hr.fZ L q (au _ (.head _))) N3 e) λh' kk =>
  have kw:∀b o,b∉[L]->bn.heap.get? b=some o->h'.get? b=some o:=λb o hb e=>kk b o (λq=>hb (q▸.head _)) e
  ⟨aA,((aO.weak dF).trans ct).drop (t:=bn.toks) (wr:=[L]) (all1 fL) kw,cw.drop (t:=bn.toks) (wr:=[L]) (all1 (nZ L (.head _))) KC R.er.dz kw,rfl⟩)
theorem Ex.xQ{x:Str}{i:Nat}{p p':Pos}{elt target iter:Expr}{rest:List Comprehension}{ifs:List Expr}{scope:Scope}{pos:Pos}{step:g0}{S:SF}{T:PyData->Loc->Option Loc}{tests:BF}{inner:CF}(ts:List Nat)(vs:List (Nat×Str))
  (hv:O.vars.lookup i=some x) (ok:iB O x) (Zx:swapsWith (.ListComp elt (⟨target,iter,ifs,0⟩::rest) scope pos) (some (.Name x p)) p'.line O.env=pure true)
  (jc:tm O scope ts vs=true) (hi:eT prog w K O iter target step S) (ht:∀L,As prog w K (gu O scope vs L) target T) (qG:∀L,ji prog w K (gu O scope vs L) ifs tests)
  (jO:∀L D,Off (gu O scope vs L) [D]->D∉(gu O scope vs L).own->fM prog w K (gu O scope vs L) D (.ListComp elt (⟨target,iter,ifs,0⟩::rest) scope pos) elt (⟨target,iter,ifs,0⟩::rest) 0 inner)
  (ha:autoParam (((⟨target,iter,ifs,0⟩:Comprehension)::rest).all (λg=>g.is_async==0)=true) sR) (hs:autoParam (∀env x,foldedSetIterable iter env x=pure x) sJ) :
  Ex prog w K O (.Assign [.Name x p] (.ListComp elt (⟨target,iter,ifs,0⟩::rest) scope pos) p') (bN (ix S step T tests inner ts) (dg i)):=.mk λA ρ Z σ s fl σ' Rm R q=>by
 refine cps λ_ KK=>?_
 obtain⟨pv,hp,e1,e2⟩:=N6 q
 refine KK ?_
 refine(exec_Assign_Name_used _ _ _ _ Zx).symm▸?_
 refine bp (wpAny_standAt (bp ?_))
 skip
 refine bp (bq (Pl (Q:=λ_ s'=>eY K O ρ Z s .next ⟨σ.loc.set i (some pv),hp⟩ .next s') (use:=some (PySem.assign (.Name x p) O.env)) rfl (λg hg=>by simpa using bj ha g hg) jc hi ht qG jO hs Rm R e1 λds D L s' e C=>?_) (λ_ s' hq=>br (br (eY.eq e2 hq))) λ_ _ e=>e)
 skip
 exact C.stored hv ok R λbn C7 Qs k=>⟨C7,Qs,λh' sb=>e▸k h' λb o hb e=>sb.extBut b o hb e⟩
end
end Mine
end
section
open PySem PySem.Calls PySem.W PyProof.Rows open Builtin Builtin.Str Builtin.Int
namespace Mine
noncomputable def MC(env:Env)(o:Expr)(name:Str)(apos:Pos)(args:List Expr)(pos:Pos):Prop :=
 ∃pl:Sem Bool,eval (.Call (.Attribute o name apos) args [] pos) env=(do
   let ov ← eval o env
   standAt apos.atName
   let(f,first) ← holding [ov] (getMethod ov name pl)
   callWith pos f first (backTo pos (starEach args env)) [])
section
variable {prog:Program}{w:World}{K:Addr->Option Obj}{O:Fx}{A:Around}{s:Shared}
noncomputable def qw:List PyData->Option (List Str)
|[]=>some []
|.str x::r=>(qw r).map (x::·)
|_=>none
theorem aaZ(x:bz h vs ds as)(e:qw ds=some ss):∃ps:List (Str×Tok),vs=strValues ps∧ps.map (·.1)=ss:=by
 revert ss
 refine bz.ind (Q:=λvs ds _=>∀{ss:List Str},qw ds=some ss->∃ps:List (Str×Tok),vs=strValues ps∧ps.map (·.1)=ss) (λe=>⟨[],rfl,bX e⟩) (λ{v vs d ds as bs} x _ ih ss e=>?_) x
 cases d with
|str y =>
  refine cps λ_ KK=>?_
  obtain⟨m,hm,h2⟩:=Option.map_eq_some_iff.mp (show(qw ds).map (y::·)=some ss from e)
  obtain⟨ps,hv,hs⟩:=ih hm
  obtain⟨t,hx,_⟩:=x.fQ
  refine KK ?_
  exact⟨(y,t)::ps,by rw[hx,hv];rfl,by rw[bP,hs];exact h2⟩
|_=>exact ar e
inductive M1 where
|join|split|count|index
noncomputable def M1.name:M1->Str
|.join=>"join"|.split=>"split"|.count=>"count"|.index=>"index"
noncomputable def M1.id:M1->String
|.join=>"str.join"|.split=>"str.split"|.count=>"str.count"|.index=>"str.index"
noncomputable def nQ(x:Str)(l:List PyData):Option PyData:=match qw l with
|some ss=>if ss.foldl (·+·.length+x.length) 0≤lim∧PyData.strOk (glued x ss)=true∧(glued x ss).cps.size≤lim then some (.str (glued x ss))else none
|none=>none
noncomputable def EZ(x y:Str):Option PyData :=
 if x.length≤lim∧(y.length==0)=false then
  if(decide (x.length < y.length)||decide (strKind x < strKind y))then some (.list [.str x])
  else if(occurrences x y 0 x.length (x.length+1)).isEmpty then some (.list [.str x])
  else if(partsBetween x (occurrences x y 0 x.length (x.length+1)) y.length).length≤lim∧(partsBetween x (occurrences x y 0 x.length (x.length+1)) y.length).all PyData.strOk=true then
   some (.list ((partsBetween x (occurrences x y 0 x.length (x.length+1)) y.length).map .str))else none
 else none
noncomputable def SN(x y:Str):Option PyData:=match occurrences x y 0 x.length 1 with
|i::_=>some (.int i)
|[]=>none
noncomputable def M1.f:M1->PyData->PyData->Option PyData
|.join,.str x,.list l=>nQ x l
|.split,.str x,.str y=>EZ x y
|.count,.str x,.str y=>some (.int (Txt.count x y))
|.index,.str x,.str y=>SN x y
|_,_,_=>none
theorem bz.strsFrom:∀(l:List Str) (t:Nat),l.all PyData.strOk=true->bz h (strsFrom t l) (l.map .str) []
|[],_,_=>.nil
|x::r,t,q=>by
  rw[List.all_cons,Bool.and_eq_true]at q
  exact .cons (.str x t q.1) (bz.strsFrom r (t+1) q.2)
theorem bO.newList(r:bz s.heap l ds []):bO s (.list ds) P (.ref s.heap.objs.size) {s with toks:=t,heap:=s.heap.push {cls:=.type "list",data:=.seq l.toArray}}:=by
 have k:∀b o,s.heap.get? b=some o->(s.heap.push {cls:=.type "list",data:=.seq l.toArray}).get? b=some o:=λb o e=>ao _ e
 have n:s.heap.get? s.heap.objs.size=none:=aK (am _)
 exact⟨_,t,s.heap.objs.size::[],rfl,k,.list (aX _ rfl) rfl rfl rfl rfl (r.keep λa ha o e=>k a o e),all1 (.inl n),λa ha=>bX ha▸⟨n,bv⟩⟩
theorem aa2{x:Str}{l:List PyData}{r:PyData}{C:Prop}(q:nQ x l=some r)(k:∀ss,qw l=some ss->ss.foldl (·+·.length+x.length) 0≤lim∧PyData.strOk (glued x ss)=true∧(glued x ss).cps.size≤lim->.str (glued x ss)=r->C):C:=by
 unfold nQ at q
 cases h:qw l with
|none=>rw[h]at q;exact ar q
|some ss=>rw[h]at q;exact d8 q (k ss h)
theorem tz:lim≤sizeLine:=by show 1048576≤2 ^ 24;decide
theorem TN{x:Str}{l:List PyData}{r:PyData}{v u:Value}{as bs:List Addr}{P:Addr->Prop}(ra:RD s.heap v (.str x) as)(rb:RD s.heap u (.list l) bs)(q:nQ x l=some r):wpAny (model prog w) A (call (.builtin "str.join") [v,u]) (bO s r P) a8 s:=by
 refine cps λ_ KK=>?_
 obtain⟨t,e1,_,hx⟩:=ra.fQ
 obtain⟨a,vs,n,uD,e2,_,ho,_,rs⟩:=rb.j8
 refine KK ?_
 refine e1.symm▸e2.symm▸?_
 refine aa2 q λss Xw hl hr=>?_
 refine cps λ_ KK=>?_
 obtain⟨ps,rG,hm⟩:=aaZ rs Xw
 refine KK ?_
 have i9:vs=(strValues ps).toArray:=rG▸rfl
 refine hr▸?_
 rw[← hm]at hl ⊢
 refine call_meets F.slot_str_join (typeIs_str _ _ _) F.entry_str_join (F.args_str_join_2 _ _) (meets_str_join_list x t a ps ?_) ⟨⟨_,ho,rfl,n,i9▸rfl⟩,?_⟩
 ·have:(ps.map (·.1)).toArray.foldl (·+·.length+x.length) 0=(ps.map (·.1)).foldl (·+·.length+x.length) 0:=by simp
  refine this.symm▸?_
  exact decide_eq_false (Nat.not_lt.mpr (aa hl.1 tz))
 ·match ps,hl with
 |[],hl=>exact⟨aa hl.2.2 tz,bO.val (.str _ _ hl.2.1)⟩
 |[p],hl=>exact bO.val (.str _ _ hl.2.1)
 |p::p'::r,hl=>exact⟨aa hl.2.2 tz,bO.val (.str _ _ hl.2.1)⟩
inductive zD(x y:Str)(r:PyData):Prop
|few:(decide (x.length < y.length)||decide (strKind x < strKind y))=true->.list [.str x]=r->zD x y r
|no:(decide (x.length < y.length)||decide (strKind x < strKind y))=false->(y.length==0)=false->(occurrences x y 0 x.length (x.length+1)).isEmpty=true->.list [.str x]=r->zD x y r
|yes:(decide (x.length < y.length)||decide (strKind x < strKind y))=false->(y.length==0)=false->x.length≤lim->(occurrences x y 0 x.length (x.length+1)).isEmpty=false->(partsBetween x (occurrences x y 0 x.length (x.length+1)) y.length).length≤lim∧(partsBetween x (occurrences x y 0 x.length (x.length+1)) y.length).all PyData.strOk=true ->
  .list ((partsBetween x (occurrences x y 0 x.length (x.length+1)) y.length).map .str)=r->zD x y r
theorem abw(q:EZ x y=some r):zD x y r:=by
 refine iF q λhl q=>?_
 cases h1:(decide (x.length < y.length)||decide (strKind x < strKind y))with
|true=>exact .few h1 (bX ((if_pos h1).symm.trans q))
|false =>
  have q:=(if_neg (h1.symm▸aw)).symm.trans q
  cases h2:(occurrences x y 0 x.length (x.length+1)).isEmpty with
 |true=>exact .no h1 hl.2 h2 (bX ((if_pos h2).symm.trans q))
 |false =>
   have q:=(if_neg (h2.symm▸aw)).symm.trans q
   exact d8 q λh3 e=>.yes h1 hl.2 hl.1 h2 h3 e
theorem SU(ra:RD s.heap v (.str x) as)(rb:RD s.heap u (.str y) bs)(q:EZ x y=some r):wpAny (model prog w) A (call (.builtin "str.split") [v,u]) (bO s r P) a8 s:=by
 refine cps λ_ KK=>?_
 obtain⟨t,e1,_,hx⟩:=ra.fQ
 obtain⟨u,e2,_,_⟩:=rb.fQ
 refine KK ?_
 refine e1.symm▸e2.symm▸?_
 cases abw q with
|few h1 e=>exact e▸call_meets F.slot_str_split (typeIs_str _ _ _) F.entry_str_split (F.args_str_split_2 _ _) (meets_str_split_cannot_occur x y t u h1) (bO.newList (.cons (.str _ _ hx) .nil))
|no h1 h0 h2 e=>exact e▸call_meets F.slot_str_split (typeIs_str _ _ _) F.entry_str_split (F.args_str_split_2 _ _) (meets_str_split_not_found x y t u h1 h0 h2) (bO.newList (.cons (.str _ _ hx) .nil))
|yes h1 h0 hl h2 h3 e=>exact e▸call_meets F.slot_str_split (typeIs_str _ _ _) F.entry_str_split (F.args_str_split_2 _ _) (meets_str_split_sep x y t u h1 h0 h2 (aa hl tz) (aa h3.1 tz)) (bO.newList (bz.strsFrom _ _ h3.2))
theorem WU(m:M1)(x:RD s.heap v d as)(y:RD s.heap u e bs)(q:m.f d e=some r):wpAny (model prog w) A (call (.builtin m.id) [v,u]) (bO s r P) a8 s:=by
 cases d with
|str z=>cases m with
 |join=>cases e with
  |list l=>exact TN x y q
  |_=>exact ar q
 |split=>cases e with
  |str z'=>exact SU x y q
  |_=>exact ar q
 |count=>cases e with
  |str z' =>
    refine cps λ_ KK=>?_
    obtain⟨t,e1,_,hx⟩:=x.fQ
    obtain⟨u,e2,_,_⟩:=y.fQ
    refine KK ?_
    refine e1.symm▸e2.symm▸(bX q)▸?_
    exact call_gives F.slot_str_count (typeIs_str _ _ _) F.entry_str_count (F.args_str_count_2 _ _) (gives_str_count z z' t u) (bO.val (.int _ _))
  |_=>exact ar q
 |index=>cases e with
  |str z' =>
    refine cps λ_ KK=>?_
    obtain⟨t,e1,_,hx⟩:=x.fQ
    obtain⟨u,e2,_,_⟩:=y.fQ
    refine KK ?_
    refine e1.symm▸e2.symm▸?_
    have q:(match occurrences z z' 0 z.length 1 with|i::_=>some (PyData.int i)|[]=>none)=some r:=q
    cases ho:occurrences z z' 0 z.length 1 with
   |nil=>rw[ho]at q;exact ar q
   |cons i rest =>
     replace q:=ho▸q
     refine(bX q)▸?_
     exact call_gives F.slot_str_index (typeIs_str _ _ _) F.entry_str_index (F.args_str_index_2 _ _) (gives_str_index z z' t u i rest ho) (bO.val (.int _ _))
  |_=>exact ar q
|_=>cases m<;>exact ar q
noncomputable def pU:PyData->Bool
|.str _=>true
|_=>false
theorem abP(q:pU d=true):∃x,d=.str x:=by
 cases d with
|str x=>exact⟨x,rfl⟩
|_=>exact absurd q aw
theorem Hr(m:M1)(x:RD s.heap v d as)(q:pU d=true)(h:Q (.builtin m.id,[v]) s):wpAny (model prog w) A (getMethod v m.name pl) Q a8 s:=by
 obtain⟨y,hd⟩:=abP q
 obtain⟨t,e,_,_⟩:=(hd▸x:RD s.heap v (.str y) as).fQ
 rw[e]at h ⊢
 cases m with
|join=>exact GM.join h
|split=>exact GM.split h
|count=>exact GM.count h
|index=>exact GM.index h
noncomputable def jx(m:M1)(Fo Fe:EF):NF:=aN Fo λa=>match a with
|.dat d=>if pU d then aN Fe λb=>ev m.f (.dat d) b else λ_=>none
|_=>λ_=>none
theorem Zl{m:M1}{Fe:EF}{a:PV}{σ:St}{r:PyData×List MO}{C:Prop}(q:(match a with|.dat d=>if pU d then aN Fe λb=>ev m.f (.dat d) b else λ_=>none|_=>λ_=>none:NF) σ=some r)
  (k:∀d,a=.dat d->pU d=true->aN Fe (λb=>ev m.f (.dat d) b) σ=some r->C):C:=by
 cases a with
|dat d =>
  have q:(if pU d then aN Fe λb=>ev m.f (.dat d) b else λ_=>none:NF) σ=some r:=q
  cases h:pU d with
 |true=>rw[if_pos h]at q;exact k d rfl h q
 |false=>rw[if_neg (h.symm▸aw)]at q;exact ar q
|_=>exact ar q
theorem bV.jx(m:M1){o e:Expr}{apos pos:Pos}{Fo Fe:EF}(ho:Ev prog w K O o Fo)(he:Ev prog w K O e Fe)(mc:MC O.env o m.name apos [e] pos)(hs:autoParam (∀env,starEach [e] env=[(false,eval e env)]) sI) :
  bV prog w K O (.Call (.Attribute o m.name apos) [e] [] pos) (Mine.jx m Fo Fe):=.mk λA ρ Z σ s d ai Rm R q=>by
 obtain⟨pl,mc⟩:=mc
 refine MethodCall_ (ho.then Rm R q λa va h1 aD s_1 e1 aO b3 aP=>Zl e1 λd_0 ha hd e1=>?_) mc
 replace b3:=ha▸b3
 obtain⟨as,ra,qa⟩:=id b3
 exact Hr m ra hd (callWith_method1 (wpAny_items_cons (he.then Rm aP e1 λb vb h2 eA bn e2 ct gQ cw=>wpAny_items_nil (BA e2 λx y hx hy i0 hh =>
  (VR.ext (Z:=Z) ct (λ_ h=>bT h) b3).elim λjb Go=>(jA cw.hr gQ hy).elim λbs rb =>
  bq (WU m (bX hx▸Go.1) rb.1 i0) (λv d4 n=>⟨_,_,λ_=>False,aO.trans ct,hh▸cw.hr,n,λc hc=>hc.elim⟩) λ_ _ q=>q)) (hs _)) (hs _) rfl)
end
theorem bz.erase(r:bz h vs ds as):∀k,∃bs,bz h (vs.eraseIdx k) (ds.eraseIdx k) bs∧∀a∈bs,a∈as :=
 bz.ind (Q:=λvs ds as=>∀k,∃bs,bz h (vs.eraseIdx k) (ds.eraseIdx k) bs∧∀a∈bs,a∈as) (λk=>⟨[],.nil,λ_ h=>h⟩)
  (λ{v vs d ds as bs} x r ih k=>match k with
  |0=>⟨bs,r,λa ha=>af _ ha⟩
  |k+1=>(ih k).elim λcs q=>⟨as++cs,.cons x q.1,λa ha=>(ae ha).elim (λha=>au _ ha) λha=>af _ (q.2 a ha)⟩) r
section
variable {prog:Program}{w:World}{K:Addr->Option Obj}{O:Fx}{A:Around}
theorem cE.Fp(H:HR ρ Z hp s.heap)(hi:ρ[i]?=some (r,r))(sb:Heap.SameBut r s.heap h')
  (e:h'.get? r=some {cls:=.type "list",dict:=none,data:=.seq vs n,slots:=#[]}) (rs:bz s.heap vs.toList ds as) (q:∀a∈as,a∉bF ρ∧a∉Z) (V:VR ρ Z h' pv v):cE ρ Z s pv (hp.set i (.lst ds)) v {s with heap:=h'}:=by
 have hr:r∈bF ρ:=List.mem_map_of_mem (f:=Prod.snd) (aT hi)
 have k:∀a o,a≠r->s.heap.get? a=some o->h'.get? a=some o:=λa o ha e=>sb.extBut a o ha e
 refine⟨ρ,⟨⟨[],by simp,λ_ h=>bT h⟩,λb o hb _ e=>k b o (λq=>hb (q▸hr)) e,λb o' e'=>?_,rfl,rfl,λ_ _ e=>e,λh=>h⟩,V,H.set hi k ⟨rfl,_,vs,n,as,e,rfl,rfl,rfl,rfl,rs.keep λa ha o e=>k a o (λm=>(q a ha).1 (m▸hr)) e,q⟩⟩
 by_cases hb:b=r
 ·exact⟨_,hb▸e⟩
 ·exact⟨o',k b o' hb e'⟩
theorem Dm(f:Array Value->Array Value)(vs)(n):∃n',Obj.mapSeq f {cls:=.type "list",dict:=none,data:=.seq vs n,slots:=#[]}={cls:=.type "list",dict:=none,data:=.seq (f vs) n',slots:=#[]}:=⟨_,rfl⟩
theorem FE{l:Addr}{o:Obj}{s:Shared}{name:Str}{id:String}{pl:Sem Bool}{Q:Value×List Value->Shared->Prop}(slot:Slot "list" name id)(ty:typeOf (.builtin id)=pure (.type "method_descriptor"))(ho:s.heap.get? l=some o)(hc:o.cls=.type "list")(hd:o.dict=none)
  (h:Q (.builtin id,[.ref l]) s):wpAny (model prog w) A (getMethod (.ref l) name pl) Q a8 s :=
 getMethod_builtin ⟨o,ho,hc⟩ PySem.F.plainAttrs_list slot ty (λa e=>by cases e;exact⟨o,ho,hd⟩) h
theorem HR.list{ρ:aJ}{Z:List Addr}{h:Heap}{hp:List MO}(H:HR ρ Z hp h){i:Nat}{l:List PyData}(hl:hp[i]?=some (.lst l)){r b:Addr}(hr:ρ[i]?=some (r,b)) :
  r=b∧∃vs n as,h.get? r=some {cls:=.type "list",dict:=none,data:=.seq vs n,slots:=#[]}∧bz h vs.toList l as∧∀a∈as,a∉bF ρ∧a∉Z:=by
 obtain⟨e,o,vs,n,as,ho,h1,h2,h3,h4,rs,q⟩:=H.lst hl hr
 exact⟨e,vs,n,as,e▸MF h1 h2 h3 h4▸ho,rs,q⟩
theorem Hn{β:Type}{o:Option MO}{f:List PyData->Option β}{r:β}{C:Prop}(e:(match o with|some (.lst l)=>f l|_=>none)=some r)(k:∀l,o=some (.lst l)->f l=some r->C):C:=by
 cases o with
|none=>exact ar e
|some mo=>cases mo with
 |lst l=>exact k l rfl e
 |_=>exact ar e
noncomputable def ul(i:Nat):PV->St->Option (PV×List MO):=λb σ=>match b with
|.dat d=>match σ.hp[i]? with
 |some (.lst l)=>if l.length≤lim then some (.dat .none,σ.hp.set i (.lst (l++[d])))else none
 |_=>none
|_=>none
noncomputable def xS(hp:List MO)(i:Nat):Bool:=match hp[i]? with
|some (.lst _)=>true
|_=>false
theorem PN(h:xS hp i=true):∃l,hp[i]?=some (.lst l):=by
 unfold xS at h
 cases e:hp[i]? with
|none=>rw[e]at h;exact absurd h aw
|some mo =>
  replace h:=e▸h
  cases mo with
 |lst l=>exact⟨l,rfl⟩
 |_=>exact absurd h aw
theorem abB{i:Nat}{b:PV}{σ:St}{pv:PV}{ai:List MO}{C:Prop}(e:ul i b σ=some (pv,ai))(k:∀d l,b=.dat d->σ.hp[i]?=some (.lst l)->l.length≤lim->.dat .none=pv->σ.hp.set i (.lst (l++[d]))=ai->C):C:=by
 cases b with
|dat d=>exact Hn e λl hl e=>d8 e λhlen e=>k d l rfl hl hlen (a5 e).1 (a5 e).2
|_=>exact ar e
noncomputable def mT(Fo Fe:EF):EF:=aN Fo λa σ=>match a with
|.obj i=>if xS σ.hp i then aN Fe (ul i) σ else none
|_=>none
theorem append_list{ρ eA:aJ}{Z:List Addr}{s bn:Shared}{loc:Loc}{hp:List MO}{i:Nat}{r:Addr}{l:List PyData}{d:PyData}{v:Value}(cw:SR K O eA Z ⟨loc,hp⟩ bn)(x:Ext [] ρ s eA bn)(hl:hp[i]?=some (.lst l))(OO:eA[i]?=some (r,r))(hlen:l.length≤lim)(V:VR eA Z bn.heap (.dat d) v) :
  wpAny (model prog w) A (call (.builtin "list.append") [.ref r,v]) (cE ρ Z s (.dat .none) (hp.set i (.lst (l++[d])))) a8 bn:=by
 refine cps λ_ KK=>?_
 obtain⟨_,vs,n,as,ho,rs,qa⟩:=cw.hr.list hl OO
 obtain⟨bs,rb,qb⟩:=V
 refine KK ?_
 have e3:=rs.length
 replace e3:=Array.length_toList▸e3
 exact wpAny_list_append_plain (hsz:=e3.symm▸aa hlen b9) ⟨n,ho⟩ λh' eZ sb=>eZ.elim λn' eZ=>cE.trans x (cE.Fp (as:=as++(bs++[])) cw.hr OO sb eZ (Array.toList_push.symm▸rs.append (.cons rb .nil))
  (λa ha=>(ae ha).elim (qa a) λha=>qb a (by rwa [bM]at ha)) ⟨[],.none,λ_ h=>bT h⟩)
theorem Ev.append{o e:Expr}{apos pos:Pos}{Fo Fe:EF}(ho:Ev prog w K O o Fo)(he:Ev prog w K O e Fe)(mc:MC O.env o "append" apos [e] pos)(hs:autoParam (∀env,starEach [e] env=[(false,eval e env)]) sI) :
  Ev prog w K O (.Call (.Attribute o "append" apos) [e] [] pos) (mT Fo Fe):=.mk λA ρ Z σ s pv ai Rm R q=>by
 obtain⟨pl,mc⟩:=mc
 refine MethodCall_ (ho.then Rm R q λa va h1 aD s_1 e1 aO b3 aP=>?_) mc
 cases a with
|obj i =>
  exact iF e1 λhi e1=>by
   refine cps λ_ KK=>?_
   obtain⟨l0,S6⟩:=PN hi
   obtain⟨r,b,hr,hv⟩:=b3
   obtain⟨kU,vs0,n0,as0,ho0,_,_⟩:=aP.hr.list S6 hr
   refine KK ?_
   replace hr:=kU.symm▸hr
   refine hv.symm▸?_
   exact FE PySem.F.slot_list_append PySem.F.type_list_append ho0 rfl rfl (callWith_method1 (wpAny_items_cons (he.then Rm aP e1 λb vb h2 eA bn e2 ct gQ cw=>wpAny_items_nil (abB e2 λd l hd hl hlen oB oh =>
    oB▸oh▸append_list cw (aO.trans ct) hl (ct.old hr) hlen (hd▸gQ))) (hs _)) (hs _) rfl)
|_=>exact ar e1
noncomputable def mQ(i k:Nat)(l:List PyData)(hp:List MO):Option (PV×List MO):=if l.length≤lim then match l[k]? with
|some d=>some (.dat d,hp.set i (.lst (l.eraseIdx k)))
|none=>none else none
noncomputable def oS(Fo:EF)(first:Bool):EF:=aN Fo λa σ=>match a with
|.obj i=>match σ.hp[i]? with
 |some (.lst l)=>mQ i (if first then 0 else l.length - 1) l σ.hp
 |_=>none
|_=>none
theorem T5{i k:Nat}{l:List PyData}{hp:List MO}{pv:PV}{ai:List MO}{C:Prop}(e:mQ i k l hp=some (pv,ai))(c:∀d,l.length≤lim->l[k]?=some d->.dat d=pv->hp.set i (.lst (l.eraseIdx k))=ai->C):C:=by
 refine iF e λhl e=>?_
 have e:(match l[k]? with|some d=>some (PV.dat d,hp.set i (.lst (l.eraseIdx k)))|none=>none)=some (pv,ai):=e
 cases h:l[k]? with
|none=>rw[h]at e;exact ar e
|some d=>rw[h]at e;exact c d hl h (b7 e).1 (b7 e).2
theorem Sd(vs:Array Value)(k:Nat):(vs.eraseIdxIfInBounds k).toList=vs.toList.eraseIdx k:=by
 rw[Array.eraseIdxIfInBounds]
 by_cases h:k < vs.size
 ·rw[dif_pos h,Array.toList_eraseIdx]
 ·rw[dif_neg h,List.eraseIdx_of_length_le (by rw[Array.length_toList];exact Nat.le_of_not_lt h)]
theorem cE.pop{ρ:aJ}{Z:List Addr}{s:Shared}{hp ai:List MO}{i k:Nat}{r:Addr}{vs:Array Value}{n:Nat}{l:List PyData}{as:List Addr}{pv:PV}(H:HR ρ Z hp s.heap)(hi:ρ[i]?=some (r,r))
  (ho:s.heap.get? r=some {cls:=.type "list",dict:=none,data:=.seq vs n,slots:=#[]}) (rs:bz s.heap vs.toList l as) (q:∀a∈as,a∉bF ρ∧a∉Z) (e:mQ i k l hp=some (pv,ai)) :
  ∃y,vs[k]?=some y∧cE ρ Z s pv ai y {s with heap:=s.heap.update r (Obj.mapSeq λxs=>xs.eraseIdxIfInBounds k)}:=T5 e λd _ hd oB oh=>by
 refine cps λ_ KK=>?_
 obtain⟨y,bs,hy,ry,qy⟩:=rs.get k d hd
 rw[Array.getElem?_toList]at hy
 obtain⟨n',hm⟩:=Dm (λxs=>xs.eraseIdxIfInBounds k) vs n
 have hr:r∈bF ρ:=List.mem_map_of_mem (f:=Prod.snd) (aT hi)
 have sb:Heap.SameBut r s.heap (s.heap.update r (Obj.mapSeq λxs=>xs.eraseIdxIfInBounds k)):=Heap.SameBut.update ..
 have e':(s.heap.update r (Obj.mapSeq λxs=>xs.eraseIdxIfInBounds k)).get? r=some {cls:=.type "list",dict:=none,data:=.seq (vs.eraseIdxIfInBounds k) n',slots:=#[]}:=by
  rw[Heap.get?_update_self _ ho (by rw[hm];rfl),hm]
 obtain⟨cs,rc,qc⟩:=rs.erase k
 refine KK ?_
 exact⟨y,hy,oB▸oh▸cE.Fp H hi sb e' (by rw[Sd];exact rc) (λa ha=>q a (qc a ha)) ⟨bs,ry.keep λa ha o e=>sb.extBut a o (λm=>(q a (qy a ha)).1 (m▸hr)) e,λa ha=>q a (qy a ha)⟩⟩
theorem IH(e:mQ i k l hp=some r):l.length≤lim:=iF e λh _=>h
theorem pop_list{o:Expr}{apos pos:Pos}{args:List Expr}{Fo:EF}{first:Bool}(ho:Ev prog w K O o Fo)(mc:MC O.env o "pop" apos args pos){ρ:aJ}{Z:List Addr}{σ:St}{s:Shared}{pv:PV}{ai:List MO}(Rm:cJ A O.k)(R:SR K O ρ Z σ s)(q:oS Fo first σ=some (pv,ai)){Q:Value->Shared->Prop}
  (k:∀r vs n l (s_1:Shared) y i h1 as,s_1.heap.get? r=some {cls:=.type "list",dict:=none,data:=.seq vs n,slots:=#[]}->l.length≤lim->vs.size=l.length->vs[if first then 0 else l.length - 1]?=some y->mQ i (if first then 0 else l.length - 1) l h1=some (pv,ai)->bz s_1.heap vs.toList l as ->
   cE ρ Z s pv ai y {s_1 with heap:=s_1.heap.update r (Obj.mapSeq λxs=>xs.eraseIdxIfInBounds (if first then 0 else l.length - 1))}->wpAny (model prog w) A (callWith pos (.builtin "list.pop") [.ref r] (backTo pos (starEach args O.env)) []) Q a8 s_1):wpAny (model prog w) A (eval (.Call (.Attribute o "pop" apos) args [] pos) O.env) Q a8 s:=by
 obtain⟨pl,mc⟩:=mc
 refine MethodCall_ (ho.then Rm R q λa va h1 aD s_1 e1 aO b3 aP=>?_) mc
 cases a with
|obj i =>
  exact Hn e1 λl hl e1=>by
   refine cps λ_ KK=>?_
   obtain⟨r,b,hr,hv⟩:=b3
   obtain⟨kU,vs,n,as,ho,rs,qa⟩:=aP.hr.list hl hr
   have e3:=rs.length
   replace e3:=Array.length_toList▸e3
   replace hr:=kU.symm▸hr
   obtain⟨y,hy,P⟩:=cE.pop aP.hr hr ho rs qa e1
   refine KK ?_
   refine hv.symm▸?_
   exact FE PySem.F.slot_list_pop PySem.F.type_list_pop ho rfl rfl (k r vs n l s_1 y i h1 as ho (IH e1) e3 hy e1 rs (cE.trans aO P))
|_=>exact ar e1
theorem cE.toks(p:cE ρ Z s pv ai v s'):cE ρ Z s pv ai v {s' with toks:=t} :=
 Exists.elim p λaA p=>⟨aA,p.1.trans (Ext.of_keep (h:=s'.heap) λ_ _ e=>e),p.2⟩
theorem Ev.ON(ho:Ev prog w K O o Fo)(mc:MC O.env o "pop" apos [.Constant (.int 0) kk cp] pos) :
  Ev prog w K O (.Call (.Attribute o "pop" apos) [.Constant (.int 0) kk cp] [] pos) (oS Fo true):=.mk λA ρ Z σ s pv ai Rm R q =>
 pop_list ho mc Rm R q λr vs n l s_1 y i h1 as ho hl e3 hy e1 rs P=>by
  have DU:0 < vs.size:=(Array.getElem?_eq_some_iff.mp hy).1
  exact callWith_method1 (wpAny_items_cons (wpAny_Constant_int (wpAny_items_nil (call_meets PySem.F.slot_list_pop ⟨_,ho,rfl⟩ PySem.F.entry_list_pop (PySem.F.args_list_pop_2 _ _) (PySem.MeetsSeq.list_pop_at r vs n 0 s_1.toks 0 y (by decide) (by unfold seqIndex?;simp[DU]) hy (e3.symm▸aa hl b9)) ⟨ho,P.toks⟩))) rfl) rfl rfl
end
end Mine
end
section
open PySem PySem.Calls PySem.W PyProof.Rows
namespace Mine
noncomputable def wZ(O:Fx)(ρ:aJ)(Z:List Addr)(s:Shared)(fl:Fl)(σ':St)(f:Flow)(s':Shared):Prop:=∃aA,Ext O.own ρ s aA s'∧HR aA Z σ'.hp s'.heap∧sk aA Z s'.heap fl f
structure oq(prog:Program)(w:World)(K:Addr->Option Obj)(O:Fx)(st:List Stmt)(F:XF):Prop where
 run:∀(A:Around) (ρ:aJ) (Z:List Addr) (σ:St) (s:Shared) (fl:Fl) (σ':St),cJ A O.k->SR K O ρ (O.own++Z) σ s->(∀a∈O.own,a∉Z)->F σ=some (fl,σ') ->
  wpAny (model prog w) A (execs st O.env) (wZ O ρ Z s fl σ') a8 s
theorem sk.weak{ρ:aJ}{Z Z':List Addr}{h:Heap}(hZ:∀a∈Z',a∈Z){fl:Fl}{f:Flow}(x:sk ρ Z h fl f):sk ρ Z' h fl f:=by
 cases fl with
|ret pv=>exact x.elim λv q=>⟨v,q.1,q.2.weak hZ⟩
|_=>exact x
theorem eY.fin{K:Addr->Option Obj}{O:Fx}{ρ:aJ}{Z:List Addr}{s s':Shared}{fl:Fl}{σ':St}{f:Flow}(p:eY K O ρ (O.own++Z) s fl σ' f s'):wZ O ρ Z s fl σ' f s' :=
 p.elim λaA q=>⟨aA,q.1,q.2.1.hr.weak λa h=>af _ h,q.2.2.weak λa h=>af _ h⟩
theorem wZ.trans{O:Fx}{ρ aD:aJ}{Z X:List Addr}{s s_1 s':Shared}{fl:Fl}{σ':St}{f:Flow}(x:Ext X ρ s aD s_1)(hX:∀a∈X,a∈O.own)(p:wZ O aD Z s_1 fl σ' f s'):wZ O ρ Z s fl σ' f s':=p.elim λaA q=>⟨aA,(x.weak hX).trans q.1,q.2⟩
theorem a6.fin{prog:Program}{w:World}{K:Addr->Option Obj}{O:Fx}{st:List Stmt}{F:XF}(h:a6 prog w K O st F):oq prog w K O st F:=.mk λA ρ Z σ s fl σ' Rm R _ q =>
 bq (h.run A ρ _ σ s fl σ' Rm R q) (λf s' p=>p.fin) λ_ _ q=>q
theorem oq.cons{prog:Program}{w:World}{K:Addr->Option Obj}{O:Fx}{st:Stmt}{rest:List Stmt}{F G:XF}(h:Ex prog w K O st F)(k:oq prog w K O rest G):oq prog w K O (st::rest) (aH F G):=.mk λA ρ Z σ s fl σ' Rm R ho e =>
 wpAny_execs_cons (G4 e (λiN e1 e2=>bq (h.run A ρ _ σ s _ _ Rm R e1) (λf s_1 p=>by
  refine cps λ_ KK=>?_
  obtain⟨aD,aO,aP,q⟩:=p
  refine KK ?_
  refine(show f=.next from q).symm▸?_
  exact bq (k.run A aD Z iN s_1 _ _ Rm aP ho e2) (λf bn p=>p.trans aO λ_ h=>h) λ_ _ q=>q) λ_ _ q=>q)
  λe1 hn=>bq (h.run A ρ _ σ s _ _ Rm R e1) (λf s_1 p=>by
   have p:=p.fin
   cases fl with
  |next=>exact absurd rfl hn
  |ret pv=>obtain⟨aD,aO,aP,v,hf,r⟩:=p;rw[hf];exact⟨aD,aO,aP,v,rfl,r⟩
  |brk=>obtain⟨aD,aO,aP,q⟩:=p;rw[show f=.brk from q];exact⟨aD,aO,aP,rfl⟩
  |cont=>obtain⟨aD,aO,aP,q⟩:=p;rw[show f=.cont from q];exact⟨aD,aO,aP,rfl⟩) λ_ _ q=>q)
noncomputable def uP(ρ:aJ)(Z:List Addr)(s:Shared)(pv:PV)(ai:List MO)(r:Result)(s':Shared):Prop:=match r with|.ok (.ret v)=>cE ρ Z s pv ai v s'|.ok _=>False|.error e=>a8 e s'
structure dM(prog:Program)(w:World)(K:Addr->Option Obj)(a:Addr)(k:Nat)(G:cV):Prop where
 run:∀(A:Around) (ρ:aJ) (Z:List Addr) (hp:List MO) (s:Shared) (ps:List PV) (vs:List Value) (pv:PV) (ai:List MO),cJ A k->HR ρ Z hp s.heap->dl K s.heap->kJ K ρ Z->cU ρ Z s.heap ps vs->G ps hp=some (pv,ai) ->
  codeAny (model prog w) A (.call (.ref a) ⟨vs,[]⟩) (uP ρ Z s pv ai) s
theorem uP.elim{ρ:aJ}{Z:List Addr}{s s':Shared}{pv:PV}{ai:List MO}{r:Result}{C:Prop}(p:uP ρ Z s pv ai r s')(k:∀v,r=.ok (.ret v)->cE ρ Z s pv ai v s'->C):C:=by
 cases r with
|ok f=>cases f with
 |ret v=>exact k v rfl p
 |_=>exact False.elim p
|error e=>exact False.elim p
theorem dM.ok{prog:Program}{w:World}{K:Addr->Option Obj}{a:Addr}{k:Nat}{G:cV}(h:dM prog w K a k G):tJ prog w K a k G:=.mk λA ρ Z hp s ps vs pv ai Rm H top off V q=>wpAny_call (h.run A ρ Z hp s ps vs pv ai Rm H top off V q)
noncomputable def PV.closed(n:Nat):PV->Bool
|.dat _=>true
|.obj i=>decide (i < n)
|.gH i=>decide (i < n)
|.objs _ l=>l.all λi=>decide (i < n)
noncomputable def MO.closed(n:Nat):MO->Bool
|.lst _=>true
|.ins _ bK=>bK.all λp=>p.2.closed n
|.cH i _ _=>decide (i < n)
|.tab _ _=>true
noncomputable def trunc(n:Nat)(pv:PV)(hp:List MO):Option (PV×List MO):=if pv.closed n&&((hp.take n).all (MO.closed n)&&decide (n≤hp.length))then some (pv,hp.take n)else none
noncomputable def dI(ps:List PV)(n:Nat):Loc:=ps.map some++List.replicate n none
noncomputable def dX(np N:Nat)(keep:Bool)(B:XF):cV:=λps hp=>if ps.length==np then match B ⟨dI ps N,hp⟩with
|some (.ret pv,σ)=>if keep then some (pv,σ.hp)else trunc hp.length pv σ.hp
|some (.next,σ)=>if keep then some (.dat .none,σ.hp)else trunc hp.length (.dat .none) σ.hp
|_=>none else none
section
variable {ρ:aJ}{Z:List Addr}{h:Heap}{n:Nat}
theorem BI{ρ e:aJ}{i:Nat}{p:Addr×Addr}(hi:i < ρ.length)(h:(ρ++e)[i]?=some p):ρ[i]?=some p:=by rwa [List.getElem?_append_left hi]at h
theorem wD(h:b∉bF (ρ++e)):b∉bF ρ:=λq=>h (by rw[n5];exact au _ q)
theorem Gn{e:aJ}{as:List Addr}(q:∀a∈as,a∉bF (ρ++e)∧a∉Z):∀a∈as,a∉bF ρ∧a∉Z:=λa ha=>⟨wD (q a ha).1,(q a ha).2⟩
theorem VR.forget{e:aJ}{p:PV}{v:Value}(c:p.closed ρ.length=true)(x:VR (ρ++e) Z h p v):VR ρ Z h p v:=by
 cases p with
|dat d=>exact x.elim λas q=>⟨as,q.1,Gn q.2⟩
|obj i=>exact x.elim λr q=>q.elim λb q=>⟨r,b,BI (of_decide_eq_true c) q.1,q.2⟩
|gH i=>exact x.elim λr q=>q.elim λb q=>q.elim λa q=>q.elim λfs q=>⟨r,b,a,fs,BI (of_decide_eq_true c) q.1,q.2.1,q.2.2.1,Gn q.2.2.2⟩
|objs lst l =>
  obtain⟨a,o,vs,n,e,ho,h1,h2,h3,h4,h5,h6⟩:=x
  exact⟨a,o,vs,n,e,ho,h1,h2,h3,λj i hj=>(h4 j i hj).elim λx q=>q.elim λy q=>⟨x,y,q.1,BI (of_decide_eq_true (bj c i (aT hj))) q.2⟩,wD h5,h6⟩
theorem MR.forget{e:aJ}{r b:Addr}{mo:MO}(c:mo.closed ρ.length=true)(x:MR (ρ++e) Z h r b mo):MR ρ Z h r b mo:=by
 cases mo with
|lst l =>
  obtain⟨hr,o,vs,n,as,ho,h1,h2,h3,h4,rs,q⟩:=x
  exact⟨hr,o,vs,n,as,ho,h1,h2,h3,h4,rs,Gn q⟩
|ins C bK =>
  obtain⟨hr,hz,o,mA,ho,h1,h2,h3,h4,h5,h6,h7⟩:=x
  exact⟨wD hr,hz,o,mA,ho,h1,h2,h3,h4,h5,λp hp=>(h6 p hp).elim λv q=>⟨v,q.1,q.2.forget (bj c p hp)⟩,h7⟩
|cH i f dn =>
  obtain⟨hr,m,t,x,y,h1,h2,h3,h4,h5⟩:=x
  exact⟨hr,m,t,x,y,BI (of_decide_eq_true c) h1,wD h2,h3,h4,h5⟩
|tab _ _=>exact x
theorem Ext.forget(x:Ext X ρ s (ρ++e) s'):Ext X ρ s ρ s':=⟨⟨[],by simp,λ_ h=>bT h⟩,x.heap,x.live,x.drawn,x.os,x.gens,x.bare⟩
theorem ZR{a b c:Bool}{C:Prop}(h:(a&&(b&&c))=true)(k:a=true->b=true->c=true->C):C:=by
 cases a with
|false=>exact kP h
|true=>cases b with
 |false=>exact kP h
 |true=>exact k rfl rfl h
theorem RP{n:Nat}{pv wY:PV}{hp ai:List MO}{C:Prop}(e:Mine.trunc n pv hp=some (wY,ai))(k:pv.closed n=true->(hp.take n).all (MO.closed n)=true->n≤hp.length->pv=wY->hp.take n=ai->C):C :=
 d8 e λc e=>ZR c λc1 c2 c3=>k c1 c2 (of_decide_eq_true c3) (a5 e).1 (a5 e).2
theorem cE.cut(p:cE ρ Z s pv hp v s')(c1:pv.closed ρ.length=true)(c2:(hp.take ρ.length).all (MO.closed ρ.length)=true)(c3:ρ.length≤hp.length):cE ρ Z s pv (hp.take ρ.length) v s':=by
 refine cps λ_ KK=>?_
 obtain⟨aA,x,V,H⟩:=p
 obtain⟨e,he,_⟩:=x.more
 refine KK ?_
 subst he
 exact⟨ρ,x.forget,V.forget c1,HR.forget (ai:=hp.drop ρ.length) ((congrArg (λl=>HR (ρ++e) Z l s'.heap) (List.take_append_drop ρ.length hp)).mpr H) (by rw[List.length_take];exact(Nat.min_eq_left c3).symm) λi mo r b hi hm=>hm.forget (bj c2 mo (aT hi))⟩
theorem cE.trunc{s s':Shared}{pv wY:PV}{hp KA ai:List MO}{v:Value}(H0:ρ.length=KA.length)(p:cE ρ Z s pv hp v s')(e:trunc KA.length pv hp=some (wY,ai)):cE ρ Z s wY ai v s' :=
 RP e λc1 c2 c3 e1 e2=>by
  refine e1▸e2▸?_
  rw[← H0]at c1 c2 c3 ⊢
  exact p.cut c1 c2 c3
theorem Ti{kind:Str->Option NameKind}{x n:Str}{v:Value}{m:Str->Option Value}(h:n≠x):(if kind n=some .local then λy=>if y=n then some v else m y else m) x=m x:=by
 split
 ·exact if_neg λq=>h q.symm
 ·rfl
theorem Kt{kind:Str->Option NameKind}{x:Str}:∀(binds:List (Str×Value)) (m:Str->Option Value),(∀p∈binds,p.1≠x)->bindL kind binds m x=m x
|[],m,_=>rfl
|p::r,m,h=>(Kt r _ λp hp=>h p (al _ hp)).trans (Ti (h p (aq ..)))
theorem U8{kind:Str->Option NameKind}{x n:Str}{v:Value}{m:Str->Option Value}(h:n≠x):(if kind n=some .local then m else λy=>if y=n then some v else m y) x=m x:=by
 split
 ·rfl
 ·exact if_neg λq=>h q.symm
theorem Iy{kind:Str->Option NameKind}{x:Str}:∀(binds:List (Str×Value)) (m:Str->Option Value),(∀p∈binds,p.1≠x)->bindC kind binds m x=m x
|[],m,_=>rfl
|p::r,m,h=>(Iy r _ λp hp=>h p (al _ hp)).trans (U8 (h p (aq ..)))
theorem CE{f:List (Str×Value)->(Str->Option Value)->Str->Option Value}{st:Str->Value->(Str->Option Value)->Str->Option Value}(hf:∀n v r m,f ((n,v)::r) m=f r (st n v m)){x:Str}(h1:∀v m,st x v m x=some v)(ho:∀r m,(∀p∈r,p.1≠x)->f r m x=m x) :
  ∀(names:List Str) (vs:List Value) (m:Str->Option Value) (i:Nat) (v:Value),names.Nodup->names[i]?=some x->vs[i]?=some v->f (names.zip vs) m x=some v
|[],_,_,i,_,_,h,_=>ar h
|n::ns,[],_,i,_,_,_,h=>ar h
|n::ns,u::us,m,0,v,hn,h,h'=>by
  have e:n=x:=bX h
  have e':u=v:=bX h'
  subst e
  show f ((n,u)::ns.zip us) m n=_
  rw[hf,ho _ _ λp hp q=>(List.nodup_cons.mp hn).1 (q▸(List.of_mem_zip (a:=p.1) (b:=p.2) hp).1),h1,e']
|n::ns,u::us,m,i+1,v,hn,h,h'=>(congrFun (hf n u (ns.zip us) m) x).trans (CE hf h1 ho ns us _ i v (List.nodup_cons.mp hn).2 h h')
theorem T4{kind:Str->Option NameKind}{x:Str}(hk:kind x=some .local)(names:List Str)(vs:List Value)(m:Str->Option Value)(i:Nat)(v:Value):names.Nodup->names[i]?=some x->vs[i]?=some v->bindL kind (names.zip vs) m x=some v :=
 CE (f:=bindL kind) (st:=λn v m=>if kind n=some .local then λy=>if y=n then some v else m y else m) (λ_ _ _ _=>rfl) (λv m=>by rw[if_pos hk,if_pos rfl]) Kt names vs m i v
theorem abK{kind:Str->Option NameKind}{x:Str}(hk:kind x≠some .local)(names:List Str)(vs:List Value)(m:Str->Option Value)(i:Nat)(v:Value):names.Nodup->names[i]?=some x->vs[i]?=some v->bindC kind (names.zip vs) m x=some v :=
 CE (f:=bindC kind) (st:=λn v m=>if kind n=some .local then m else λy=>if y=n then some v else m y) (λ_ _ _ _=>rfl) (λv m=>by rw[if_neg hk,if_pos rfl]) Iy names vs m i v
theorem cellsFrom_some:∀(names:List (Str×NameKind)) (n m:Nat) (acc:List (Str×Addr)) (Dn:List (Str×Addr)) (x:Str),((acc.lookup x).isSome=(Dn.lookup x).isSome)->((cellsFrom n names acc).lookup x).isSome=((cellsFrom m names Dn).lookup x).isSome
|[],_,_,_,_,_,h=>h
|(y,k)::r,n,m,acc,Dn,x,h=>by
  unfold cellsFrom
  split
  ·exact cellsFrom_some r _ _ _ _ x (by
    rw[List.lookup_cons,List.lookup_cons]
    cases x==y
    ·exact h
    ·rfl)
  ·exact cellsFrom_some r _ _ _ _ x h
end
noncomputable def fS(fd:FuncData)(a:Addr)(vs:List (Nat×Str))(k:Nat)(L:Addr):Fx:=⟨callEnvC fd L a,fd.scope,vs,L::fd.scope.names.filterMap (λx=>(cellsFrom (L+1) fd.scope.names []).lookup x.1),k⟩
theorem Bd:∀(names:List (Str×NameKind)) (n:Nat) (acc:List (Str×Addr)) (x:Str) (c:Addr),(x,c)∈cellsFrom n names acc->(∃k,(x,k)∈names)∨(x,c)∈acc
|[],_,_,_,_,h=>.inr h
|(y,k)::r,n,acc,x,c,h=>by
  unfold cellsFrom at h
  split at h
  ·rcases Bd r _ _ x c h with⟨k',q⟩|q
   ·exact .inl ⟨k',al _ q⟩
   ·rcases aI q with q|q
    ·cases q;exact .inl ⟨k,aq ..⟩
    ·exact .inr q
  ·rcases Bd r _ _ x c h with⟨k',q⟩|q
   ·exact .inl ⟨k',al _ q⟩
   ·exact .inr q
theorem Ml(hk:fd.scope.names.lookup x=some .cell)(h:(fS fd a vs k L).env.cells.lookup x=some c):iB (fS fd a vs k L) x:=by
 refine .inr ⟨c,hk,h,al _ ?_⟩
 rcases Bd _ _ _ x c (mem_of_lookup h)with⟨k',q⟩|q
 ·exact List.mem_filterMap.mpr ⟨(x,k'),q,h⟩
 ·exact bT q
noncomputable def AN(sc:Scope)(names:List Str)(vs:List (Nat×Str)):Bool :=
 sc.kind==.function&&(!sc.isGenerator&&(!sc.isCoroutine&&(
 names.all (λx=>match sc.names.lookup x with
 |some .local=>true
 |some .cell=>((cellsFrom 0 sc.names []).lookup x).isSome
 |_=>false)&&(decide names.Nodup&&(
 vs.all (λp=>vs.all λq=>p.2 != q.2||p.1==q.1) &&
 vs.all (λp=>decide (names.length≤p.1)||names[p.1]?==some p.2))))))
section
variable {prog:Program}{w:World}{K:Addr->Option Obj}{mg mb:Str->Option Value}
theorem TS{ps:List PV}{n i:Nat}{pv:PV}(h:(dI ps n)[i]?=some (some pv)):ps[i]?=some pv:=by
 unfold dI at h
 by_cases hi:i < ps.length
 ·replace h:=(List.getElem?_map)▸(List.getElem?_append_left ((bI ..).symm▸hi))▸h
  cases q:ps[i]? with
 |none=>rw[q]at h;exact ar h
 |some p=>rw[q]at h;rw[bX (bX h)]
 ·replace h:=(List.getElem?_replicate)▸(List.getElem?_append_right ((bI ..).symm▸Nat.le_of_not_lt hi))▸h
  exact d8 h λ_ e=>ar e
theorem cU.get{ρ:aJ}{Z:List Addr}{h:Heap}{ps:List PV}{vs:List Value}(V:cU ρ Z h ps vs):∀(i:Nat) (p:PV),ps[i]?=some p->∃v,vs[i]?=some v∧VR ρ Z h p v :=
 cU.rec (motive:=λps vs _=>∀(i:Nat) (p:PV),ps[i]?=some p->∃v,vs[i]?=some v∧VR ρ Z h p v) (λ_ _ e=>ar e) (λx _ ih i p e=>match i,e with
 |0,e=>⟨_,rfl,bX e▸x⟩
 |i+1,e=>ih i p e) V
theorem cJ.deeper(h:cJ A (k+1)):cJ (A.deeper env) k :=
 ⟨h.handled,by have:=h.depth;show A.depth+1+k < 900;exact ah (aU (bg A.depth 1 k)) this,by have:=h.units;show A.units+3+40*k < 9000;(exact Dz (by assumption) (by decide))⟩
theorem TG{a b c d e f g:Bool}{C:Prop}(h:(a&&(!b&&(!c&&(d&&(e&&(f&&g))))))=true)(k:a=true->b=false->c=false->d=true->e=true->f=true->g=true->C):C:=by
 simp only[Bool.and_eq_true,Bool.not_eq_true']at h
 exact k h.1 h.2.1 h.2.2.1 h.2.2.2.1 h.2.2.2.2.1 h.2.2.2.2.2.1 h.2.2.2.2.2.2
theorem Rd{sc:Scope}{x:Str}(h:(match sc.names.lookup x with
 |some .local=>true
 |some .cell=>((cellsFrom 0 sc.names []).lookup x).isSome
 |_=>false)=true):sc.names.lookup x=some .local∨(sc.names.lookup x=some .cell∧∀L,((cellsFrom L sc.names []).lookup x).isSome=true):=by
 cases e:sc.names.lookup x with
|none=>rw[e]at h;exact kP h
|some k =>
  rw[e]at h
  cases k with
 |«local»=>exact .inl rfl
 |cell=>exact .inr ⟨rfl,λL=>by rw[cellsFrom_some _ L 0 [] [] x rfl];exact h⟩
 |_=>exact kP h
noncomputable def acM(keep:Bool)(n:Nat)(pv:PV)(hp:List MO):Option (PV×List MO):=if keep then some (pv,hp)else trunc n pv hp
theorem Qo{np N:Nat}{keep:Bool}{B:XF}{ps:List PV}{hp:List MO}{pv:PV}{ai:List MO}{C:Prop}(q:dX np N keep B ps hp=some (pv,ai))
  (k:∀fl q5 σ,ps.length=np->B ⟨dI ps N,hp⟩=some (fl,σ)->(fl=.ret q5∨(fl=.next∧q5=.dat .none))->acM keep hp.length q5 σ.hp=some (pv,ai)->C):C:=by
 unfold dX at q
 refine iF q λhl q=>?_
 cases h:B ⟨dI ps N,hp⟩with
|none=>rw[h]at q;exact ar q
|some x =>
  obtain⟨fl,σ⟩:=x
  rw[h]at q
  cases fl with
 |ret q5=>exact k _ q5 σ (eq_of_beq hl) h (.inl rfl) q
 |next=>exact k _ _ σ (eq_of_beq hl) h (.inr ⟨rfl,rfl⟩) q
 |_=>exact ar q
theorem sk.val{ρ:aJ}{Z:List Addr}{h:Heap}{fl:Fl}{f:Flow}{pv:PV}(e:fl=.ret pv∨(fl=.next∧pv=.dat .none))(r:sk ρ Z h fl f):(∃v,f=.ret v∧VR ρ Z h pv v)∨(f=.next∧VR ρ Z h pv .none):=by
 rcases e with rfl|⟨rfl,rfl⟩
 ·exact .inl r
 ·exact .inr ⟨r,[],.none,λ_ h=>bT h⟩
theorem dM.MB{a:Addr}{o:Obj}{fd:FuncData}{body:List Stmt}{names:List Str}{vars:List (Nat×Str)}{k N:Nat}{B:XF}(keep:Bool)(gl:Gl K mg mb)(ho:K a=some o)(sO:o.data=.func fd)(Q4:fd.body=.stmts body)
  (hcd:∀h,dl K h->h.CodeRec fd.code fd.qualname) (tf:∀vs:List Value,vs.length=names.length->bindArgs fd ⟨vs,[]⟩=pure (names.zip vs)) (aaQ:fd.closure=[]) (hg:fd.globals=mainGlobals) (hbi:fd.builtins=builtinsNs)
  (jc:AN fd.scope names vars=true) (hb:∀L,oq prog w K (fS fd a vars k L) body B):dM prog w K a (k+1) (dX names.length N keep B):=.mk λA ρ Z hp s ps vs pv ai Rm H top off V q=>by
 unfold AN at jc
 refine TG jc λc1 c2 c3 c4 c5 c6 c7=>?_
 have hk:fd.scope.kind=.function:=eq_of_beq c1
 refine Qo q λfl q5 iN hlen hB tF q=>?_
 have Rr:vs.length=names.length:=V.length.symm.trans hlen
 have kinds:∀x∈names,fd.scope.names.lookup x=some .local∨(fd.scope.names.lookup x=some .cell∧∀L,((cellsFrom L fd.scope.names []).lookup x).isSome=true):=λx hx=>Rd (bj c4 x hx)
 refine codeAny_call_cells (R:=uP ρ Z s pv ai) (binds:=names.zip vs) (ah (ax _ _) (a9 Rm.depth b9)) (top a o ho) sO (gl.lim _ top) (hcd _ top) Q4 (tf vs Rr) aaQ (λx hx=>(kinds _ (List.of_mem_zip (a:=x.1) (b:=x.2) hx).1).imp id λh=>⟨h.1,h.2 _⟩) (λs_1 ic=>?_) c3 c2 hk
 obtain⟨eF,tk,rfl,kp⟩:=ic.done
 have vz:∀b∈(fS fd a vars k s.heap.objs.size).own,s.heap.get? b=none:=λb hb=>by
  rcases aI hb with rfl|hb
  ·exact aK (am _)
  ·obtain⟨p,hp,hl⟩:=List.mem_filterMap.mp hb
   exact aK (aG (ic.above p.1 b (mem_of_lookup hl)))
 have aaS:∀b∈(fS fd a vars k s.heap.objs.size).own,b∉Z:=λb hb q=>by
  obtain⟨o,e⟩:=H.iI b q
  rw[vz b hb]at e;cases e
 have aak:∀b∈(fS fd a vars k s.heap.objs.size).own,∃o,eF.get? b=some o:=λb hb=>by
  rcases aI hb with rfl|hb
  ·exact Ns.live ic.toInCall.ns
  ·obtain⟨p,hp,hl⟩:=List.mem_filterMap.mp hb
   obtain⟨o,e,_⟩:=ic.cell p.1 b hl
   exact⟨o,e⟩
 have cg:=H.more (h':=eF) vz kp aak
 have fr:∀b∈(fS fd a vars k s.heap.objs.size).own,b∉bF ρ:=λb hb=>(H.fresh (vz b hb)).1
 have Z7:∀n c,(cellsFrom (s.heap.objs.size+1) fd.scope.names []).lookup n=some c->c∈(fS fd a vars k s.heap.objs.size).own:=λn c h=>by
  rcases Bd _ _ _ n c (mem_of_lookup h)with⟨k',q⟩|q
  ·exact al _ (List.mem_filterMap.mpr ⟨(n,k'),q,h⟩)
  ·exact bT q
 have er:sV (fS fd a vars k s.heap.objs.size) ρ ((fS fd a vars k s.heap.objs.size).own++Z) (dI ps N) eF:=by
  refine⟨⟨_,_,ic.toInCall.ns,ic.cell,λi x pv hi hl=>?_⟩,hk,rfl,λi j x hi hj=>?_,hg,hbi,aq ..,λa h=>au _ h,fr _ (aq ..),λn c h=>⟨fr _ (Z7 n c h),λq=>?_⟩,λn n' c h h'=>name_of_addr ic.apart (mem_of_lookup h) (mem_of_lookup h')⟩
  ·have hp:=TS hl
   obtain⟨v,hv,hr⟩:=V.get i pv hp
   have mC:i < names.length:=hlen▸(List.getElem?_eq_some_iff.mp hp).1
   have hn:names[i]?=some x:=by
    rcases(Bool.or_eq_true _ _).mp (bj c7 _ (lookup_mem hi))with h|h
    ·exact absurd (of_decide_eq_true h) (Nat.not_le.mpr mC)
    ·exact eq_of_beq h
   have hx:x∈names:=aT hn
   refine⟨v,?_,(VR.fresh (Z':=(fS fd a vars k s.heap.objs.size).own++Z) (λb hb=>(ae hb).elim (λh=>.inr (vz b h)) .inl) hr).keep kp⟩
   have nd:names.Nodup:=of_decide_eq_true c5
   unfold gc
   rcases kinds x hx with e|⟨e,hs⟩
   ·have e':(fS fd a vars k s.heap.objs.size).env.kindOf x=some .local:=e
    refine e'.symm▸?_
    exact T4 e' names vs _ i v nd hn hv
   ·have e':(fS fd a vars k s.heap.objs.size).env.kindOf x=some .cell:=e
    refine e'.symm▸?_
    obtain⟨c,hc⟩:=Option.isSome_iff_exists.mp (hs (s.heap.objs.size+1))
    have me:(fS fd a vars k s.heap.objs.size).env.cells.lookup x=some c:=hc
    show(List.lookup x (fS fd a vars k s.heap.objs.size).env.cells).bind _=_
    refine me.symm▸?_
    have Ut:(callEnvC fd s.heap.objs.size a).kindOf x=some .cell:=e
    exact abK (by rw[Ut];decide) names vs _ i v nd hn hv
  ·have:=bj (bj c6 _ (lookup_mem hi)) _ (lookup_mem hj)
   simpa using this
  ·have:=ic.above n c (mem_of_lookup h)
   replace this:=q▸this
   exact Nat.lt_irrefl _ this
 have fZ:∀b,K b≠none->b∉bF ρ∧b∉(fS fd a vars k s.heap.objs.size).own++Z:=λb hb=>⟨(off b hb).1,λm=>(ae m).elim (λm=>by
  cases e:K b with
 |none=>exact hb e
 |some o=>have:=top b o e;rw[vz b m]at this;cases this) (off b hb).2⟩
 have R:SR K (fS fd a vars k s.heap.objs.size) ρ ((fS fd a vars k s.heap.objs.size).own++Z) ⟨dI ps N,hp⟩ {s with heap:=eF,toks:=tk}:=⟨cg,er,λb o e=>kp b o (top b o e),fZ⟩
 have aO:Ext [] ρ s ρ {s with heap:=eF,toks:=tk}:=Ext.of_keep kp
 refine bq ((hb _).run (A.deeper (callEnvC fd s.heap.objs.size a)) ρ _ _ _ _ _ Rm.deeper R aaS hB) (λf s' p=>?_) λ_ _ q=>q.elim
 obtain⟨aA,x',H',r⟩:=p
 have fin:∀v,VR aA Z s'.heap q5 v->cE ρ Z s pv ai v s':=λv V'=>by
  have P:cE ρ Z s q5 iN.hp v s':=⟨aA,((aO.weak dF).trans x').shrink λb h=>.inr (vz b h),V',H'⟩
  cases keep with
 |true=>exact(b7 q).1▸(b7 q).2▸P
 |false=>exact P.trunc H.len q
 rcases r.val tF with⟨v,e,V'⟩|⟨e,V'⟩
 ·rw[e];exact fin v V'
 ·rw[e];exact fin .none V'
end
section
variable {prog:Program}{w:World}{K:Addr->Option Obj}{O:Fx}{mg mb:Str->Option Value}{A:Around}
noncomputable def j9(G:LF)(H:cV):EF:=λσ=>match G σ with
|some (ps,hp)=>H ps hp
|none=>none
theorem VH{G:LF}{H:cV}{σ:St}{r:PV×List MO}{C:Prop}(q:j9 G H σ=some r)(k:∀ps hp,G σ=some (ps,hp)->H ps hp=some r->C):C:=by
 unfold j9 at q
 cases h:G σ with
|none=>rw[h]at q;exact ar q
|some x=>rw[h]at q;exact k x.1 x.2 h q
theorem Ev.call(gl:Gl K mg mb){f:Str}{a:Addr}{o:Obj}{fd:FuncData}{e:Expr}{es:List Expr}{pos np:Pos}{G:LF}{H:cV}{k:Nat}(he:fb prog w K O (e::es) G)(hf:tJ prog w K a k H)(hK:k≤O.k)(ho:K a=some o)(sO:o.data=.func fd)
  (hk:O.sc.names.lookup f=some .globalImplicit) (hg:mg f=some (.ref a)) (hd:autoParam ((f==("__debug__":Str))=false) sZ)
  (hs:autoParam (∀env,starEach (e::es) env=(false,eval e env)::starEach es env) sI) (hp:autoParam (∀env,(backTo pos (starEach es env)).any (·.1)=false) sI) :
  Ev prog w K O (.Call (.Name f np) (e::es) [] pos) (j9 G H):=.mk λA ρ Z σ s pv ai Rm R q=>by
 refine VH q λps hp1 e1 q=>?_
 refine Call_ (l9 gl R hk (.inl hg) ?_ hd)
 refine callWith_function (o:=o) (fd:=fd) ?_
 have hh:=he.run pos A ρ Z σ s _ _ Rm R e1
 rw[hs]at hh ⊢
 refine evalArgs_plain (bq hh (λvs s_1 p=>?_) λ_ _ q=>q)
 refine cps λ_ KK=>?_
 obtain⟨aD,aO,V,cg⟩:=p
 refine KK ?_
 have aP:=R.next aO cg
 exact⟨⟨aP.top a o ho,sO⟩,bq (hf.run A aD Z hp1 s_1 ps vs pv ai (Rm.mono hK) cg aP.top aP.off V q) (λv bn p=>p.trans aO) λ_ _ q=>q⟩
theorem HR.ins{ρ:aJ}{Z:List Addr}{h:Heap}{hp:List MO}(H:HR ρ Z hp h){i:Nat}{C:Addr}{bK:List (Nat×PV)}(hi:hp[i]?=some (.ins C bK)){r b:Addr}(hr:ρ[i]?=some (r,b)):DJ ρ Z h r b C bK:=by
 refine cps λ_ KK=>?_
 obtain⟨r',b',gL,hm⟩:=H.at_ i _ hi
 obtain⟨rfl,rfl⟩:=b7 (hr.symm.trans gL)
 refine KK ?_
 exact hm
theorem RD.handed{v d as}(r:RD h v d as):handedOut v=pure v :=
 (RD.ind (h:=h) (P:=λv _ _=>handedOut v=pure v) (Q:=λ_ _ _=>True) rfl (λ_=>rfl) (λ_ _=>rfl) (λ_ _ _=>rfl) (λ_ _ _ _ _ _=>rfl) (λ_ _ _ _=>rfl) trivial λ_ _=>trivial).1 r
theorem VR.handed(x:VR ρ Z h p v):handedOut v=pure v:=by
 cases p with
|dat d=>exact x.elim λas r=>r.1.handed
|obj i=>obtain⟨r,b,_,e⟩:=x;rw[e];rfl
|gH i=>obtain⟨r,b,a,fs,_,e,_⟩:=x;rw[e];rfl
|objs _ _=>obtain⟨a,_,_,_,e⟩:=x;rw[e];rfl
noncomputable def dS(C:Addr)(j:Nat)(a:PV)(σ:St):Option (PV×List MO):=match a with
|.obj i=>match σ.hp[i]? with
 |some (.ins C' bK)=>if C'=C then match bK.lookup j with
  |some pv=>some (pv,σ.hp)
  |none=>none else none
 |_=>none
|_=>none
theorem KL{α:Type}{a:PV}{hp:List MO}{r:α}{f:Nat->Addr->List (Nat×PV)->Option α}{C:Prop}(q:(match a with
|.obj i=>match hp[i]? with
 |some (.ins C' bK)=>f i C' bK
 |_=>none
|_=>none)=some r) (k:∀i C' bK,a=.obj i->hp[i]?=some (.ins C' bK)->f i C' bK=some r->C):C:=by
 cases a with
|obj i =>
  have q:(match hp[i]? with|some (.ins C' bK)=>f i C' bK|_=>none)=some r:=q
  cases h:hp[i]? with
 |none=>rw[h]at q;exact ar q
 |some mo=>cases mo with
  |ins C' bK=>rw[h]at q;exact k i C' bK rfl h q
  |_=>rw[h]at q;exact ar q
|_=>exact ar q
theorem W5{α:Type}{o:Option PV}{hp:α}{r:PV×α}{C:Prop}(q:(match o with
  |some pv=>some (pv,hp)
  |none=>none)=some r) (k:∀pv,o=some pv->(pv,hp)=r->C):C:=by
 cases o with
|none=>exact ar q
|some pv=>exact k pv rfl (bX q)
theorem QZ{C:Addr}{j:Nat}{a pv:PV}{σ:St}{ai:List MO}{P:Prop}(q:dS C j a σ=some (pv,ai))(k:∀i bK,a=.obj i->σ.hp[i]?=some (.ins C bK)->bK.lookup j=some pv->ai=σ.hp->P):P :=
 KL q λi C' bK ha hi q=>iF q λhC q=>W5 q λp hl e=>k i bK ha (hC▸hi) (hl.trans (congrArg some (a5 e).1)) (a5 e).2.symm
inductive L6(K:Addr->Option Obj)(ρ:aJ)(Z:List Addr)(h:Heap)(C r b:Addr)(bK:List (Nat×PV))(mN:Str->Option Value):Prop
|mk (o:Obj) (mA:Str->Option Value) (nm q:Str) (N:Addr) (bs:List Value) (sn:List Str) (sub:List Value) (col:Option Bool) (dd:Option Addr) (k0 k1 k2 k3 k5:Option Value):h.get? r=some o->o.cls=.ref C->(∀c,o.data≠.cls c)->o.dict=some b->b≠r->h.Ns1 b mA ->
  (∀p∈bK,∃v,mA (an p.1)=some v∧VR ρ Z h p.2 v)->(∀x,(∀p∈bK,x≠an p.1)->mA x=none)->r∉bF ρ->r∉Z->b∈bF ρ->h.get? C=some (excClassObj nm q C N bs [.type "object"] true sn sub false col dd k0 k1 k2 k3 k5 "object.__new__")->h.Ns N mN->L6 K ρ Z h C r b bK mN
theorem HR.Fq{ρ:aJ}{Z:List Addr}{h:Heap}{hp:List MO}(H:HR ρ Z hp h)(top:dl K h){C:Addr}{mN:Str->Option Value}(cl:jJ K C mN){i:Nat}{bK:List (Nat×PV)}(hi:hp[i]?=some (.ins C bK)){r b:Addr}(hr:ρ[i]?=some (r,b)):L6 K ρ Z h C r b bK mN:=by
 refine cps λ_ KK=>?_
 obtain⟨uW,vC,o,mA,ho,h1,h2,h3,h4,h5,h6,h7⟩:=H.ins hi hr
 obtain⟨nm,qn,N,bs,sn,sub,col,dd,k0,k1,k2,k3,k5,hK,oo⟩:=cl.ex
 refine KK ?_
 exact⟨o,mA,nm,qn,N,bs,sn,sub,col,dd,k0,k1,k2,k3,k5,ho,h1,h2,h3,h4,h5,h6,h7,uW,vC,List.mem_map_of_mem (f:=Prod.snd) (aT hr),top _ _ hK,oo h top⟩
theorem IL{C:Addr}{mN:Str->Option Value}(cl:jJ K C mN){j:Nat}(hN:mN (an j)=none)(hB:typeLookup (.type "object") (an j)=pure none){a pv:PV}{va:Value}{ρ:aJ}{Z:List Addr}{σ:St}{s:Shared}{ai:List MO}(H:HR ρ Z σ.hp s.heap)(top:dl K s.heap)
  (V:VR ρ Z s.heap a va) (q:dS C j a σ=some (pv,ai)):wpAny (model prog w) A (getAttr va (an j) true) (λv s'=>ai=σ.hp∧VR ρ Z s.heap pv v∧s'={s with toks:=s.toks+1}) a8 s:=by
 refine QZ q λi bK ha hi hl oh=>?_
 replace V:=ha▸V
 refine cps λ_ KK=>?_
 obtain⟨r,b,hr,qK⟩:=V
 obtain⟨o,mA,nm,qn,N,bs,sn,sub,col,dd,k0,k1,k2,k3,k5,ho,h1,h2,h3,h4,h5,h6,h7,uW,vC,ot,hC,oo⟩:=H.Fq top cl hi hr
 obtain⟨v,hv,hV⟩:=h6 _ (lookup_mem hl)
 refine KK ?_
 refine qK.symm▸?_
 exact load_attr (g:=s.gens) (d:=s.drawn) (t:=s.toks) (os:=s.os) hC oo cl.ga hN hB ⟨o,ho,h1,h2,.inr ⟨b,h3,h4,h5⟩⟩ hv hV.handed ⟨oh,hV,rfl⟩
theorem Ev.attr{C:Addr}{mN:Str->Option Value}(cl:jJ K C mN){j:Nat}{x attr:Str}{np pos:Pos}{Fo:EF}(hx:attr=an j)(hN:mN (an j)=none)(hB:typeLookup (.type "object") (an j)=pure none)(ho:Ev prog w K O (.Name x np) Fo) :
  Ev prog w K O (.Attribute (.Name x np) attr pos) (aN Fo (dS C j)):=.mk λA ρ Z σ s pv ai Rm R q=>by
 subst hx
 refine Attribute_name (ho.then Rm R q λa va h1 aD s_1 e1 aO b3 aP=>?_)
 refine bq (IL cl hN hB aP.hr aP.top b3 e1) (λv bn p=>?_) λ_ _ q=>q
 rw[p.1,p.2.2]
 exact cE.trans aO (cE.of_toks aP.hr p.2.1)
noncomputable def gn(bK:List (Nat×PV))(j:Nat)(pv:PV):List (Nat×PV):=(j,pv)::bK.filter λp=>p.1 != j
noncomputable def setOf(C:Addr)(j:Nat)(a pv:PV)(σ:St):Option St:=match a with
|.obj i=>match σ.hp[i]? with
 |some (.ins C' bK)=>if C'=C∧j≤9∧bK.length≤lim∧bK.all (λp=>decide (p.1≤9))=true then some ⟨σ.loc,σ.hp.set i (.ins C (gn bK j pv))⟩else none
 |_=>none
|_=>none
theorem aaq(hi:i≤9)(hj:j≤9)(h:an i=an j):i=j:=by
 have:∀i,i≤9->∀j,j≤9->an i=an j->i=j:=by decide +kernel
 exact this i hi j hj h
theorem V4{a b:Obj}(h1:a.cls=b.cls)(h2:a.data=b.data)(h3:a.slots=b.slots)(h4:a.dict=b.dict):a=b:=by
 cases a;cases b;simp_all
theorem acy{C:Addr}{j:Nat}{a pv:PV}{σ σ':St}{P:Prop}(q:setOf C j a pv σ=some σ')(k:∀i bK,a=.obj i->σ.hp[i]?=some (.ins C bK)->j≤9->bK.length≤lim->bK.all (λp=>decide (p.1≤9))=true->⟨σ.loc,σ.hp.set i (.ins C (gn bK j pv))⟩=σ'->P):P :=
 KL q λi C' bK ha hi q=>d8 q λhC e=>k i bK ha (hC.1▸hi) hC.2.1 hC.2.2.1 hC.2.2.2 e
theorem acx{j:Nat}(hj:j≤9){ρ:aJ}{Z:List Addr}{h':Heap}{bK:List (Nat×PV)}{mA:Str->Option Value}{pv:PV}{v:Value}(mq:bK.all (λp=>decide (p.1≤9))=true)(U:VR ρ Z h' pv v)
  (h6:∀p∈bK,∃v,mA (an p.1)=some v∧VR ρ Z h' p.2 v) (h7:∀x,(∀p∈bK,x≠an p.1)->mA x=none) :
  (∀p∈gn bK j pv,∃u,(if an p.1=an j then some v else mA (an p.1))=some u∧VR ρ Z h' p.2 u)∧∀x,(∀p∈gn bK j pv,x≠an p.1)->(if x=an j then some v else mA x)=none:=by
 constructor
 ·intro p hp
  rcases aI hp with rfl|hp
  ·exact⟨v,if_pos rfl,U⟩
  ·have hm:=List.mem_filter.mp hp
   exact(h6 p hm.1).elim λu q=>⟨u,(if_neg λq=>ne_of_beq_false (Bool.not_eq_true' _▸hm.2) (aaq (of_decide_eq_true (bj mq p hm.1)) hj q)).trans q.1,q.2⟩
 ·intro x hx
  have ME:=hx (j,pv) (aq ..)
  refine(if_neg ME).symm▸?_
  refine h7 x λp hp=>?_
  by_cases O7:p.1=j
  ·rw[O7];exact ME
  ·exact hx p (al _ (List.mem_filter.mpr ⟨hp,bne_iff_ne.mpr O7⟩))
theorem Mx{C:Addr}{mN:Str->Option Value}(cl:jJ K C mN){j:Nat}(hN:mN (an j)=none)(hB:typeLookup (.type "object") (an j)=pure none){a pv:PV}{va v:Value}{ρ:aJ}{Z:List Addr}{σ σ':St}{s:Shared}(H:HR ρ Z σ.hp s.heap)(top:dl K s.heap)(off:kJ K ρ Z)
  (V:VR ρ Z s.heap a va) (U:VR ρ Z s.heap pv v) (q:setOf C j a pv σ=some σ'):wpAny (model prog w) A (setAttr va (an j) v) (λ_ s'=>σ'.loc=σ.loc∧Ext [] ρ s ρ s'∧HR ρ Z σ'.hp s'.heap) a8 s:=by
 refine acy q λi bK ha hi hj hlen mq ig=>?_
 rw[← ig]
 rw[ha]at V
 refine cps λ_ KK=>?_
 obtain⟨r,b,hr,qK⟩:=V
 refine KK ?_
 rw[qK]
 refine cps λ_ KK=>?_
 obtain⟨o,mA,nm,qn,N,bs,sn,sub,col,dd,k0,k1,k2,k3,k5,ho,h1,h2,h3,h4,h5,h6,h7,uW,vC,ot,hC,oo⟩:=H.Fq top cl hi hr
 refine KK ?_
 have VQ:r≠C:=λq=>by
  rw[q,hC]at ho
  rw[← bX ho]at h1
  exact nomatch h1
 refine store_attr (g:=s.gens) (d:=s.drawn) (os:=s.os) (ns:=bK.map λp=>an p.1) PySem.F.store_object hC oo cl.sa hN hB VQ ⟨o,ho,h1,h2,.inr ⟨b,h3,h4,h5⟩⟩ (λh' tk' I' hk ZS=>?_) (λy hy=>?_) (by rw[bI];exact aa hlen b9)
 ·refine cps λ_ KK=>?_
  obtain⟨lX,y2,s1,s2,s3,s4⟩:=ZS o ho
  refine KK ?_
  have hoo:lX=o:=V4 s1 s2 s3 ((s4 b h3).trans h3.symm)
  rw[hoo]at y2
  have k:∀a o,a≠b->s.heap.get? a=some o->h'.get? a=some o:=λa o' ha e=>by
   by_cases q:a=r
   ·rw[q]at e ⊢
    exact y2.trans (ho.symm.trans e)
   ·exact hk a o' q (λo_0 dx e1 e2=>by rw[bX (ho.symm.trans e1),e2]at h3;rw[bX h3];exact ha) e
  have oR:h'.Ns1 b (λy=>if y=an j then some v else mA y):=by
   refine cps λ_ KK=>?_
   obtain⟨o_2,Yc,_,_,z3⟩:=I'
   refine KK ?_
   rw[← bX (y2.symm.trans Yc)]at z3
   rcases z3 with⟨e,_⟩|⟨d',e,_,hn⟩
   ·exact ar (e.symm.trans h3)
   ·rw[← bX (e.symm.trans h3)];exact hn
  have Jp:∀{p:PV} {u:Value},VR ρ Z s.heap p u->VR ρ Z h' p u:=λx=>VR.map (λ_ _ e=>e) (λa o h1 h2 e=>⟨k a o (λq=>h1 (q▸ot)) e,h1,h2⟩) x
  have hs:=acx hj mq (Jp U) (λp hp=>(h6 p hp).elim λu q=>⟨u,q.1,Jp q.2⟩) h7
  refine⟨rfl,⟨⟨[],(bM _).symm,λ_ h=>bT h⟩,λa o ha _ e=>k a o (λq=>ha (q▸ot)) e,λa o' e=>?_,rfl,rfl,λ_ _ e=>e,λh=>h⟩,H.set hr k ⟨uW,vC,o,_,y2,h1,h2,h3,h4,oR,hs.1,hs.2⟩⟩
  by_cases q:a=b
  ·exact oR.elim λob x=>x.elim λ_ x=>x.elim λ_ x=>⟨ob,q▸x.1⟩
  ·exact⟨o',k a o' q e⟩
 ·refine Classical.byContradiction λhn=>hy (h7 y λp hp e=>hn ?_)
  rw[e];exact List.mem_map.mpr ⟨p,hp,rfl⟩
noncomputable def nI(Fo Fe:EF)(C:Addr)(j:Nat):XF:=bN Fe λpv σ=>bN Fo (λa σ=>match setOf C j a pv σ with
|some σ'=>some (.next,σ')
|none=>none) σ
theorem St.eta{σ:St}{l:Loc}(h:σ.loc=l):σ=⟨l,σ.hp⟩:=h▸rfl
theorem IQ{o:Option St}{r:Fl×St}{C:Prop}(q:(match o with
|some σ'=>some (Fl.next,σ')
|none=>none)=some r) (k:∀σ',o=some σ'->(.next,σ')=r->C):C:=by
 cases o with
|none=>exact ar q
|some σ'=>exact k σ' rfl (bX q)
theorem Ex.setAttr{C:Addr}{mN:Str->Option Value}(cl:jJ K C mN){j:Nat}{attr:Str}{o e:Expr}{p p':Pos}{Fo Fe:EF}(hx:attr=an j)(hN:mN (an j)=none)(hB:typeLookup (.type "object") (an j)=pure none)(ho:Ev prog w K O o Fo)(he:Ev prog w K O e Fe)(hs:swapsWith e (some (.Attribute o attr p)) p'.line O.env=pure false) :
  Ex prog w K O (.Assign [.Attribute o attr p] e p') (nI Fo Fe C j):=.mk λA ρ Z σ s fl σ' Rm R q=>by
 subst hx
 refine plainObj_wpAny_Assign_Attribute (he.lK Rm R q λpv v h1 aD s_1 e1 aO b3 aP=>ho.lK Rm aP e1 λa va h2 eA bn e2 ct gQ cw=>IQ e2 λdv ig e=>?_) hs
 refine bq (Mx cl hN hB cw.hr cw.top cw.off gQ (b3.ext ct dF) ig) (λ_ d4 p=>?_) λ_ _ q=>q
 obtain⟨hl,dC,nJ⟩:=p
 have fY:=cw.next dC nJ
 refine eY.eq (congrArg some e) ⟨eA,((aO.trans ct).trans dC).weak dF,?_,rfl⟩
 rw[show dv=⟨σ.loc,dv.hp⟩from St.eta hl]
 exact fY
end
section
variable {prog:Program}{w:World}{K:Addr->Option Obj}{O:Fx}{mg mb:Str->Option Value}{A:Around}
noncomputable def m5:Operator->PyData->PyData->Option PyData
|.Add,.int a,.int b=>some (.int (a+b))
|.Sub,.int a,.int b=>some (.int (a - b))
|.Add,.str x,.str y=>if x.cps.size+y.cps.size≤lim then some (.str ⟨⟨x.cps.toList++y.cps.toList⟩⟩)else none
|_,_,_=>none
theorem Ta(x y:Str):x++y=⟨⟨x.cps.toList++y.cps.toList⟩⟩:=by
 show Str.append x y=_
 unfold Str.append
 congr 1
 rw[← Array.toList_inj,Array.toList_append]
theorem Ub(e:m5 op a b=some d):(op=.Add∧qY (λx y=>.int (x+y)) (λ_ _=>True) a b d)∨(op=.Sub∧qY (λx y=>.int (x - y)) (λ_ _=>True) a b d)∨(op=.Add∧Ew (λx y=>.str ⟨⟨x.cps.toList++y.cps.toList⟩⟩) (λx y=>x.cps.size+y.cps.size≤lim) a b d):=by
 cases op with
|Add=>cases a with
 |int x=>cases b with
  |int y=>exact .inl ⟨rfl,x,y,rfl,rfl,trivial,(bX e).symm⟩
  |_=>exact ar e
 |str x=>cases b with
  |str y=>exact d8 e λh q=>.inr (.inr ⟨rfl,x,y,rfl,rfl,h,q.symm⟩)
  |_=>exact ar e
 |_=>exact ar e
|Sub=>cases a with
 |int x=>cases b with
  |int y=>exact .inr (.inl ⟨rfl,x,y,rfl,rfl,trivial,(bX e).symm⟩)
  |_=>exact ar e
 |_=>exact ar e
|_=>exact ar e
theorem Zv{s:Shared}{op:Operator}{a b d:PyData}{va vb:Value}{as bs:List Addr}{P:Addr->Prop}(ra:RD s.heap va a as)(rb:RD s.heap vb b bs)(e:m5 op a b=some d):wpAny (model prog w) A (inplaceOp op va vb) (bO s d P) a8 s:=by
 rcases Ub e with⟨ho,x,y,h1,h2,_,h3⟩|⟨ho,x,y,h1,h2,_,h3⟩|⟨ho,x,y,h1,h2,hl,h3⟩<;>rw[ho,h3]<;>rw[h1]at ra<;>rw[h2]at rb
 ·exact RD.Bh (C:=λva vb=>wpAny (model prog w) A (inplaceOp .Add va vb) (bO s (.int (x+y)) P) a8 s) ra rb λt u=>iadd_int (bO.val (.int _ _))
 ·exact RD.Bh (C:=λva vb=>wpAny (model prog w) A (inplaceOp .Sub va vb) (bO s (.int (x - y)) P) a8 s) ra rb λt u=>isub_int (bO.val (.int _ _))
 ·refine cps λ_ KK=>?_
  obtain⟨t,ha,_,hx⟩:=ra.fQ
  obtain⟨u,hb,_,hy⟩:=rb.fQ
  refine KK ?_
  refine ha.symm▸hb.symm▸?_
  refine PyProof.Rows.iadd_str (λt' tk=>?_) (aa hl b9)
  rw[Ta]
  exact bO.val (.str _ _ (Lg hx hy))
theorem JA{α:Type}{hp:List MO}{op:Operator}{a b:PV}{f:PyData->Option α}{r:α}{C:Prop}(q:(match rd hp a,rd hp b with
 |some x,some y=>match m5 op x y with
  |some d=>f d
  |none=>none
 |_,_=>none)=some r) (k:∀x y d,rd hp a=some x->rd hp b=some y->m5 op x y=some d->f d=some r->C):C:=by
 cases h1:rd hp a with
|none=>rw[h1]at q;exact ar q
|some x=>cases h2:rd hp b with
 |none=>rw[h1,h2]at q;exact ar q
 |some y =>
   replace q:=h2▸h1▸q
   have q:(match m5 op x y with|some d=>f d|none=>none)=some r:=q
   cases h3:m5 op x y with
  |none=>rw[h3]at q;exact ar q
  |some d=>rw[h3]at q;exact k x y d h1 h2 h3 q
theorem SR.IX(R:SR K O ρ Z σ s)(V:VR ρ Z s.heap a va)(U:VR ρ Z s.heap b vb)(hx:rd σ.hp a=some x)(hy:rd σ.hp b=some y)(e:m5 op x y=some d)
  (k:∀v aA s',Ext [] ρ s aA s'->VR aA Z s'.heap (.dat d) v->SR K O aA Z σ s'->Q v s'):wpAny (model prog w) A (inplaceOp op va vb) Q a8 s:=by
 refine cps λ_ KK=>?_
 obtain⟨as,ra,qa⟩:=jA R.hr V hx
 obtain⟨bs,rb,qb⟩:=jA R.hr U hy
 refine KK ?_
 exact bq (Zv (P:=λ_=>False) ra rb e) (λv bn n=>(n.post R.hr (λ_ h=>h.elim)).elim λeA p=>k v eA bn p.1 p.2.1 (R.next p.1 p.2.2)) λ_ _ q=>q
noncomputable def jr(i:Nat)(op:Operator)(Fe:EF):XF:=λσ=>match d2 σ.loc i with
|some a=>bN Fe (λb σ=>match rd σ.hp a,rd σ.hp b with
 |some x,some y=>match m5 op x y with
  |some d=>some (.next,⟨σ.loc.set i (some (.dat d)),σ.hp⟩)
  |none=>none
 |_,_=>none) σ
|none=>none
theorem Sk{i:Nat}{op:Operator}{Fe:EF}{σ:St}{r:Fl×St}{C:Prop}(q:jr i op Fe σ=some r)(k:∀a,d2 σ.loc i=some a->bN Fe (λb σ=>match rd σ.hp a,rd σ.hp b with
 |some x,some y=>match m5 op x y with
  |some d=>some (.next,⟨σ.loc.set i (some (.dat d)),σ.hp⟩)
  |none=>none
 |_,_=>none) σ=some r->C):C:=by
 unfold jr at q
 cases h:d2 σ.loc i with
|none=>rw[h]at q;exact ar q
|some a=>rw[h]at q;exact k a h q
theorem Ex.aug{x:Str}{i:Nat}{p p':Pos}{op:Operator}{e:Expr}{Fe:EF}(hv:O.vars.lookup i=some x)(ok:iB O x)(he:Ev prog w K O e Fe)(hd:autoParam ((x==("__debug__":Str))=false) sZ)(i0:autoParam ((x==("__classdict__":Str))=false) sZ) :
  Ex prog w K O (.AugAssign (.Name x p) op e p') (jr i op Fe):=.mk λA ρ Z σ s fl σ' Rm R q=>Sk q λa ha q=>by
 refine wpAny_AugAssign_Name ?_
 refine cps λ_ KK=>?_
 obtain⟨m,cm,hn,hc,i9⟩:=R.er.ex
 obtain⟨va,hs,r⟩:=i9 i x _ hv (yx ha)
 refine KK ?_
 have rest:wpAny (model prog w) A (eval e O.env) (λv bn=>wpAny (model prog w) A (inplaceOp op va v) (λr d4=>wpAny (model prog w) A (storeName O.env x r) (λ_=>eY K O ρ Z s fl σ' .next) a8 d4) a8 bn) a8 s :=
  he.lK Rm R q λb vb h1 aD s_1 e1 aO b3 aP=>JA e1 λdx dy d hx hy hd e2=>aP.IX (r.ext aO dF) b3 hx hy hd λv eA bn ct gQ cw =>
   cw.store hv ok gQ λd4 dC fY=>eY.eq e2 ⟨eA,((aO.trans ct).weak dF).trans dC,fY,rfl⟩
 rcases F3 hs with⟨hk,hm⟩|⟨hk|hk,c,hl,hm⟩
 ·exact wpAny_loadName_local R.er.fn hk hn hm rest
 ·exact wpAny_loadName_cell R.er.fn hk hl (hm▸hc x c hl) rest
 ·exact wpAny_loadName_free R.er.fn hk hl (hm▸hc x c hl) rest i0
noncomputable def HX(Fo Fe:EF)(C:Addr)(j:Nat)(op:Operator):XF:=bN Fo λa σ=>match dS C j a σ with
|some (old,hp)=>bN Fe (λb σ=>match rd σ.hp old,rd σ.hp b with
 |some x,some y=>match m5 op x y with
  |some d=>match setOf C j a (.dat d) σ with
   |some σ'=>some (.next,σ')
   |none=>none
  |none=>none
 |_,_=>none) ⟨σ.loc,hp⟩
|none=>none
theorem ZY{γ:Type}{o:Option (PV×List MO)}{f:PV->List MO->Option γ}{r:γ}{C:Prop}(q:(match o with
|some (x,y)=>f x y
|none=>none)=some r) (k:∀x y,o=some (x,y)->f x y=some r->C):C:=by
 cases o with
|none=>exact ar q
|some x=>exact k x.1 x.2 rfl q
theorem Ex.Zq{C:Addr}{mN:Str->Option Value}(cl:jJ K C mN){j:Nat}{attr:Str}{o e:Expr}{p p':Pos}{op:Operator}{Fo Fe:EF}(hx:attr=an j)(hN:mN (an j)=none)(hB:typeLookup (.type "object") (an j)=pure none)(ho:Ev prog w K O o Fo)(he:Ev prog w K O e Fe) :
  Ex prog w K O (.AugAssign (.Attribute o attr p) op e p') (HX Fo Fe C j op):=.mk λA ρ Z σ s fl σ' Rm R q=>by
 subst hx
 refine wpAny_AugAssign_AttributeAny (ho.lK Rm R q λa va h1 aD s_1 e1 aO b3 aP=>ZY e1 λold hp ha e1=>?_)
 refine bq (IL cl hN hB aP.hr aP.top b3 ha) (λvo bn p=>?_) λ_ _ q=>q
 obtain⟨hh,V,hs⟩:=p
 replace e1:=hh▸e1
 refine hs.symm▸?_
 have ct:Ext [] aD s_1 aD {s_1 with toks:=s_1.toks+1}:=Ext.of_keep (h:=s_1.heap) λ_ _ e=>e
 exact he.lK Rm (aP.next ct aP.hr) e1 λb vb h2 cT d4 e2 dC nk fY=>JA e2 λdx dy d hx hy hd e2=>IQ e2 λdv ig e2=>fY.IX (V.ext (ct.trans dC) dF) nk hx hy hd λv xE dq mh TV jG =>
  bq (Mx cl hN hB jG.hr jG.top jG.off (((b3.ext ct dF).ext dC dF).ext mh dF) TV ig) (λ_ gT p=>eY.eq (congrArg some e2) ⟨xE,((((aO.trans ct).trans dC).trans mh).trans p.2.1).weak dF,(St.eta p.1)▸jG.next p.2.1 p.2.2,rfl⟩) λ_ _ q=>q
noncomputable def gz(C:Addr)(name:Str)(i:Nat)(hp:List MO):Bool:=match hp[i]? with
|some (.ins C' bK)=>decide (C'=C)&&bK.all (λp=>decide (name≠an p.1))
|_=>false
theorem MU(h:gz C name i hp=true):∃bK,hp[i]?=some (.ins C bK)∧∀p∈bK,name≠an p.1:=by
 unfold gz at h
 cases e:hp[i]? with
|none=>rw[e]at h;exact kP h
|some mo=>cases mo with
 |ins C' bK =>
   rw[e]at h
   have h:=(Bool.and_eq_true _ _).mp h
   exact⟨bK,congrArg (λc=>some (MO.ins c bK)) (of_decide_eq_true h.1),λp hp=>of_decide_eq_true (bj h.2 p hp)⟩
 |_=>rw[e]at h;exact kP h
theorem MM(cl:jJ K C mN)(hf:mN name=some (.ref f))(iZ:K f=some of)(kW:of.cls=.type "function")(hB:typeLookup (.type "object") name=pure y)
  (H:HR ρ Z hp s.heap) (top:dl K s.heap) (V:VR ρ Z s.heap (.obj i) va) (hi:gz C name i hp=true) (hQ:Q (.ref f,[va]) s) :
  wpAny (model prog w) A (getMethod va name pl) Q a8 s:=by
 obtain⟨bK,hi,eU⟩:=MU hi
 obtain⟨r,b,hr,qK⟩:=V
 rw[qK]at hQ ⊢
 obtain⟨o,mA,nm,qn,N,bs,sn,sub,col,dd,k0,k1,k2,k3,k5,ho,h1,h2,h3,h4,h5,h6,h7,uW,vC,ot,hC,oo⟩:=H.Fq top cl hi hr
 exact method_of (g:=s.gens) (d:=s.drawn) (t:=s.toks) (os:=s.os) hC oo cl.ga cl.gh hf (top _ _ iZ) kW hB ⟨o,ho,h1,h2,.inr ⟨b,h3,h4,h5⟩⟩ (h7 name eU) hQ
noncomputable def lS(Fo:EF)(C:Addr)(name:Str)(G:LF)(H:cV):EF:=aN Fo λa σ=>match a with
|.obj i=>if gz C name i σ.hp then match G σ with
 |some (ps,hp)=>H (.obj i::ps) hp
 |none=>none else none
|_=>none
theorem IP{γ:Type}{o:Option (List PV×List MO)}{f:List PV->List MO->Option γ}{r:γ}{C:Prop}(q:(match o with
|some (x,y)=>f x y
|none=>none)=some r) (k:∀x y,o=some (x,y)->f x y=some r->C):C:=by
 cases o with
|none=>exact ar q
|some x=>exact k x.1 x.2 rfl q
theorem TY{C:Addr}{name:Str}{G:LF}{H:cV}{a:PV}{σ:St}{r:PV×List MO}{P:Prop}(q:(match a with
|.obj i=>if gz C name i σ.hp then match G σ with
 |some (ps,hp)=>H (.obj i::ps) hp
 |none=>none else none
|_=>none)=some r) (k:∀i ps hp,a=.obj i->gz C name i σ.hp=true->G σ=some (ps,hp)->H (.obj i::ps) hp=some r->P):P:=by
 cases a with
|obj i=>exact iF q λhi q=>IP q λps hp e q=>k i ps hp rfl hi e q
|_=>exact ar q
theorem Ev.Vd{C:Addr}{mN:Str->Option Value}(cl:jJ K C mN){name:Str}{f:Addr}{of:Obj}{fd:FuncData}{y:Option Value}{o e:Expr}{es:List Expr}{apos pos:Pos}{Fo:EF}{G:LF}{H:cV}{k:Nat}(hf:mN name=some (.ref f))(iZ:K f=some of)(kW:of.cls=.type "function")(sO:of.data=.func fd)
  (hB:typeLookup (.type "object") name=pure y) (ho:Ev prog w K O o Fo) (he:fb prog w K O (e::es) G) (hH:tJ prog w K f k H) (hK:k≤O.k) (mc:MC O.env o name apos (e::es) pos)
  (hs:autoParam (∀env,starEach (e::es) env=(false,eval e env)::starEach es env) sI) :
  Ev prog w K O (.Call (.Attribute o name apos) (e::es) [] pos) (lS Fo C name G H):=.mk λA ρ Z σ s pv ai Rm R q=>by
 obtain⟨pl,mc⟩:=mc
 refine MethodCall_ (ho.then Rm R q λa va h1 aD s_1 e1 aO b3 aP=>TY e1 λi ps hp1 ha hi eG e1=>?_) mc
 replace b3:=ha▸b3
 refine MM cl hf iZ kW hB aP.hr aP.top b3 hi ?_
 refine callWith_function (o:=of) (fd:=fd) ?_
 have hh:=he.run pos A aD Z _ s_1 _ _ Rm aP eG
 rw[hs]at hh ⊢
 refine evalArgs_plain (bq hh (λvs bn p=>?_) λ_ _ q=>q)
 refine cps λ_ KK=>?_
 obtain⟨eA,ct,V,nX⟩:=p
 refine KK ?_
 have cw:=aP.next ct nX
 exact⟨⟨cw.top f of iZ,sO⟩,bq (hH.run A eA Z hp1 bn (.obj i::ps) (va::vs) pv ai (Rm.mono hK) nX cw.top cw.off (.cons (b3.ext ct dF) V) e1) (λv d4 p=>p.trans (aO.trans ct)) λ_ _ q=>q⟩
noncomputable def kX(Fo:EF)(C:Addr)(name:Str)(H:cV):EF:=aN Fo λa σ=>match a with
|.obj i=>if gz C name i σ.hp then H [.obj i] σ.hp else none
|_=>none
theorem Xj{C:Addr}{name:Str}{H:cV}{a:PV}{hp:List MO}{r:PV×List MO}{P:Prop}(q:(match a with
|.obj i=>if gz C name i hp then H [.obj i] hp else none
|_=>none)=some r) (k:∀i,a=.obj i->gz C name i hp=true->H [.obj i] hp=some r->P):P:=by
 cases a with
|obj i=>exact iF q λhi q=>k i rfl hi q
|_=>exact ar q
theorem Ev.VY{C:Addr}{mN:Str->Option Value}(cl:jJ K C mN){name:Str}{f:Addr}{of:Obj}{fd:FuncData}{y:Option Value}{o:Expr}{apos pos:Pos}{Fo:EF}{H:cV}{k:Nat}(hf:mN name=some (.ref f))(iZ:K f=some of)(kW:of.cls=.type "function")(sO:of.data=.func fd)
  (hB:typeLookup (.type "object") name=pure y) (ho:Ev prog w K O o Fo) (hH:tJ prog w K f k H) (hK:k≤O.k) (mc:MC O.env o name apos [] pos) :
  Ev prog w K O (.Call (.Attribute o name apos) [] [] pos) (kX Fo C name H):=.mk λA ρ Z σ s pv ai Rm R q=>by
 obtain⟨pl,mc⟩:=mc
 refine MethodCall_ (ho.then Rm R q λa va h1 aD s_1 e1 aO b3 aP=>Xj e1 λi ha hi e1=>?_) mc
 replace b3:=ha▸b3
 refine MM cl hf iZ kW hB aP.hr aP.top b3 hi ?_
 refine callWith_meth0 (o:=of) (fd:=fd) sO (aP.top f of iZ) ?_
 exact bq (hH.run A aD Z h1 s_1 [.obj i] [va] pv ai (Rm.mono hK) aP.hr aP.top aP.off (.cons b3 .nil) e1) (λv d4 p=>p.trans aO) λ_ _ q=>q
inductive ClsAt(h:Heap)(C:Addr):Prop
|mk (nm q:Str) (N:Addr) (bs:List Value) (sn:List Str) (sub:List Value) (col:Option Bool) (dd:Option Addr) (k0 k1 k2 k3 k5:Option Value) :
  h.get? C=some (excClassObj nm q C N bs [.type "object"] true sn sub false col dd k0 k1 k2 k3 k5 "object.__new__")->ClsAt h C
theorem YI
  (h:wpAny (model prog w) A (spliced (backTo pos (starEach (e::rest) env))) (λvs s_1=>ClsAt s_1.heap C∧wpAny (model prog w) A (call (.ref C) vs) Q a8 s_1) a8 s)
  (he:starEach (e::rest) env=(false,eval e env)::starEach rest env) (Bz:(backTo pos (starEach rest env)).any (·.1)=false) :
  wpAny (model prog w) A (callWith pos (.ref C) [] (backTo pos (starEach (e::rest) env)) []) Q a8 s:=by
 rw[he]at h ⊢
 have dN:((backTo pos ((false,eval e env)::starEach rest env)).any (λx=>x.fst)||([]:List (Option Str×Sem Value)).any λx=>x.fst.isNone)=false:=by
  show((false||(backTo pos (starEach rest env)).any (·.1))||false)=false
  rw[Bz];rfl
 skip
 refine bp (wpAny_holding (Calls.evalArgs_plain (bq h (λvs s_1 eF=>?_) λ_ _ x=>x)))
 refine cps λ_ KK=>?_
 obtain⟨hh,g,d,t,os⟩:=s_1
 obtain⟨⟨nm,q,N,bs,sn,sub,col,dd,k0,k1,k2,k3,k5,hC⟩,l6⟩:=eF
 refine KK ?_
 have f1:=tc_lookup
 have hT:(⟨hh,g,d,t,os⟩:Shared).TypeIs (.ref C) "type":=⟨_,hC,rfl⟩
 refine bp (wpAny_standAt ?_)
 skip
 skip
 repeat (any_goals (first|assumption|with_reducible refine wpAny_loadPart_at hC ?_|with_reducible refine wpAny_load' hC ?_|wp_step))
 rw[if_pos (by rfl),dN]
 show wpAny _ _ (call (.ref C) vs [] >>= λr=>do holding [r] point;pure r) _ _ _
 exact bp (bq l6 (λr s' hr=>bp (wpAny_holding (wpAny_point (br hr)))) λ_ _ x=>x)
noncomputable def u0(C:Addr)(G:LF)(H:cV):EF:=λσ=>match G σ with
|some (ps,hp)=>match H (.obj hp.length::ps) (hp++[.ins C []])with
 |some (.dat .none,ai)=>some (.obj hp.length,ai)
 |_=>none
|none=>none
theorem QA{C:Addr}{G:LF}{H:cV}{σ:St}{pv:PV}{ai:List MO}{P:Prop}(q:u0 C G H σ=some (pv,ai))(k:∀ps hp,G σ=some (ps,hp)->H (.obj hp.length::ps) (hp++[.ins C []])=some (.dat .none,ai)->pv=.obj hp.length->P):P:=by
 unfold u0 at q
 cases h:G σ with
|none=>rw[h]at q;exact ar q
|some x =>
  replace q:=h▸q
  have q:(match H (.obj x.2.length::x.1) (x.2++[.ins C []])with|some (.dat .none,ai)=>some (PV.obj x.2.length,ai)|_=>none)=some (pv,ai):=q
  cases h2:H (.obj x.2.length::x.1) (x.2++[.ins C []])with
 |none=>rw[h2]at q;exact ar q
 |some y =>
   obtain⟨u,bU⟩:=y
   replace q:=h2▸q
   cases u with
  |dat d=>cases d with
   |none=>exact k x.1 x.2 h ((b7 q).2▸h2) (b7 q).1.symm
   |_=>exact ar q
  |_=>exact ar q
theorem cJ.aaY(h:cJ A (k+1)):cJ (A.under (.builtin "type.__call__" ⟨.ref C::vs,[]⟩)) k :=
 ⟨h.handled,by have:=h.depth;show A.depth+1+k < 900;exact ah (aU (bg A.depth 1 k)) this,by have:=h.units;show A.units+1+40*k < 9000;(exact Dz (by assumption) (by decide))⟩
theorem HR.made(H:HR ρ Z hp h)(M:Heap.MadeObj h h' x dx C):HR (ρ++[(x,dx)]) Z (hp++[.ins C []]) h':=by
 have wG:=H.fresh M.newX
 refine cps λ_ KK=>?_
 obtain⟨o,ho,hc,te,z3⟩:=M.inst
 refine KK ?_
 have D0:=M.dict o ho
 have hd:dx≠x∧h'.Ns1 dx (λ_=>none):=by
  rcases z3 with⟨e,_⟩|⟨d',e,h1,h2⟩
  ·exact ar (e.symm.trans D0)
  ·rw[← bX (e.symm.trans D0)];exact⟨h1,h2⟩
 refine H.push M.newD M.keeps ⟨λq=>?_,wG.2,o,_,ho,hc,te,D0,hd.1,hd.2,(λ_ h=>bT h),λ_ _=>rfl⟩
 rw[n5,List.mem_append]at q
 exact q.elim wG.1 λq=>hd.1 (ak q).symm
theorem Ev.new(gl:Gl K mg mb){C:Addr}{mN:Str->Option Value}(cl:jJ K C mN){cn:Str}{f:Addr}{of:Obj}{e:Expr}{es:List Expr}{pos np:Pos}{G:LF}{H:cV}{k:Nat}(hi:mN "__init__"=some (.ref f))(iZ:K f=some of)(kW:of.cls=.type "function")
  (he:fb prog w K O (e::es) G) (hH:tJ prog w K f k H) (hK:k+1≤O.k) (hk:O.sc.names.lookup cn=some .globalImplicit) (hg:mg cn=some (.ref C)) (hd:autoParam ((cn==("__debug__":Str))=false) sZ)
  (hs:autoParam (∀env,starEach (e::es) env=(false,eval e env)::starEach es env) sI) (hp:autoParam (∀env,(backTo pos (starEach es env)).any (·.1)=false) sI) :
  Ev prog w K O (.Call (.Name cn np) (e::es) [] pos) (u0 C G H):=.mk λA ρ Z σ s pv ai Rm R q=>QA q λps hp1 eG eH oB=>by
 refine Call_ (l9 gl R hk (.inl hg) ?_ hd)
 refine YI (bq (he.run pos A ρ Z σ s _ _ Rm R eG) (λvs s_1 p=>?_) λ_ _ q=>q) (hs _) (hp _)
 refine cps λ_ KK=>?_
 obtain⟨aD,aO,V,cg⟩:=p
 have aP:=R.next aO cg
 obtain⟨nm,qn,N,bs,sn,sub,col,dd,k0,k1,k2,k3,k5,HH,oo⟩:=cl.ex
 refine KK ?_
 refine⟨⟨nm,qn,N,bs,sn,sub,col,dd,k0,k1,k2,k3,k5,aP.top _ _ HH⟩,?_⟩
 refine wpAny_call_obj_init (h:=s_1.heap) (g:=s_1.gens) (d:=s_1.drawn) (t:=s_1.toks) (os:=s_1.os) F.objNew (aP.top _ _ HH) (oo _ aP.top) hi (aP.top _ _ iZ) kW λh' x dx M=>?_
 have nX:=cg.made M
 have ct:Ext [] aD s_1 (aD++[(x,dx)]) {s_1 with heap:=h'}:=⟨⟨_,rfl,λp hp=>(ak hp).symm▸M.newD⟩,λb o _ _ e=>M.keeps b o e,λb o e=>⟨o,M.keeps b o e⟩,rfl,rfl,λ_ _ e=>e,λh=>h⟩
 have cw:=aP.next ct nX
 have Vx:VR (aD++[(x,dx)]) Z h' (.obj hp1.length) (.ref x):=⟨x,dx,by rw[← cg.len,List.getElem?_append_right (Nat.le_refl _),Nat.sub_self];rfl,rfl⟩
 refine bq (hH.run _ _ Z _ _ (.obj hp1.length::ps) (.ref x::vs) _ _ (Rm.mono hK).aaY nX cw.top cw.off (.cons Vx (V.ext ct dF)) eH) (λv d4 p=>?_) λ_ _ q=>q
 refine cps λ_ KK=>?_
 obtain⟨cT,dC,⟨as,rv,_⟩,nJ⟩:=p
 refine KK ?_
 exact⟨rv.none_.1,cT,(aO.trans ct).trans dC,oB▸Vx.ext dC dF,nJ⟩
end
section
variable {prog:Program}{w:World}{K:Addr->Option Obj}{O:Fx}{mg mb:Str->Option Value}{A:Around}
noncomputable def Al:List (Nat×Str×Pos)->List Expr
|[]=>[]
|(_,x,p)::r=>.Name x p::Al r
noncomputable def EA:List Nat->List PV->Loc->Loc
|i::is,p::ps,loc=>EA is ps (loc.set i (some p))
|_,_,loc=>loc
inductive nT(prog:Program)(w:World)(A:Around)(O:Fx):List Nat->List (Value->Sem Unit)->Prop
|nil:nT prog w A O [] []
|cons {i is x op ops}:O.vars.lookup i=some x->iB O x->(∀(v:Value) (s:Shared) (Q:Unit->Shared->Prop),wpAny (model prog w) A (storeName O.env x v) Q a8 s->wpAny (model prog w) A (op v) Q a8 s)->nT prog w A O is ops->nT prog w A O (i::is) (op::ops)
theorem WR(x:nT prog w A O is ops):∀{ps:List PV} {vs:List Value} {ρ:aJ} {Z:List Addr} {σ:St} {s:Shared},SR K O ρ Z σ s->cU ρ Z s.heap ps vs->is.length=ps.length ->
  wpAny (model prog w) A (assignInOrder ops vs) (λ_ s'=>Ext O.own ρ s ρ s'∧SR K O ρ Z ⟨EA is ps σ.loc,σ.hp⟩ s') a8 s:=by
 induction x with
|nil =>
  intro ps vs ρ Z σ s R V hl
  cases V with
 |nil=>exact wpAny_assignInOrder_none ⟨Ext.refl _ _ _,R⟩
 |cons=>exact nomatch hl
|cons hv ok h r ih =>
  intro ps vs ρ Z σ s R V hl
  cases V with
 |nil=>exact nomatch hl
 |cons v V=>exact wpAny_assignInOrder_more (h _ _ _ (R.store hv ok v λs_1 aO aP=>bq (ih aP (V.ext aO R.er.dz) (Nat.succ.inj hl)) (λ_ bn q=>⟨aO.trans q.1,q.2⟩) λ_ _ q=>q))
theorem cU.append(x:cU ρ Z h a c)(y:cU ρ Z h b d):cU ρ Z h (a++b) (c++d) :=
 cU.rec (motive:=λa c _=>cU ρ Z h (a++b) (c++d)) y (λu _ ih=>.cons u ih) x
theorem cU.rev(V:cU ρ Z h ps vs):cU ρ Z h ps.reverse vs.reverse :=
 cU.rec (motive:=λps vs _=>cU ρ Z h ps.reverse vs.reverse) .nil (λu _ ih=>by rw[List.reverse_cons,List.reverse_cons];exact ih.append (.cons u .nil)) V
theorem cU.keep(k:∀a o,h.get? a=some o->h'.get? a=some o)(V:cU ρ Z h ps vs):cU ρ Z h' ps vs :=
 cU.rec (motive:=λps vs _=>cU ρ Z h' ps vs) .nil (λu _ ih=>.cons (u.keep k) ih) V
noncomputable def GA(prog:Program)(w:World)(A:Around)(O:Fx):List (Nat×Str×Pos)->Prop
|[]=>True
|(i,x,_)::r=>O.vars.lookup i=some x∧iB O x∧GA prog w A O r
theorem nT.append(x:nT prog w A O is a)(y:nT prog w A O js b):nT prog w A O (is++js) (a++b) :=
 nT.rec (motive:=λis a _=>nT prog w A O (is++js) (a++b)) y (λh1 h2 h3 _ ih=>.cons h1 h2 h3 ih) x
theorem OZ:∀{ts:List (Nat×Str×Pos)},GA prog w A O ts->nT prog w A O (ts.map (·.1)).reverse ((ts.map (·.2.1)).reverse.map λn=>bindName O.env n)
|[],_=>.nil
|(i,x,p)::r,h=>by
  rw[bP,bP,List.reverse_cons,List.reverse_cons,List.map_append]
  exact(OZ h.2.2).append (.cons h.1 h.2.1 (λv s Q hq=>wpAny_bindName hq) .nil)
noncomputable def wN(is:List Nat)(G:LF):XF:=λσ=>match G σ with
|some (ps,hp)=>if is.length=ps.length∧ps.length≤lim then some (.next,⟨EA is.reverse ps.reverse σ.loc,hp⟩)else none
|none=>none
theorem Ex.EL(hn:∀A,GA prog w A O ts)(he:fb prog w K O es G)(hw:swappedStores [.Tuple (Al ts) k p] (.Tuple es k' p') O.env=pure (some (ts.map (·.2.1))))
  (hs:autoParam (swapsWithSole [.Tuple (Al ts) k p] (.Tuple es k' p') pos.line O.env=pure false) sR):Ex prog w K O (.Assign [.Tuple (Al ts) k p] (.Tuple es k' p') pos) (wN (ts.map (·.1)) G):=.mk λA ρ Z σ s fl σ' Rm R q=>by
 refine IP q λps hp e1 q=>d8 q λhl e=>?_
 rw[exec_Assign_arm]
 refine bp (wpAny_standAt ?_)
 refine hs.symm▸?_
 refine bp (br ?_)
 rw[if_neg (by decide)]
 refine bp (wpAny_Tuple (bq (he.run p' A ρ Z σ s _ _ Rm R e1) (λvs s_1 P=>?_) λ_ _ q=>q))
 refine cps λ_ KK=>?_
 obtain⟨aD,aO,V,cg⟩:=P
 refine KK ?_
 have hlen:=V.length
 refine⟨hlen▸aa hl.2 b9,?_⟩
 have aP:=R.next aO cg
 have k1:∀b o,s_1.heap.get? b=some o->(s_1.heap.push {cls:=.type "tuple",data:=.seq vs.toArray}).get? b=some o:=λb o e=>ao _ e
 refine hw.symm▸?_
 refine bp (br ?_)
 skip
 skip
 refine bp (wpAny_rule (bp ?_))
 refine(show(ts.map (·.2.1)).length=vs.toArray.size by rw[bI,List.size_toArray,← hlen,← hl.1,bI]).symm▸?_
 refine wpAny_unpackItems_tuple (items:=vs.toArray) Rm.handled ⟨_,aX _ rfl,rfl,_,rfl⟩ λh' eb=>?_
 have k2:∀b o,s_1.heap.get? b=some o->h'.get? b=some o:=λb o e=>ExtBut.Do eb b o (k1 b o e)
 refine List.toList_toArray.symm▸?_
 exact bp (bq (WR (OZ (hn A)) (s:={s_1 with heap:=h'}) (aP.keep (t:=s_1.toks) k2) (V.keep k2).rev (List.length_reverse.symm▸List.length_reverse.symm▸hl.1)) (λ_ d4 q=>br (eY.eq (congrArg some e) ⟨aD,((aO.trans (Ext.of_keep (t:=s_1.toks) k2)).weak dF).trans q.1,q.2,rfl⟩)) λ_ _ q=>q)
noncomputable def th(F:EF)(T:PyData->Loc->Option Loc):XF:=bN F λpv σ=>match pv with
|.dat d=>match T d σ.loc with
 |some loc=>some (.next,⟨loc,σ.hp⟩)
 |none=>none
|_=>none
theorem ab8{T:PyData->Loc->Option Loc}{pv:PV}{σ:St}{r:Fl×St}{C:Prop}(q:(match pv with
|.dat d=>match T d σ.loc with
 |some loc=>some (Fl.next,(⟨loc,σ.hp⟩:St))
 |none=>none
|_=>none)=some r) (k:∀d loc,pv=.dat d->T d σ.loc=some loc->(.next,⟨loc,σ.hp⟩)=r->C):C:=by
 cases pv with
|dat d =>
  have q:(match T d σ.loc with|some loc=>some (Fl.next,(⟨loc,σ.hp⟩:St))|none=>none)=some r:=q
  cases h:T d σ.loc with
 |none=>rw[h]at q;exact ar q
 |some loc=>rw[h]at q;exact k d loc rfl h (bX q)
|_=>exact ar q
theorem Ex.HW{tg e:Expr}{pos:Pos}{F:EF}{T:PyData->Loc->Option Loc}(ht:As prog w K O tg T)(he:Ev prog w K O e F)(hs:swapsWithSole [tg] e pos.line O.env=pure false)(hw:swappedStores [tg] e O.env=pure none)
  (Yp:autoParam ((assignEach [tg] O.env).map (·.2)=[PySem.assign tg O.env]) sR):Ex prog w K O (.Assign [tg] e pos) (th F T):=.mk λA ρ Z σ s fl σ' Rm R q=>by
 refine wpAny_Assign_stores (he.lK Rm R q λpv v h1 aD s_1 e1 aO b3 aP=>ab8 e1 λd loc hp hT e=>?_) hs hw
 refine Yp.symm▸?_
 skip
 exact bq (ht.run A aD Z _ s_1 d v loc Rm aP (hp▸b3) hT) (λ_ bn p=>eY.eq (congrArg some e) ⟨aD,(aO.weak dF).trans p.1,p.2,rfl⟩) λ_ _ q=>q
noncomputable def FY(i j k:Nat)(F:EF):XF:=bN F λpv σ=>some (.next,⟨((σ.loc.set i (some pv)).set j (some pv)).set k (some pv),σ.hp⟩)
theorem Ex.Tk(hi:O.vars.lookup i=some x)(oi:iB O x)(hj:O.vars.lookup j=some y)(oj:iB O y)(hk:O.vars.lookup k=some z)(ok:iB O z)(he:Ev prog w K O e F) :
  Ex prog w K O (.Assign [.Name x px,.Name y py,.Name z pz] e pos) (FY i j k F):=.mk λA ρ Z σ s fl σ' Rm R q=>by
 refine wpAny_Assign_three (he.lK Rm R q λpv v h1 aD s_1 e1 aO b3 aP=>?_)
 refine wpAny_assign_Name (aP.store hi oi b3 λbn ct cw=>?_)
 refine wpAny_assign_Name (cw.store hj oj (VR.ext ct R.er.dz b3) λd4 dC fY=>?_)
 exact wpAny_assign_Name (fY.store hk ok (VR.ext dC R.er.dz (VR.ext ct R.er.dz b3)) λdq mh jG=>eY.eq e1 ⟨aD,(((aO.weak dF).trans ct).trans dC).trans mh,jG,rfl⟩)
theorem QX{s:Shared}{l:Addr}{items:Array Value}{n:Nat}{k:Int}{j:Nat}{t:Tok}{v:Value}{Q:Unit->Shared->Prop}(ho:s.heap.get? l=some {cls:=.type "list",dict:=none,data:=.seq items n,slots:=#[]})
  (hk:k=(j:Int)) (h0:0≤k) (Kx:k < 2 ^ 63) (hj:j < items.size) (hQ:Q () {s with heap:=s.heap.update l (Obj.mapSeq (·.setIfInBounds j v))}):wpAny (model prog w) A (setItem (.ref l) (.int k t) v) Q a8 s:=by
 have hl:s.heap.IsList l items:=⟨_,ho,rfl,n,rfl⟩
 have hd:(Data.seq items n)=.seq items n:=rfl
 unfold setItem
 try with_reducible refine wpAny_holding ?_
 first|refine bp (br ?_)|skip
 refine bp (wpAny_sequenceKey hl.typeIs (by decide) ?_)
 refine bp (wpAny_callSpecial?_slot (name:=Str.ofString "__setitem__") hl.typeIs slot_list_setitem
  (wpAny_call_entry slot_list_setitem hl.typeIs entry_list_setitem ?_ (args_list_setitem _ _ _)))
 show wpAny _ _ (Builtin.List.listSubscript? (.int k t) >>= _) _ _ s
 refine bp (wpAny_listSubscript_int (fitsIndex_of h0 Kx) ?_)
 clear Kx h0
 subst hk
 skip
 refine bp (bp (wpAny_seqItemAt ho hd (br ?_)))
 refine(Array.getElem?_eq_getElem hj).symm▸?_
 skip
 refine bp (wpAny_setSeqItemAt ho hd ?_)
 first
 |exact bp (br (br ⟨.none,rfl,br hQ⟩))
 |exact br ⟨.none,rfl,br hQ⟩
theorem bz.set(r:RD h v d bs)(rs:bz h vs ds as):∀k,∃cs,bz h (vs.set k v) (ds.set k d) cs∧∀a∈cs,a∈as∨a∈bs :=
 bz.ind (Q:=λvs ds as=>∀k,∃cs,bz h (vs.set k v) (ds.set k d) cs∧∀a∈cs,a∈as∨a∈bs) (λ_=>⟨[],.nil,λ_ h=>bT h⟩)
  (λx rr ih k=>by
   cases k with
  |zero=>exact⟨_,.cons r rr,λa ha=>(ae ha).elim .inr λh=>.inl (af _ h)⟩
  |succ k=>exact(ih k).elim λcs q=>⟨_,.cons x q.1,λa ha=>(ae ha).elim (λh=>.inl (au _ h)) λh=>(q.2 a h).imp_left λh=>af _ h⟩) rs
noncomputable def DY(Fe Fo Fi:EF):XF:=bN Fe λe σ=>bN Fo (λa σ=>bN Fi (λb σ=>match a,b,e with
|.obj i,.dat (.int k),.dat d=>match σ.hp[i]? with
 |some (.lst l)=>if 0≤k∧k.toNat < l.length∧l.length≤lim then some (.next,⟨σ.loc,σ.hp.set i (.lst (l.set k.toNat d))⟩)else none
 |_=>none
|_,_,_=>none) σ) σ
theorem RS{a b e:PV}{σ:St}{r:Fl×St}{C:Prop}(q:(match a,b,e with
|.obj i,.dat (.int k),.dat d=>match σ.hp[i]? with
 |some (.lst l)=>if 0≤k∧k.toNat < l.length∧l.length≤lim then some (Fl.next,(⟨σ.loc,σ.hp.set i (.lst (l.set k.toNat d))⟩:St))else none
 |_=>none
|_,_,_=>none)=some r) (c:∀i k d l,a=.obj i->b=.dat (.int k)->e=.dat d->σ.hp[i]?=some (.lst l)->0≤k->k.toNat < l.length->l.length≤lim->(.next,⟨σ.loc,σ.hp.set i (.lst (l.set k.toNat d))⟩)=r->C):C:=by
 cases a with
|obj i=>cases b with
 |dat x=>cases x with
  |int k=>cases e with
   |dat d =>
     have q:(match σ.hp[i]? with|some (.lst l)=>if 0≤k∧k.toNat < l.length∧l.length≤lim then some (Fl.next,(⟨σ.loc,σ.hp.set i (.lst (l.set k.toNat d))⟩:St))else none|_=>none)=some r:=q
     cases h:σ.hp[i]? with
    |none=>rw[h]at q;exact ar q
    |some mo=>cases mo with
     |lst l=>rw[h]at q;exact d8 q λhk e=>c i k d l rfl rfl rfl h hk.1 hk.2.1 hk.2.2 e
     |_=>rw[h]at q;exact ar q
   |_=>exact ar q
  |_=>exact ar q
 |_=>exact ar q
|_=>exact ar q
theorem Ex.setItem{o i e:Expr}{p pos:Pos}{Fe Fo Fi:EF}(he:Ev prog w K O e Fe)(ho:Ev prog w K O o Fo)(hi:Ev prog w K O i Fi)(hs:swapsWith e (some (.Subscript o i p)) pos.line O.env=pure false) :
  Ex prog w K O (.Assign [.Subscript o i p] e pos) (DY Fe Fo Fi):=.mk λA ρ Z σ s fl σ' Rm R q=>by
 refine wpAny_Assign_Subscript (he.lK Rm R q λe ve h1 aD s_1 e1 aO b3 aP=>ho.lK Rm aP e1 λa va h2 eA bn e2 ct gQ cw=>hi.lK Rm cw e2 λb vb h3 cT d4 e3 dC nk fY=>RS e3 λi k d l ha hb he hl Lz yB AC ee=>?_) hs
 replace gQ:=ha▸gQ
 replace nk:=hb▸nk
 replace b3:=he▸b3
 refine cps λ_ KK=>?_
 obtain⟨r,b,hr,qK⟩:=gQ.ext dC (dF (Y:=Z))
 obtain⟨kU,vs,n,as,ho,rs,qa⟩:=fY.hr.list hl hr
 obtain⟨bs,rv,qb⟩:=(b3.ext ct (dF (Y:=Z))).ext dC (dF (Y:=Z))
 obtain⟨_,rk,_⟩:=nk
 obtain⟨t,T7,_⟩:=rk.jP
 refine KK ?_
 refine qK.symm▸T7.symm▸kU.symm▸?_
 rw[kU]at hr ho
 have e4:=rs.length
 replace e4:=Array.length_toList▸e4
 refine QX ho (Int.toNat_of_nonneg Lz).symm Lz (Int.lt_of_le_of_lt (Int.toNat_le.mp (aa (aG yB) AC)) (by decide)) (e4▸yB) ?_
 refine cps λ_ KK=>?_
 obtain⟨n',hm⟩:=Dm (·.setIfInBounds k.toNat ve) vs n
 obtain⟨cs,rc,qc⟩:=bz.set rv rs k.toNat
 have e':(d4.heap.update b (Obj.mapSeq (·.setIfInBounds k.toNat ve))).get? b=some {cls:=.type "list",dict:=none,data:=.seq (vs.setIfInBounds k.toNat ve) n',slots:=#[]}:=by
  rw[Heap.get?_update_self _ ho (by rw[hm];rfl),hm]
 obtain⟨xE,mh,_,Sz⟩:=cE.Fp (pv:=.dat .none) (v:=.none) fY.hr hr (Heap.SameBut.update ..) e' (ds:=l.set k.toNat d) (Array.toList_setIfInBounds.symm▸rc) (λa ha=>(qc a ha).elim (qa a) (qb a)) ⟨[],.none,λ_ h=>bT h⟩
 refine KK ?_
 exact eY.eq (congrArg some ee) ⟨xE,(((aO.trans ct).trans dC).trans mh).weak dF,fY.next mh Sz,rfl⟩
end
end Mine
end
section
open PySem PySem.Sre
namespace Mine
theorem U2{m:M}(ho:m.outcome=none)(ha:m.answer=none)(hp:m.pc < m.code.size):m.step=m.exec:=by
 unfold M.step
 refine ho.symm▸ha.symm▸?_
 simp only[Option.isSome_none,Bool.false_eq_true,if_false,hp,if_true]
theorem N9{m:M}{c:Nat}(h1:m.code.getD m.pc 0=16)(h2:m.code.getD (m.pc+1) 0=c)(hl:m.pos < m.lim)(hc:m.text.getD m.pos 0=c) :
  ∃sn,m.exec={m with seen:=sn,pc:=m.pc+2,pos:=m.pos+1}:=by
 have e:ops[m.code.getD m.pc 0]?=some .LITERAL:=by rw[h1];rfl
 refine⟨m.seen.add (m.code.getD m.pc 0),?_⟩
 unfold M.exec M.word
 simp only[Nat.add_zero,e]
 rw[if_neg (Nat.not_le.mpr hl)]
 unfold accepts itemWidth
 simp only[e,h2,hc,beq_self_eq_true]
theorem CC{m:M}{c:Nat}(h1:m.code.getD m.pc 0=16)(h2:m.code.getD (m.pc+1) 0=c)(hc:m.lim≤m.pos∨m.text.getD m.pos 0≠c) :
  ∃sn,m.exec={m with seen:=sn,answer:=some false}:=by
 have e:ops[m.code.getD m.pc 0]?=some .LITERAL:=by rw[h1];rfl
 refine⟨m.seen.add (m.code.getD m.pc 0),?_⟩
 unfold M.exec M.word
 simp only[Nat.add_zero,e]
 by_cases hl:m.pos ≥ m.lim
 ·rw[if_pos hl];rfl
 ·rw[if_neg hl]
  have hc:m.text.getD m.pos 0≠c:=hc.resolve_left hl
  have hb:(m.text.getD m.pos 0==c)=false:=by simpa using hc
  unfold accepts
  simp only[e,h2,hb]
  rfl
theorem Yl{m:M}{k:Nat}(h1:m.code.getD m.pc 0=15)(h2:m.code.getD (m.pc+1) 0=k) :
  ∃sn,m.exec={m with seen:=sn,pc:=m.pc+1+k}:=by
 have e:ops[m.code.getD m.pc 0]?=some .JUMP:=by rw[h1];rfl
 refine⟨m.seen.add (m.code.getD m.pc 0),?_⟩
 unfold M.exec M.word
 simp only[Nat.add_zero,e]
 simp only[h2]
theorem NG{m:M}(h1:m.code.getD m.pc 0=1)(hw:m.wholeText=false)(hm:m.mustAdvance=false) :
  ∃sn,m.exec={m with seen:=sn,handed:=m.pos,answer:=some true}:=by
 have e:ops[m.code.getD m.pc 0]?=some .SUCCESS:=by rw[h1];rfl
 refine⟨m.seen.add (m.code.getD m.pc 0),?_⟩
 unfold M.exec M.word
 simp only[Nat.add_zero,e]
 simp only[hw,hm,Bool.false_and,Bool.or_false,Bool.and_false,Bool.false_eq_true,if_false]
 rfl
theorem un{n:Nat}{m:M}(h:m.outcome.isSome=true):m.runFor n=m:=by
 cases n with
|zero=>rfl
|succ n=>unfold M.runFor;rw[if_pos h]
theorem u7:∀(a b:Nat) (m:M),m.runFor (a+b)=(m.runFor a).runFor b
|0,b,m=>by rw[Nat.zero_add];rfl
|a+1,b,m=>by
  refine(show a+1+b=(a+b)+1 by (exact bg _ _ _)).symm▸?_
  cases h:m.outcome.isSome with
 |true=>rw[un h,un h,un h]
 |false =>
   show(if m.outcome.isSome=true then m else M.runFor (a+b) m.step)=M.runFor b (if m.outcome.isSome=true then m else M.runFor a m.step)
   refine h.symm▸?_
   simp only[Bool.false_eq_true,if_false]
   exact u7 a b m.step
noncomputable def Runs(n:Nat)(m m':M):Prop:=m.runFor n=m'
theorem Runs.one(ho:m.outcome=none)(h:m.step=m'):Runs 1 m m':=by
 unfold Runs M.runFor
 refine ho.symm▸?_
 simp only[Option.isSome_none,Bool.false_eq_true,if_false]
 refine h.symm▸?_
 rfl
theorem Runs.trans(h:Runs a m m')(k:Runs b m' m''):Runs (a+b) m m'':=by
 unfold Runs at *
 rw[u7,h,k]
theorem Runs.exec{m m':M}(ho:m.outcome=none)(ha:m.answer=none)(hp:m.pc < m.code.size)(h:m.exec=m'):Runs 1 m m':=Runs.one ho ((U2 ho ha hp).trans h)
theorem Runs.back(ho:m.outcome=none)(ha:m.answer=some yes)(hf:m.frames=f::rest)
  (h:M.resume {m with outcome:=none,answer:=none,frames:=rest,weight:=m.weight - (1+f.kept.marks.size),pc:=f.pc,pos:=f.pos,outermost:=f.outermost} f yes=m'):Runs 1 m m':=by
 refine Runs.one ho ?_
 unfold M.step
 refine ho.symm▸ha.symm▸hf.symm▸?_
 simp only[Option.isSome_none,Bool.false_eq_true,if_false]
 exact h
theorem Runs.out(ho:m.outcome=none)(ha:m.answer=some yes)(hf:m.frames=[]):Runs 1 m {m with outcome:=some (if yes then .matched else .failed)}:=by
 refine Runs.one ho ?_
 unfold M.step
 refine ho.symm▸ha.symm▸hf.symm▸?_
 simp only[Option.isSome_none,Bool.false_eq_true,if_false]
noncomputable abbrev st(code text:Array Nat)(lim start lastStart:Nat)(sn:Seen)(pc pos handed:Nat)(out:Bool)(frames:List Sre.Frame)(weight:Nat)(Xi:Option Bool):M :=
 {code,text,lim,start,lastStart,pc,pos,handed,outermost:=out,marks:=#[],frames,weight,answer:=Xi,seen:=sn}
noncomputable abbrev eP(pc pos:Nat)(out:Bool):Sre.Frame:={wait:=.nextStart,pc,pos,outermost:=out}
noncomputable abbrev i3(pc pos:Nat)(out:Bool)(k:Sre.Kept):Sre.Frame:={wait:=.nextBranch,pc,pos,outermost:=out,kept:=k}
section
variable {text:Array Nat}{s ls:Nat}
theorem Rw{start h:Nat}{sn:Seen}{o9 posB o0 oV:Nat}{o1 o2:Bool}{k:Sre.Kept}{pc pos wt:Nat}{o:Bool} :
  ∃m',Runs 3 (st dc text text.size start ls sn pc pos h o [i3 o9 posB o1 k,eP o0 oV o2] wt (some true)) m'∧m'.outcome=some .matched∧m'.start=start∧m'.handed=h :=
 ⟨_,(Runs.back rfl rfl rfl rfl).trans ((Runs.back rfl rfl rfl rfl).trans (Runs.out rfl rfl rfl)),rfl,rfl,rfl⟩
theorem TI(sn:Seen):∃eV,Runs 1 (st dc text text.size s ls sn 10 s s true [eP 10 s true] 1 none) (st dc text text.size s ls eV 12 s s true [i3 11 s true {},eP 10 s true] 2 none) :=
 ⟨_,Runs.exec rfl rfl (show(10:Nat) < 36 by decide) rfl⟩
theorem zP{pc pos h c:Nat}{sn:Seen}{o:Bool}{fs:List Sre.Frame}{wt start:Nat}(hp:pc < 36)(h1:dc.getD pc 0=16)(h2:dc.getD (pc+1) 0=c)(hl:pos < text.size)(hc:text.getD pos 0=c) :
  ∃eV,Runs 1 (st dc text text.size start ls sn pc pos h o fs wt none) (st dc text text.size start ls eV (pc+2) (pos+1) h o fs wt none):=by
 obtain⟨eV,e⟩:=N9 (m:=st dc text text.size start ls sn pc pos h o fs wt none) h1 h2 hl hc
 exact⟨eV,Runs.exec rfl rfl hp e⟩
theorem Bj{pc pos h c:Nat}{sn:Seen}{o:Bool}{fs:List Sre.Frame}{wt start:Nat}(hp:pc < 36)(h1:dc.getD pc 0=16)(h2:dc.getD (pc+1) 0=c)(hc:text.size≤pos∨text.getD pos 0≠c) :
  ∃eV,Runs 1 (st dc text text.size start ls sn pc pos h o fs wt none) (st dc text text.size start ls eV pc pos h o fs wt (some false)):=by
 obtain⟨eV,e⟩:=CC (m:=st dc text text.size start ls sn pc pos h o fs wt none) h1 h2 hc
 exact⟨eV,Runs.exec rfl rfl hp e⟩
theorem ZU{pc pos h k:Nat}{sn:Seen}{o:Bool}{fs:List Sre.Frame}{wt start:Nat}(hp:pc < 36)(h1:dc.getD pc 0=15)(h2:dc.getD (pc+1) 0=k) :
  ∃eV,Runs 1 (st dc text text.size start ls sn pc pos h o fs wt none) (st dc text text.size start ls eV (pc+1+k) pos h o fs wt none):=by
 obtain⟨eV,e⟩:=Yl (m:=st dc text text.size start ls sn pc pos h o fs wt none) h1 h2
 exact⟨eV,Runs.exec rfl rfl hp e⟩
theorem success{pos h:Nat}{sn:Seen}{o:Bool}{fs:List Sre.Frame}{wt start pc:Nat}(hp:pc < 36)(h1:dc.getD pc 0=1) :
  ∃eV,Runs 1 (st dc text text.size start ls sn pc pos h o fs wt none) (st dc text text.size start ls eV pc pos pos o fs wt (some true)):=by
 obtain⟨eV,e⟩:=NG (m:=st dc text text.size start ls sn pc pos h o fs wt none) h1 rfl rfl
 exact⟨eV,Runs.exec rfl rfl hp e⟩
theorem Gq{pc pos h:Nat}{sn:Seen}{o1 o2:Bool}{k:Sre.Kept}{o9 posB o0 oV wt start:Nat}(hp:pc < 36)(h1:dc.getD pc 0=15)(h2:pc+1+dc.getD (pc+1) 0=35) :
  ∃m',Runs 5 (st dc text text.size start ls sn pc pos h true [i3 o9 posB o1 k,eP o0 oV o2] wt none) m'∧m'.outcome=some .matched∧m'.start=start∧m'.handed=pos:=by
 refine cps λ_ KK=>?_
 obtain⟨lF,r1⟩:=ZU (text:=text) (ls:=ls) (pos:=pos) (h:=h) (sn:=sn) (o:=true) (fs:=[i3 o9 posB o1 k,eP o0 oV o2]) (wt:=wt) (start:=start) hp h1 rfl
 rw[h2]at r1
 obtain⟨jT,r2⟩:=success (text:=text) (ls:=ls) (pos:=pos) (h:=h) (sn:=lF) (o:=true) (fs:=[i3 o9 posB o1 k,eP o0 oV o2]) (wt:=wt) (start:=start) (pc:=35) (by decide) rfl
 obtain⟨m',r3,q⟩:=Rw (text:=text) (ls:=ls) (start:=start) (h:=pos) (sn:=jT) (o9:=o9) (posB:=posB) (o0:=o0) (oV:=oV) (o1:=o1) (o2:=o2) (k:=k) (pc:=35) (pos:=pos) (wt:=wt) (o:=true)
 refine KK ?_
 exact⟨m',r1.trans (r2.trans r3),q⟩
theorem LY:∃eV,Runs 1 (st dc text text.size s ls sn pc pos h o [i3 11 s true {},eP 10 s true] 2 (some false)) (st dc text text.size s ls eV 19 s s true [i3 18 s true {},eP 10 s true] 2 none) :=
 ⟨_,Runs.back rfl rfl rfl rfl⟩
theorem abk:∃eV,Runs 1 (st dc text text.size s ls sn pc pos h o [i3 18 s true {},eP 10 s true] 2 (some false)) (st dc text text.size s ls eV 24 s s true [i3 23 s true {},eP 10 s true] 2 none) :=
 ⟨_,Runs.back rfl rfl rfl rfl⟩
noncomputable abbrev DT(pc pos:Nat)(out:Bool)(k:Sre.Kept):Sre.Frame:={wait:=.lookNot,pc,pos,outermost:=out,kept:=k}
theorem look{sn:Seen}{pos h:Nat}{fs:List Sre.Frame}{start:Nat}:∃eV,Runs 1 (st dc text text.size start ls sn 26 pos h true fs 2 none) (st dc text text.size start ls eV 29 pos pos false (DT 26 pos true {}::fs) 3 none) :=
 ⟨_,Runs.exec rfl rfl (show(26:Nat) < 36 by decide) rfl⟩
theorem UZ{sn:Seen}{pc pos p h:Nat}{o:Bool}{fs:List Sre.Frame}{start:Nat}:∃eV,Runs 1 (st dc text text.size start ls sn pc p h o (DT 26 pos true {}::fs) 3 (some false)) (st dc text text.size start ls eV 32 pos h true fs 2 none) :=
 ⟨_,Runs.back rfl rfl rfl rfl⟩
theorem Qq{sn:Seen}(hl:s < text.size)(hc:text.getD s 0=10∨text.getD s 0=13) :
  ∃n m',n≤16∧Runs n (st dc text text.size s ls sn 10 s s true [eP 10 s true] 1 none) m'∧m'.outcome=some .matched∧m'.start=s ∧
   m'.handed=(if text.getD s 0=13∧s+1 < text.size∧text.getD (s+1) 0=10 then s+2 else s+1):=by
 obtain⟨lF,r1⟩:=TI (text:=text) (s:=s) (ls:=ls) sn
 by_cases lR:text.getD s 0=13
 ·obtain⟨jT,r2⟩:=zP (text:=text) (ls:=ls) (pc:=12) (h:=s) (sn:=lF) (o:=true) (fs:=[i3 11 s true {},eP 10 s true]) (wt:=2) (start:=s) (by decide) rfl rfl hl lR
  by_cases ko:s+1 < text.size∧text.getD (s+1) 0=10
  ·refine cps λ_ KK=>?_
   obtain⟨qB,r3⟩:=zP (text:=text) (ls:=ls) (pc:=14) (h:=s) (sn:=jT) (o:=true) (fs:=[i3 11 s true {},eP 10 s true]) (wt:=2) (start:=s) (by decide) rfl rfl ko.1 ko.2
   obtain⟨m',r4,q1,q2,q3⟩:=Gq (text:=text) (ls:=ls) (pc:=16) (pos:=s+2) (h:=s) (sn:=qB) (o1:=true) (o2:=true) (k:={}) (o9:=11) (posB:=s) (o0:=10) (oV:=s) (wt:=2) (start:=s) (by decide) rfl rfl
   refine KK ?_
   exact⟨_,m',by decide,r1.trans (r2.trans (r3.trans r4)),q1,q2,by rw[if_pos ⟨lR,ko⟩];exact q3⟩
  ·have hn:text.size≤s+1∨text.getD (s+1) 0≠10:=by
    by_cases h:s+1 < text.size
    ·exact .inr λq=>ko ⟨h,q⟩
    ·exact .inl (by (exact Nat.le_of_not_lt (by assumption)))
   refine cps λ_ KK=>?_
   obtain⟨qB,r3⟩:=Bj (text:=text) (ls:=ls) (pc:=14) (h:=s) (sn:=jT) (o:=true) (fs:=[i3 11 s true {},eP 10 s true]) (wt:=2) (start:=s) (by decide) rfl rfl hn
   obtain⟨G7,r4⟩:=LY (text:=text) (s:=s) (ls:=ls) (sn:=qB) (pc:=14) (pos:=s+1) (h:=s) (o:=true)
   obtain⟨sn5,r5⟩:=Bj (text:=text) (ls:=ls) (pc:=19) (pos:=s) (h:=s) (sn:=G7) (o:=true) (fs:=[i3 18 s true {},eP 10 s true]) (wt:=2) (start:=s) (by decide) rfl rfl (.inr (by rw[lR];decide))
   obtain⟨Zt,r6⟩:=abk (text:=text) (s:=s) (ls:=ls) (sn:=sn5) (pc:=19) (pos:=s) (h:=s) (o:=true)
   obtain⟨RQ,r7⟩:=zP (text:=text) (ls:=ls) (pc:=24) (h:=s) (sn:=Zt) (o:=true) (fs:=[i3 23 s true {},eP 10 s true]) (wt:=2) (start:=s) (by decide) rfl rfl hl lR
   obtain⟨sn8,r8⟩:=look (text:=text) (ls:=ls) (sn:=RQ) (pos:=s+1) (h:=s) (fs:=[i3 23 s true {},eP 10 s true]) (start:=s)
   obtain⟨Xk,r9⟩:=Bj (text:=text) (ls:=ls) (pc:=29) (pos:=s+1) (h:=s+1) (sn:=sn8) (o:=false) (fs:=DT 26 (s+1) true {}::[i3 23 s true {},eP 10 s true]) (wt:=3) (start:=s) (by decide) rfl rfl hn
   obtain⟨abg,Qi⟩:=UZ (text:=text) (ls:=ls) (sn:=Xk) (pc:=29) (pos:=s+1) (p:=s+1) (h:=s+1) (o:=false) (fs:=[i3 23 s true {},eP 10 s true]) (start:=s)
   obtain⟨m',UK,q1,q2,q3⟩:=Gq (text:=text) (ls:=ls) (pc:=32) (pos:=s+1) (h:=s+1) (sn:=abg) (o1:=true) (o2:=true) (k:={}) (o9:=23) (posB:=s) (o0:=10) (oV:=s) (wt:=2) (start:=s) (by decide) rfl rfl
   refine KK ?_
   exact⟨_,m',by decide,r1.trans (r2.trans (r3.trans (r4.trans (r5.trans (r6.trans (r7.trans (r8.trans (r9.trans (Qi.trans UK))))))))),q1,q2,by rw[if_neg (λq=>ko q.2)];exact q3⟩
 ·have ko:text.getD s 0=10:=hc.resolve_right lR
  refine cps λ_ KK=>?_
  obtain⟨jT,r2⟩:=Bj (text:=text) (ls:=ls) (pc:=12) (pos:=s) (h:=s) (sn:=lF) (o:=true) (fs:=[i3 11 s true {},eP 10 s true]) (wt:=2) (start:=s) (by decide) rfl rfl (.inr lR)
  obtain⟨qB,r3⟩:=LY (text:=text) (s:=s) (ls:=ls) (sn:=jT) (pc:=12) (pos:=s) (h:=s) (o:=true)
  obtain⟨G7,r4⟩:=zP (text:=text) (ls:=ls) (pc:=19) (h:=s) (sn:=qB) (o:=true) (fs:=[i3 18 s true {},eP 10 s true]) (wt:=2) (start:=s) (by decide) rfl rfl hl ko
  obtain⟨m',r5,q1,q2,q3⟩:=Gq (text:=text) (ls:=ls) (pc:=21) (pos:=s+1) (h:=s) (sn:=G7) (o1:=true) (o2:=true) (k:={}) (o9:=18) (posB:=s) (o0:=10) (oV:=s) (wt:=2) (start:=s) (by decide) rfl rfl
  refine KK ?_
  exact⟨_,m',by decide,r1.trans (r2.trans (r3.trans (r4.trans r5))),q1,q2,by rw[if_neg (λq=>lR q.1)];exact q3⟩
noncomputable def nl2:List Nat->Nat->Option (Nat×Nat)
|[],_=>none
|[c],s=>if c==10||c==13 then some (s,s+1)else none
|c::c'::r,s=>if c==10||c==13 then some (s,if c==13&&c'==10 then s+2 else s+1)else nl2 (c'::r) (s+1)
theorem W4(c)(sn:Seen):∃eV,inSet dc c dc.size 5 true sn=.ok (c==10||c==13,eV):=by
 by_cases h1:c=10
 ·subst h1
  exact⟨_,rfl⟩
 ·by_cases h2:c=13
  ·subst h2
   exact⟨_,rfl⟩
  ·have e1:(c==10)=false:=by simpa using h1
   have e2:(c==13)=false:=by simpa using h2
   refine⟨((sn.add 16).add 16).add 0,?_⟩
   show(if(c==10)=true then _ else(if(c==13)=true then _ else _))=_
   refine e1.symm▸e2.symm▸?_
   rfl
theorem xw{text:Array Nat}{s c:Nat}{r:List Nat}(h:text.toList.drop s=c::r):s < text.size∧text.getD s 0=c∧text.toList.drop (s+1)=r:=by
 have hs:s < text.toList.length:=by
  rcases Nat.lt_or_ge s text.toList.length with q|q
  ·exact q
  ·rw[List.drop_eq_nil_of_le q]at h;cases h
 rw[List.drop_eq_getElem_cons hs]at h
 injection h with h1 h2
 have lC:s < text.size:=by simpa using hs
 exact⟨lC,by rw[← h1];simp[Array.getD,lC],h2⟩
theorem LI(hc:m.code=dc)(ht:m.text=text)(hl:m.lim=text.size):∀(l:List Nat) (s fuel:Nat) (sn:Seen),text.toList.drop s=l->l.length < fuel->∃eV,M.admitted m fuel s sn=.ok ((nl2 l s).map (·.1),eV)
|[],s,fuel+1,sn,hd,_=>by
  have hs:text.size≤s:=by
   have:=List.drop_eq_nil_iff.mp hd
   simpa using this
  refine⟨sn,?_⟩
  unfold M.admitted
  rw[if_pos (by rw[hl];exact hs)]
  rfl
|c::r,s,fuel+1,sn,hd,hf=>by
  obtain⟨h1,h2,h3⟩:=xw hd
  obtain⟨lF,e1⟩:=W4 c sn
  unfold M.admitted
  rw[if_neg (by rw[hl];exact Nat.not_le.mpr h1),hc,ht,h2,e1]
  cases hb:(c==10||c==13)with
 |true =>
   refine⟨lF,?_⟩
   cases r with
  |nil=>simp[nl2,hb]
  |cons c' r=>simp[nl2,hb]
 |false =>
   obtain⟨jT,e2⟩:=LI hc ht hl r (s+1) fuel lF h3 (by simp only[List.length_cons]at hf;(exact aC (by assumption)))
   refine⟨jT,?_⟩
   dsimp only
   refine e2.symm▸?_
   cases r with
  |nil=>simp[nl2,hb]
  |cons c' r=>simp[nl2,hb]
theorem UQ{text:Array Nat}{s:Nat}(h:text.toList.drop s=[]):text.size≤s:=List.drop_eq_nil_iff.mp h
theorem Zh:(c==13&&c'==10)=true↔c=13∧c'=10:=by rw[Bool.and_eq_true,beq_iff_eq,beq_iff_eq]
theorem Lf(h:(c==10||c==13)=true):c=10∨c=13:=by rwa [Bool.or_eq_true,beq_iff_eq,beq_iff_eq]at h
inductive GW(text:Array Nat)(b e:Nat):Prop
|mk:b < text.size->(text.getD b 0=10∨text.getD b 0=13)->e=(if text.getD b 0=13∧b+1 < text.size∧text.getD (b+1) 0=10 then b+2 else b+1)->GW text b e
theorem V5[Decidable c][Decidable d](h:c↔d)(x y:α):(if c then x else y)=if d then x else y:=by
 by_cases q:c
 ·exact(if_pos q).symm▸(if_pos (h.mp q)).symm▸rfl
 ·exact(if_neg q).symm▸(if_neg λp=>q (h.mpr p)).symm▸rfl
theorem E0{α:Type}{c:Prop}[Decidable c]{x:α}{o:Option α}{y:α}{C:Prop}(e:(if c then some x else o)=some y)(k1:c->x=y->C)(k2:¬ c->o=some y->C):C:=by
 by_cases h:c
 ·rw[if_pos h]at e;exact k1 h (bX e)
 ·rw[if_neg h]at e;exact k2 h e
theorem M6:∀(l:List Nat) (s b e:Nat),text.toList.drop s=l->nl2 l s=some (b,e)->GW text b e
|[],s,b,e,_,h=>ar h
|[c],s,b,e,hd,h=>by
  obtain⟨h1,h2,h3⟩:=xw hd
  refine d8 (show(if(c==10||c==13)=true then some (s,s+1)else none)=some (b,e)from h) λhc q=>?_
  obtain⟨rfl,rfl⟩:=a5 q
  exact⟨h1,h2.symm▸Lf hc,(if_neg λq=>Nat.not_le.mpr q.2.1 (UQ h3)).symm⟩
|c::c'::r,s,b,e,hd,h=>by
  obtain⟨h1,h2,h3⟩:=xw hd
  obtain⟨h4,h5,_⟩:=xw h3
  refine E0 (show(if(c==10||c==13)=true then some (s,if(c==13&&c'==10)=true then s+2 else s+1)else nl2 (c'::r) (s+1))=some (b,e)from h) (λhc q=>?_) λ_ h=>M6 (c'::r) (s+1) b e h3 h
  obtain⟨rfl,rfl⟩:=a5 q
  refine⟨h1,h2.symm▸Lf hc,?_⟩
  refine h2.symm▸h5.symm▸?_
  exact V5 (Zh.trans ⟨λq=>⟨q.1,h4,q.2⟩,λq=>⟨q.1,q.2.2⟩⟩) _ _
noncomputable def SM(o:Option (Nat×Nat))(m':M):Prop:=match o with
 |some (b,e)=>m'.outcome=some .matched∧m'.start=b∧m'.handed=e
 |none=>m'.outcome=some .failed
noncomputable def Sr(m:M)(o:Option (Nat×Nat)):Prop:=∃n m',n≤16∧Runs n m m'∧SM o m'
theorem S4(ho:∀b e,o=some (b,e)->GW text b e)(ea:M.admitted (st dc text text.size p text.size sn 10 p p true [] 0 none) (text.size+1 - p) p sn=.ok (o.map (·.1),eV)) :
  Sr (M.attemptFrom (st dc text text.size p text.size sn 10 p p true [] 0 none) p true) o:=by
 unfold M.attemptFrom
 rw[show(st dc text text.size p text.size sn 10 p p true [] 0 none).hasFirstSet=true from rfl,if_neg (by decide)]
 have Vr:M.admitted (st dc text text.size p text.size sn 10 p p true [] 0 none) ((st dc text text.size p text.size sn 10 p p true [] 0 none).lim+1 - p) p (st dc text text.size p text.size sn 10 p p true [] 0 none).seen=_:=ea
 refine Vr.symm▸?_
 cases o with
|none=>exact⟨1,_,by decide,Runs.out (yes:=false) rfl rfl rfl,rfl⟩
|some be =>
  refine cps λ_ KK=>?_
  obtain⟨h1,h2,h3⟩:=ho _ _ rfl
  obtain⟨n,m',hle,hr,q1,q2,q3⟩:=Qq (ls:=text.size) (sn:=eV) h1 h2
  refine KK ?_
  exact⟨n,m',hle,hr,q1,q2,q3.trans h3.symm⟩
theorem ZW(hp:p≤text.size):Sr (forSearch dc text 0 p text.size false) (nl2 (text.toList.drop p) p):=by
 by_cases h0:text.size - p < 1
 ·refine(List.drop_eq_nil_of_le (show text.toList.length≤p from Nat.le_of_sub_eq_zero (Nat.lt_one_iff.mp h0))).symm▸?_
  have e:∃m:M,forSearch dc text 0 p text.size false=m.say false∧m.outcome=none∧m.frames=[]:=by
   unfold forSearch;exact⟨_,if_pos (by rw[Bool.or_eq_true];exact .inr (decide_eq_true h0)),rfl,rfl⟩
  obtain⟨m,e,h1,h2⟩:=e
  refine e.symm▸?_
  exact⟨1,_,by decide,Runs.out (yes:=false) h1 rfl h2,rfl⟩
 ·have hF:forSearch dc text 0 p text.size false=M.attemptFrom (st dc text text.size p text.size (({}:Seen).add 14) 10 p p true [] 0 none) p true:=by
   unfold forSearch
   rw[if_neg (by simp;exact⟨hp,by show 1≤_;(exact Nat.le_of_not_lt (by assumption))⟩)]
   rfl
  obtain⟨sn,ea⟩:=LI (m:=st dc text text.size p text.size (({}:Seen).add 14) 10 p p true [] 0 none) (text:=text) rfl rfl rfl (text.toList.drop p) p (text.size+1 - p) (({}:Seen).add 14) rfl (List.length_drop.symm▸(Nat.succ_sub hp).symm▸a7 _)
  refine hF.symm▸?_
  exact S4 (λb e h=>M6 _ p b e rfl h) ea
end
theorem JJ{m:M}{k:Nat}{b:Bool}(h1:m.code.getD m.pc 0=6)(h2:m.code.getD (m.pc+1) 0=1)(hb:(m.pos==0||m.text.getD (m.pos - 1) 0==10)=b) :
  ∃sn,m.exec=(if b then {m with seen:=sn,pc:=m.pc+2} else {m with seen:=sn,answer:=some false}):=by
 have e:ops[m.code.getD m.pc 0]?=some .AT:=by rw[h1];rfl
 refine⟨(m.seen.add (m.code.getD m.pc 0)).add (43+1),?_⟩
 unfold M.exec M.word
 simp only[Nat.add_zero,e,h2]
 unfold M.isAt
 simp only[hb]
 cases b<;>rfl
section
variable {text:Array Nat}
noncomputable def bol(text:Array Nat)(s:Nat):Bool:=s==0||text.getD (s - 1) 0==10
noncomputable def nr:List Nat->Bool->Nat->Option Nat
|[],_,_=>none
|c::r,b,s=>if b&&c==46 then some s else nr r (c==10) (s+1)
theorem NW(hs:s < text.size):∃eV,Runs 1 (st je text text.size s text.size sn pc pos h o [eP 5 s o'] 1 (some false)) (st je text text.size (s+1) text.size eV 5 (s+1) (s+1) false [eP 5 (s+1) false] 1 none):=by
 refine⟨sn,Runs.back rfl rfl rfl ?_⟩
 show(if s < text.size then _ else _)=_
 rw[if_pos hs]
 rfl
theorem K7(hs:¬ s < text.size):∃m',Runs 2 (st je text text.size s text.size sn pc pos h o [eP 5 s o'] 1 (some false)) m'∧m'.outcome=some .failed:=by
 refine⟨_,(Runs.back (m':=st je text text.size s text.size sn 5 s h o' [] 0 (some false)) rfl rfl rfl ?_).trans (Runs.out rfl rfl rfl),rfl⟩
 show(if s < text.size then _ else _)=_
 rw[if_neg hs]
 rfl
theorem WP(h:n≤a)(d:a+2≤b):1+(1+n)≤b:=by
 rw[← Nat.add_assoc,Nat.add_comm]
 exact aa (az h 2) d
theorem VA(h:n≤a)(d:a+3≤b):1+(1+(1+n))≤b:=by
 rw[← Nat.add_assoc,← Nat.add_assoc,Nat.add_comm]
 exact aa (az h 3) d
theorem aau:∀(l:List Nat) (s:Nat) (sn:Seen) (o:Bool),text.toList.drop s=l->s≤text.size->∃n m',n≤4*l.length+6∧Runs n (st je text text.size s text.size sn 5 s s o [eP 5 s o] 1 none) m'∧(match nr l (bol text s) s with
 |some b=>m'.outcome=some .matched∧m'.start=b∧m'.handed=b+1
 |none=>m'.outcome=some .failed):=λl=>by
 induction l with
|nil =>
  intro s sn o hd hs
  have he:text.size≤s:=by
   have:=List.drop_eq_nil_iff.mp hd
   simpa using this
  obtain⟨lF,e1⟩:=JJ (m:=st je text text.size s text.size sn 5 s s o [eP 5 s o] 1 none) (k:=0) (b:=bol text s) rfl rfl rfl
  have r1:=Runs.exec rfl rfl (show(5:Nat) < 10 by decide) e1
  cases hb:bol text s with
 |false =>
   replace r1:=hb▸r1
   obtain⟨m',r2,q⟩:=K7 (text:=text) (s:=s) (pc:=5) (pos:=s) (h:=s) (sn:=lF) (o:=o) (o':=o) (Nat.not_lt.mpr he)
   exact⟨_,m',by decide,r1.trans r2,q⟩
 |true =>
   replace r1:=hb▸r1
   refine cps λ_ KK=>?_
   obtain⟨jT,e2⟩:=CC (m:=st je text text.size s text.size lF 7 s s o [eP 5 s o] 1 none) rfl rfl (.inl he)
   have r2:=Runs.exec rfl rfl (show(7:Nat) < 10 by decide) e2
   obtain⟨m',r3,q⟩:=K7 (text:=text) (s:=s) (pc:=7) (pos:=s) (h:=s) (sn:=jT) (o:=o) (o':=o) (Nat.not_lt.mpr he)
   refine KK ?_
   exact⟨_,m',by decide,r1.trans (r2.trans r3),q⟩
|cons c r ih =>
  intro s sn o hd hs
  refine cps λ_ KK=>?_
  obtain⟨h1,h2,h3⟩:=xw hd
  have LK:bol text (s+1)=(c==10):=by
   unfold bol
   rw[Nat.add_sub_cancel,h2]
   simp
  obtain⟨lF,e1⟩:=JJ (m:=st je text text.size s text.size sn 5 s s o [eP 5 s o] 1 none) (k:=0) (b:=bol text s) rfl rfl rfl
  refine KK ?_
  have r1:=Runs.exec rfl rfl (show(5:Nat) < 10 by decide) e1
  unfold nr
  cases hb:bol text s with
 |false =>
   replace r1:=hb▸r1
   refine cps λ_ KK=>?_
   obtain⟨jT,r2⟩:=NW (text:=text) (s:=s) (pc:=5) (pos:=s) (h:=s) (sn:=lF) (o:=o) (o':=o) h1
   obtain⟨n,m',hn,r3,q⟩:=ih (s+1) jT false h3 h1
   refine KK ?_
   replace q:=LK▸q
   rw[Bool.false_and,if_neg (by decide)]
   exact⟨_,m',by simp only[List.length_cons];exact WP hn (aQ (show 8≤10 by decide) (4*r.length)),r1.trans (r2.trans r3),q⟩
 |true =>
   replace r1:=hb▸r1
   by_cases hc:c=46
   ·obtain⟨jT,e2⟩:=N9 (m:=st je text text.size s text.size lF 7 s s o [eP 5 s o] 1 none) rfl rfl h1 (h2.trans hc)
    have r2:=Runs.exec rfl rfl (show(7:Nat) < 10 by decide) e2
    obtain⟨qB,e3⟩:=NG (m:=st je text text.size s text.size jT 9 (s+1) s o [eP 5 s o] 1 none) rfl rfl rfl
    have r3:=Runs.exec rfl rfl (show(9:Nat) < 10 by decide) e3
    have r4:Runs 2 (st je text text.size s text.size qB 9 (s+1) (s+1) o [eP 5 s o] 1 (some true)) _:=(Runs.back rfl rfl rfl rfl).trans (Runs.out rfl rfl rfl)
    refine hc.symm▸?_
    refine⟨_,_,?_,r1.trans (r2.trans (r3.trans r4)),?_⟩
    ·simp only[List.length_cons];(exact Nat.le_add_left _ _)
    ·exact⟨rfl,rfl,rfl⟩
   ·refine cps λ_ KK=>?_
    obtain⟨jT,e2⟩:=CC (m:=st je text text.size s text.size lF 7 s s o [eP 5 s o] 1 none) rfl rfl (.inr (λq=>hc (h2.symm.trans q)))
    have r2:=Runs.exec rfl rfl (show(7:Nat) < 10 by decide) e2
    obtain⟨qB,r3⟩:=NW (text:=text) (s:=s) (pc:=7) (pos:=s) (h:=s) (sn:=jT) (o:=o) (o':=o) h1
    obtain⟨n,m',hn,r4,q⟩:=ih (s+1) qB false h3 h1
    refine KK ?_
    replace q:=LK▸q
    have Rj:(c==46)=false:=by simpa using hc
    rw[Rj,Bool.and_false,if_neg (by decide)]
    exact⟨_,m',by simp only[List.length_cons];exact VA hn (aQ (show 9≤10 by decide) (4*r.length)),r1.trans (r2.trans (r3.trans r4)),q⟩
theorem R7(hp:p≤text.size):∃n m',n≤4*text.size+6∧Runs n (forSearch je text 0 p text.size false) m'∧(match nr (text.toList.drop p) (bol text p) p with
 |some b=>m'.outcome=some .matched∧m'.start=b∧m'.handed=b+1
 |none=>m'.outcome=some .failed):=by
 by_cases h0:text.size - p < 1
 ·have hd:text.toList.drop p=[]:=List.drop_eq_nil_of_le (by simp;exact Nat.le_of_sub_eq_zero (Nat.lt_one_iff.mp h0))
  rw[hd]
  refine⟨1,_,by (exact Nat.succ_pos _),Runs.out (m:=forSearch je text 0 p text.size false) (yes:=false) ?_ ?_ ?_,?_⟩
  all_goals (unfold forSearch;rw[if_pos (by simp;right;exact h0)];rfl)
 ·have hF:forSearch je text 0 p text.size false=st je text text.size p text.size (({}:Seen).add 14) 5 p p true [eP 5 p true] 1 none:=by
   unfold forSearch
   rw[if_neg (by simp;exact⟨hp,by show 1≤_;(exact Nat.le_of_not_lt (by assumption))⟩)]
   rfl
  rw[hF]
  refine cps λ_ KK=>?_
  obtain⟨n,m',hn,r,q⟩:=aau (text:=text) (text.toList.drop p) p (({}:Seen).add 14) true rfl hp
  refine KK ?_
  refine⟨n,m',?_,r,q⟩
  rw[List.length_drop,Array.length_toList]at hn
  exact aa hn (az (bc 4 (b5 _ _)) 6)
end
end Mine
end
section
open PySem PySem.Sre PySem.Builtin.Re PySem.Calls
namespace Mine
theorem Kd:Slot "re.Pattern" "sub" "re.Pattern.sub" :=
 .of (owner:="re.Pattern") (n:="sub") (by rw[typeLookup_type,builtinLookup_eq_fast];kernel_rfl) (by decide +kernel) (by decide +kernel) (by decide +kernel)
  (by first|exact .inl (by decide +kernel)|exact .inr (by decide +kernel)) (by rw[isSubtype_type];kernel_rfl)
theorem Z3:typeOf (.builtin "re.Pattern.sub")=pure (.type "method_descriptor"):=by show builtinType _=_;rw[builtinType_eq_fast];kernel_rfl
theorem We:PlainAttrs "re.Pattern" :=
 ⟨⟨"object.__getattribute__",by rw[typeLookup_type,builtinLookup_eq_fast];kernel_rfl,by decide +kernel⟩,by rw[typeLookup_type,builtinLookup_eq_fast];kernel_rfl⟩
theorem Z4:entryFor table "re.Pattern.sub"=some Builtin.«re.Pattern.sub»:=entryFor_of_tree (by kernel_rfl)
theorem Th:entryFor table "re.Pattern.sub.loop"=some Builtin.«re.Pattern.sub.loop»:=entryFor_of_tree (by kernel_rfl)
theorem Di:plainId "re.Pattern.sub.loop"=true:=by decide +kernel
theorem Qn(a b c):argsOk "re.Pattern.sub" ⟨[a,b,c],[]⟩:=by unfold argsOk;kernel_rfl
section
variable {prog:Program}{w:World}{A:Around}{E:Value->Shared->Prop}{s:Shared}
theorem LL:∀(turns n:Nat) (m m':M) (Q:M->Shared->Prop),Runs n m m'->m'.outcome.isSome=true->n < turns->Q m' s->wpAny Bf A (reDrive turns m) Q E s
|0,n,m,m',Q,_,_,h,_=>absurd h (bw n)
|turns+1,n,m,m',Q,hr,ho,dJ,hQ=>by
  unfold reDrive reTurnSteps
  dsimp only
  cases h4:(m.runFor 4).outcome.isSome with
 |true =>
   rw[if_pos rfl]
   have:m.runFor 4=m':=by
    by_cases hn:n≤4
    ·have e:m.runFor (n+(4 - n))=(m.runFor n).runFor (4 - n):=u7 _ _ _
     rw[show n+(4 - n)=4 by (exact Nat.add_sub_of_le (by assumption)),show m.runFor n=m' from hr,un ho]at e
     exact e
    ·have e:m.runFor (4+(n - 4))=(m.runFor 4).runFor (n - 4):=u7 _ _ _
     rw[show 4+(n - 4)=n from Nat.add_sub_of_le (Nat.le_of_not_le hn),show m.runFor n=m' from hr,un h4]at e
     exact e.symm
   rw[this]
   exact br hQ
 |false =>
   rw[if_neg (by decide)]
   have hn:4 < n:=by
    rcases Nat.lt_or_ge 4 n with q|q
    ·exact q
    ·exfalso
     have e:m.runFor (n+(4 - n))=(m.runFor n).runFor (4 - n):=u7 _ _ _
     rw[show n+(4 - n)=4 by (exact Nat.add_sub_of_le (by assumption)),show m.runFor n=m' from hr,un ho]at e
     rw[e,ho]at h4
     exact FJ h4
   have gL:Runs (n - 4) (m.runFor 4) m':=by
    have e:m.runFor (4+(n - 4))=(m.runFor 4).runFor (n - 4):=u7 _ _ _
    rw[show 4+(n - 4)=n from Nat.add_sub_of_le (Nat.le_of_lt hn),show m.runFor n=m' from hr]at e
    exact e.symm
   exact bp (wpAny_rule (LL turns (n - 4) _ m' Q gL ho (bu (Nat.sub_lt (a9 b9 hn) (by decide)) (aC dJ)) hQ))
theorem Nd(hr:Runs n m m')(hn:n < 2 ^ 64)(ho:m'.outcome=some .matched∨m'.outcome=some .failed)(hQ:Q (if m'.outcome matches some .matched then some m' else none) s):wpAny Bf A (reRunToEnd m) Q E s:=by
 skip
 refine bp (LL (2 ^ 64) n m m' _ hr (by rcases ho with h|h<;>rw[h]<;>rfl) hn ?_)
 refine bp (wpAny_forIn_list _ (λ_ _ s'=>s'=s) _ (λi rest b s' h=>?_) (λb s' h=>?_) _ _ rfl)
 ·subst h
  split
  ·exact bp (wpAny_rule (br rfl))
  ·exact br rfl
 ·subst h
  rcases ho with h|h
  ·rw[h]at hQ ⊢
   exact br hQ
  ·rw[h]at hQ ⊢
   exact br hQ
end
end Mine
end
section
open PySem PySem.Sre PySem.Builtin.Re PySem.Calls PyProof.Rows open Builtin Builtin.Str
namespace Mine
theorem oH.keep{h h':Heap}{pa ca:Addr}{code:Array Nat}(P:oH h pa ca code)(k:∀o,h.get? pa=some o->h'.get? pa=some o)(k':∀o,h.get? ca=some o->h'.get? ca=some o):oH h' pa ca code:=by
 refine cps λ_ KK=>?_
 obtain⟨o,oc,x,t,t1,t2,t3,fl,vs,n,h1,h2,h3,h4,h5,h6,h7⟩:=P.ex
 refine KK ?_
 exact⟨o,oc,x,t,t1,t2,t3,fl,vs,n,k _ h1,h2,h3,h4,k' _ h5,h6,h7⟩
section
variable {prog:Program}{w:World}{A:Around}{s:Shared}
theorem JE{Bf:Model}{E:Value->Shared->Prop}{pa ca:Addr}{code:Array Nat}(P:oH s.heap pa ca code){x:PySem.Str}{t:Tok}{Q:ReTarget->Shared->Prop}
  (hQ:Q {pattern:=.ref pa,string:=.str x t,code,text:=x.cps,kind:=0,groups:=0,pos:=0,lim:=x.cps.size} s):wpAny Bf A (reWholeTarget (.ref pa) (.str x t)) Q E s:=by
 refine cps λ_ KK=>?_
 obtain⟨o,oc,y,t0,t1,t2,t3,fl,vs,n,h1,h2,h3,h4,h5,h6,h7⟩:=P.ex
 refine KK ?_
 skip
 refine bp (wpAny_fieldsOf h1 h4 ?_)
 refine bp (m:=reTextOf (.str x t)) (br ?_)
 refine bp (m:=reNoCollectionInside (.str x t) 0) (br ?_)
 skip
 skip
 refine bp (bp (wpAny_seqItems h5 h6 (br ?_)))
 refine(show((some vs:Option (Array Value)).getD #[])=vs from rfl).symm▸h7.symm▸?_
 exact br hQ
noncomputable def lA(nx:Nat->Option (Nat×Nat))(x:PySem.Str)(r:PySem.Str):Nat->Nat->List PySem.Str
|0,_=>[]
|f+1,p=>match nx p with
 |none=>if p < x.cps.size then[⟨x.cps.extract p x.cps.size⟩]else[]
 |some (b,e)=>(if p < b then[⟨x.cps.extract p b⟩]else[])++r::lA nx x r f e
structure qO(code:Array Nat)(text:Array Nat)(nx:Nat->Option (Nat×Nat)):Prop where
 run:∀p,p≤text.size->∃n m',n < 2 ^ 64∧Runs n (forSearch code text 0 p text.size false) m'∧(match nx p with
 |some (b,e)=>m'.outcome=some .matched∧m'.start=b∧m'.handed=e
 |none=>m'.outcome=some .failed)
 mono:∀p b e,nx p=some (b,e)->p≤b∧b < e∧e≤text.size
theorem push_plain(hl:s.heap.PlainList D vs)(hsz:vs.size≤sizeLine)(hQ:∀h',h'.PlainList D (vs.push v)->Heap.SameBut D s.heap h'->Q () {s with heap:=h'}) :
  wpAny Bf A (updateSeq D (·.push v)) Q E s:=by
 obtain⟨n,ho⟩:=hl
 obtain⟨n',hm⟩:=Dm (·.push v) vs n
 refine wpAny_updateSeq ho rfl (hQ _ ⟨n',?_⟩ (Heap.SameBut.update ..)) (hz:=hsz) (_hz':=by rw[Array.size_push];(exact bQ (by assumption)))
 rw[Heap.get?_update_self _ ho (by rw[hm];rfl),hm]
theorem WL(a b:List (PySem.Str×Tok)):strValues (a++b)=strValues a++strValues b:=List.map_append
theorem aa0(hl:s.heap.IsList D (strValues ps).toArray)(hlen:tooLong ((ps.map (·.1)).toArray.foldl (·+·.length+Str.empty.length) 0)=false)(hsz:(glued Str.empty (ps.map (·.1))).length≤sizeLine)
  (hQ:∀t' k,Q (.str (glued Str.empty (ps.map (·.1))) t') {s with toks:=k}):wpAny (model prog w) A (call (.builtin "str.join") [.str Str.empty t,.ref D]) Q a8 s:=by
 refine call_meets PySem.F.slot_str_join (typeIs_str _ _ _) PySem.F.entry_str_join (PySem.F.args_str_join_2 _ _) (meets_str_join_list Str.empty t D ps hlen) ⟨hl,?_⟩
 match ps,hsz,hQ with
|[],hsz,hQ=>exact⟨hsz,hQ _ _⟩
|[p],hsz,hQ=>exact hQ p.2 s.toks
|p::p'::r,hsz,hQ=>exact⟨hsz,hQ _ _⟩
noncomputable def Jm(prog:Program)(w:World)(A:Around)(R:Result->Shared->Prop):Fin->Shared->Prop:=λfin s'=>match fin with|.done f=>R (.ok f) s'|.again c'=>c'.quiet=true∧codeAny (model prog w) A c' R s'
noncomputable def zH(D:Addr)(h h':Heap):Prop:=∀b o,b≠D->h.get? b=some o->h'.get? b=some o
structure Fits(R:Result->Shared->Prop)(D:Addr)(s:Shared)(L:List PySem.Str):Prop where
 hg:(glued Str.empty L).length≤lim
 ht:tooLong (L.toArray.foldl (·+·.length+Str.empty.length) 0)=false
 hR:∀t' h' tk,zH D s.heap h'->R (.ok (.ret (.str (glued Str.empty L) t'))) {s with heap:=h',toks:=tk}
theorem qO.no{code text:Array Nat}{nx:Nat->Option (Nat×Nat)}(F:qO code text nx){p:Nat}(hp:p≤text.size)(hn:nx p=none):∃n m',n < 2 ^ 64∧Runs n (forSearch code text 0 p text.size false) m'∧m'.outcome=some .failed:=by
 have:=F.run p hp
 rwa [hn]at this
theorem qO.yes{code text:Array Nat}{nx:Nat->Option (Nat×Nat)}(F:qO code text nx){p b e:Nat}(hp:p≤text.size)(hn:nx p=some (b,e)):∃n m',n < 2 ^ 64∧Runs n (forSearch code text 0 p text.size false) m'∧m'.outcome=some .matched∧m'.start=b∧m'.handed=e:=by
 have:=F.run p hp
 rwa [hn]at this
noncomputable def nv(x:PySem.Str)(p b:Nat):List PySem.Str:=if p < b then[⟨x.cps.extract p b⟩]else[]
theorem Kq(hn:nx p=none):lA nx x r (f+1) p=nv x p x.cps.size:=by show(match nx p with|none=>nv x p x.cps.size|some (b,e)=>nv x p b++r::lA nx x r f e)=_;rw[hn]
theorem NH(hn:nx p=some (b,e)):lA nx x r (f+1) p=nv x p b++r::lA nx x r f e:=by show(match nx p with|none=>nv x p x.cps.size|some (b,e)=>nv x p b++r::lA nx x r f e)=_;rw[hn]
theorem ZE{x:PySem.Str}{D:Addr}{R:Result->Shared->Prop}{ps:List (PySem.Str×Tok)}{h':Heap}{tk:Nat}(fi:Fits R D s (ps.map (·.1)))(hl:h'.PlainList D (strValues ps).toArray)(hk:zH D s.heap h') :
  wpAny (model prog w) A.in1 (do
   let NP ← reSlice x.cps 0 0 0
   let text ← if((← seqItems? (.ref D)).getD #[]).isEmpty then pure NP
    else call (.builtin "str.join") [NP,.ref D]
   ret text) (Jm prog w A R) (λe s'=>R (.error e) s') {s with heap:=h',toks:=tk}:=by
 refine bp (m:=reSlice x.cps 0 0 0) ?_
 have e0:reSlice x.cps 0 0 0=mkStr Str.empty:=by
  unfold reSlice
  refine(show(x.cps.extract 0 0)=#[]by simp).symm▸?_
  rfl
 refine e0.symm▸?_
 refine wpAny_mkStr ?_ (by decide)
 obtain⟨n',ho⟩:=hl
 refine bp (wpAny_seqItems ho rfl ?_)
 refine(show((some (strValues ps).toArray:Option (Array Value)).getD #[])=(strValues ps).toArray from rfl).symm▸?_
 cases ps with
|nil=>exact br (fi.hR _ h' _ hk)
|cons q ps =>
  rw[if_neg (by simp[strValues])]
  exact bp (bq (aa0 (s:={s with heap:=h',toks:=_}) ⟨_,ho,rfl,n',rfl⟩ fi.ht (aa fi.hg (by show 1048576≤2 ^ 24;decide)) (Q:=λv dA=>Jm prog w A R (.done (.ret v)) dA) (λt' k=>fi.hR t' h' k hk)) (λv dA h=>br h) λ_ _ (q:False)=>q.elim)
theorem Il{h:Heap}{D:Addr}{ps:List (PySem.Str×Tok)}{r:PySem.Str}{u:Tok}(hl:h.PlainList D ((strValues ps).toArray.push (.str r u))):h.PlainList D (strValues (ps++[(r,u)])).toArray:=by
 rw[WL]
 simpa[strValues]using hl
theorem Ij(h:ps.length≤n):(strValues ps).toArray.size≤n:=by rw[List.size_toArray];unfold strValues;rw[bI];exact h
theorem IW{x:PySem.Str}{D:Addr}{m:Sem Fin}{Q:Fin->Shared->Prop}{E:Value->Shared->Prop}{ps:List (PySem.Str×Tok)}{p b:Nat}(hl:s.heap.PlainList D (strValues ps).toArray)(rG:ps.length≤sizeLine)(hx:x.cps.size≤lim)
  (k:∀tZ h' tk,tZ.map (·.1)=ps.map (·.1)++nv x p b->tZ.length≤ps.length+1->h'.PlainList D (strValues tZ).toArray->zH D s.heap h'->wpAny (model prog w) A.in1 m Q E {s with heap:=h',toks:=tk}) :
  wpAny (model prog w) A.in1 (if p < b then reSlice x.cps 0 p b >>= λv=>updateSeq D (·.push v) >>= λ_=>m else m) Q E s:=by
 by_cases dJ:p < b
 ·rw[if_pos dJ]
  refine bp (m:=reSlice x.cps 0 p b) (wpAny_mkStr ?_ (by show(x.cps.extract p b).size≤2 ^ 24;rw[Array.size_extract];exact aa (b5 _ _) (aa (Nat.min_le_right _ _) (aa hx b9))))
  exact bp (push_plain hl (Ij rG) λh' eZ sb=>k (ps++[(⟨x.cps.extract p b⟩,s.toks)]) h' _ (by rw[List.map_append];unfold nv;rw[if_pos dJ];rfl) (by rw[bH];exact am _) (Il eZ) λb o hb e=>sb.extBut b o hb e)
 ·rw[if_neg dJ]
  exact k ps s.heap s.toks (by unfold nv;rw[if_neg dJ,bM]) (bx _) hl λ_ _ _ e=>e
noncomputable def NE(pa D:Addr)(x r:PySem.Str)(t u:Tok)(n:Int)(e:Nat)(b:Bool):Sem Fin:=updateSeq D (·.push (.str r u)) >>= λ_=>again (.builtin "re.Pattern.sub.loop" ⟨[.ref pa,.str x t,.str r u,rawInt 0,rawInt 0,rawInt n,rawInt e,rawInt e,.bool b,.ref D,.bool false],[]⟩)
theorem H4{pa ca D:Addr}{code:Array Nat}{x r:PySem.Str}{t u:Tok}{nx:Nat->Option (Nat×Nat)}{R:Result->Shared->Prop}(F:qO code x.cps nx)(HJ:pa≠D)(AO:ca≠D)(hx:x.cps.size≤lim) :
  ∀(f p:Nat) (n:Int) (ps:List (PySem.Str×Tok)) (s:Shared),x.cps.size - p < f->p≤x.cps.size->oH s.heap pa ca code->s.heap.PlainList D (strValues ps).toArray->ps.length+2*f≤4*lim->Fits R D s (ps.map (·.1)++lA nx x r f p) ->
   codeAny (model prog w) A (.builtin "re.Pattern.sub.loop" ⟨[.ref pa,.str x t,.str r u,rawInt 0,rawInt 0,rawInt n,rawInt p,rawInt p,.bool false,.ref D,.bool false],[]⟩) R s
|0,p,n,ps,s,hf,_,_,_,_,_=>absurd hf (bw _)
|f+1,p,n,ps,s,hf,hp,P,hl,hsz,fi=>by
  have rG:ps.length≤sizeLine:=by show _≤2 ^ 24;exact aa (ax _ _) (aa hsz b9)
  refine codeAny_builtin Th ?_
  refine(Around.under_plainId Di _).symm▸?_
  skip
  skip
  refine bp (JE P ?_)
  skip
  refine bp (m:=reLiteralCannotBeTurned (.str r u)) (br ?_)
  skip
  skip
  rw[Int.toNat_natCast]
  cases hn:nx p with
 |none =>
   refine cps λ_ KK=>?_
   obtain⟨k,m',hk,hr,hq⟩:=F.no hp hn
   refine KK ?_
   refine bp (Nd hr hk (.inr hq) ?_)
   refine hq.symm▸?_
   replace fi:=(Kq hn)▸fi
   exact IW hl rG hx λtZ h' tk hm _ eZ pr=>ZE (x:=x) (hm▸fi) eZ pr
 |some be =>
   refine cps λ_ KK=>?_
   obtain⟨b,e⟩:=be
   obtain⟨k,m',hk,hr,q1,q2,q3⟩:=F.yes hp hn
   obtain⟨m1,m2,m3⟩:=F.mono p _ _ hn
   refine KK ?_
   refine bp (Nd hr hk (.inl q1) ?_)
   refine q1.symm▸?_
   replace fi:=(NH hn)▸fi
   show wpAny _ _ (if p < m'.start then reSlice x.cps 0 p m'.start >>= λv=>updateSeq D (·.push v) >>= λ_=>NE pa D x r t u (n+1) m'.handed (m'.handed==m'.start)else NE pa D x r t u (n+1) m'.handed (m'.handed==m'.start)) _ _ _
   refine q2.symm▸q3.symm▸(show(e==b)=false from beq_false_of_ne (bB m2)).symm▸?_
   refine IW hl rG hx λtZ h' tk hm lN eZ pr=>?_
   refine bp (push_plain eZ (Ij (by show _≤2 ^ 24;unfold lim at hsz;lia)) λOu Wk sb=>br ⟨plainId_quiet Di _,?_⟩)
   have Hj:zH D s.heap Ou:=λb o hb e=>sb.extBut b o hb (pr b o hb e)
   have e1:(tZ++[(r,u)]).map (·.1)++lA nx x r f e=ps.map (·.1)++(nv x p b++r::lA nx x r f e):=by
    rw[List.map_append,hm,bJ,bJ];rfl
   refine H4 F HJ AO hx f e (n+1) (tZ++[(r,u)]) {s with heap:=Ou,toks:=tk} (by (exact Oe (by assumption) (ah (by assumption) (by assumption)) (by assumption))) m3 (P.keep (λo=>Hj pa o HJ) (λo=>Hj ca o AO)) (Il Wk) (by rw[bH,List.length_singleton];lia) ?_
   refine e1.symm▸?_
   exact⟨fi.hg,fi.ht,λt' qW Y3 So=>fi.hR t' qW Y3 λb o hb e=>So b o hb (Hj b o hb e)⟩
end
theorem NO:∀(l:List PySem.Str) (a:Array Nat),(l.foldl (λacc p=>acc++Str.empty.cps++p.cps) a).toList=a.toList++(l.map λx=>x.cps.toList).flatten
|[],a=>(bM _).symm
|x::r,a=>by rw[List.foldl_cons,NO r];simp[Str.empty]
theorem Qg(ss:List PySem.Str):(glued Str.empty ss).cps.toList=(ss.map λx=>x.cps.toList).flatten:=by
 cases ss with
|nil=>rfl
|cons x r=>exact NO r x.cps
theorem SE(x:Array Nat)(a b):(x.extract a b).toList=(x.toList.drop a).take (b - a):=by simp[List.extract]
theorem Oh(x:PySem.Str)(p b):((nv x p b).map λy=>y.cps.toList).flatten=(x.cps.toList.drop p).take (b - p):=by
 unfold nv
 by_cases h:p < b
 ·rw[if_pos h]
  exact(bM _).trans (SE _ _ _)
 ·rw[if_neg h,Nat.sub_eq_zero_of_le (Nat.le_of_not_lt h)]
  rfl
theorem G5{x r:PySem.Str}{nx:Nat->Option (Nat×Nat)}{G:Nat->List Nat}(h0:∀p,nx p=none->G p=x.cps.toList.drop p)(h1:∀p b e,nx p=some (b,e)->p≤b∧b < e∧e≤x.cps.size∧G p=(x.cps.toList.drop p).take (b - p)++(r.cps.toList++G e)) :
  ∀(f p:Nat),x.cps.size - p < f->((lA nx x r f p).map λy=>y.cps.toList).flatten=G p
|0,p,h=>absurd h (bw _)
|f+1,p,h=>by
  cases hn:nx p with
 |none=>rw[Kq hn,Oh,h0 p hn,List.take_of_length_le (List.length_drop.symm▸Array.length_toList.symm▸Nat.le_refl _)]
 |some be =>
   obtain⟨m1,m2,m3,hG⟩:=h1 p be.1 be.2 hn
   rw[NH (b:=be.1) (e:=be.2) hn,hG,List.map_append,List.flatten_append,bP,List.flatten_cons,G5 h0 h1 f be.2 (by (exact Oe (by assumption) (Nat.lt_of_le_of_lt (by assumption) (by assumption)) (by assumption))),Oh]
noncomputable def dP:List Nat->List Nat
|[]=>[]
|[c]=>if c==10||c==13 then[13,10]else[c]
|c::c'::r=>if c==10||c==13 then 13::10::(if c==13&&c'==10 then dP r else dP (c'::r))else c::dP (c'::r)
theorem wj(h:s+1≤b):b - s=(b - (s+1))+1:=by (exact UL (by assumption))
theorem le_step(h:e≤s+1+n):e≤s+(n+1):=aa h (aU (bg s 1 n))
theorem ite_no{α:Type}{c:Prop}[Decidable c]{x:α}{o:Option α}{C:Prop}(e:(if c then some x else o)=none)(k:¬ c->o=none->C):C:=by
 by_cases h:c
 ·rw[if_pos h]at e;exact vD e
 ·rw[if_neg h]at e;exact k h e
theorem Mw:∀(l:List Nat) (s:Nat),nl2 l s=none->dP l=l
|[],_,_=>rfl
|[c],s,h=>ite_no (show(if(c==10||c==13)=true then some (s,s+1)else none)=none from h) λhc _=>if_neg hc
|c::c'::r,s,h=>ite_no (show(if(c==10||c==13)=true then some (s,if(c==13&&c'==10)=true then s+2 else s+1)else nl2 (c'::r) (s+1))=none from h) λhc h=>by
  rw[dP.eq_3,if_neg hc,Mw (c'::r) (s+1) h]
inductive M3(S:List Nat->List Nat)(w l:List Nat)(s b e:Nat):Prop
|mk:s≤b->b < e->e≤s+l.length->S l=l.take (b - s)++(w++dP (l.drop (e - s)))->M3 S w l s b e
theorem Df:∀(l:List Nat) (s b e:Nat),nl2 l s=some (b,e)->M3 dP [13,10] l s b e
|[],_,_,_,h=>ar h
|[c],s,b,e,h=>d8 (show(if(c==10||c==13)=true then some (s,s+1)else none)=some (b,e)from h) λhc q=>by
  refine((a5 q).1)▸((a5 q).2)▸?_
  exact⟨am _,a7 _,am _,by rw[Nat.sub_self,Nat.add_sub_cancel_left];exact if_pos hc⟩
|c::c'::r,s,b,e,h=>E0 (show(if(c==10||c==13)=true then some (s,if(c==13&&c'==10)=true then s+2 else s+1)else nl2 (c'::r) (s+1))=some (b,e)from h) (λhc q=>by
  refine((a5 q).1)▸((a5 q).2)▸?_
  by_cases q:(c==13&&c'==10)=true
  ·refine(if_pos q).symm▸?_
   exact⟨am _,Nat.lt_add_of_pos_right (by decide),aQ (Nat.le_add_left 2 _) s,by rw[dP.eq_3,if_pos hc,if_pos q,Nat.sub_self,Nat.add_sub_cancel_left];rfl⟩
  ·refine(if_neg q).symm▸?_
   exact⟨am _,a7 _,aQ (Nat.le_add_left 1 _) s,by rw[dP.eq_3,if_pos hc,if_neg q,Nat.sub_self,Nat.add_sub_cancel_left];rfl⟩) λhc h=>by
  obtain⟨h1,h2,h3,h4⟩:=Df (c'::r) (s+1) b e h
  refine⟨bR h1,h2,le_step h3,?_⟩
  rw[dP.eq_3,if_neg hc,h4,wj h1,wj (Nat.le_trans h1 (Nat.le_of_lt h2))]
  rfl
theorem Nz(h:a≤2*n):a+1≤2*(n+1):=aS (Nat.le_succ_of_le h)
theorem CH(h:a≤2*n):a+1+1≤2*(n+1):=aS (aS h)
theorem wP:∀(l:List Nat),(dP l).length≤2*l.length
|[]=>am _
|[c]=>by
  by_cases h:(c==10||c==13)=true
  ·rw[show dP [c]=[13,10]from if_pos h];exact am _
  ·rw[show dP [c]=[c]from if_neg h];exact bx 1
|c::c'::r=>by
  rw[dP.eq_3]
  by_cases h:(c==10||c==13)=true
  ·rw[if_pos h]
   by_cases h2:(c==13&&c'==10)=true
   ·rw[if_pos h2];exact CH (Nat.le_succ_of_le (Nat.le_succ_of_le (wP r)))
   ·rw[if_neg h2];exact CH (wP (c'::r))
  ·rw[if_neg h];exact Nz (wP (c'::r))
noncomputable def dB:Bool->List Nat->List Nat
|_,[]=>[]
|b,c::r=>if b&&c==46 then 46::46::dB false r else c::dB (c==10) r
theorem IT:∀(l:List Nat) (b:Bool) (s:Nat),nr l b s=none->dB b l=l
|[],_,_,_=>rfl
|c::r,b,s,h=>ite_no (show(if(b&&c==46)=true then some s else nr r (c==10) (s+1))=none from h) λhc h=>by
  exact(show dB b (c::r)=c::dB (c==10) r from if_neg hc).symm▸(IT r _ (s+1) h).symm▸rfl
inductive KD(b:Bool)(l:List Nat)(s k:Nat):Prop
|mk:s≤k->k+1≤s+l.length->l[k - s]?=some 46->dB b l=l.take (k - s)++([46,46]++dB false (l.drop (k+1 - s)))->KD b l s k
theorem CL:∀(l:List Nat) (b:Bool) (s k:Nat),nr l b s=some k->KD b l s k
|[],_,_,_,h=>ar h
|c::r,b,s,k,h=>E0 (show(if(b&&c==46)=true then some s else nr r (c==10) (s+1))=some k from h) (λhc q=>by
  refine q▸?_
  have vH:c=46:=eq_of_beq ((Bool.and_eq_true _ _).mp hc).2
  exact⟨am _,aQ (Nat.le_add_left 1 _) s,by rw[Nat.sub_self,vH];rfl,by rw[Nat.sub_self,Nat.add_sub_cancel_left];exact if_pos hc⟩) λhc h=>by
  obtain⟨h1,h2,h3,h4⟩:=CL r _ (s+1) k h
  refine⟨bR h1,le_step h2,(wj h1).symm▸h3,?_⟩
  refine(show dB b (c::r)=c::dB (c==10) r from if_neg hc).symm▸h4.symm▸(wj h1).symm▸(wj (Nat.le_succ_of_le h1)).symm▸?_
  rfl
theorem Co:∀(l:List Nat) (b:Bool),(dB b l).length≤2*l.length
|[],_=>am _
|c::r,b=>by
  by_cases h:(b&&c==46)=true
  ·rw[show dB b (c::r)=46::46::dB false r from if_pos h];exact CH (Co r false)
  ·rw[show dB b (c::r)=c::dB (c==10) r from if_neg h];exact Nz (Co r _)
noncomputable def GU(text:Array Nat)(p:Nat):Option (Nat×Nat):=nl2 (text.toList.drop p) p
noncomputable def ym(text:Array Nat)(p:Nat):Option (Nat×Nat):=(nr (text.toList.drop p) (bol text p) p).map λb=>(b,b+1)
theorem Jl{α:Type}{text:Array Nat}{p:Nat}{f:List Nat->Option α}{y:α}(h0:f []=none)(h:f (text.toList.drop p)=some y):p≤text.size:=by
 refine Nat.le_of_not_lt λq=>?_
 rw[List.drop_eq_nil_of_le (show text.toList.length≤p from Nat.le_of_lt q),h0]at h
 exact ar h
theorem Hy{text:Array Nat}{p e:Nat}(hp:p≤text.size)(h:e≤p+(text.toList.drop p).length):e≤text.size:=by
 rwa [List.length_drop,Array.length_toList,Nat.add_sub_cancel' hp]at h
theorem KZ(text:Array Nat)(hs:text.size≤lim):qO dc text (GU text) where
 run:=λp hp=>(ZW (text:=text) hp).elim λn q=>q.elim λm' q=>⟨n,m',ah q.1 b9,q.2.1,q.2.2⟩
 mono:=λp b e h=>(Df _ p b e h).rec λh1 h2 h3 _=>⟨h1,h2,Hy (Jl (f:=λl=>nl2 l p) rfl h) h3⟩
theorem O1(h:ym text p=some (b,e)):nr (text.toList.drop p) (bol text p) p=some b∧b+1=e:=by
 obtain⟨k,hk,EH⟩:=Option.map_eq_some_iff.mp h
 exact⟨hk.trans (congrArg some (a5 EH).1),(a5 EH).1▸(a5 EH).2⟩
theorem LP(text:Array Nat)(hs:text.size≤lim):qO je text (ym text) where
 run:=λp hp=>by
  obtain⟨n,m',hn,hr,hq⟩:=R7 (text:=text) hp
  refine⟨n,m',by unfold lim at hs;exact ah (aa hn (az (bc 4 hs) 6)) b9,hr,?_⟩
  unfold ym
  cases hf:nr (text.toList.drop p) (bol text p) p with
 |none=>rw[hf]at hq;exact hq
 |some b=>rw[hf]at hq;exact hq
 mono:=λp b e h=>by
  obtain⟨hk,he⟩:=O1 h
  obtain⟨h1,h2,h3,_⟩:=CL _ _ p _ hk
  refine he▸?_
  exact⟨h1,a7 _,Hy (Jl (f:=λl=>nr l (bol text p) p) rfl hk) h2⟩
noncomputable def G2(text:Array Nat)(p:Nat):List Nat:=dP (text.toList.drop p)
noncomputable def G1(text:Array Nat)(p:Nat):List Nat:=dB (bol text p) (text.toList.drop p)
theorem R9(x:PySem.Str)(hs:x.cps.size≤lim):((lA (GU x.cps) x ⟨⟨[13,10]⟩⟩ (x.cps.size+1) 0).map λy=>y.cps.toList).flatten=dP x.cps.toList:=by
 refine G5 (G:=G2 x.cps) (λp h=>Mw _ p h) (λp b e h=>?_) (x.cps.size+1) 0 (a7 _)
 obtain⟨m1,m2,m3⟩:=(KZ x.cps hs).mono p b e h
 obtain⟨_,_,_,h4⟩:=Df _ p b e h
 refine⟨m1,m2,m3,?_⟩
 unfold G2
 exact h4.symm▸List.drop_drop.symm▸(Nat.add_sub_cancel' (aa m1 (aG m2))).symm▸rfl
theorem Zj(h:x[b]?=some 46):bol x (b+1)=false:=by
 obtain⟨dJ,he⟩:=Array.getElem?_eq_some_iff.mp h
 have e:x.getD b 0=46:=he▸dif_pos dJ
 unfold bol
 rw[Nat.add_sub_cancel,e]
 rfl
theorem SX(x:PySem.Str)(hs:x.cps.size≤lim):((lA (ym x.cps) x ⟨⟨[46,46]⟩⟩ (x.cps.size+1) 0).map λy=>y.cps.toList).flatten=dB true x.cps.toList:=by
 refine G5 (G:=G1 x.cps) (λp h=>IT _ _ p (Option.map_eq_none_iff.mp h)) (λp b e h=>?_) (x.cps.size+1) 0 (a7 _)
 obtain⟨m1,m2,m3⟩:=(LP x.cps hs).mono p b e h
 obtain⟨hk,he⟩:=O1 h
 obtain⟨_,_,h3,h4⟩:=CL _ _ p _ hk
 refine⟨m1,m2,m3,?_⟩
 rw[List.getElem?_drop,Nat.add_sub_cancel' m1,Array.getElem?_toList]at h3
 unfold G1
 exact h4.symm▸he.symm▸List.drop_drop.symm▸(Nat.add_sub_cancel' (aa m1 (aG m2))).symm▸he▸(Zj h3).symm▸rfl
theorem Wr:typeLookup (.type "str") "__call__"=pure none:=by rw[typeLookup_type,builtinLookup_eq_fast];kernel_rfl
theorem aaL(r x):reNamed "re.Pattern.sub" "sub" ["repl","string","count"] 2 [r,x] []=pure [some r,some x,none]:=by kernel_rfl
structure wH(code:Array Nat)(nx:Array Nat->Nat->Option (Nat×Nat))(r:PySem.Str)(f:List Nat->List Nat):Prop where
 aar:∀text:Array Nat,text.size≤lim->qO code text (nx text)
 flat:∀x:PySem.Str,x.cps.size≤lim->((lA (nx x.cps) x r (x.cps.size+1) 0).map λy=>y.cps.toList).flatten=f x.cps.toList
 len:∀l,(f l).length≤2*l.length
 plain:r.cps.contains 92=false
theorem Si:wH dc GU ⟨⟨[13,10]⟩⟩ dP:=⟨KZ,R9,wP,by decide +kernel⟩
theorem Rl:wH je ym ⟨⟨[46,46]⟩⟩ (dB true):=⟨LP,SX,λl=>Co l true,by decide +kernel⟩
theorem ab0(ss:List PySem.Str):ss.toArray.foldl (·+·.length+Str.empty.length) 0=((ss.map λy=>y.cps.toList).flatten).length:=by
 have main:∀(l:List PySem.Str) (n:Nat),l.foldl (λa y=>a+y.length+Str.empty.length) n=n+((l.map λy=>y.cps.toList).flatten).length:=by
  intro l
  induction l with
 |nil=>intro n;simp
 |cons y r ih =>
   intro n
   rw[List.foldl_cons,ih,bP,List.flatten_cons,bH]
   have:Str.empty.length=0:=rfl
   have h2:y.cps.toList.length=y.length:=by show _=y.cps.size;exact Array.length_toList
   exact h2.symm▸Nat.add_assoc n y.length _
 have:=main ss 0
 simp only[Nat.zero_add]at this
 refine this▸?_
 simp
section
variable {prog:Program}{w:World}{A:Around}
theorem Uo{pa ca:Addr}{code:Array Nat}{nx:Array Nat->Nat->Option (Nat×Nat)}{f:List Nat->List Nat}{r x:PySem.Str}{t u:Tok}(S:wH code nx r f)(hx:4*x.cps.size≤lim) :
  Meets (Builtin.«re.Pattern.sub» ⟨[.ref pa,.str r u,.str x t],[]⟩) (λ_ R s=>oH s.heap pa ca code∧∀t' h' tk,(∀b o,s.heap.get? b=some o->h'.get? b=some o)->R (.ok (.ret (.str ⟨⟨f x.cps.toList⟩⟩ t'))) {s with heap:=h',toks:=tk}):=by
 intro prog w A R s ⟨P,hR⟩
 have u6:x.cps.size≤lim:=aa (Nat.le_mul_of_pos_left _ (by decide)) hx
 skip
 show wpAny _ _ (reNamed "re.Pattern.sub" "sub" ["repl","string","count"] 2 [.str r u,.str x t] [] >>= _) _ _ _
 rw[aaL]
 refine bp (br ?_)
 refine bp (m:=(pure 0:Sem Int)) (br ?_)
 refine bp (wpAny_specialOf (typeIs_str _ _ _) Wr ?_)
 refine bp (m:=asStr? (.str r u)) (br ?_)
 refine bp (m:=(pure (!r.cps.contains 92):Sem Bool)) (br ?_)
 refine S.plain.symm▸?_
 refine bp (m:=(pure (Value.str r u,(0:Int)):Sem (Value×Int))) (br ?_)
 refine bp (wpAny_holding (JE P ?_))
 refine bp (wpAny_newList ?_ (by show 0≤_;(exact Nat.le_add_left _ _)))
 refine br ⟨plainId_quiet Di _,?_⟩
 refine cps λ_ KK=>?_
 obtain⟨o,oc,y,t0,t1,t2,t3,fl,vs,n,h1,h2,h3,h4,h5,h6,h7⟩:=P.ex
 refine KK ?_
 have kp:∀b o,s.heap.get? b=some o->(s.heap.push {cls:=.type "list",data:=.seq ([]:List Value).toArray}).get? b=some o:=λb o e=>ao _ e
 have hp:pa≠s.heap.objs.size:=Nat.ne_of_lt (Heap.lt_size h1)
 have hc:ca≠s.heap.objs.size:=Nat.ne_of_lt (Heap.lt_size h5)
 have fl:=S.flat x u6
 have hg:(glued Str.empty (lA (nx x.cps) x r (x.cps.size+1) 0))=⟨⟨f x.cps.toList⟩⟩:=by
  rw[← fl,← Qg]
 have hlen:(f x.cps.toList).length≤2*x.cps.size:=by
  have:=S.len x.cps.toList
  rwa [show x.cps.toList.length=x.cps.size from Array.length_toList]at this
 refine H4 (S.aar x.cps u6) hp hc u6 (x.cps.size+1) 0 0 [] {s with heap:=s.heap.push {cls:=.type "list",data:=.seq ([]:List Value).toArray}} (by (exact am _)) (bZ _) (P.keep (λo e=>kp _ o e) λo e=>kp _ o e) ⟨0,aX _ rfl⟩ (by simp only[List.length_nil];unfold lim at *;exact aa (aU (Nat.zero_add _)) (aa (bc 2 (aS u6)) b9)) ?_
 rw[List.map_nil,List.nil_append]
 refine⟨?_,?_,λt' h' tk hk=>?_⟩
 ·refine hg.symm▸?_
  exact aa hlen (aa (ba _ (by decide)) hx)
 ·rw[ab0,fl]
  exact decide_eq_false (Nat.not_lt.mpr (aa hlen (aa (aa (ba _ (by decide)) hx) b9)))
 ·refine hg.symm▸?_
  exact hR t' h' tk λb o e=>hk b o (λq=>Nat.lt_irrefl _ (Heap.lt_size (q▸e))) (kp b o e)
noncomputable def rL(f:List Nat->List Nat)(x:PySem.Str):Option PyData:=if 4*x.cps.size≤lim∧PyData.strOk (⟨⟨f x.cps.toList⟩⟩:PySem.Str)=true then some (.str ⟨⟨f x.cps.toList⟩⟩)else none
theorem Za{s:Shared}{pa ca:Addr}{code:Array Nat}{nx:Array Nat->Nat->Option (Nat×Nat)}{f:List Nat->List Nat}{r x:PySem.Str}{t u:Tok}{d:PyData}{P:Addr->Prop}(S:wH code nx r f)(hP:oH s.heap pa ca code)(e:rL f x=some d) :
  wpAny (model prog w) A (call (.builtin "re.Pattern.sub") [.ref pa,.str r u,.str x t]) (bO s d P) a8 s:=by
 refine d8 e λh e=>?_
 refine cps λ_ KK=>?_
 obtain⟨o,oc,y,t0,t1,t2,t3,fl,vs,n,h1,h2,h3,h4,h5,h6,h7⟩:=id hP.ex
 refine KK ?_
 exact call_meets Kd ⟨o,h1,h2⟩ Z4 (Qn _ _ _) (Uo S h.1) ⟨hP,λt' h' tk k=>e▸⟨h',tk,[],rfl,k,.str _ _ h.2,(λ_ h=>bT h),(λ_ h=>ar h)⟩⟩
end
end Mine
end
section
open PySem PySem.Calls PySem.W PyProof.Rows
namespace Mine
section
variable {prog:Program}{w:World}{K:Addr->Option Obj}{O:Fx}{mg mb:Str->Option Value}{A:Around}
theorem Ev.XP(gl:Gl K mg mb)(hk:O.sc.names.lookup x=some .globalImplicit)(hg:mg x=some (.str y t))(hy:y=⟨⟨l⟩⟩)(ho:PyData.strOk y=true)(hd:autoParam ((x==("__debug__":Str))=false) sZ) :
  Ev prog w K O (.Name x pos) (λσ=>some (.dat (.str ⟨⟨l⟩⟩),σ.hp)):=.mk λA ρ Z σ s pv ai _ R e=>by
 cases e
 subst hy
 exact l9 gl R hk (.inl hg) (cE.of_toks (t:=s.toks) R.hr ⟨[],.str _ _ ho,λ_ h=>bT h⟩) hd
noncomputable def CD(r:Str)(f:List Nat->List Nat)(F1 F2:EF):NF:=aN F1 λa=>aN F2 λb σ=>match a,b with
|.dat (.str r'),.dat (.str x)=>if r'=r then match rL f x with
 |some d=>some (d,σ.hp)
 |none=>none else none
|_,_=>none
theorem aaa{r:Str}{f:List Nat->List Nat}{a b:PV}{σ:St}{d:PyData}{ai:List MO}{C:Prop}(e:(match a,b with
 |.dat (.str r'),.dat (.str x)=>if r'=r then match rL f x with
  |some d=>some (d,σ.hp)
  |none=>none else none
 |_,_=>none)=some (d,ai)) (k:∀x,a=.dat (.str r)->b=.dat (.str x)->rL f x=some d->ai=σ.hp->C):C:=by
 cases a with
|dat u=>cases u with
 |str r'=>cases b with
  |dat v=>cases v with
   |str x =>
     refine iF (show(if r'=r then(match rL f x with|some d=>some (d,σ.hp)|none=>none)else none)=some (d,ai)from e) λhr e=>?_
     cases h:rL f x with
    |none=>rw[h]at e;exact ar e
    |some d'=>rw[h]at e;exact k x (hr▸rfl) rfl ((b7 e).1▸h) (b7 e).2.symm
   |_=>exact ar e
  |_=>exact ar e
 |_=>exact ar e
|_=>exact ar e
theorem bV.I1(gl:Gl K mg mb){g:Str}{pa ca:Addr}{code:Array Nat}{nx:Array Nat->Nat->Option (Nat×Nat)}{f:List Nat->List Nat}{r:Str}{e1 e2:Expr}{np apos pos:Pos}{F1 F2:EF}(S:wH code nx r f)(hP:∀h,dl K h->oH h pa ca code)
  (hk:O.sc.names.lookup g=some .globalImplicit) (hg:mg g=some (.ref pa)) (h1:Ev prog w K O e1 F1) (h2:Ev prog w K O e2 F2) (mc:MC O.env (.Name g np) "sub" apos [e1,e2] pos) (hd:autoParam ((g==("__debug__":Str))=false) sZ)
  (hs:autoParam (∀env,starEach [e1,e2] env=(false,eval e1 env)::starEach [e2] env) sI) (eR:autoParam (∀env,starEach [e2] env=[(false,eval e2 env)]) sI) :
  bV prog w K O (.Call (.Attribute (.Name g np) "sub" apos) [e1,e2] [] pos) (CD r f F1 F2):=.mk λA ρ Z σ s d ai Rm R q=>by
 obtain⟨pl,mc⟩:=mc
 refine MethodCall_ (l9 gl R hk (.inl hg) ?_ hd) mc
 obtain⟨o,oc,y,t0,t1,t2,t3,fl,vs,n,Mh,e2',Qp,_⟩:=(hP s.heap R.top).ex
 refine getMethod_builtin ⟨o,Mh,e2'⟩ We Kd Z3 (λa e=>by cases e;exact⟨o,Mh,Qp⟩) ?_
 refine callWith_method1 (wpAny_items_cons (h1.then Rm R q λa va hp1 aD s_1 q1 aO b3 aP=>wpAny_items_cons (h2.then Rm aP q1 λb vb bU eA bn q2 ct gQ cw=>wpAny_items_nil ?_) (eR _)) (hs _)) (hs _) (by rw[eR];rfl)
 refine aaa q2 λx ha hb i0 hh=>?_
 refine cps λ_ KK=>?_
 obtain⟨as,ra,_⟩:=VR.ext (Z:=Z) ct (dF) (ha▸b3:VR aD Z s_1.heap (.dat (.str r)) va)
 obtain⟨bs,rb,_⟩:=(hb▸gQ:VR eA Z bn.heap (.dat (.str x)) vb)
 obtain⟨t,ea,_⟩:=ra.fQ
 obtain⟨u,eb,_⟩:=rb.fQ
 refine KK ?_
 refine ea.symm▸eb.symm▸hh.symm▸?_
 exact bq (Za (P:=λ_=>False) S (hP _ cw.top) i0) (λv d4 n=>⟨_,_,_,aO.trans ct,cw.hr,n,λ_ h=>h.elim⟩) λ_ _ q=>q
end
section
variable {prog:Program}{w:World}{A:Around}{E:Value->Shared->Prop}{s:Shared}
theorem Nb{a:Addr}{g n:Nat}{gs:GenState}{P:Nat->Shared->Shared->Prop}{Y:Protocol}{Q:Option Value->Shared->Prop}(hh:A.handled=none)
  (hl:s.heap.NoLimit) (PK:A.depth < recursionLimit)
  (hg:s.heap.IsGen a g) (k8:s.gens[g]?=some gs)
  (qg:gs.Goes (model prog w) A.in1 (λn s_0 r s_1=>r=.ok (.ret .none)∧P n s_0 s_1) Y n (.send .none) (s.setGen g .running))
  (hY:∀v s_1 nF,nF.bare=true->Y (n - 1) (s.setGen g .running) v s_1 (λr' dA=>match n with
   |0=>False
   |m+1=>nF.Goes (model prog w) A.in1 (λn s_0 r s_1=>r=.ok (.ret .none)∧P n s_0 s_1) Y m r' dA)->Q (some v) (s_1.setGen g nF))
  (hP:∀s_1,P n (s.setGen g .running) s_1->∀h',(∀b o,s_1.heap.get? b=some o->h'.get? b=some o)->Q none {s_1.setGen g .finished with heap:=h'}) :
  wpAny (model prog w) A (pyNext (.ref a)) Q E s:=by
 skip
 refine bp (wpAny_attempt (wpAny_callSpecial?_slot (name:=Str.ofString "__next__") hg.typeIs slot_gen_next
  (wpAny_call_entry slot_gen_next hg.typeIs entry_gen_next ?_ (args_gen_next _))))
 show wpAny _ A.in1 (Builtin.Generator.genWake (.ref a) (.send .none)) _ _ s
 unfold Builtin.Generator.genWake
 refine bp (wpAny_holding (wpAny_genNumber hg (bp (wpAny_genState k8 ?_))))
 cases gs with
|running=>exact qg.elim
|finished=>exact qg.elim
|_ =>
  refine bp (wpAny_roomToWake hl PK ?_)
  skip
  refine wpAny_resumeQ k8 qg (λx s_1 hx=>?_) (λv s_1 nF hb hv=>?_)
  ·obtain⟨rfl,hp⟩:=hx
   show wpAny _ A.in1 (newExc (.type "StopIteration") [] >>= _) _ _ _
   refine bp ?_
   simp only[newExc,newTuple]
   refine bp (wpAny_newObj_type ?_ (by size_fits))
   refine bp (m:=firstArgMember _ _) (wpAny_of_eq (a:=Value.none) (by first|rfl|(simp only[firstArgMember];rfl)) ?_)
   refine wpAny_newObj_type ?_ (by size_fits)
   simp only[raiseNew]
   refine bp (bp (wpAny_handled ?_))
   first|rw[show A.in1.handled=none from hh]|rw[hh]
   refine wpAny_throw ?_
   refine bp (wpAny_isInstance (T:="StopIteration") (b:=true) ⟨_,aX _ rfl,rfl⟩ isSubtype_stop ?_)
   exact br (hP s_1 hp _ λb o hb=>ao _ (ao _ hb))
  ·exact br ⟨v,rfl,br (hY v s_1 nF hb hv)⟩
end
section
variable {prog:Program}{w:World}{A:Around}{R:GenEnd}{Y:Protocol}{n:Nat}{s_0:Shared}{c:Code}{fs:List PySem.Frame}{s:Shared}{env:Env}
 {K:Flow->Sem Fin} {H:Value->Sem Fin} {gd:Bool->Bool} {lv:List Value->List Value}
theorem abn
  (h:wpAny (model prog w) (A.over c fs) (eval iter env) (λx s_1=>wpAny (model prog w) (A.over c fs) (pyIter x) (λit bn=>∀p,Seg (model prog w) A R Y n s_0 (.forLoop target it body [] env) ((model prog w).den (.forLoop target it body [] env))
   (.ret (λr=>((match r with|.ok f=>(.pure f:Sem Flow)|.error e=>.raise e).onRaise λ(x:Value)=>do
    if(← field x 1)==Value.none then unsupported "frame.own-activation:exception-without-traceback"
    setFlight x env.frame).wrap K H gd lv) none (gd false) (lv []) c p []::fs) bn) a8 s_1) a8 s)
  (hs:autoParam (∀x,foldedSetIterable iter env x=pure x) sI) :
  Seg (model prog w) A R Y n s_0 c ((exec (.For target iter body [] pos) env).wrap K H gd lv) fs s:=by
 rw[exec_For]
 refine seg_bind_wrap (wpAny_standAt ?_)
 refine seg_bind_wrap (bq h (λx s_1 eF=>?_) λ_ _ q=>q.elim)
 refine seg_bind_wrap (wpAny_of_eq (hs x) ?_)
 refine seg_bind_wrap (wpAny_standAt ?_)
 refine seg_bind_wrap (wpAny_holding (bq eF (λit bn l6=>?_) λ_ _ q=>q.elim))
 exact seg_call l6
theorem HM
  (h:wpAny (model prog w) (A.over (.forLoop target it body [] env) fs) (pyNext it) (λr s_1=>match r with
  |none=>Seg (model prog w) A R Y n s_0 (.forLoop target it body [] env) (.pure (.again (.block [] env))) fs s_1
  |some v=>wpAny (model prog w) (A.over (.forLoop target it body [] env) fs) (letOwnedTupleGo target it v) (λ_ bn=>wpAny (model prog w) (A.over (.forLoop target it body [] env) fs) (assign target env v) (λ_ d4 =>
     Seg (model prog w) A R Y n s_0 (.forLoop target it body [] env) ((execs body env).wrap (λf=>match f with
     |.next|.cont=>.pure (.again (.forLoop target it body [] env))
     |.brk=>.pure (.done .next)
     |.ret v=>.pure (.done (.ret v))) (λe=>(do noteFrame e env;theTreesLotGoes e:Sem Unit).wrap (λ_=>.raise e) .raise id id) id id) fs d4) a8 bn) a8 s_1) a8 s) :
  Seg (model prog w) A R Y n s_0 (.forLoop target it body [] env) ((model prog w).den (.forLoop target it body [] env)) fs s:=by
 show Seg _ A R Y n s_0 _ ((forTurn target it body [] env).onRaise (λx=>do noteFrame x env;theTreesLotGoes x)) fs s
 skip
 rw[Sem.onRaise_eq_wrap]
 refine seg_bind_wrap (wpAny_standAt ?_)
 refine seg_bind_wrap (wpAny_onRaise (bq h (λr s_1 eF=>?_) λ_ _ q=>q.elim))
 cases r with
|none=>exact eF
|some v =>
  refine seg_bind_wrap (bq eF (λ_ bn l6=>?_) λ_ _ q=>q.elim)
  refine seg_bind_wrap (bq l6 (λ_ d4 qW=>?_) λ_ _ q=>q.elim)
  rw[Sem.bind_eq_wrap',Sem.wrap_wrap]
  rw[Sem.wrap_congr (execs body env) _ _ (K':=λf=>match f with
     |.next|.cont=>.pure (.again (.forLoop target it body [] env))
     |.brk=>.pure (.done .next)
     |.ret v=>.pure (.done (.ret v))) (H':=(λe=>(do noteFrame e env;theTreesLotGoes e:Sem Unit).wrap (λ_=>.raise e) .raise id id))
    (λf=>by cases f<;>rfl)
    (λe=>by first|exact Sem.bind_eq_wrap _ _|(show(do noteFrame e env;theTreesLotGoes e:Sem Unit).bind (λ_=>.raise e)=_;rw[Sem.bind_eq_wrap]))]
  exact qW
end
noncomputable def yi:PyData->Bool
|.none=>true
|.bool _=>true
|.int _=>true
|.str _=>true
|_=>false
theorem RD.CR(r:RD h v d as)(q:yi d=true):RD h' v d []∧as=[]:=by
 cases r with
|none=>exact⟨.none,rfl⟩
|bool b=>exact⟨.bool b,rfl⟩
|int i t=>exact⟨.int i t,rfl⟩
|str x t hx=>exact⟨.str x t hx,rfl⟩
|_=>exact kP q
noncomputable def zG(loc:Loc):Prop:=∀(i:Nat) (pv:PV),loc[i]?=some (some pv)->∃d,pv=PV.dat d∧yi d=true
inductive JT(K:Addr->Option Obj)(ow:List Addr)(out:List PyData)(n:Nat)(s_0:Shared)(v:Value)(s':Shared)(Gu:Resume->Shared->Prop):Prop
|mk (T:Addr) (d:PyData):v=.ref T->out[out.length - 1 - n]?=some d->RD s'.heap (.ref T) d [T]->s_0.heap.get? T=none->T∉ow->Ext ow [] s_0 [] s'->(∀b∈ow,∃o,s'.heap.get? b=some o) ->
  (∀dA:Shared,(∀b∈ow,∀o,s'.heap.get? b=some o->dA.heap.get? b=some o)->dl K dA.heap->Gu (.send .none) dA)->JT K ow out n s_0 v s' Gu
abbrev YB(K:Addr->Option Obj)(ow:List Addr)(out:List PyData):Protocol:=JT K ow out
noncomputable def RB(ow:List Addr):GenEnd:=λn s_0 r s_1=>r=.ok (.ret .none)∧(n=0∧Ext ow [] s_0 [] s_1)
section
variable {prog:Program}{w:World}{K:Addr->Option Obj}{O:Fx}{A:Around}{R:GenEnd}{Y:Protocol}{n:Nat}{s_0:Shared}{c:Code}{fs:List PySem.Frame}{s:Shared}{ow:List Addr}{loc loc':Loc}
 {K':Flow->Sem Fin} {H:Value->Sem Fin} {gd:Bool->Bool} {lv:List Value->List Value}
theorem yt(H:HR ρ Z [] h):ρ=[]:=by
 have:=H.len
 cases ρ with
|nil=>rfl
|cons a r=>cases this
theorem SR.wake{s dA:Shared}(R:SR K O [] ow ⟨loc,[]⟩ s)(hs:zG loc)(hc:O.env.cells=[])(k:∀b∈ow,∀o,s.heap.get? b=some o->dA.heap.get? b=some o)(top:dl K dA.heap):SR K O [] ow ⟨loc,[]⟩ dA:=by
 refine cps λ_ KK=>?_
 obtain⟨m,cm,hn,ux,hv⟩:=R.er.ex
 refine KK ?_
 refine⟨⟨rfl,List.nodup_nil,(λb hb=>bT hb),λa ha=>?_,λi mo e=>by simp at e⟩,⟨⟨m,cm,Ns.keep hn λo e=>k _ (R.er.dz _ R.er.ld) o e,λn c e=>?_,λi x pv hi hl=>?_⟩,R.er.fn,R.er.sc,R.er.pf,R.er.glob,R.er.bi,R.er.ld,R.er.dz,R.er.pj,R.er.cell,R.er.inj⟩,top,R.off⟩
 ·obtain⟨o,e⟩:=R.hr.iI a ha
  exact⟨o,k a ha o e⟩
 ·rw[hc]at e;cases e
 ·refine cps λ_ KK=>?_
  obtain⟨v,lC,r⟩:=hv i x pv hi hl
  obtain⟨d,rfl,hd⟩:=hs i pv hl
  obtain⟨as,r,q⟩:=r
  refine KK ?_
  exact⟨v,lC,[],(r.CR hd).1,λ_ h=>bT h⟩
theorem NN{st:Stmt}{F:XF}(h:Ex prog w K O st F)(Rm:cJ (A.over c fs) O.k)(R0:SR K O [] ow ⟨loc,[]⟩ s)(q:F ⟨loc,[]⟩=some (.next,⟨loc',[]⟩))
  (k:∀s',Ext O.own [] s [] s'->SR K O [] ow ⟨loc',[]⟩ s'->Seg (model prog w) A R Y n s_0 c (K' .next) fs s'):Seg (model prog w) A R Y n s_0 c ((exec st O.env).wrap K' H gd lv) fs s:=by
 refine seg_wrap (bq (h.run _ [] ow _ s _ _ Rm R0 q) (λf s' p=>?_) λ_ _ q=>q.elim)
 obtain⟨aA,x,R',rfl⟩:=p
 obtain rfl:=yt R'.hr
 exact k s' x R'
theorem AJ(h:Tr prog w K O test F)(Rm:cJ (A.over c fs) O.k)(R0:SR K O [] ow ⟨loc,[]⟩ s)(q:F ⟨loc,[]⟩=some (b,[]))
  (k:∀s',Ext [] [] s [] s'->SR K O [] ow ⟨loc,[]⟩ s'->Seg (model prog w) A R Y n s_0 c ((execs (if b then body else orelse) O.env).wrap K' H gd lv) fs s') :
  Seg (model prog w) A R Y n s_0 c ((exec (.If test body orelse pos) O.env).wrap K' H gd lv) fs s:=by
 rw[exec_If]
 refine seg_bind_wrap (wpAny_standAt ?_)
 refine seg_bind_wrap (bq (h.run _ [] ow _ s _ _ Rm R0 q) (λb' s' p=>?_) λ_ _ q=>q.elim)
 obtain⟨rfl,aA,x,H'⟩:=p
 obtain rfl:=yt H'
 have:=k s' x (R0.next x H')
 cases b'<;>exact this
theorem CT(h:fb prog w K O es G)(Rm:cJ (A.over c fs) O.k)(R0:SR K O [] ow ⟨loc,[]⟩ s)(hs:zG loc)(fN:O.env.cells=[])(q:G ⟨loc,[]⟩=some ([.dat a,.dat b],[]))
  (ha:yi a=true) (hb:yi b=true) (lf:splitAtGen fs=none) (EU:gd false=false) (tW:fs.any Frame.guarded=false) (DN:out[out.length - 1 - n]?=some (.tuple [a,b])) (xs:Ext ow [] s_0 [] s)
  (qm:O.env.scope.isCoroutine=false) (hi:interactive O.env=false)
  (k:∀dA,SR K O [] ow ⟨loc,[]⟩ dA->(∀s',Ext [] [] s [] s'->(∀b∈ow,∀o,s'.heap.get? b=some o->dA.heap.get? b=some o)->True)->(∀b∈ow,∀o,s.heap.get? b=some o->dA.heap.get? b=some o)->Seg (model prog w) A R (YB K ow out) n dA c (K' .next) fs dA) :
  Seg (model prog w) A R (YB K ow out) (n+1) s_0 c ((exec (.Expr (.Yield (some (.Tuple es kk tp)) yp) pos) O.env).wrap K' H gd lv) fs s:=by
 refine seg_Expr_Yield lf EU tW ?_ qm hi
 refine wpAny_Tuple (bq (h.run tp _ [] ow _ s _ _ Rm R0 q) (λvs s_1 p=>?_) λ_ _ q=>q.elim)
 refine cps λ_ KK=>?_
 obtain⟨aD,aO,V,cg⟩:=p
 obtain rfl:=yt cg
 obtain⟨v1,r1,rfl,⟨as1,ra,_⟩,V⟩:=V.vq
 obtain⟨v2,r2,rfl,⟨as2,rb,_⟩,V⟩:=V.vq
 refine KK ?_
 cases V.mi
 refine⟨by show 2≤2 ^ 24;decide,λGu hk=>?_⟩
 have k1:∀b o,s_1.heap.get? b=some o->(s_1.heap.push {cls:=.type "tuple",data:=.seq ([v1,v2]:List Value).toArray}).get? b=some o:=λb o e=>ao _ e
 have ct:Ext [] [] s_1 [] {s_1 with heap:=s_1.heap.push {cls:=.type "tuple",data:=.seq ([v1,v2]:List Value).toArray}}:=Ext.of_keep (t:=s_1.toks) k1
 have aP:=R0.next aO cg
 have cw:SR K O [] ow ⟨loc,[]⟩ {s_1 with heap:=s_1.heap.push {cls:=.type "tuple",data:=.seq ([v1,v2]:List Value).toArray}}:=aP.next ct (aP.hr.keep k1)
 have fT:s_1.heap.get? s_1.heap.objs.size=none:=aK (am _)
 have xa:Ext ow [] s_0 [] {s_1 with heap:=s_1.heap.push {cls:=.type "tuple",data:=.seq ([v1,v2]:List Value).toArray}}:=xs.trans ((aO.trans ct).weak dF)
 refine⟨s_1.heap.objs.size,.tuple [a,b],rfl,DN,?_,?_,(aP.hr.fresh fT).2,xa,cw.hr.iI,λdA HE top=>hk _ _ ?_⟩
 ·have r1:=(ra.CR (h':=s_1.heap.push {cls:=.type "tuple",data:=.seq ([v1,v2]:List Value).toArray}) ha).1
  have r2:=(rb.CR (h':=s_1.heap.push {cls:=.type "tuple",data:=.seq ([v1,v2]:List Value).toArray}) hb).1
  exact .tuple (aX _ rfl) rfl rfl (.cons r1 (.cons r2 .nil))
 ·cases e:s_0.heap.get? s_1.heap.objs.size with
 |none=>rfl
 |some o =>
   obtain⟨o1,e1⟩:=(xs.trans (aO.weak dF)).live _ o e
   rw[fT]at e1;cases e1
 ·exact k dA (cw.wake hs fN HE top) (λ_ _ _=>trivial) λb hb o e=>HE b hb o (k1 b o (aO.heap b o (λh=>bT h) bv e))
end
noncomputable def m0(P:Nat->Pos):Stmt:=.If (.Name "escape" (P 0)) [.Expr (.Yield (some (.Tuple [.Name "pos" (P 1),.BinOp (.Constant (.str "\\") 0 (P 2)) .Add (.Name "ch" (P 3)) (P 4)] 0 (P 5))) (P 6)) (P 7),.Assign [.Name "escape" (P 8)] (.Constant (.bool false) 0 (P 9)) (P 10)]
 [.If (.Compare (.Name "ch" (P 11)) [.Eq] [.Constant (.str "\\") 0 (P 12)] (P 13)) [.Assign [.Name "escape" (P 14)] (.Constant (.bool true) 0 (P 15)) (P 16)] [.Expr (.Yield (some (.Tuple [.Name "pos" (P 17),.Name "ch" (P 18)] 0 (P 19))) (P 20)) (P 21)] (P 22)] (P 23)
noncomputable def lM(P:Nat->Pos):Expr:=.Tuple [.Name "pos" (P 24),.Name "ch" (P 25)] 0 (P 26)
noncomputable def WW(P:Nat->Pos):Expr:=.Call (.Name "enumerate" (P 27)) [.Name "addr" (P 28)] [] (P 29)
noncomputable def Ig(P:Nat->Pos):Stmt:=.If (.Name "escape" (P 31)) [.Expr (.Yield (some (.Tuple [.Name "pos" (P 32),.Constant (.str "\\") 0 (P 33)] 0 (P 34))) (P 35)) (P 36)] [] (P 37)
noncomputable def nH(P:Nat->Pos):List Stmt:=[.Assign [.Name "pos" (P 38)] (.Constant (.int 0) 0 (P 39)) (P 40),.Assign [.Name "escape" (P 41)] (.Constant (.bool false) 0 (P 42)) (P 43),.For (lM P) (WW P) [m0 P] [] (P 30),Ig P]
noncomputable def gF:List Nat->Nat->Bool->List PyData
|[],i,cv=>if cv then[.tuple [.int ((i:Int) - 1),.str ⟨⟨[92]⟩⟩]]else[]
|c::r,i,cv=>if cv then .tuple [.int i,.str ⟨⟨[92,c]⟩⟩]::gF r (i+1) false else if c==92 then gF r (i+1) true else .tuple [.int i,.str ⟨⟨[c]⟩⟩]::gF r (i+1) false
structure GF(prog:Program)(w:World)(K:Addr->Option Obj)(O:Fx):Prop where
 v0:O.vars.lookup 0=some "addr"
 v1:O.vars.lookup 1=some "pos"
 v2:O.vars.lookup 2=some "escape"
 v3:O.vars.lookup 3=some "ch"
 s1:iB O "pos"
 s2:iB O "escape"
 s3:iB O "ch"
 k:1≤O.k
 cells:O.env.cells=[]
 co:O.env.scope.isCoroutine=false
 jP:interactive O.env=false
noncomputable def L4(a:Str)(p:Int)(e:Bool)(ch:Option PV):Loc:=[some (.dat (.str a)),some (.dat (.int p)),some (.dat (.bool e)),ch]
noncomputable def xH:Option PV->Bool
|none=>true
|some (.dat d)=>yi d
|_=>false
theorem G6{a:Str}{p:Int}{e:Bool}{ch:Option PV}(h:xH ch=true):zG (L4 a p e ch):=λi pv hi=>by
 unfold L4 at hi
 match i,hi with
|0,hi=>cases hi;exact⟨_,rfl,rfl⟩
|1,hi=>cases hi;exact⟨_,rfl,rfl⟩
|2,hi=>cases hi;exact⟨_,rfl,rfl⟩
|3,hi =>
  have hi:some ch=some (some pv):=hi
  cases hi
  cases pv with
 |dat d=>exact⟨d,rfl,h⟩
 |_=>exact kP h
|i+4,hi=>simp at hi
section
variable {prog:Program}{w:World}{K:Addr->Option Obj}{O:Fx}{P:Nat->Pos}{A:Around}{n:Nat}{ow:List Addr}{out:List PyData}{a:Str}
theorem yI:PyData.strOk ("\\":Str)=true:=by decide +kernel
theorem acN(g:GF prog w K O):fb prog w K O [.Name "pos" (P 1),.BinOp (.Constant (.str "\\") 0 (P 2)) .Add (.Name "ch" (P 3)) (P 4)]
  (aM (aj 1) (aM (aB (aN (λσ=>some (.dat (.str ⟨⟨[92]⟩⟩),σ.hp)) λa=>aN (aj 3) λb=>ev (lO .Add) a b)) bA)) :=
 .cons (.name g.v1) (.cons (bV.bin (Ev.str (by rfl) yI) (.name g.v3)).dat .nil)
theorem acn(g:GF prog w K O):fb prog w K O [.Name "pos" (P 17),.Name "ch" (P 18)] (aM (aj 1) (aM (aj 3) bA)):=.cons (.name g.v1) (.cons (.name g.v3) .nil)
theorem TB(g:GF prog w K O):fb prog w K O [.Name "pos" (P 32),.Constant (.str "\\") 0 (P 33)] (aM (aj 1) (aM (λσ=>some (.dat (.str ⟨⟨[92]⟩⟩),σ.hp)) bA)):=.cons (.name g.v1) (.cons (Ev.str (by rfl) yI) .nil)
end
section
variable {prog:Program}{w:World}{K:Addr->Option Obj}{O:Fx}{P:Nat->Pos}{A:Around}{ow:List Addr}{out:List PyData}{a:Str}
noncomputable abbrev vN(H:Flow->Sem Fin)(Hx:Value->Sem Fin)(env:Env)(c:Code)(p:Pos):List PySem.Frame :=
 [.ret (λr=>((match r with|.ok f=>(.pure f:Sem Flow)|.error e=>.raise e).onRaise λ(x:Value)=>do
    if(← field x 1)==Value.none then unsupported "frame.own-activation:exception-without-traceback"
    setFlight x env.frame).wrap H Hx id id) none (id false) (id []) c p []]
theorem z9(g:GF prog w K O)(hA:A.handled=none)(lf:splitAtGen fs=none)(tW:fs.any Frame.guarded=false)
  (Rm:cJ (A.over (.forLoop (lM P) (.ref e) [m0 P] [] O.env) fs) O.k)
  (W:Iter prog w (A.over (.forLoop (lM P) (.ref e) [m0 P] [] O.env) fs) (.ref e) (lM P) [e,it] (λ_=>False) stepI Jx) (Wd:∀s,Jx (.rem []) [] ow s->wpAny (model prog w) (A.over (.forLoop (lM P) (.ref e) [m0 P] [] O.env) fs) (pyNext (.ref e)) (λr s'=>r=none∧∃h',s'={s with heap:=h'}∧(∀b o,b∉[e,it]->s.heap.get? b=some o->h'.get? b=some o)∧∀b∈[e,it],∃o,h'.get? b=some o) a8 s)
  (pX:∀b∈[e,it],b∈ow) (qt:Off O [e,it]) (iX:∀b∈O.own,b∈ow∧b∉[e,it])
  (Jw:∀is s dA,Jx is [] ow s->(∀b∈ow,∀o,s.heap.get? b=some o->dA.heap.get? b=some o)->Jx is [] ow dA)
  (pK:∀i cv p ch s_0 s pre,out=pre++gF [] i cv->(cv=true->p=(i:Int) - 1)->xH ch=true->SR K O [] ow ⟨L4 a p cv ch,[]⟩ s->Ext ow [] s_0 [] s ->
   Seg (model prog w) A R (YB K ow out) (gF [] i cv).length s_0 (.forLoop (lM P) (.ref e) [m0 P] [] O.env) (.pure (.again (.block [] O.env))) fs s) :
  ∀(l:List Nat) (i:Nat) (cv:Bool) (p:Int) (ch:Option PV) (s_0 s:Shared) (pre:List PyData),(∀c∈l,c < 0x110000)->out=pre++gF l i cv->(cv=true->p=(i:Int) - 1)->xH ch=true->SR K O [] ow ⟨L4 a p cv ch,[]⟩ s->Jx (.rem (jN i (chars l))) [] ow s->Ext ow [] s_0 [] s ->
   Seg (model prog w) A R (YB K ow out) (gF l i cv).length s_0 (.forLoop (lM P) (.ref e) [m0 P] [] O.env) ((model prog w).den (.forLoop (lM P) (.ref e) [m0 P] [] O.env)) fs s
|[],i,cv,p,ch,s_0,s,pre,hl,ho,hp,hc,R0,J,x0=>by
  refine HM (bq (Wd s J) (λr s_1 q=>?_) λ_ _ q=>q.elim)
  obtain⟨rfl,h',rfl,kd,lv⟩:=q
  have xe:Ext [e,it] [] s [] {s with heap:=h'}:=Ext.Ds (t:=s.toks) kd lv
  have R1:SR K O [] ow ⟨L4 a p cv ch,[]⟩ {s with heap:=h'}:=R0.EB xe pX qt (R0.hr.chg (t:=s.toks) pX kd lv)
  exact pK i cv p ch s_0 _ pre ho hp hc R1 (x0.trans (xe.weak pX))
|c::r,i,cv,p,ch,s_0,s,pre,hl,ho,hp,hc,R0,J,x0=>by
  refine HM (bq (W.next (l:=.rem (.tuple [.int i,.str ⟨⟨[c]⟩⟩]::jN (i+1) (chars r))) (hp:=[]) rfl J R0.hr pX) (λr_1 s_1 q=>?_) λ_ _ q=>q.elim)
  obtain⟨v,rfl,q⟩:=q
  refine bq q (λ_ bn q=>?_) λ_ _ q=>q.elim
  obtain⟨aA,x,H',V,J'⟩:=q
  obtain rfl:=yt H'
  have R2:SR K O [] ow ⟨L4 a p cv ch,[]⟩ bn:=R0.wM x pX qt H'
  refine bq ((As.Ox g.v1 g.s1 g.v3 g.s3).run _ [] ow _ bn _ v (L4 a i cv (some (.dat (.str ⟨⟨[c]⟩⟩)))) Rm R2 V rfl) (λ_ d4 q=>?_) λ_ _ q=>q.elim
  obtain⟨x3,R3⟩:=q
  have J3:=W.ext J' x3 iX
  have YO:Ext ow [] s_0 [] d4:=by
   have xx:Ext ow [] s [] bn:=x.ext (λb hb=>.inl (pX b hb)) λ_ _ _ f=>f
   exact(x0.trans xx).trans (x3.weak λb hb=>(iX b hb).1)
  refine seg_execs_cons ?_
  refine AJ (Tr.val (Ev.name g.v2)) Rm R3 (b:=cv) rfl λdq x4 R4=>?_
  have EQ:Ext ow [] s_0 [] dq:=YO.trans (x4.weak dF)
  have J4:=W.ext J3 x4 (λ_ h=>bT h)
  have Mz:∀(y:PyData) (ys:List PyData),out=pre++y::ys->out[out.length - 1 - ys.length]?=some y:=λy ys h=>by
   refine h.symm▸List.length_append.symm▸List.length_cons.symm▸(show pre.length+(ys.length+1) - 1 - ys.length=pre.length from(show pre.length+ys.length - ys.length=pre.length from Nat.add_sub_cancel _ _)).symm▸?_
   simp
  cases cv with
 |true =>
   have hg:gF (c::r) i true=.tuple [.int i,.str ⟨⟨[92,c]⟩⟩]::gF r (i+1) false:=rfl
   rw[hg]at ho ⊢
   refine seg_execs_cons ?_
   refine CT (acN g) Rm R4 (G6 rfl) g.cells (a:=.int i) (b:=.str ⟨⟨[92,c]⟩⟩) rfl rfl rfl lf rfl tW (Mz _ _ ho) EQ g.co g.jP λgT R5 _ YR=>?_
   refine seg_execs_cons ?_
   refine NN (Ex.assign g.v2 g.s2 Ev.bool rfl) Rm R5 (loc':=L4 a i false (some (.dat (.str ⟨⟨[c]⟩⟩)))) rfl λi7 x6 R6=>?_
   refine seg_again rfl ?_
   refine z9 g hA lf tW Rm W Wd pX qt iX Jw pK r (i+1) false i (some (.dat (.str ⟨⟨[c]⟩⟩))) gT i7 (pre++[.tuple [.int i,.str ⟨⟨[92,c]⟩⟩]]) (λc hc=>hl c (al _ hc)) (by rw[ho];simp) (λh=>kP h) rfl R6 (W.ext (Jw _ _ _ J4 YR) x6 iX) (x6.weak λb hb=>(iX b hb).1)
 |false =>
   refine seg_execs_cons ?_
   by_cases dK:c=92
   ·subst dK
    refine AJ (Tr.cmp (.name g.v3) (Ev.str (by rfl) yI) g.k) Rm R4 (b:=true) (by rfl) λgT x5 R5=>?_
    refine seg_execs_cons ?_
    refine NN (Ex.assign g.v2 g.s2 Ev.bool rfl) Rm R5 (loc':=L4 a i true (some (.dat (.str ⟨⟨[92]⟩⟩)))) rfl λi7 x6 R6=>?_
    refine seg_again rfl ?_
    refine z9 g hA lf tW Rm W Wd pX qt iX Jw pK r (i+1) true i (some (.dat (.str ⟨⟨[92]⟩⟩))) s_0 i7 pre (λc hc=>hl c (al _ hc)) ho (λ_=>(Int.add_sub_cancel (i:Int) 1).symm) rfl R6 (W.ext (W.ext J4 x5 (λ_ h=>bT h)) x6 iX) ((EQ.trans (x5.weak dF)).trans (x6.weak λb hb=>(iX b hb).1))
   ·have hg:gF (c::r) i false=.tuple [.int i,.str ⟨⟨[c]⟩⟩]::gF r (i+1) false:=by
     show(if(c==92)=true then _ else _)=_
     rw[if_neg (by simpa using dK)]
    rw[hg]at ho ⊢
    refine AJ (Tr.cmp (.name g.v3) (Ev.str (by rfl) yI) g.k) Rm R4 (b:=false) ?_ λgT x5 R5=>?_
    ·have e1:fq .Eq (.str ⟨⟨[c]⟩⟩) (.str ⟨⟨[92]⟩⟩)=some false:=by
      show some (([c]:List Nat)==[92])=some false
      congr 1
      simpa using dK
     show qL .Eq (.dat (.str ⟨⟨[c]⟩⟩)) (.dat (.str ⟨⟨[92]⟩⟩)) ⟨_,[]⟩=_
     skip
     show(match fq .Eq (.str ⟨⟨[c]⟩⟩) (.str ⟨⟨[92]⟩⟩)with
     |some d=>some (d,[])
     |none=>none)=_
     exact e1.symm▸rfl
    refine seg_execs_cons ?_
    refine CT (acn g) Rm R5 (G6 rfl) g.cells (a:=.int i) (b:=.str ⟨⟨[c]⟩⟩) rfl rfl rfl lf rfl tW (Mz _ _ ho) (EQ.trans (x5.weak dF)) g.co g.jP λi7 R6 _ U3=>?_
    refine seg_again rfl ?_
    exact z9 g hA lf tW Rm W Wd pX qt iX Jw pK r (i+1) false i (some (.dat (.str ⟨⟨[c]⟩⟩))) i7 i7 (pre++[.tuple [.int i,.str ⟨⟨[c]⟩⟩]]) (λc hc=>hl c (al _ hc)) (by rw[ho];simp) (λh=>kP h) rfl R6 (Jw _ _ _ (W.ext J4 x5 (λ_ h=>bT h)) U3) (Ext.refl _ _ _)
end
section
variable {prog:Program}{w:World}{A:Around}{E:Value->Shared->Prop}{s:Shared}
theorem TT(hh:A.handled=none)
  (hit:s.heap.IsStrIter it "str_ascii_iterator" x t i) (hx:x.cps[i]?=none)
  (hE:∀h' e,Heap.ExtBut it s.heap h'->(∃o,h'.get? it=some o)->(∃o,h'.get? e=some o∧o.cls=.type "StopIteration")->E (.ref e) {s with heap:=h'}) :
  wpAny (model prog w) A (Builtin.SmallTypes.nextOf (.ref it)) Q E s:=by
 obtain⟨o,ho,hc,hd⟩:=id hit
 skip
 refine bp (wpAny_callSpecial?_slot (name:=Str.ofString "__next__") hit.typeIs PySem.F.slot_str_ascii_iterator_next
  (wpAny_call_entry PySem.F.slot_str_ascii_iterator_next hit.typeIs PySem.F.entry_str_ascii_iterator_next ?_ (PySem.F.args_str_ascii_iterator_next_1 _)))
 show wpAny _ _ (field (.ref it) 0 >>= _) _ _ s
 refine bp (wpAny_field ho hd (x:=.str x t) rfl ?_)
 show wpAny _ _ (field (.ref it) 1 >>= _) _ _ s
 refine bp (wpAny_field ho hd (x:=.int i 0) rfl ?_)
 simp only[Int.toNat_natCast,hx]
 refine bp (wpAny_rule (bp (wpAny_setField ho hd (by simp) (bp (wpAny_letGo ?_)))))
 skip
 refine bp ?_
 simp only[newExc,newTuple]
 refine bp (wpAny_newObj_type ?_ (by size_fits))
 refine bp (m:=firstArgMember _ _) (wpAny_of_eq (a:=Value.none) (by first|rfl|(simp only[firstArgMember];rfl)) ?_)
 refine wpAny_newObj_type ?_ (by size_fits)
 simp only[raiseNew]
 refine bp (wpAny_handled ?_)
 first|rw[show A.in1.handled=none from hh]|rw[hh]
 refine bp (br (wpAny_throw ?_))
 exact hE _ _ (((Heap.SameBut.update ..).extBut.push _).push _) ⟨_,ao _ (ao _ (Heap.get?_update_self _ ho (Obj.isFreed_of_fields (Obj.data_mapFields hd _))))⟩ ⟨_,aX _ rfl,rfl⟩
theorem Tq(hh:A.handled=none)
  (hit:s.heap.IsStrIter it "str_iterator" x t i) (hx:x.cps[i]?=none)
  (hE:∀h' e,Heap.ExtBut it s.heap h'->(∃o,h'.get? it=some o)->(∃o,h'.get? e=some o∧o.cls=.type "StopIteration")->E (.ref e) {s with heap:=h'}) :
  wpAny (model prog w) A (Builtin.SmallTypes.nextOf (.ref it)) Q E s:=by
 obtain⟨o,ho,hc,hd⟩:=id hit
 skip
 refine bp (wpAny_callSpecial?_slot (name:=Str.ofString "__next__") hit.typeIs PySem.F.slot_str_iterator_next
  (wpAny_call_entry PySem.F.slot_str_iterator_next hit.typeIs PySem.F.entry_str_iterator_next ?_ (PySem.F.args_str_iterator_next_1 _)))
 show wpAny _ _ (field (.ref it) 0 >>= _) _ _ s
 refine bp (wpAny_field ho hd (x:=.str x t) rfl ?_)
 show wpAny _ _ (field (.ref it) 1 >>= _) _ _ s
 refine bp (wpAny_field ho hd (x:=.int i 0) rfl ?_)
 simp only[Int.toNat_natCast,hx]
 refine bp (wpAny_rule (bp (wpAny_setField ho hd (by simp) (bp (wpAny_letGo ?_)))))
 skip
 refine bp ?_
 simp only[newExc,newTuple]
 refine bp (wpAny_newObj_type ?_ (by size_fits))
 refine bp (m:=firstArgMember _ _) (wpAny_of_eq (a:=Value.none) (by first|rfl|(simp only[firstArgMember];rfl)) ?_)
 refine wpAny_newObj_type ?_ (by size_fits)
 simp only[raiseNew]
 refine bp (wpAny_handled ?_)
 first|rw[show A.in1.handled=none from hh]|rw[hh]
 refine bp (br (wpAny_throw ?_))
 exact hE _ _ (((Heap.SameBut.update ..).extBut.push _).push _) ⟨_,ao _ (ao _ (Heap.get?_update_self _ ho (Obj.isFreed_of_fields (Obj.data_mapFields hd _))))⟩ ⟨_,aX _ rfl,rfl⟩
theorem abd(he:IsEnum s.heap e it i old)
  (D:∀(Q:Value->Shared->Prop) (E:Value->Shared->Prop),(∀h' e,Heap.ExtBut it s.heap h'->(∃o,h'.get? it=some o)->(∃o,h'.get? e=some o∧o.cls=.type "StopIteration")->E (.ref e) {s with heap:=h'})->wpAny (model prog w) A.in1 (Builtin.SmallTypes.nextOf (.ref it)) Q E s)
  (hQ:∀h',Heap.ExtBut it s.heap h'->(∃o,h'.get? it=some o)->Q none {s with heap:=h'}):wpAny (model prog w) A (pyNext (.ref e)) Q E s:=by
 have hT:s.TypeIs (.ref e) "enumerate":=⟨_,he,rfl⟩
 skip
 refine bp (wpAny_attempt (wpAny_callSpecial?_slot (name:=Str.ofString "__next__") hT PySem.F.slot_enumerate_next
  (wpAny_call_entry PySem.F.slot_enumerate_next hT PySem.F.entry_enumerate_next ?_ (PySem.F.args_enumerate_next_1 _))))
 show wpAny _ _ (field (.ref e) 2 >>= _) _ _ _
 refine bp (wpAny_field he rfl (x:=.ref it) rfl ?_)
 refine bp (D _ _ λh' x uL hl rQ=>?_)
 obtain⟨o,ho,hc⟩:=rQ
 refine bp (wpAny_isInstance (T:="StopIteration") (b:=true) ⟨o,ho,hc⟩ isSubtype_stop ?_)
 exact br (hQ _ uL hl)
end
section
variable {prog:Program}{w:World}{K:Addr->Option Obj}{O:Fx}{P:Nat->Pos}{A:Around}{ow:List Addr}{out:List PyData}{a:Str}
noncomputable abbrev Ty(f:Flow):Sem Fin:=.pure (.done (.ret (match f with|.ret v=>v|_=>.none)))
theorem XW(g:GF prog w K O)(Rm:cJ (A.over c []) O.k)
  (ho:out=pre++gF [] i cv) (hp:cv=true->p=(i:Int) - 1) (hc:xH ch=true) (R0:SR K O [] ow ⟨L4 a p cv ch,[]⟩ s) (x0:Ext ow [] s_0 [] s) :
  Seg (model prog w) A (RB ow) (YB K ow out) (gF [] i cv).length s_0 c ((execs [Ig P] O.env).wrap Ty Hx id id) [] s:=by
 refine seg_execs_cons ?_
 refine AJ (Tr.val (Ev.name g.v2)) Rm R0 (b:=cv) rfl λs_1 x1 R1=>?_
 cases cv with
|true =>
  have ai:=hp rfl
  subst ai
  have DN:out[out.length - 1 - 0]?=some (.tuple [.int ((i:Int) - 1),.str ⟨⟨[92]⟩⟩]):=by
   rw[ho]
   show(pre++[_])[(pre++[_]).length - 1 - 0]?=_
   rw[bH]
   simp
  refine seg_execs_cons ?_
  refine CT (TB g) Rm R1 (G6 hc) g.cells (a:=.int ((i:Int) - 1)) (b:=.str ⟨⟨[92]⟩⟩) rfl rfl rfl rfl rfl rfl DN (x0.trans (x1.weak dF)) g.co g.jP λbn R2 _ hk=>?_
  exact seg_end (.ok (.ret .none)) ⟨rfl,rfl,Ext.refl _ _ _⟩
|false =>
  exact seg_end (.ok (.ret .none)) ⟨rfl,rfl,x0.trans (x1.weak dF)⟩
theorem V7
  (h:Seg (model prog w) A R Y n s_0 c (H .next) [] s):Seg (model prog w) A R Y n s_0 cl (.pure (.again (.block [] O.env))) (vN H Hx O.env c p) s:=by
 refine seg_again rfl ?_
 exact seg_leaf (.ok .next) h
end
section
variable {K:Addr->Option Obj}{O:Fx}{ρ aA:aJ}{Z:List Addr}{σ:St}{s s':Shared}{prog:Program}{w:World}{A:Around}
theorem SR.Iv(R:SR K O ρ Z σ s)(hv:O.vars.lookup i=some x)(ok:iB O x)(r:VR ρ Z s.heap pv v)
  (hQ:∀s',Ext O.own ρ s ρ s'->SR K O ρ Z ⟨σ.loc.set i (some pv),σ.hp⟩ s'->s'.heap.objs.size=s.heap.objs.size->Q () s'):wpAny (model prog w) A (storeName O.env x v) Q a8 s:=by
 obtain⟨m,cm,hn,hc,i9⟩:=R.er.ex
 have eU:∀j y,j≠i->O.vars.lookup j=some y->y≠x:=λj y hj e q=>hj (R.er.pf j i x (q▸e) hv)
 rcases ok with hk|⟨c,hk,hl,qm⟩
 ·refine wpAny_storeName_local hk hn (λh' kY sb=>?_) (by rw[R.er.fn];rfl)
  have k:∀b o,b∉Z->s.heap.get? b=some o->h'.get? b=some o:=λb o hb e=>sb.extBut b o (λq=>hb (q▸R.er.dz _ R.er.ld)) e
  have hx:=R.AX (t:=s.toks+1) (loc':=σ.loc.set i (some pv)) R.er.ld sb (Ns.live kY) ⟨⟨_,cm,kY,λn c e=>?_,λj y p hj hl=>?_⟩,R.er.fn,R.er.sc,R.er.pf,R.er.glob,R.er.bi,R.er.ld,R.er.dz,R.er.pj,R.er.cell,R.er.inj⟩
  ·exact hQ _ hx.1 hx.2 sb.1
  ·obtain⟨o,ho,hd⟩:=hc n c e
   exact⟨o,sb.extBut c o (R.er.cell n c e).2 ho,hd⟩
  ·rcases yJ hl with⟨rfl,rfl⟩|⟨g8,hl⟩
   ·replace hj:=hv▸hj
    cases hj
    refine⟨v,?_,r.own k⟩
    unfold gc
    refine hk.symm▸?_
    simp
   ·obtain⟨u,hu,hr⟩:=i9 j y p hj hl
    refine⟨u,?_,hr.own k⟩
    have:y≠x:=eU j y (λq=>g8 q.symm) hj
    unfold gc at hu ⊢
    split at hu<;>simp_all
 ·refine wpAny_storeName_cell R.er.fn hk hl (hc x c hl) λh' me sb=>?_
  have k:∀b o,b∉Z->s.heap.get? b=some o->h'.get? b=some o:=λb o hb e=>sb.extBut b o (λq=>hb (q▸R.er.dz _ qm)) e
  have hx:=R.AX (t:=s.toks) (loc':=σ.loc.set i (some pv)) qm sb (let⟨o,e,_⟩:=me;⟨o,e⟩) ⟨⟨m,λn=>if n=x then some v else cm n,Ns.keep hn λo e=>sb.extBut _ o (λq=>(R.er.cell x c hl).2 q.symm) e,λn c' e=>?_,λj y p hj eZ=>?_⟩,R.er.fn,R.er.sc,R.er.pf,R.er.glob,R.er.bi,R.er.ld,R.er.dz,R.er.pj,R.er.cell,R.er.inj⟩
  ·exact hQ _ hx.1 hx.2 sb.1
  ·by_cases q:n=x
   ·subst q
    replace e:=hl▸e
    cases e
    simpa using me
   ·have:c'≠c:=λq'=>q (R.er.inj n x c (q'▸e) hl)
    obtain⟨o,ho,hd⟩:=hc n c' e
    exact⟨o,sb.extBut c' o this ho,by simpa[q]using hd⟩
  ·rcases yJ eZ with⟨rfl,rfl⟩|⟨g8,eZ⟩
   ·replace hj:=hv▸hj
    cases hj
    refine⟨v,?_,r.own k⟩
    unfold gc
    refine hk.symm▸?_
    simp[hl]
   ·obtain⟨u,hu,hr⟩:=i9 j y p hj eZ
    refine⟨u,?_,hr.own k⟩
    have:y≠x:=eU j y (λq=>g8 q.symm) hj
    unfold gc at hu ⊢
    split at hu<;>simp_all
end
theorem TH(h:PyData.strOk x=true):∀c∈x.cps.toList,c < 0x110000:=by
 unfold PyData.strOk at h
 rw[← Array.all_toList,List.all_eq_true]at h
 exact λc hc=>of_decide_eq_true (h c hc)
section
variable {prog:Program}{w:World}{K:Addr->Option Obj}{O:Fx}{P:Nat->Pos}{A:Around}{mg mb:Str->Option Value}{a:Str}
theorem RI(R:SR K O ρ Z σ s)(hv:O.vars.lookup i=some x)(hp:d2 σ.loc i=some pv)(hd:autoParam ((x==("__debug__":Str))=false) sZ)(i0:autoParam ((x==("__classdict__":Str))=false) sZ) :
  wpAny (model prog w) A (eval (.Name x pos) O.env) (λv s'=>s'=s∧VR ρ Z s.heap pv v) a8 s:=by
 refine cps λ_ KK=>?_
 obtain⟨m,cm,hn,hc,i9⟩:=R.er.ex
 obtain⟨v,hs,r⟩:=i9 i x _ hv (yx hp)
 refine KK ?_
 refine wpAny_Name ?_ hd
 rcases F3 hs with⟨hk,hm⟩|⟨hk|hk,c,hl,hm⟩
 ·exact wpAny_loadName_local R.er.fn hk hn hm ⟨rfl,r⟩
 ·exact wpAny_loadName_cell R.er.fn hk hl (hm▸hc x c hl) ⟨rfl,r⟩
 ·exact wpAny_loadName_free R.er.fn hk hl (hm▸hc x c hl) ⟨rfl,r⟩ i0
noncomputable abbrev gA(A:Around)(P:Nat->Pos)(B:Addr)(O:Fx)(H:Flow->Sem Fin)(Hx:Value->Sem Fin)(p:Pos):Around:=A.over (.forLoop (lM P) (.ref (B+1)) [m0 P] [] O.env) (vN H Hx O.env (.func (nH P) O.env) p)
structure Oq(prog:Program)(w:World)(a:Str)(B:Addr)(t:Tok)(T:String):Prop where
 draws:∀A':Around,A'.handled=none->Draws prog w A' B [B] a.cps.size (λi v=>∃c u,a.cps[i]?=some c∧v=.str ⟨#[c]⟩ u) (λi h=>h.IsStrIter B T a t i)
 ends:∀(A':Around) (s:Shared) (i:Nat) (Q:Value->Shared->Prop) (E:Value->Shared->Prop),A'.handled=none->s.heap.IsStrIter B T a t i->a.cps[i]?=none->(∀h' e,Heap.ExtBut B s.heap h'->(∃o,h'.get? B=some o)->(∃o,h'.get? e=some o∧o.cls=.type "StopIteration")->E (.ref e) {s with heap:=h'})->wpAny (model prog w) A' (Builtin.SmallTypes.nextOf (.ref B)) Q E s
theorem abO(g:GF prog w K O)(iX:O.own=[C])(hA:A.handled=none)
  (D2:cJ (gA A P B O H Hx p) O.k) (R2:SR K O [] [C] ⟨L4 a 0 false none,[]⟩ s2) (gy:PyData.strOk a=true) (he:IsEnum h (B+1) B 0 old) (hit:h.IsStrIter B T a t 0) (keep:∀b o,s2.heap.get? b=some o->h.get? b=some o) (fB:s2.heap.get? B=none) (w7:s2.heap.get? (B+1)=none)
  (it:Oq prog w a B t T)
  (pK:∀i cv p ch s_0 s pre,gF a.cps.toList 0 false=pre++gF [] i cv->(cv=true->p=(i:Int) - 1)->xH ch=true->SR K O [] [B+1,B,C] ⟨L4 a p cv ch,[]⟩ s->Ext [B+1,B,C] [] s_0 [] s->Seg (model prog w) A (RB [B+1,B,C]) (YB K [B+1,B,C] (gF a.cps.toList 0 false)) (gF [] i cv).length s_0 (.func (nH P) O.env) (H .next) [] s)
  (x0:Ext [B+1,B,C] [] s0 [] {s2 with heap:=h}):Seg (model prog w) A (RB [B+1,B,C]) (YB K [B+1,B,C] (gF a.cps.toList 0 false)) (gF a.cps.toList 0 false).length s0 (.forLoop (lM P) (.ref (B+1)) [m0 P] [] O.env) ((model prog w).den (.forLoop (lM P) (.ref (B+1)) [m0 P] [] O.env)) (vN H Hx O.env (.func (nH P) O.env) p) {s2 with heap:=h}:=by
 have hh:(gA A P B O H Hx p).handled=none:=hA
 have hz:a.cps.size=(jN 0 (chars a.cps.toList)).length:=by rw[Bt,chars,bI,Array.length_toList]
 have Oz:B+1∈[B+1,B,C]:=aq ..
 have Ov:B∈[B+1,B,C]:=al _ (aq ..)
 have hx:PyData.strOk a=true:=gy
 have lv:∀(i:Nat) (h:Heap),((∃old,IsEnum h (B+1) B i old)∧h.IsStrIter B T a t i)->∀b∈[B+1,B],∃o,h.get? b=some o:=λi h q=>all2 (q.1.elim λ_ e=>⟨_,e⟩) (q.2.elim λo e=>⟨o,e.1⟩)
 have W:=Iter.Eo (A:=gA A P B O H Hx p) (eD:=s2.heap) (fd:=[]) (ds:=jN 0 (chars a.cps.toList)) (elts:=[.Name "pos" (P 24),.Name "ch" (P 25)]) (k:=0) (pos:=P 26) (WalksT.enumerateD (A:=gA A P B O H Hx p) (it.draws (gA A P B O H Hx p).in1 hh) (B+1) (Nat.succ_ne_self _) (λq=>Nat.succ_ne_self _ (ak q)) (List.mem_singleton_self _)) hz.symm lv (λi xs d h hv hd kd=>by
  refine cps λ_ KK=>?_
  obtain⟨t',y,Ek,rfl⟩:=hv
  obtain⟨y',hy,rfl⟩:=GI _ 0 i hd
  obtain⟨bs,rb,qb⟩:=FT hx (h:=h) Ek hy
  refine KK ?_
  rw[show((0+i:Nat):Int)=(i:Int)by rw[Nat.zero_add]]
  exact⟨_,[]++(bs++[]),rfl,.cons (.int _ _) (.cons rb .nil),λb hb=>qb b ((bM bs)▸hb)⟩)
 have R4:SR K O [] ([B+1,B]++[C]) ⟨L4 a 0 false none,[]⟩ {s2 with heap:=h}:=R2.more (s':={s2 with heap:=h}) (all2 w7 fB) keep (all2 ⟨_,he⟩ (hit.elim λo q=>⟨o,q.1⟩))
 have nC:C∉[B+1,B]:=λq=>(R2.hr.iI C (List.mem_singleton_self _)).elim λo e=>ar ((all2 (P:=λx=>s2.heap.get? x=none) w7 fB C q).symm.trans e)
 refine z9 g (e:=B+1) (it:=B) hA rfl rfl D2 W (λs J=>?_) (all2 Oz Ov) (R2.sx (all2 w7 fB)) (iX.symm▸all1 ⟨al _ (al _ (aq ..)),nC⟩) (λis s dA J k=>?_) (λi cv p ch s_0 s pre h1 h2 h3 h4 h5=>V7 (pK i cv p ch s_0 s pre h1 h2 h3 h4 h5)) a.cps.toList 0 false 0 none s0 {s2 with heap:=h} [] (TH gy) rfl (λh=>kP h) rfl R4 ⟨⟨0,⟨⟨_,he⟩,hit⟩,rfl,bZ _⟩,(λb hb=>bT hb),(λb hb=>bT hb),λb hb=>⟨bv,λq=>absurd hb q⟩⟩ x0
 ·refine cps λ_ KK=>?_
  obtain⟨⟨i,⟨⟨old,e1⟩,e2⟩,hl,jO⟩,_⟩:=J
  refine KK ?_
  have hn:a.cps[i]?=none:=Array.getElem?_eq_none (hz▸List.drop_eq_nil_iff.mp hl.symm)
  exact abd e1 (λQ E k=>it.ends _ _ i Q E hh e2 hn k) λh' uL eZ=>⟨rfl,h',rfl,λb o hb e=>uL b o (λq=>hb (q▸al _ (aq ..))) e,all2 ⟨_,uL _ _ (Nat.succ_ne_self _) e1⟩ eZ⟩
 ·cases is with
 |cf=>exact J.elim
 |rem l =>
   refine cps λ_ KK=>?_
   obtain⟨⟨i,⟨⟨old,e1⟩,o2,e2,e3⟩,hl,jO⟩,hd,od,op⟩:=J
   refine KK ?_
   exact⟨⟨i,⟨⟨old,k _ Oz _ e1⟩,o2,k _ Ov _ e2,e3⟩,hl,jO⟩,(λb hb=>bT hb),od,op⟩
theorem Vv(g:GF prog w K O)(gl:Gl K mg mb)(hk:O.sc.names.lookup ("enumerate":Str)=some .globalImplicit)(hg:mg "enumerate"=none)(hb:mb "enumerate"=some (.type "enumerate"))(iX:O.own=[C])(hA:A.handled=none)
  (PW:cJ (A.over (.func (nH P) O.env) []) O.k) (D2:∀e p H Hx,cJ (A.over (.forLoop (lM P) (.ref e) [m0 P] [] O.env) (vN H Hx O.env (.func (nH P) O.env) p)) O.k)
  (R0:SR K O [] [C] ⟨[some (.dat (.str a)),none,none,none],[]⟩ s) (gy:PyData.strOk a=true) :
  Seg (model prog w) A (RB [s.heap.objs.size+1,s.heap.objs.size,C]) (YB K [s.heap.objs.size+1,s.heap.objs.size,C] (gF a.cps.toList 0 false)) (gF a.cps.toList 0 false).length s (.func (nH P) O.env) ((model prog w).den (.func (nH P) O.env)) [] s:=by
 refine seg_func ?_
 refine seg_execs_cons (seg_wrap (wpAny_Assign_Name (wpAny_Constant_int ?_) rfl))
 have x0:Ext [] [] s [] {s with toks:=s.toks+1}:=Ext.of_keep (h:=s.heap) λ_ _ e=>e
 have xR:SR K O [] [C] ⟨[some (.dat (.str a)),none,none,none],[]⟩ {s with toks:=s.toks+1}:=R0.next x0 R0.hr
 refine bq (xR.Iv g.v1 g.s1 (pv:=.dat (.int 0)) ⟨[],.int _ _,λ_ h=>nomatch h⟩ (Q:=λ_ s'=>Ext O.own [] {s with toks:=s.toks+1} [] s'∧SR K O [] [C] ⟨[some (.dat (.str a)),some (.dat (.int 0)),none,none],[]⟩ s'∧s'.heap.objs.size=s.heap.objs.size) λs' x R z=>⟨x,R,z⟩) (λ_ s1 q=>?_) λ_ _ q=>q.elim
 have x1:=q.1
 have R1:=q.2.1
 refine seg_execs_cons (seg_wrap (wpAny_Assign_Name (wpAny_Constant_bool ?_) rfl))
 refine bq (R1.Iv g.v2 g.s2 (pv:=.dat (.bool false)) ⟨[],.bool _,λ_ h=>nomatch h⟩ (Q:=λ_ s'=>Ext O.own [] s1 [] s'∧SR K O [] [C] ⟨L4 a 0 false none,[]⟩ s'∧s'.heap.objs.size=s1.heap.objs.size) λs' x R z=>⟨x,R,z⟩) (λ_ s2 q2=>?_) λ_ _ q=>q.elim
 have R2:=q2.2.1
 have hz:s2.heap.objs.size=s.heap.objs.size:=q2.2.2.trans q.2.2
 have UB:Ext O.own [] s [] s2:=((x0.weak dF).trans x1).trans q2.1
 refine seg_execs_cons (abn ?_)
 skip
 refine Call_ (l9 gl R2 hk (.inr ⟨hg,hb⟩) ?_ (by decide))
 refine tX (.inr ⟨_,rfl⟩) (wpAny_items_cons (bq (RI R2 g.v0 rfl) (λv s3 p=>wpAny_items_nil ?_) λ_ _ q=>q) rfl) rfl rfl
 have es:s3=s2:=p.1
 refine cps λ_ KK=>?_
 obtain⟨as,ra,_⟩:=p.2
 obtain⟨t,hv,_,hx⟩:=ra.fQ
 refine KK ?_
 refine hv.symm▸es.symm▸?_
 refine call_enumerate_str λh he hit hsz keep=>wpAny_pyIter_enum (s:={s2 with heap:=h}) he λp=>?_
 rw[hz]at he hit ⊢
 have fB:s2.heap.get? s.heap.objs.size=none:=aK (aU hz)
 have w7:s2.heap.get? (s.heap.objs.size+1)=none:=aK (Nat.le_succ_of_le (aU hz))
 have xs:Ext [s.heap.objs.size+1,s.heap.objs.size,C] [] s [] {s2 with heap:=h}:=(UB.weak (iX.symm▸all1 (al _ (al _ (aq ..))))).trans (Ext.of_keep (t:=s2.toks) keep)
 have it:Oq prog w a s.heap.objs.size t (strIterType a):=by
  unfold strIterType
  cases ha:a.cps.all (· < 128)with
 |false=>exact⟨λA' h=>Draws.strWide h _ a t,λA' s i Q E h hi hn k=>Tq h hi hn k⟩
 |true=>exact⟨λA' h=>Draws.strAscii h _ a t,λA' s i Q E h hi hn k=>TT h hi hn k⟩
 exact abO g iX hA (D2 _ _ _ _) R2 gy he hit keep fB w7 it (λi cv p ch s_0 s pre h1 h2 h3 h4 h5=>XW g PW h1 h2 h3 h4 h5) xs
end
noncomputable def vy:List (Nat×Str):=[(0,"addr"),(1,"pos"),(2,"escape"),(3,"ch")]
noncomputable def vc(fd:FuncData)(a:Addr)(k:Nat)(L:Addr):Fx:=⟨newEnv fd.scope L fd.globals [] (fd.qualname++".<locals>.") (some a) fd.code none fd.builtins,fd.scope,vy,[L],k⟩
theorem AllBare.set{gens:Array GenState}{g:Nat}{st:GenState}(h:AllBare gens)(hb:st.bare=true):AllBare (gens.setIfInBounds g st):=λy hy=>by
 rcases Array.mem_or_eq_of_mem_setIfInBounds hy with q|rfl
 ·exact h y q
 ·exact hb
theorem NR{s:Shared}{g g':Nat}{st:GenState}(h:g'≠g):(s.setGen g st).gens[g']?=s.gens[g']?:=by
 skip
 exact(Array.getElem?_setIfInBounds_ne (λq=>h q.symm)).symm▸rfl
theorem HR.abv{ρ:aJ}{wr Z:List Addr}{hp:List MO}{h h':Heap}(H:HR ρ Z hp h)(hw:∀a∈wr,h.get? a=none)(k:∀a o,a∉Z->h.get? a=some o->h'.get? a=some o)(lv:∀a∈wr++Z,∃o,h'.get? a=some o):HR ρ (wr++Z) hp h' :=
 ⟨H.len,H.nodup,λb hb m=>(ae m).elim (λm=>by obtain⟨o,e⟩:=H.live b hb;rw[hw b m]at e;cases e) (H.fZ b hb),lv,λi mo e =>
  let⟨r,b,hr,hm⟩:=H.at_ i mo e
  have hb:b∉wr++Z:=λm=>(ae m).elim (λm=>by obtain⟨o,e⟩:=hm.live;rw[hw b m]at e;cases e) (H.fZ b (List.mem_map_of_mem (f:=Prod.snd) (aT hr)))
  ⟨r,b,hr,(MR.more (h':=h) hw (λ_ _ e=>e) hm).own (λa o ha=>k a o λq=>ha (af _ q)) hb⟩⟩
section
variable (prog:Program)(w:World)(K:Addr->Option Obj)(A:Around)(P:Nat->Pos)(O:Fx)(e:Addr)(gi:Nat)(a:Str)(C:Addr)
structure GJ(l:List PyData)(wr:List Addr)(ρ:aJ)(Z:List Addr)(s:Shared):Prop where
 gen:s.heap.IsGen e gi
 oY:e∉bF ρ∧e∉Z
 Bv:∀b∈wr,b∉bF ρ∧∃o,s.heap.get? b=some o
 top:dl K s.heap
 off:kJ K ρ Z
 pre:∃pre,gF a.cps.toList 0 false=pre++l
 st:∃gs,s.gens[gi]?=some gs∧((gs=.fresh (.func (nH P) O.env)∧wr=[C]∧l=gF a.cps.toList 0 false∧SR K O [] [C] ⟨[some (.dat (.str a)),none,none,none],[]⟩ s) ∨
  (∀dA:Shared,(∀b∈wr,∀o,s.heap.get? b=some o->dA.heap.get? b=some o)->dl K dA.heap->gs.Goes (model prog w) A.in1 (RB wr) (YB K wr (gF a.cps.toList 0 false)) l.length (.send .none) dA))
noncomputable def JG:IS->List Addr->aJ->List Addr->Shared->Prop
|.rem l=>GJ prog w K A P O e gi a C l
|.cf _ _=>λ_ _ _ _=>False
end
section
variable {prog:Program}{w:World}{K:Addr->Option Obj}{A:Around}{P:Nat->Pos}{O:Fx}{e:Addr}{gi:Nat}{a:Str}{C:Addr}{l:List PyData}{wr:List Addr}{ρ aA:aJ}{Z Z' X:List Addr}{s s':Shared}{mg mb:Str->Option Value}
theorem Dp:zG [some (.dat (.str a)),none,none,none]:=λi pv hi=>by
 match i,hi with
|0,hi=>cases hi;exact⟨_,rfl,rfl⟩
|i+4,hi=>simp at hi
theorem GJ.ext(g:GF prog w K O)(J:GJ prog w K A P O e gi a C l wr ρ Z s)(x:Ext X ρ s aA s')(hX:∀a∈X,a∈Z∧a∉wr):GJ prog w K A P O e gi a C l wr aA Z s':=by
 obtain⟨o,nm,qn,ho,hr⟩:=id J.gen
 have kw:∀b∈wr,∀o,s.heap.get? b=some o->s'.heap.get? b=some o:=λb hb o e=>x.heap b o (J.Bv b hb).1 (λq=>(hX b q).2 hb) e
 have tp:dl K s'.heap:=λb o hb=>x.heap b o (J.off b (hb.symm▸λq=>vD q)).1 (λq=>(J.off b (hb.symm▸λq=>vD q)).2 (hX b q).1) (J.top b o hb)
 refine⟨⟨o,nm,qn,x.heap e o J.oY.1 (λq=>J.oY.2 (hX e q).1) ho,hr⟩,⟨x.lB ho J.oY.1,J.oY.2⟩,λb hb=>?_,tp,λb hb=>?_,J.pre,?_⟩
 ·obtain⟨h1,o,h2⟩:=J.Bv b hb
  exact⟨x.lB h2 h1,o,kw b hb o h2⟩
 ·refine⟨?_,(J.off b hb).2⟩
  cases q:K b with
 |none=>exact absurd q hb
 |some o=>exact x.lB (J.top b o q) (J.off b hb).1
 ·obtain⟨gs,k8,h⟩:=J.st
  refine⟨gs,x.gens gi gs k8,?_⟩
  rcases h with⟨rfl,rfl,hl,R⟩|h
  ·exact .inl ⟨rfl,rfl,hl,R.wake Dp g.cells kw tp⟩
  ·exact .inr λdA k t=>h dA (λb hb o e=>k b hb o (kw b hb o e)) t
theorem GJ.more(g:GF prog w K O)(J:GJ prog w K A P O e gi a C l wr ρ Z s)(hZ:∀a∈Z',a∈Z∨s.heap.get? a=none)(k:∀b o,s.heap.get? b=some o->s'.heap.get? b=some o)(kg:∀(g:Nat) (st:GenState),s.gens[g]?=some st->s'.gens[g]?=some st):GJ prog w K A P O e gi a C l wr ρ Z' s':=by
 have tp:dl K s'.heap:=λb o hb=>k b o (J.top b o hb)
 refine⟨J.gen.keeps k,⟨J.oY.1,λq=>?_⟩,λb hb=>let⟨h1,o,h2⟩:=J.Bv b hb;⟨h1,o,k b o h2⟩,tp,λb hb=>⟨(J.off b hb).1,λq=>?_⟩,J.pre,?_⟩
 ·rcases hZ e q with q|q
  ·exact J.oY.2 q
  ·obtain⟨o,nm,qn,ho,hr⟩:=J.gen;rw[q]at ho;cases ho
 ·rcases hZ b q with q|q
  ·exact(J.off b hb).2 q
  ·cases h:K b with
  |none=>exact absurd h hb
  |some o=>have:=J.top b o h;rw[q]at this;cases this
 ·obtain⟨gs,k8,h⟩:=J.st
  refine⟨gs,kg gi gs k8,?_⟩
  rcases h with⟨rfl,rfl,hl,R⟩|h
  ·exact .inl ⟨rfl,rfl,hl,R.wake Dp g.cells (λb _ o e=>k b o e) tp⟩
  ·exact .inr λdA k' t=>h dA (λb hb o e=>k' b hb o (k b o e)) t
theorem cJ.ZG(h:cJ A (k+1)):cJ (A.in1.over (.func body env) []) k :=
 ⟨h.handled,ah (aU (bg A.depth 1 k)) h.depth,ah (aa (aU (bg A.units 4 (40*k))) (aQ (show 4≤40 by decide) (A.units+40*k))) h.units⟩
theorem cJ.UT{k:Nat}{e:Addr}{p:Pos}{H:Flow->Sem Fin}{Hx:Value->Sem Fin}{body:List Stmt}{env:Env}(h:cJ A (k+1)):cJ (A.in1.over (.forLoop (lM P) (.ref e) [m0 P] [] env) (vN H Hx env (.func body env) p)) k :=
 ⟨h.handled,ah (aU (bg A.depth 1 k)) h.depth,ah (aa (aU (bg A.units 4 (40*k))) (aQ (show 4≤40 by decide) (A.units+40*k))) h.units⟩
inductive Pg(prog:Program)(w:World)(K:Addr->Option Obj)(A:Around)(gi:Nat)(a:Str)(l:List PyData)(wr:List Addr)(s:Shared):Prop
|mk (gs:GenState) (fj:List Addr):s.gens[gi]?=some gs->(∀b∈fj,s.heap.get? b=none)->gs.Goes (model prog w) A.in1 (RB (fj++wr)) (YB K (fj++wr) (gF a.cps.toList 0 false)) l.length (.send .none) (s.setGen gi .running)->Pg prog w K A gi a l wr s
theorem GJ.JY(g:GF prog w K O)(gl:Gl K mg mb)(hk:O.sc.names.lookup ("enumerate":Str)=some .globalImplicit)(hg:mg "enumerate"=none)(hb:mb "enumerate"=some (.type "enumerate"))(iX:O.own=[C])(Rm:cJ A (O.k+1))(gy:PyData.strOk a=true)
  (J:GJ prog w K A P O e gi a C l wr ρ Z s):Pg prog w K A gi a l wr s:=by
 obtain⟨gs,k8,h⟩:=J.st
 rcases h with⟨rfl,rfl,rfl,R⟩|h
 ·refine⟨_,[s.heap.objs.size+1,s.heap.objs.size],k8,λb hb=>?_,rfl,?_⟩
  ·exact all2 (P:=λb=>s.heap.get? b=none) (aK (bx _)) (aK (am _)) b hb
  ·have R':SR K O [] [C] ⟨[some (.dat (.str a)),none,none,none],[]⟩ (s.setGen gi .running):=R.wake Dp g.cells (λ_ _ _ e=>e) J.top
   exact Vv g gl hk hg hb iX (A:=A.in1) Rm.handled Rm.ZG (λ_ _ _ _=>Rm.UT) R' gy
 ·exact⟨gs,[],k8,(λ_ h=>bT h),h _ (λ_ _ _ e=>e) J.top⟩
end
section
variable {prog:Program}{w:World}{K:Addr->Option Obj}{A:Around}{P:Nat->Pos}{O:Fx}{e:Addr}{gi:Nat}{a:Str}{C:Addr}{mg mb:Str->Option Value}{tg:Expr}
theorem JG.wc{l:IS}{wr:List Addr}{ρ:aJ}{Z:List Addr}{s:Shared}{Q:IS->Prop}(J:JG prog w K A P O e gi a C l wr ρ Z s)(k:∀l,GJ prog w K A P O e gi a C l wr ρ Z s->Q (.rem l)):Q l:=by
 cases l with
|rem l=>exact k l J
|cf=>exact J.elim
theorem tI{h:Heap}{fj wr:List Addr}(j0:∀b∈fj,h.get? b=none){b:Addr}{o:Obj}(hb:b∉wr)(e:h.get? b=some o):b∉fj++wr:=λq=>(ae q).elim (λq=>ar ((j0 b q).symm.trans e)) hb
theorem tail_at{out pre l:List PyData}{d d':PyData}(hpre:out=pre++d::l)(hd:out[out.length - 1 - ((d::l).length - 1)]?=some d'):d=d':=by
 rw[hpre,bH]at hd
 have hd:(pre++d::l)[pre.length+l.length - l.length]?=some d':=hd
 rw[Nat.add_sub_cancel,List.getElem?_append_right (Nat.le_refl _),Nat.sub_self]at hd
 exact bX hd
theorem PA{s:Shared}{g:Nat}{st:GenState}(h:g < s.gens.size):(s.setGen g st).gens[g]?=some st:=by
 show(s.gens.setIfInBounds g st)[g]?=_
 rw[Array.getElem?_setIfInBounds_self,if_pos h]
theorem NI{s s_1:Shared}{st:GenState}{W wr:List Addr}{ρ:aJ}(x:Ext W [] (s.setGen gi .running) [] s_1)(hb:st.bare=true)(off:∀b o,b∉wr->s.heap.get? b=some o->b∉W):d5 wr (λx=>x=gi) ρ s ρ (s_1.setGen gi st) :=
 ⟨⟨⟨[],(bM _).symm,λ_ h=>bT h⟩,λb o _ hb e=>x.heap b o bv (off b o hb e) e,x.live,x.drawn,x.os,λ_ _ e=>e,λh=>h⟩,λg' st HZ e=>(NR HZ).trans (x.gens g' st ((NR HZ).trans e)),λh=>AllBare.set (x.bare (AllBare.set h rfl)) hb⟩
theorem PS(g:GF prog w K O)(gl:Gl K mg mb)(hk:O.sc.names.lookup ("enumerate":Str)=some .globalImplicit)(hg:mg "enumerate"=none)(hb:mb "enumerate"=some (.type "enumerate"))(iX:O.own=[C])(Rm:cJ A (O.k+1))(gy:PyData.strOk a=true)(ht:iR tg) :
  ze prog w A (.ref e) tg (λx=>x=gi) stepI (JG prog w K A P O e gi a C) where
 ext:=λ{l wr ρ Z s X aA s'} J x hX=>J.wc (Q:=λl=>JG prog w K A P O e gi a C l wr aA Z s') λl J=>GJ.ext g J x hX
 more:=λ{l wr ρ Z Z' s s'} J hZ k kg=>J.wc (Q:=λl=>JG prog w K A P O e gi a C l wr ρ Z' s') λl J=>GJ.more g J hZ k kg
 self:=λ{l wr hp r ρ Z s Q} _ J _ hQ=>J.wc (Q:=λ_=>wpAny (model prog w) A (pyIter (.ref e)) Q a8 s) λl J=>wpAny_pyIter_gen J.gen hQ
 next:=λ{l wr hp d l' ai ρ Z s} st J H hw=>by
  revert st
  refine J.wc (Q:=λl=>stepI l hp=some (some (d,l'),ai)->_) λl J st=>?_
  obtain⟨hh,⟨_,q⟩|⟨NT,RW,hl,q⟩⟩:=Bl st
  ·exact ar q.symm
  have q:=a5 (bX q)
  replace J:=q.1.symm▸hl▸J
  refine q.2.symm▸?_
  replace H:=hh▸H
  refine cps λ_ KK=>?_
  obtain⟨gs,fj,k8,j0,qg⟩:=GJ.JY g gl hk hg hb iX Rm gy J
  refine KK ?_
  refine Nb (P:=λn s_0 s_1=>n=0∧Ext (fj++wr) [] s_0 [] s_1) Rm.handled (gl.lim _ J.top) (ah (ax _ _) (a9 Rm.depth b9)) J.gen k8 qg (λv s_1 nF MI hY=>?_) (λs_1 p=>nomatch p.1)
  refine cps λ_ KK=>?_
  obtain⟨T,d',hv,hd,hr,hf,HV,x,lv,GY⟩:=hY
  obtain⟨o,nm,qn,ho,fN,Gi,G3⟩:=id J.gen
  obtain⟨pre,hpre⟩:=J.pre
  refine KK ?_
  have nD:d=d':=tail_at hpre hd
  replace hr:=nD.symm▸hr
  have fZ:∀b o,b∉Z->s.heap.get? b=some o->b∉fj++wr:=λb o hb e=>tI j0 (λq=>hb (hw b q)) e
  have xh:∀b o,b∉Z->s.heap.get? b=some o->s_1.heap.get? b=some o:=λb o hb e=>x.heap b o bv (fZ b o hb e) e
  have kz:∀b o,K b=some o->b∉Z:=λb o hb=>(J.off b λq=>ar (q.symm.trans hb)).2
  have ES:gi < s_1.gens.size:=(Array.getElem?_eq_some_iff.mp (x.gens gi _ (PA (Array.getElem?_eq_some_iff.mp k8).1))).1
  have H':HR ρ (fj++Z) ai (s_1.setGen gi nF).heap:=H.abv j0 xh λb hb=>(ae hb).elim (λq=>lv b (au _ q)) λq=>(H.iI b q).elim λo e=>x.live b o e
  have J':GJ prog w K A P O e gi a C RW (fj++wr) ρ (fj++Z) (s_1.setGen gi nF) :=
   ⟨⟨o,nm,qn,xh e o J.oY.2 ho,fN,Gi,G3⟩,⟨J.oY.1,tI j0 J.oY.2 ho⟩,λb hb=>⟨(ae hb).elim (λq=>(H.fresh (j0 b q)).1) λq=>(J.Bv b q).1,lv b hb⟩,λb o hb=>xh b o (kz b o hb) (J.top b o hb),λb hb=>⟨(J.off b hb).1,λq=>?_⟩,⟨pre++[d],by rw[hpre,bJ];rfl⟩,nF,PA ES,.inr λdA k t=>GY dA k t⟩
  ·exact⟨.ref T,hv▸rfl,ua ht (s:=s_1.setGen gi nF) (xh e o J.oY.2 ho) fN (by decide) ⟨ρ,fj,j0,NI x MI λb o=>tI j0,H',⟨[T],hr,all1 ⟨(H.fresh hf).1,λq=>(ae q).elim (λq=>HV (au _ q)) (H.fresh hf).2⟩⟩,J'⟩⟩
  ·cases h:K b with
  |none=>exact absurd h hb
  |some o=>exact tI j0 (kz b o h) (J.top b o h) q
 done:=λ{l wr hp ai ρ Z s} st J H hw=>by
  revert st
  refine J.wc (Q:=λl=>stepI l hp=some (none,ai)->_) λl J st=>?_
  obtain⟨hh,⟨hl,_⟩|⟨_,_,_,q⟩⟩:=Bl st
  ·replace J:=hl▸J
   replace H:=hh▸H
   refine cps λ_ KK=>?_
   obtain⟨gs,fj,k8,j0,qg⟩:=GJ.JY g gl hk hg hb iX Rm gy J
   refine KK ?_
   refine Nb (P:=λn s_0 s_1=>n=0∧Ext (fj++wr) [] s_0 [] s_1) Rm.handled (gl.lim _ J.top) (ah (ax _ _) (a9 Rm.depth b9)) J.gen k8 qg (λv s_1 nF MI hY=>?_) (λs_1 p h' keep=>?_)
   ·refine cps λ_ KK=>?_
    obtain⟨T,d',hv,hd,hr,hf,HV,x,lv,GY⟩:=hY
    refine KK ?_
    exact(GY s_1 (λ_ _ _ e=>e) λb o hb=>x.heap b o bv (tI j0 (λq=>(J.off b λq=>ar (q.symm.trans hb)).2 (hw b q)) (J.top b o hb)) (J.top b o hb)).elim
   ·exact⟨rfl,ρ,s_1.setGen gi .finished,h',s_1.toks,NI p.2 rfl λb o=>tI j0,H.own (λb o hb e=>p.2.heap b o bv (tI j0 (λq=>hb (hw b q)) e) e) p.2.live,rfl,λb o _ e=>keep b o e⟩
  ·exact ar q
end
noncomputable def u2(G:LF):SF:=λσ=>match G σ with
|some ([.dat (.str x)],hp)=>some ((.rem (gF x.cps.toList 0 false),(gF x.cps.toList 0 false).length+1),hp)
|_=>none
structure zp(prog:Program)(w:World)(K:Addr->Option Obj)(mg mb:Str->Option Value)(a:Addr)(o:Obj)(fd:FuncData)(P:Nat->Pos)(k:Nat):Prop where
 at_:K a=some o
 data:o.data=.func fd
 body:fd.body=.stmts (nH P)
 code:∀h,dl K h->h.CodeRec fd.code fd.qualname
 bind:∀v,bindArgs fd ⟨[v],[]⟩=pure [(("addr":Str),v)]
 glob:fd.globals=mainGlobals
 bi:fd.builtins=builtinsNs
 clo:fd.closure=[]
 gen:fd.scope.isGenerator=true
 co:fd.scope.isCoroutine=false
 kind:fd.scope.kind=.function
 abL:∀x∈fd.scope.names,x.2≠.cell
 addr:fd.scope.names.lookup ("addr":Str)=some .local
 pos:fd.scope.names.lookup ("pos":Str)=some .local
 escape:fd.scope.names.lookup ("escape":Str)=some .local
 ch:fd.scope.names.lookup ("ch":Str)=some .local
 enum:fd.scope.names.lookup ("enumerate":Str)=some .globalImplicit
 mg:mg "enumerate"=none
 mb:mb "enumerate"=some (.type "enumerate")
 k:1≤k
theorem Tm:∀(i j:Nat) (y:Str),vy.lookup i=some y->vy.lookup j=some y->i=j:=λi j y hi hj=>by
 have h:vy.all (λp=>vy.all λq=>p.2 != q.2||p.1==q.1)=true:=by decide +kernel
 rcases(Bool.or_eq_true _ _).mp (bj (bj h _ (lookup_mem hi)) _ (lookup_mem hj))with e|e
 ·exact absurd rfl (bne_iff_ne.mp e)
 ·exact eq_of_beq e
section
variable {prog:Program}{w:World}{K:Addr->Option Obj}{O:Fx}{mg mb:Str->Option Value}
theorem zp.gf{a:Addr}{o:Obj}{fd:FuncData}{P:Nat->Pos}{k:Nat}(G:zp prog w K mg mb a o fd P k)(L:Addr):GF prog w K (vc fd a k L) where
 v0:=rfl
 v1:=rfl
 v2:=rfl
 v3:=rfl
 s1:=.inl G.pos
 s2:=.inl G.escape
 s3:=.inl G.ch
 k:=G.k
 cells:=rfl
 co:=G.co
 jP:=by
  skip
  skip
  show(fd.scope.kind==.module&&_)=false
  rw[G.kind];rfl
theorem S8{G:LF}{σ:St}{is:IS}{n:Nat}{ai:List MO}{Q:Prop}(q:u2 G σ=some ((is,n),ai))(k:∀x,G σ=some ([.dat (.str x)],ai)->.rem (gF x.cps.toList 0 false)=is->Q):Q:=by
 unfold u2 at q
 cases h:G σ with
|none=>rw[h]at q;exact ar q
|some y =>
  obtain⟨ps,hp⟩:=y
  replace q:=h▸q
  cases ps with
 |nil=>exact ar q
 |cons p ps=>cases ps with
  |cons _ _=>cases p with
   |dat d=>cases d<;>exact ar q
   |_=>exact ar q
  |nil=>cases p with
   |dat d=>cases d with
    |str x=>exact k x ((b7 q).2▸h) (a5 (b7 q).1).1
    |_=>exact ar q
   |_=>exact ar q
noncomputable def xd(g:Nat)(fd:FuncData)(t:Nat):Obj:={cls:=.type "generator",data:=.fields #[.int g 0,.str fd.name t,.str fd.qualname (t+1)]}
theorem OE{K:Addr->Option Obj}{h:Heap}(top:dl K h){C:Addr}(fC:h.get? C=none){b:Addr}(hb:K b≠none)(q:b∈[C]):False:=by
 rw[ak q]at hb
 cases h:K C with
|none=>exact hb h
|some o=>exact ar (fC.symm.trans (top C o h))
theorem V3(hA:fd.scope.names.lookup ("addr":Str)=some .local)(gy:PyData.strOk x=true)(i)(y)(pv)(hi:vy.lookup i=some y)(hl:[some (.dat (.str x)),none,none,none][i]?=some (some pv)) :
  ∃v,gc (vc fd a k C).env (λy=>[(("addr":Str),Value.str x t)].reverse.lookup y) (λ_=>none) y=some v∧VR ρ Z h pv v:=by
 cases i with
|zero =>
  refine(bX (bX hl))▸(bX (show some (("addr":Str))=some y from hi))▸?_
  refine⟨.str x t,?_,[],.str _ _ gy,λ_ h=>bT h⟩
  unfold gc
  refine(show(vc fd a k C).env.kindOf "addr"=some .local from hA).symm▸?_
  rfl
|succ i=>cases i with
 |zero=>exact ar (bX hl)
 |succ i=>cases i with
  |zero=>exact ar (bX hl)
  |succ i=>cases i with
   |zero=>exact ar (bX hl)
   |succ i=>exact ar hl
theorem Yh{A:Around}{a:Addr}{o:Obj}{fd:FuncData}{P:Nat->Pos}{k:Nat}(gl:Gl K mg mb)(G:zp prog w K mg mb a o fd P k){tg:Expr}(ht:iR tg){ρ aD:aJ}{Z:List Addr}{loc:Loc}{s s_1:Shared}{ai:List MO}{x:Str}{t:Tok}{C:Addr}{h':Heap}{is:IS}
  (oK:.rem (gF x.cps.toList 0 false)=is) (Rm:cJ A (k+1)) (aO:Ext [] ρ s aD s_1) (aP:SR K O aD Z ⟨loc,ai⟩ s_1) (gy:PyData.strOk x=true) (fC:s_1.heap.get? C=none) (HP:s_1.heap.get? (C+1)=none) (Ai:∀b o,s_1.heap.get? b=some o->h'.get? b=some o) (hn:h'.Ns C (λy=>[(("addr":Str),Value.str x t)].reverse.lookup y))
  (hsz:h'.objs.size=C+1) {t1 t2:Nat}:dQ prog w A tg stepI ρ Z s is ai (.ref (C+1)) ⟨h'.push (xd s_1.gens.size fd t1),s_1.gens.push (.fresh (.func (nH P) (vc fd a k C).env)),s_1.drawn,t2,s_1.os⟩:=by
 have kp:∀b o,s_1.heap.get? b=some o->(h'.push (xd s_1.gens.size fd t1)).get? b=some o:=λb o hb=>ao _ (Ai b o hb)
 have cg:=aP.hr
 have y8:(h'.push (xd s_1.gens.size fd t1)).Ns C (λy=>[(("addr":Str),Value.str x t)].reverse.lookup y):=Ns.keep hn λo e=>ao _ e
 have tp:dl K (h'.push (xd s_1.gens.size fd t1)):=λb o hb=>kp b o (aP.top b o hb)
 have no:=λb hb=>OE aP.top fC (b:=b) hb
 refine oK▸?_
 refine⟨aD,s_1,[C],(λx=>x=s_1.gens.size),JG prog w K A P (vc fd a k C) (C+1) s_1.gens.size x C,aO,cg,⟨⟨[],(bM _).symm,(λ_ h=>bT h)⟩,(λb o _ _ e=>kp b o e),(λb o e=>⟨o,kp b o e⟩),rfl,rfl,(λg st e=>?_),λh=>AllBare.push h rfl⟩,kp,all1 fC,all1 (Ns.live y8),(λg hg=>hg.symm▸Array.getElem?_eq_none (am _)),?_,PS (G.gf C) gl G.enum G.mg G.mb rfl Rm gy ht⟩
 ·skip
  refine(Array.getElem?_push).symm▸(if_neg (Nat.ne_of_lt (Array.getElem?_eq_some_iff.mp e).1)).symm▸?_
  exact e
 ·refine⟨⟨xd s_1.gens.size fd t1,_,_,hsz▸aX _ rfl,rfl,rfl,rfl⟩,⟨(cg.fresh HP).1,λq=>(ae q).elim (λq=>Nat.succ_ne_self _ (ak q)) (cg.fresh HP).2⟩,all1 ⟨(cg.fresh fC).1,Ns.live y8⟩,tp,λb hb=>⟨(aP.off b hb).1,λq=>(ae q).elim (no b hb) (aP.off b hb).2⟩,⟨[],rfl⟩,_,Array.getElem?_push_size,.inl ⟨rfl,rfl,rfl,?_⟩⟩
  exact⟨⟨rfl,List.nodup_nil,(λb hb=>bT hb),all1 (Ns.live y8),λi mo e=>ar e⟩,⟨⟨_,λ_=>none,y8,(λn c e=>ar e),V3 G.addr gy⟩,G.kind,rfl,Tm,G.glob,G.bi,List.mem_singleton_self _,λb hb=>hb,bv,(λn c e=>ar e),λn n' c e=>ar e⟩,tp,λb hb=>⟨bv,no b hb⟩⟩
theorem eT.gen(gl:Gl K mg mb){f:Str}{a:Addr}{o:Obj}{fd:FuncData}{P:Nat->Pos}{k:Nat}{e:Expr}{es:List Expr}{pos np:Pos}{F:LF}(G:zp prog w K mg mb a o fd P k)(he:fb prog w K O (e::es) F){tg:Expr}(ht:iR tg)(hK:k+1≤O.k)
  (hk:O.sc.names.lookup f=some .globalImplicit) (hg:mg f=some (.ref a)) (hd:autoParam ((f==("__debug__":Str))=false) sZ)
  (hs:autoParam (∀env,starEach (e::es) env=(false,eval e env)::starEach es env) sI) (hp:autoParam (∀env,(backTo pos (starEach es env)).any (·.1)=false) sI) :
  eT prog w K O (.Call (.Name f np) (e::es) [] pos) tg stepI (u2 F):=.mk λA ρ Z σ s is n ai Rm R q=>by
 refine S8 q λx e1 oK=>?_
 refine Call_ (l9 gl R hk (.inl hg) ?_ hd)
 refine callWith_function (o:=o) (fd:=fd) ?_
 have hh:=he.run pos A ρ Z σ s _ _ Rm R e1
 rw[hs]at hh ⊢
 refine evalArgs_plain (bq hh (λvs s_1 p=>?_) λ_ _ q=>q)
 refine cps λ_ KK=>?_
 obtain⟨aD,aO,V,cg⟩:=p
 refine KK ?_
 have aP:=R.next aO cg
 refine⟨⟨aP.top a o G.at_,G.data⟩,?_⟩
 refine cps λ_ KK=>?_
 obtain⟨v,r,hv,Vx,V⟩:=V.vq
 obtain⟨as,rx,_⟩:=id Vx
 obtain⟨t,hx,_,gy⟩:=rx.fQ
 refine KK ?_
 refine hv.symm▸V.mi.symm▸hx.symm▸?_
 refine wpAny_call (codeAny_call_generator (R:=λr s'=>match r with
 |.ok (.ret v)=>wpAny (model prog w) A (pyIter v) (dQ prog w A tg stepI ρ Z s is ai) a8 s'
 |.ok _=>False
 |.error e=>a8 e s') (ah (ax _ _) (a9 Rm.depth b9)) (aP.top a o G.at_) G.data G.co G.gen G.body (G.code _ aP.top) ?_)
 refine(show bindArgs fd {pos:=[]++({pos:=[Value.str x t]}:Args).pos}=pure [(("addr":Str),.str x t)]from G.bind _).symm▸?_
 refine br ?_
 refine wpAny_newFunctionEnv G.abL (λy hy=>(ak hy).symm▸G.addr) (λh' hn sb=>?_) G.kind
 have fC:s_1.heap.get? s_1.heap.objs.size=none:=aK (am _)
 have Ai:∀b o,s_1.heap.get? b=some o->h'.get? b=some o:=λb o hb=>sb.extBut b o (λq=>ar ((q▸fC).symm.trans hb)) (ao _ hb)
 have hsz:h'.objs.size=s_1.heap.objs.size+1:=by rw[sb.1,Heap.size_push]
 refine⟨gl.lim _ λb o hb=>Ai b o (aP.top b o hb),?_⟩
 refine(show newEnv fd.scope s_1.heap.objs.size fd.globals fd.closure (fd.qualname++".<locals>.") (some a) fd.code none fd.builtins=(vc fd a k s_1.heap.objs.size).env by rw[G.clo];rfl).symm▸?_
 skip
 refine hsz.symm▸?_
 exact wpAny_pyIter_gen (g:=s_1.gens.size) ⟨_,_,_,hsz▸aX _ rfl,rfl,rfl,rfl⟩ (Yh gl G ht oK (Rm.mono hK) aO aP gy fC (aK (bx _)) Ai hn hsz)
end
end Mine
end
section
open PySem PySem.Calls open Sem (wp) open Builtin Builtin.ObjectAttr
namespace Mine
theorem Z1:typeLookup (.type "function") "__getattribute__"=pure (some (.builtin "object.__getattribute__")):=by rw[typeLookup_type,builtinLookup_eq_fast];kernel_rfl
theorem QP:typeLookup (.type "function") "__setattr__"=pure (some (.builtin "object.__setattr__")):=by rw[typeLookup_type,builtinLookup_eq_fast];kernel_rfl
theorem acS:typeLookup (.type "function") "__getattr__"=pure none:=by rw[typeLookup_type,builtinLookup_eq_fast];kernel_rfl
theorem E4:typeLookup (.type "function") "read"=pure none:=by rw[typeLookup_type,builtinLookup_eq_fast];kernel_rfl
theorem YM:mroOf (.type "function")=pure [.type "function",.type "object"]:=by kernel_rfl
theorem Bu:Slot "function" "__getattribute__" "object.__getattribute__":=.of (owner:="object") (n:="__getattribute__") (by rw[typeLookup_type,builtinLookup_eq_fast];kernel_rfl) (by decide +kernel) (by decide +kernel) (by decide +kernel)
  (by first|exact .inl (by decide +kernel)|exact .inr (by decide +kernel)) (by rw[isSubtype_type];kernel_rfl)
theorem Gj:Slot "function" "__setattr__" "object.__setattr__":=.of (owner:="object") (n:="__setattr__") (by rw[typeLookup_type,builtinLookup_eq_fast];kernel_rfl) (by decide +kernel) (by decide +kernel) (by decide +kernel)
  (by first|exact .inl (by decide +kernel)|exact .inr (by decide +kernel)) (by rw[isSubtype_type];kernel_rfl)
section
variable {prog:Program}{w:World}{A:Around}{E:Value->Shared->Prop}{h:Heap}{g:Array GenState}{d:Drawn}{t:Nat}{os:OsState}{x dx:Addr}{o:Obj}{fd:FuncData}{m:Str->Option Value}{v:Value}
theorem Ue(hx:h.get? x=some o)(hc:o.cls=.type "function")(hf:o.data=.func fd)(hd:o.dict=some dx)(hn:h.Ns dx m)(hv:m "read"=some v)(hq:Q (.done (.ret v)) ⟨h,g,d,t,os⟩) :
  wpAny (model prog w) A (Builtin.«object.__getattribute__» ⟨[.ref x,.str "read" tk],[]⟩) Q E ⟨h,g,d,t,os⟩:=by
 unfold Builtin.«object.__getattribute__»
 repeat (first|(with_reducible refine wpAny_loadPart_at hx ?_;rw[hc])|(with_reducible refine wpAny_of_eq E4 ?_)|wp_step)
 refine hf.symm▸?_
 unfold instanceDict
 repeat (first|(with_reducible refine wpAny_loadPart_at hx ?_;rw[hc])|wp_step)
 refine hd.symm▸?_
 repeat (first|(with_reducible refine wpAny_nsGet hn ?_;rw[hv])|wp_step)
 exact hq
theorem Xu(hx:h.get? x=some o)(hc:o.cls=.type "function")(hf:o.data=.func fd)(hd:o.dict=some dx)(hn:h.Ns dx m)(hv:m "read"=some v)(hh:handedOut v=pure v)(hq:Q v ⟨h,g,d,t+1,os⟩) :
  wpAny (model prog w) A (getAttr (.ref x) "read" expr) Q E ⟨h,g,d,t,os⟩:=by
 have hT:(⟨h,g,d,t+1,os⟩:Shared).TypeIs (.ref x) "function":=⟨_,hx,hc⟩
 have f4:=Bu.bind (.ref x)
 skip
 repeat (first|(with_reducible refine wpAny_loadPart_at hx ?_;rw[hc])|(with_reducible refine wpAny_of_eq Z1 ?_)|wp_step)
 rw[show(expr&&onTheHeap (Value.builtin "object.__getattribute__"))=false by cases expr<;>rfl,if_neg aw]
 skip
 repeat (any_goals (first|assumption|wp_step))
 refine codeAny_call_builtin Bu.plain F.entry_object_getattribute (Bu.check _ _ _ _ _ _ _ _ hT (F.args_object_getattribute_2 _ _) (Ue hx hc hf hd hn hv ?_))
 show wpAny _ _ (handedOut v) _ _ _
 refine hh.symm▸?_
 exact br hq
theorem acG(hx:h.get? x=some o)(hc:o.cls=.type "function")(hf:o.data=.func fd)(hd:o.dict=some dx)(hn:h.Ns dx m)(hv:m "read"=some v)(hh:handedOut v=pure v)(hq:Q (v,[]) ⟨h,g,d,t+1,os⟩) :
  wpAny (model prog w) A (getMethod (.ref x) "read" pl) Q E ⟨h,g,d,t,os⟩:=by
 have hT:(⟨h,g,d,t,os⟩:Shared).TypeIs (.ref x) "function":=⟨_,hx,hc⟩
 skip
 refine bp (wpAny_specialOf hT Bu.lookup ?_)
 show wpAny _ A (if(Manifest.canonical "object.__getattribute__" != "object.__getattribute__")=true then _ else _) Q E _
 refine F.canon_object_ga.symm▸(if_neg aw).symm▸?_
 refine bp (wpAny_specialOf hT acS ?_)
 refine bp (wpAny_specialOf hT E4 ?_)
 exact bp (Xu hx hc hf hd hn hv hh (br hq))
theorem Tt(hx:h.get? x=some o)(hc:o.cls=.type "function")(hf:o.data=.func fd)(hd:o.dict=none)
  (hq:∀h' dx t',h.get? dx=none->h'.Ns dx (λy=>if y="read" then some v else none)->h'.get? x=some {o with dict:=some dx}->(∀b o,b≠x->h.get? b=some o->h'.get? b=some o)->Q (.done (.ret .none)) ⟨h',g,d,t',os⟩) :
  wpAny (model prog w) A (Builtin.«object.__setattr__» ⟨[.ref x,.str "read" tk,v],[]⟩) Q E ⟨h,g,d,t,os⟩:=by
 have WY:refuseLoop (.ref x) "__setattr__" [.type "function",.type "object"]=pure ():=by kernel_rfl
 skip
 repeat (first|rw[refuse_eq]|(rw[refuseLoop_ref,WY])|(with_reducible refine wpAny_loadPart_at hx ?_;rw[hc])|(with_reducible refine wpAny_of_eq YM ?_)|(with_reducible refine wpAny_of_eq E4 ?_)|wp_step)
 refine hd.symm▸hf.symm▸?_
 skip
 refine(show(!true||!typeHasDict (Value.type "function"))=false by decide +kernel).symm▸(if_neg aw).symm▸?_
 have HQ:(h.push {cls:=.type "dict",data:=.dict #[]}).get? x=some o:=ao _ hx
 have Jg:x≠h.objs.size:=Nat.ne_of_lt (Heap.lt_size hx)
 refine bp (wpAny_alloc' ?_)
 refine bp (wpAny_update' HQ ?_)
 refine br ?_
 have EU:((h.push {cls:=.type "dict",data:=.dict #[]}).update x λo=>{cls:=o.cls,dict:=some h.objs.size,data:=o.data,slots:=o.slots}).get? h.objs.size
   = some {cls:=.type "dict",data:=.dict #[]} :=
  (Heap.get?_update_ne _ _ _ _ Jg.symm).trans (Heap.get?_push_at rfl rfl)
 have hnd:((h.push {cls:=.type "dict",data:=.dict #[]}).update x λo=>{cls:=o.cls,dict:=some h.objs.size,data:=o.data,slots:=o.slots}).Ns h.objs.size (λ_=>none) :=
  ⟨_,#[],_,EU,rfl,λe he=>absurd he (by simp),λ_=>rfl⟩
 skip
 skip
 refine bp (br (bp (wpAny_nsSet1 (Heap.Ns1.of_empty hnd) λh' kY hs=>?_)))
 refine cps λ_ KK=>?_
 obtain⟨oD,esD,epD,Ud,Xt,AO⟩:=kY.count (Within.cons ("read":Str) v Within.nil)
 refine KK ?_
 refine bp (wpAny_lookBehind Ud (Xt.symm▸pastItsLine_dict (aa AO (by rw[List.length_cons,List.length_nil,sizeLine_eq];(exact Nat.succ_pos _)))) ?_)
 wp_walk
 have rQ:h'.get? x=some {cls:=o.cls,dict:=some h.objs.size,data:=o.data,slots:=o.slots}:=by
  refine(hs.2 x Jg).trans (Heap.get?_update_self _ HQ ?_)
  refine cps λ_ KK=>?_
  obtain⟨oc,od,odt,osl⟩:=o
  refine KK ?_
  simp only at hf
  subst hf
  rfl
 exact hq h' h.objs.size _ (aK (am _)) kY.ns rQ λb ob Z9 hb=>(hs.2 b (Nat.ne_of_lt (Heap.lt_size hb))).trans ((Heap.get?_update_ne _ _ _ _ Z9).trans (ao _ hb))
theorem RL(hx:h.get? x=some o)(hc:o.cls=.type "function")(hf:o.data=.func fd)(hd:o.dict=none)
  (hq:∀h' dx t',h.get? dx=none->h'.Ns dx (λy=>if y="read" then some v else none)->h'.get? x=some {o with dict:=some dx}->(∀b o,b≠x->h.get? b=some o->h'.get? b=some o)->Q () ⟨h',g,d,t',os⟩) :
  wpAny (model prog w) A (setAttr (.ref x) "read" v) Q E ⟨h,g,d,t,os⟩:=by
 have hT:(⟨h,g,d,t+1,os⟩:Shared).TypeIs (.ref x) "function":=⟨_,hx,hc⟩
 have f3:=Gj.bind (.ref x)
 skip
 repeat (any_goals (first|assumption|(with_reducible refine wpAny_loadPart_at hx ?_;rw[hc])|(with_reducible refine wpAny_of_eq QP ?_)|wp_step))
 refine codeAny_call_builtin Gj.plain F.entry_object_sa (Gj.check _ _ _ _ _ _ _ _ hT (F.store_object.args _ _ _) (Tt hx hc hf hd λh' dx t' e1 e2 e3 e4=>?_))
 repeat (any_goals (first|assumption|wp_step))
 exact hq h' dx _ e1 e2 e3 e4
end
end Mine
end
section
open PySem PySem.Calls PySem.W PyProof.Rows
namespace Mine
noncomputable def HS(q:Str)(r c cc:Addr)(k:Nat)(L:Addr):Fx:=⟨newEnv oF L mainGlobals [(("signs":Str),c)] (q++".<locals>.") (some r) (.ref cc) none builtinsNs,oF,[(0,"signs")],[L],k⟩
noncomputable def qV(i:Nat)(hp:List MO):Option (PV×List MO):=match hp[i]? with
|some (.lst l)=>if l.isEmpty then some (.dat (.str ⟨⟨[]⟩⟩),hp)else mQ i 0 l hp
|_=>none
noncomputable def E6(Fo:EF):EF:=aN Fo λa σ=>match a with
|.gH i=>qV i σ.hp
|_=>none
section
variable {prog:Program}{w:World}{K:Addr->Option Obj}{O:Fx}{mg mb:Str->Option Value}
theorem MC.O2(h:(apos.endLine==pos.line)=true)(hf:methodCallForm (args.length+0) (backTo pos (starEach args env)) []=true)(hb:attributeBase o name env (eval o env)=eval o env):MC env o name apos args pos:=⟨(do return (← importBound o env).getD true),by
 show(do
  let ov ← attributeBase o name env (eval o env)
  standAt apos.atName
  methodCall o name apos pos env ov (args.length+0) (backTo pos (starEach args env)) [])=_
 refine hb.symm▸?_
 unfold methodCall calleeOf methodCallPos
 refine hf.symm▸h.symm▸?_
 rfl⟩
theorem Ul(hP:((P 2).endLine==(P 4).line)=true):a6 prog w K (HS q r c cc 1 L) (readBody P)
  (aH (bN (bindB (aN (aj 0) mu) λb=>if b then oS (aj 0) true else λσ=>some (.dat (.str ⟨⟨[]⟩⟩),σ.hp)) λpv σ=>some (.ret pv,σ)) bh) :=
 .cons (.ret (.PT (.val (.name (i:=0) rfl)) (.ON (.name (i:=0) rfl) (MC.O2 hP rfl rfl)) (.str (by rfl) (by decide +kernel)))) .nil
theorem W7{i:Nat}{hp:List MO}{r:PV×List MO}{C:Prop}(q:qV i hp=some r)(k:∀l,hp[i]?=some (.lst l)->(if l.isEmpty then some (PV.dat (.str ⟨⟨[]⟩⟩),hp)else mQ i 0 l hp)=some r->C):C:=by
 unfold qV at q
 cases h:hp[i]? with
|none=>rw[h]at q;exact ar q
|some mo=>cases mo with
 |lst l=>rw[h]at q;exact k l h q
 |_=>rw[h]at q;exact ar q
noncomputable def Px:XF:=aH (bN (bindB (aN (aj 0) mu) λb=>if b then oS (aj 0) true else λσ=>some (.dat (.str ⟨⟨[]⟩⟩),σ.hp)) λpv σ=>some (.ret pv,σ)) bh
theorem acR{i:Nat}{hp ai:List MO}{pv:PV}(q:qV i hp=some (pv,ai)):Px ⟨[some (.obj i)],hp⟩=some (.ret pv,⟨[some (.obj i)],ai⟩):=W7 q λl hl q=>by
 have t:l.length≤lim->(aN (aj 0) mu) ⟨[some (.obj i)],hp⟩=some (l.length != 0,hp):=λh=>by
  show mu (.obj i) ⟨[some (.obj i)],hp⟩=_
  unfold mu rd
  simp only[hl]
  show(match(if l.length≤lim then some (l.length != 0)else none)with
  |some b=>some (b,hp)
  |none=>none)=_
  rw[if_pos h]
 unfold Px aH bN bindB
 cases l with
|nil =>
  have q:some (PV.dat (.str ⟨⟨[]⟩⟩),hp)=some (pv,ai):=q
  rw[t (by decide),← (b7 q).1,← (b7 q).2];rfl
|cons d l =>
  have q:mQ i 0 (d::l) hp=some (pv,ai):=q
  rw[t (IH q)]
  have h1:oS (aj 0) true ⟨[some (.obj i)],hp⟩=some (pv,ai):=by
   show(match hp[i]? with
   |some (.lst l)=>mQ i (if true then 0 else l.length - 1) l hp
   |_=>none)=_
   rw[hl]
   exact q
  show(match(match oS (aj 0) true ⟨[some (.obj i)],hp⟩with
  |some (v,hp)=>some (Fl.ret v,(⟨[some (.obj i)],hp⟩:St))
  |none=>none)with
  |some (.next,σ')=>bh σ'
  |r=>r)=_
  exact h1.symm▸rfl
theorem AR{x n:Str}{c c':Addr}(e:List.lookup n [(x,c)]=some c'):n=x∧c=c':=by
 rw[List.lookup_cons]at e
 cases h:n==x with
|true=>rw[h]at e;exact⟨eq_of_beq h,bX e⟩
|false=>rw[h]at e;exact ar e
theorem E9{x y:Str}{j:Nat}(h:List.lookup j [((0:Nat),x)]=some y):j=0∧x=y:=by
 cases j with
|zero=>exact⟨rfl,bX h⟩
|succ j=>exact ar h
theorem WB{ρ:aJ}{Z:List Addr}{hp:List MO}{s:Shared}{i:Nat}{r c cc g b L:Addr}{v:Value}{qn:Str}{h':Heap}{tk:Nat}(H:HR ρ Z hp s.heap)(top:dl K s.heap)(off:kJ K ρ Z)(hi:ρ[i]?=some (g,b))(hc:s.heap.IsCell c (some (.ref g)))(ux:c∉bF ρ)
  (fL:s.heap.get? L=none) (hn:h'.Ns L (λy=>[(("size":Str),v)].reverse.lookup y)) (kp:∀b o,s.heap.get? b=some o->h'.get? b=some o):SR K (HS qn r c cc 1 L) ρ ([L]++Z) ⟨[some (.obj i)],hp⟩ {s with heap:=h',toks:=tk}:=by
 have tp:dl K h':=λb o hb=>kp b o (top b o hb)
 refine⟨H.more (wr:=[L]) (all1 fL) kp (all1 (Ns.live hn)),⟨⟨_,λx=>if x="signs" then some (.ref g)else none,hn,λn c' e=>?_,λj x pv hj hl=>?_⟩,rfl,rfl,λj j' x h1 h2=>(E9 h1).1.trans (E9 h2).1.symm,rfl,rfl,List.mem_singleton_self _,λa ha=>au _ ha,(H.fresh fL).1,λn c' e=>?_,λn n' c' h1 h2=>(AR h1).1.trans (AR h2).1.symm⟩,tp,λa ha=>⟨(off a ha).1,λm=>(ae m).elim (OE top fL ha) (off a ha).2⟩⟩
 ·have e:=AR e
  show h'.IsCell c' (if n=("signs":Str)then some (.ref g)else none)
  refine(if_pos e.1).symm▸e.2▸?_
  exact hc.elim λo q=>⟨o,kp _ _ q.1,q.2⟩
 ·have e:=E9 hj
  replace hl:=e.1▸hl
  refine e.2▸(bX (bX hl))▸?_
  exact⟨.ref g,rfl,g,b,hi,rfl⟩
 ·refine((AR e).2)▸?_
  exact⟨ux,λq=>hc.elim λo ho=>ar (fL.symm.trans ((show c=L from q)▸ho.1))⟩
theorem abp(e6:fd.params=⟨[],[⟨"size",none,p⟩],none,[],[],none,[]⟩)(e7:fd.defaults=.none)(e8:fd.kwdefaults=.none):bindArgs fd ⟨[v],[]⟩=pure [(("size":Str),v)]:=by
 obtain⟨f1,f2,f3,f4,f5,f6,f7,f8,f9⟩:=fd
 simp only at e6 e7 e8
 subst e6 e7 e8
 rfl
theorem ZX:∀x∈oF.names,x.2≠.cell:=by decide +kernel
theorem Ze(gl:Gl K mg mb){A:Around}{ρ:aJ}{Z:List Addr}{hp ai:List MO}{s:Shared}{i:Nat}{r:Addr}{pv:PV}{fd:FuncData}{lX:Obj}{c cc g b:Addr}{v:Value}(Rm:cJ A 2)(H:HR ρ Z hp s.heap)(top:dl K s.heap)(off:kJ K ρ Z)
  (hi:ρ[i]?=some (g,b)) (hr:s.heap.get? r=some lX) (hd:lX.data=.func fd) (hR:L9 fd c cc) (hc:s.heap.IsCell c (some (.ref g))) (on:s.heap.CodeRec (.ref cc) fd.qualname) (ux:c∉bF ρ) (q:qV i hp=some (pv,ai)) :
  wpAny (model prog w) A (call (.ref r) [v]) (cE ρ Z s pv ai) a8 s:=by
 have hRb:=hR
 refine cps λ_ KK=>?_
 obtain⟨e1,e2,e3,e4,⟨P,e5,VS⟩,⟨p,e6⟩,e7,e8,e9⟩:=hR
 refine KK ?_
 refine wpAny_call (codeAny_call_function (R:=uP ρ Z s pv ai) (ah (ax _ _) (a9 Rm.depth b9)) hr hd (by rw[e4];rfl) (by rw[e4];rfl) e5 (e9.symm▸on) ?_)
 have hb:bindArgs fd ⟨[v],[]⟩=pure [(("size":Str),v)]:=abp e6 e7 e8
 refine hb.symm▸e1.symm▸e2.symm▸e3.symm▸e4.symm▸e9.symm▸?_
 refine br (wpAny_newFunctionEnv ZX (λx hx=>by rw[ak hx];rfl) (λh' hn sb=>?_))
 have fL:s.heap.get? s.heap.objs.size=none:=aK (am _)
 have kp:∀b o,s.heap.get? b=some o->h'.get? b=some o:=λb o hb=>sb.extBut b o (λq=>ar ((q▸fL).symm.trans hb)) (ao _ hb)
 refine⟨gl.lim _ λb o hb=>kp b o (top b o hb),codeAny_func ?_⟩
 have aO:Ext [] ρ s ρ {s with heap:=h',toks:=s.toks+[(("size":Str),v)].length}:=Ext.of_keep kp
 refine bq ((Ul VS).run (A.deeper _) ρ _ _ _ _ _ Rm.deeper (WB (qn:=fd.qualname) (r:=r) (cc:=cc) H top off hi hc ux fL hn kp) (acR q)) (λf s' p=>?_) λ_ _ q=>q.elim
 refine cps λ_ KK=>?_
 obtain⟨aA,x',R',v',hf,hv⟩:=p
 refine KK ?_
 refine hf.symm▸?_
 exact⟨aA,((aO.weak dF).trans x').shrink (all1 (.inr fL)),hv.weak λb h=>af _ h,R'.hr.weak λb h=>af _ h⟩
theorem Ev.YJ(gl:Gl K mg mb)(ho:Ev prog w K O o Fo)(mc:MC O.env o "read" apos [.Constant (.int 1) kk cp] pos)(hK:2≤O.k) :
  Ev prog w K O (.Call (.Attribute o "read" apos) [.Constant (.int 1) kk cp] [] pos) (E6 Fo):=.mk λA ρ Z σ s pv ai Rm R q=>by
 obtain⟨pl,mc⟩:=mc
 refine MethodCall_ (ho.then Rm R q λa va h1 aD s_1 e1 aO b3 aP=>?_) mc
 cases a with
|gH i =>
  have e1:qV i h1=some (pv,ai):=e1
  refine cps λ_ KK=>?_
  obtain⟨g,b,a,fs,hi,rfl,hS,lf⟩:=b3
  obtain⟨o,lX,d,r,c,cc,fd,rfl,h2,h3,⟨f,h4⟩,h5,h6,h7,h8,h9,hR,hc,on⟩:=hS.ex
  obtain⟨h,gs,dr,t,os⟩:=s_1
  refine KK ?_
  refine acG h2 h3 h4 h5 h6 (v:=.ref r) (by simp) rfl ?_
  refine callWith_function (o:=lX) (fd:=fd) ?_
  refine evalArgs_plain (wpAny_items_cons (wpAny_Constant_int (wpAny_items_nil ?_)) rfl)
  refine⟨⟨h7,h9⟩,?_⟩
  have Rx:HR aD Z h1 h:=aP.hr
  refine bq (Ze gl (Rm.mono hK) (s:=⟨h,gs,dr,t+1+1,os⟩) Rx aP.top aP.off hi h7 h9 hR hc on (lf c (by simp)).1 e1) (λv bn p=>?_) λ_ _ q=>q
  have ct:Ext [] aD ⟨h,gs,dr,t,os⟩ aD ⟨h,gs,dr,t+1+1,os⟩:=Ext.of_keep (s:=⟨h,gs,dr,t,os⟩) (h:=h) λ_ _ e=>e
  exact p.trans (aO.trans ct)
|_=>exact ar e1
end
end Mine
end
section
open PySem PySem.Calls PySem.W PyProof.Rows open Sem (wp) open Builtin Builtin.ObjectAttr
namespace Mine
theorem Ua:typeLookup (.type "callable_iterator") "__next__"=pure (some (.builtin "callable_iterator.__next__")):=by rw[typeLookup_type,builtinLookup_eq_fast];kernel_rfl
theorem xr:Slot "callable_iterator" "__next__" "callable_iterator.__next__":=.of (owner:="callable_iterator") (n:="__next__") Ua (by decide +kernel) (by decide +kernel) (by decide +kernel)
  (by first|exact .inl (by decide +kernel)|exact .inr (by decide +kernel)) (by rw[isSubtype_type];kernel_rfl)
theorem XH:typeLookup (.type "callable_iterator") "__iter__"=pure (some (.builtin "callable_iterator.__iter__")):=by rw[typeLookup_type,builtinLookup_eq_fast];kernel_rfl
theorem Nw:Slot "callable_iterator" "__iter__" "callable_iterator.__iter__":=.of (owner:="callable_iterator") (n:="__iter__") XH (by decide +kernel) (by decide +kernel) (by decide +kernel)
  (by first|exact .inl (by decide +kernel)|exact .inr (by decide +kernel)) (by rw[isSubtype_type];kernel_rfl)
theorem I0:entryFor table "callable_iterator.__next__"=some Builtin.«callable_iterator.__next__»:=entryFor_of_tree (by kernel_rfl)
theorem abW:entryFor table "callable_iterator.__iter__"=some Builtin.«dict_keyiterator.__iter__»:=entryFor_alias (id':="dict_keyiterator.__iter__") (by kernel_rfl) (by decide +kernel) (by decide +kernel) (by kernel_rfl)
theorem I5(a):argsOk "callable_iterator.__next__" ⟨[a],[]⟩:=by unfold argsOk;kernel_rfl
theorem Uv(a):argsOk "callable_iterator.__iter__" ⟨[a],[]⟩:=by unfold argsOk;kernel_rfl
theorem QW:entryFor table "iter"=some Builtin.«iter»:=entryFor_of_tree (by kernel_rfl)
theorem QI(a b):argsOk "iter" ⟨[a,b],[]⟩:=by unfold argsOk;kernel_rfl
theorem Rf:typeLookup (.type "method") "__call__"=pure (some (.builtin "method.__call__")):=by rw[typeLookup_type,builtinLookup_eq_fast];kernel_rfl
theorem WZ:builtinKind "iter"=none:=by decide +kernel
theorem Ql:plainId "iter"=true:=by decide +kernel
section
variable {prog:Program}{w:World}{A:Around}{E:Value->Shared->Prop}{h:Heap}{g:Array GenState}{d:Drawn}{t:Nat}{os:OsState}
variable {nm q:Str}{C N x f:Addr}{bs:List Value}{sn:List Str}{sub:List Value}{ab:Bool}{col:Option Bool}{dd:Option Addr}{k0 k1 k2 k3 k5:Option Value}{newId:String}
 {mN mA:Str->Option Value} {name:Str} {of:Obj} {y:Option Value}
theorem SV:typeLookup (.type "function") "__get__"=pure (some (.builtin "function.__get__")):=by rw[typeLookup_type,builtinLookup_eq_fast];kernel_rfl
theorem Wq:typeLookup (.type "function") "__set__"=pure none:=by rw[typeLookup_type,builtinLookup_eq_fast];kernel_rfl
theorem VN:typeLookup (.type "function") "__delete__"=pure none:=by rw[typeLookup_type,builtinLookup_eq_fast];kernel_rfl
theorem acH{tk:Tok}{Q:Fin->Shared->Prop}
  (hC:h.get? C=some (excClassObj nm q C N bs [.type "object"] true sn sub ab col dd k0 k1 k2 k3 k5 newId)) (hn:h.Ns N mN) (CM:mN "__getattr__"=none) (hf:mN name=some (.ref f)) (pS:h.get? f=some of) (kW:of.cls=.type "function")
  (hB:typeLookup (.type "object") name=pure y) (rY:(["__module__","__name__","__qualname__","__doc__","__annotations__"]:List Str).contains name=false) (I:h.Inst x C mA) (hv:mA name=none) (hq:Q (.done (.ret (.ref h.objs.size))) ⟨h.push {cls:=.type "method",data:=.fields #[.ref f,.ref x]},g,d,t,os⟩) :
  wpAny (model prog w) A (Builtin.«proto.getattr_hooked» ⟨[.ref x,.str name tk],[]⟩) Q E ⟨h,g,d,t,os⟩:=by
 refine cps λ_ KK=>?_
 obtain⟨o,hx,hc,te,hd⟩:=I
 refine KK ?_
 skip
 repeat (first|(with_reducible refine wpAny_loadPart_at hx ?_;rw[hc])|(with_reducible refine wpAny_loadPart_at pS ?_;rw[kW])|(with_reducible refine wpAny_typeLookup_exc hC hn F.mro_object hB ?_;rw[hf])|(with_reducible refine wpAny_of_eq SV ?_)|(with_reducible refine wpAny_of_eq Wq ?_)|(with_reducible refine wpAny_of_eq VN ?_)|wp_step)
 split
 ·rename_i c hcd
  exact absurd hcd (te c)
 have fin:wpAny (model prog w) A (byTheClass (some (.ref f)) (some (.builtin "function.__get__"))) (λa s'=>wpAny (model prog w) A (match a with
  |.value v=>ret v
  |.missing=>typeLookup (.ref C) "__getattr__" >>= missingOrHook (.ref x) (.str name tk) name
  |.bind g a=>typeLookup (.ref C) "__getattr__" >>= bindWithHook g a (.ref x) (.ref C) (.str name tk)) Q E s') E ⟨h,g,d,t,os⟩:=by
  repeat (first|(with_reducible refine wpAny_typeLookup_exc hC hn F.mro_object F.lk_object_getattr ?_;rw[CM])|wp_step)
  refine codeAny_call_builtin KF.slot_fn.plain KF.entry_fn (KF.slot_fn.check _ _ _ _ _ _ _ _ ⟨_,pS,kW⟩ (KF.args_fn _ _ _) ?_)
  repeat k_node
  exact hq
 skip
 rcases hd with⟨Be,hmA⟩|⟨dx,D3,eU,oR⟩
 ·repeat (first|(with_reducible refine wpAny_loadPart_at hx ?_;rw[hc])|with_reducible refine wpAny_loadPart_at hC ?_|wp_step)
  refine Be.symm▸?_
  repeat wp_step
  refine rY.symm▸(if_neg aw).symm▸?_
  exact br fin
 ·repeat (first|(with_reducible refine wpAny_loadPart_at hx ?_;rw[hc])|with_reducible refine wpAny_loadPart_at hC ?_|wp_step)
  refine D3.symm▸?_
  repeat (first|(with_reducible refine wpAny_nsGet oR.ns ?_;rw[hv])|wp_step)
  refine rY.symm▸(if_neg aw).symm▸?_
  exact br fin
theorem US{expr:Bool}{Q:Value->Shared->Prop}
  (hC:h.get? C=some (excClassObj nm q C N bs [.type "object"] true sn sub ab col dd k0 k1 k2 k3 k5 newId)) (hn:h.Ns N mN) (QH:mN "__getattribute__"=none) (CM:mN "__getattr__"=none) (hf:mN name=some (.ref f)) (pS:h.get? f=some of) (kW:of.cls=.type "function")
  (hB:typeLookup (.type "object") name=pure y) (rY:(["__module__","__name__","__qualname__","__doc__","__annotations__"]:List Str).contains name=false) (I:h.Inst x C mA) (hv:mA name=none) (hq:Q (.ref h.objs.size) ⟨h.push {cls:=.type "method",data:=.fields #[.ref f,.ref x]},g,d,t+1,os⟩) :
  wpAny (model prog w) A (getAttr (.ref x) name expr) Q E ⟨h,g,d,t,os⟩:=by
 refine cps λ_ KK=>?_
 obtain⟨o,hx,hc,_⟩:=id I
 refine KK ?_
 skip
 repeat (first|(with_reducible refine wpAny_loadPart_at hx ?_;rw[hc])|(with_reducible refine wpAny_typeLookup_exc hC hn F.mro_object F.lk_object_ga ?_;rw[QH])|wp_step)
 skip
 refine wpAny_onRaise (wpAny_runValue (codeAny_builtin F.plainObj_entry_getattr_hooked (acH hC hn CM hf pS kW hB rY I hv ?_)))
 exact br hq
end
section
variable {prog:Program}{w:World}{A:Around}{E:Value->Shared->Prop}{s:Shared}{I m f x:Addr}{t:Tok}{Q:Value->Shared->Prop}
theorem Uq{f:Value}{pos:List Value}(h:wpAny (model prog w) A (call f pos) Q E s):wpAny (model prog w) A (callBorrowed f pos) Q E s:=λΓ p hΓ=>by
 have h1:=h Γ p hΓ
 rw[Sem.wp_cmd_call]at h1
 unfold callBorrowed
 rw[Sem.wp_call]
 refine cast ?_ h1
 congr 1
 funext r s'
 cases r with
|error e=>rfl
|ok fl=>cases fl<;>rfl
theorem OL{α:Type}{Q:α->Shared->Prop}(hh:A.handled=none)(hE:∀h' e,(∀b o,s.heap.get? b=some o->h'.get? b=some o)->(∃o,h'.get? e=some o∧o.cls=.type "StopIteration")->E (.ref e) {s with heap:=h'}) :
  wpAny (model prog w) A.in1 (SmallTypes.stopIteration:Sem α) Q E s:=by
 skip
 refine bp ?_
 simp only[newExc,newTuple]
 refine bp (wpAny_newObj_type ?_ (by size_fits))
 refine bp (m:=firstArgMember _ _) (wpAny_of_eq (a:=Value.none) (by first|rfl|(simp only[firstArgMember];rfl)) ?_)
 refine wpAny_newObj_type ?_ (by size_fits)
 simp only[raiseNew]
 refine bp (wpAny_handled ?_)
 refine(show A.in1.handled=none from hh).symm▸?_
 refine bp (br (wpAny_throw ?_))
 exact hE _ _ (λb o hb=>ao _ (ao _ hb)) ⟨_,aX _ rfl,rfl⟩
theorem HG{o:Obj}{fd:FuncData}{Q:Bool->Shared->Prop}(hm:s.heap.get? m=some (Mine.qS f x))(hf:s.heap.get? f=some o)(n4:o.data=.func fd)(hQ:Q true s):wpAny (model prog w) A (borrowsExactly (.ref m)) Q E s:=by
 skip
 refine bp (wpAny_load hm ?_)
 show wpAny _ _ (if(Value.type "method"==Value.type "method")=true then _ else _) _ _ _
 rw[if_pos (by decide)]
 skip
 refine bp (wpAny_load hf ?_)
 refine n4.symm▸?_
 exact br hQ
theorem Ya(hm:s.heap.get? m=some (Mine.qS f x))(h:Q (.ref s.heap.objs.size) {s with heap:=s.heap.push {cls:=.type "callable_iterator",data:=.fields #[.ref m,.str y t,.bool false]}}) :
  wpAny (model prog w) A (call (.builtin "iter") [.ref m,.str y t]) Q E s:=by
 have hT:s.TypeIs (.ref m) "method":=⟨_,hm,rfl⟩
 refine Calls.call_function_entry WZ Ql QW (QI _ _) ?_
 skip
 refine bp (wpAny_of_eq (a:=[.ref m,.str y t]) (by first|rfl|kernel_rfl) ?_)
 skip
 refine bp (wpAny_specialOf hT Rf ?_)
 simp only[Option.isNone_some,Bool.false_eq_true,if_false,newFields]
 exact bp (wpAny_rule (bp (wpAny_newObj_type (br ⟨_,rfl,h⟩) (by size_fits))))
theorem Op(ho:s.heap.get? I=some o)(hc:o.cls=.type "callable_iterator")(h:Q (.ref I) s):wpAny (model prog w) A (pyIter (.ref I)) Q E s:=by
 have hT:s.TypeIs (.ref I) "callable_iterator":=⟨_,ho,hc⟩
 refine wpAny_pyIter_slot hT Nw (wpAny_call_entry Nw hT abW ?_ (Uv _))
 skip
 exact br ⟨_,rfl,"callable_iterator",_,hT,xr.lookup,h⟩
theorem VU{Q:Option Value->Shared->Prop}(hh:A.handled=none)(ho:s.heap.get? I=some (qx m t true))(hQ:∀h',(∀b o,s.heap.get? b=some o->h'.get? b=some o)->Q none {s with heap:=h'}):wpAny (model prog w) A (pyNext (.ref I)) Q E s:=by
 have hT:s.TypeIs (.ref I) "callable_iterator":=⟨_,ho,rfl⟩
 skip
 refine bp (wpAny_attempt (wpAny_callSpecial?_slot (name:=Str.ofString "__next__") hT xr
  (wpAny_call_entry xr hT I0 ?_ (I5 _))))
 show wpAny _ _ (field (.ref I) 2 >>= _) _ _ _
 refine bp (wpAny_field ho rfl (x:=.bool true) rfl ?_)
 rw[if_pos (by rfl)]
 refine bp (bp (wpAny_rule (br (bp ?_))))
 refine OL hh λh' e k hx=>?_
 obtain⟨o,ho,hc⟩:=hx
 refine bp (wpAny_isInstance (T:="StopIteration") (b:=true) ⟨o,ho,hc⟩ isSubtype_stop ?_)
 exact br (hQ _ k)
theorem Rk{Q:Option Value->Shared->Prop}{o:Obj}{fd:FuncData}(hh:A.handled=none)(ho:s.heap.get? I=some (qx m t false))(hm:s.heap.get? m=some (Mine.qS f x))(hf:s.heap.get? f=some o)(n4:o.data=.func fd)
  (h:codeAny (model prog w) A.in1 (.call (.ref f) ⟨[.ref x],[]⟩) (λr s_1=>∃y u m t f x fd,r=.ok (.ret (.str y u))∧s_1.heap.get? I=some (qx m t false)∧s_1.heap.get? m=some (Mine.qS f x)∧(∃o,s_1.heap.get? f=some o∧o.data=.func fd) ∧
   (y≠⟨⟨[]⟩⟩->Q (some (.str y u)) s_1)∧(y=⟨⟨[]⟩⟩->∀h',h'.get? I=some (qx m t true)->(∀b o,b≠I->s_1.heap.get? b=some o->h'.get? b=some o)->Q none {s_1 with heap:=h'})) s) :
  wpAny (model prog w) A (pyNext (.ref I)) Q E s:=by
 have hT:s.TypeIs (.ref I) "callable_iterator":=⟨_,ho,rfl⟩
 skip
 refine bp (wpAny_attempt (wpAny_callSpecial?_slot (name:=Str.ofString "__next__") hT xr
  (wpAny_call_entry xr hT I0 ?_ (I5 _))))
 show wpAny _ _ (field (.ref I) 2 >>= _) _ _ _
 refine bp (wpAny_field ho rfl (x:=.bool false) rfl ?_)
 rw[if_neg (by decide)]
 skip
 refine bp (wpAny_field ho rfl (x:=.ref m) rfl ?_)
 refine bp (wpAny_attempt ?_)
 skip
 refine bp (HG hm hf n4 ?_)
 refine(if_pos rfl).symm▸?_
 refine Uq (wpAny_call (method_call (f:=.ref f) (self:=.ref x) hm ?_))
 refine codeAny_mono h λr s_1 p=>?_
 refine cps λ_ KK=>?_
 obtain⟨y,u,m,t,f,x,fd,rfl,qi,y1,⟨o1,Qf,ab2⟩,eU,heq⟩:=p
 refine KK ?_
 skip
 refine bp (wpAny_field qi rfl (x:=.bool false) rfl ?_)
 rw[if_neg (by decide)]
 skip
 refine bp (wpAny_field qi rfl (x:=.str ⟨⟨[]⟩⟩ t) rfl ?_)
 refine bp (wpAny_holding (eqBool_str ?_))
 by_cases hy:y=⟨⟨[]⟩⟩
 ·subst hy
  refine(show(!((⟨⟨[]⟩⟩:Str)==⟨⟨[]⟩⟩))=false by decide).symm▸(if_neg aw).symm▸?_
  refine bp (wpAny_rule ?_)
  show wpAny _ _ ((do
   slotLetsGo "callable_iterator.__next__" (← field (.ref I) 0) fun|.builtin "callable_iterator.__next__" x=>x.pos.head?==some (.ref I)|_=>false
   setField (.ref I) 0 .none;setField (.ref I) 1 .none;setField (.ref I) 2 (.bool true)) >>= λ_=>SmallTypes.stopIteration) _ _ _
  refine bp (bp (wpAny_field qi rfl (x:=.ref m) rfl (bp ?_)))
  skip
  refine bp (HG y1 Qf ab2 ?_)
  refine(if_pos rfl).symm▸?_
  refine br ?_
  refine bp (wpAny_setField qi rfl (by show 0 < 3;decide) ?_)
  have g1:(s_1.heap.update I (Obj.mapFields (·.setIfInBounds 0 .none))).get? I=some {cls:=.type "callable_iterator",data:=.fields #[.none,.str ⟨⟨[]⟩⟩ t,.bool false]}:=Heap.get?_update_self _ qi rfl
  refine bp (wpAny_setField g1 rfl (by show 1 < 3;decide) ?_)
  have g2:((s_1.heap.update I (Obj.mapFields (·.setIfInBounds 0 .none))).update I (Obj.mapFields (·.setIfInBounds 1 .none))).get? I=some {cls:=.type "callable_iterator",data:=.fields #[.none,.none,.bool false]}:=Heap.get?_update_self _ g1 rfl
  refine wpAny_setField g2 rfl (by show 2 < 3;decide) ?_
  have g3:(((s_1.heap.update I (Obj.mapFields (·.setIfInBounds 0 .none))).update I (Obj.mapFields (·.setIfInBounds 1 .none))).update I (Obj.mapFields (·.setIfInBounds 2 (.bool true)))).get? I=some (qx m t true):=Heap.get?_update_self _ g2 rfl
  refine OL hh λh' e k hx=>?_
  obtain⟨o,ho,hc⟩:=hx
  refine bp (wpAny_isInstance (T:="StopIteration") (b:=true) ⟨o,ho,hc⟩ isSubtype_stop ?_)
  refine br (heq rfl h' (k _ _ g3) λb o hb e=>k b o ?_)
  refine(Heap.get?_update_ne _ _ _ _ hb).symm▸(Heap.get?_update_ne _ _ _ _ hb).symm▸(Heap.get?_update_ne _ _ _ _ hb).symm▸?_
  exact e
 ·rw[show(!((⟨⟨[]⟩⟩:Str)==y))=true by
   rw[Bool.not_eq_true',beq_eq_false_iff_ne];exact λq=>hy q.symm,if_pos rfl]
  exact br ⟨_,rfl,br (eU hy)⟩
end
end Mine
end
section
open PySem PySem.Calls PySem.W PyProof.Rows
namespace Mine
noncomputable def mP(c9:Addr)(H:cV):g0:=λis hp=>match is with
|.rem _=>none
|.cf j k=>match hp[j]? with
 |some (.cH _ _ true)=>some (none,hp)
 |some (.cH i f false)=>if f=c9 then match H [.obj i] hp with
  |some (.dat (.str ⟨⟨l⟩⟩),ai)=>match ai[j]? with
   |some (.cH i' f' false)=>if i'=i∧f'=c9 then match l with
    |[]=>some (none,ai.set j (.cH i c9 true))
    |c::r=>some (some (.str ⟨⟨c::r⟩⟩,.cf j k),ai)else none
   |_=>none
  |_=>none else none
 |_=>none
noncomputable def CJ(K:Addr->Option Obj)(I:Addr):IS->aJ->List Addr->Shared->Prop
|.cf j k,ρ,Z,s=>(∃y,ρ[j]?=some (I,y))∧dl K s.heap∧kJ K ρ Z
|.rem _,_,_,_=>False
section
variable {prog:Program}{w:World}{K:Addr->Option Obj}{O:Fx}{A:Around}{tg:Expr}{mg mb:Str->Option Value}
theorem dl.ext(t:dl K s.heap)(off:kJ K ρ Z)(x:Ext X ρ s aA s')(hX:∀a∈X,a∈Z):dl K s'.heap∧kJ K aA Z:=by
 have f:∀b o,K b=some o->b∉bF ρ∧b∉Z:=λb o hb=>off b λq=>ar (q.symm.trans hb)
 refine⟨λb o hb=>x.heap b o (f b o hb).1 (λq=>(f b o hb).2 (hX b q)) (t b o hb),λb hb=>⟨?_,(off b hb).2⟩⟩
 cases q:K b with
|none=>exact absurd q hb
|some o=>exact x.lB (t b o q) (off b hb).1
inductive tK(c9:Addr)(H:cV)(j k:Nat)(hp:List MO)(r:Option (PyData×IS))(ai:List MO):Prop
|over (i:Nat) (f:Addr):hp[j]?=some (.cH i f true)->r=none->hp=ai->tK c9 H j k hp r ai
|last (i:Nat) (hp1:List MO):hp[j]?=some (.cH i c9 false)->H [.obj i] hp=some (.dat (.str ⟨⟨[]⟩⟩),hp1)->hp1[j]?=some (.cH i c9 false)->r=none->hp1.set j (.cH i c9 true)=ai->tK c9 H j k hp r ai
|go (i:Nat) (l:Str):hp[j]?=some (.cH i c9 false)->H [.obj i] hp=some (.dat (.str l),ai)->ai[j]?=some (.cH i c9 false)->l≠⟨⟨[]⟩⟩->r=some (.str l,.cf j k)->tK c9 H j k hp r ai
theorem Wx{α:Type}{o:Option (PV×List MO)}{F:List Nat->List MO->Option α}{r:α}{C:Prop}(e:(match o with
  |some (.dat (.str ⟨⟨l⟩⟩),ai)=>F l ai
  |_=>none)=some r) (k:∀l ai,o=some (.dat (.str ⟨⟨l⟩⟩),ai)->F l ai=some r->C):C:=by
 cases o with
|none=>exact ar e
|some x =>
  obtain⟨p,ai⟩:=x
  cases p with
 |dat d=>cases d with
  |str l=>exact k l.cps.toList ai rfl e
  |_=>exact ar e
 |_=>exact ar e
theorem T0{α:Type}{o:Option MO}{F:Nat->Addr->Option α}{r:α}{C:Prop}(e:(match o with
   |some (.cH i' f' false)=>F i' f'
   |_=>none)=some r) (k:∀i f,o=some (.cH i f false)->F i f=some r->C):C:=by
 cases o with
|none=>exact ar e
|some mo=>cases mo with
 |cH i f dn=>cases dn with
  |true=>exact ar e
  |false=>exact k i f rfl e
 |_=>exact ar e
theorem RA{c9:Addr}{H:cV}{hp ai:List MO}{j k i:Nat}{f:Addr}{r:Option (PyData×IS)}(hj:hp[j]?=some (.cH i f false))(e:(if f=c9 then match H [.obj i] hp with
  |some (.dat (.str ⟨⟨l⟩⟩),ai)=>match ai[j]? with
   |some (.cH i' f' false)=>if i'=i∧f'=c9 then match l with
    |[]=>some (none,ai.set j (.cH i c9 true))
    |c::r=>some (some (.str ⟨⟨c::r⟩⟩,.cf j k),ai)else none
   |_=>none
  |_=>none else none)=some (r,ai)):tK c9 H j k hp r ai :=
 iF e λhf e=>Wx e λl hp1 eH e=>T0 e λi' f' i8 e=>iF e λKW e=>by
  replace hj:=hf▸hj
  replace i8:=KW.2▸KW.1▸i8
  cases l with
 |nil=>exact .last i hp1 hj eH i8 (b7 e).1.symm (b7 e).2
 |cons c t=>exact .go i ⟨⟨c::t⟩⟩ hj ((b7 e).2▸eH) ((b7 e).2▸i8) (λq=>nomatch q) (b7 e).1.symm
theorem GT(e:mP c9 H (.cf j k) hp=some (r,ai)):tK c9 H j k hp r ai:=by
 unfold mP at e
 dsimp only at e
 cases hj:hp[j]? with
|none=>rw[hj]at e;exact ar e
|some mo=>cases mo with
 |cH i f dn=>cases dn with
  |true=>rw[hj]at e;exact .over i f hj (b7 e).1.symm (b7 e).2
  |false=>rw[hj]at e;exact RA hj e
 |_=>rw[hj]at e;exact ar e
theorem tK.cH(x:tK c9 H j k hp r ai):∃i f dn,hp[j]?=some (.cH i f dn):=by
 cases x with
|over i f h=>exact⟨_,_,_,h⟩
|last i _ h=>exact⟨_,_,_,h⟩
|go i _ h=>exact⟨_,_,_,h⟩
theorem HR.cH{ρ:aJ}{Z:List Addr}{hp:List MO}{h:Heap}{j i:Nat}{I y f:Addr}{dn:Bool}(H:HR ρ Z hp h)(h1:ρ[j]?=some (I,y))(hj:hp[j]?=some (.cH i f dn)):C2 ρ Z h I y i f dn:=by
 refine cps λ_ KK=>?_
 obtain⟨r',b',gL,hm⟩:=H.at_ j _ hj
 obtain⟨rfl,rfl⟩:=b7 (h1.symm.trans gL)
 refine KK ?_
 exact hm
theorem cJ.cH(Rm:cJ A (kk+1)):cJ A.in1 kk:=⟨Rm.handled,a9 (a7 _) Rm.depth,by have:=Rm.units;show A.units+1+40*kk < 9000;(exact Dz (by assumption) (by decide))⟩
inductive ND(K:Addr->Option Obj)(I y:Addr)(j:Nat)(i:Nat)(c9:Addr)(ρ:aJ)(Z:List Addr)(s:Shared)(ai:List MO)(l:Str)(r:Result)(s_1:Shared):Prop
|mk (v:Value) (aA:aJ) (u:Tok) (m':Addr) (t:Tok) (x y':Addr):r=.ok (.ret v)->Ext [] ρ s aA s_1->VR aA Z s_1.heap (.dat (.str l)) v->HR aA Z ai s_1.heap->v=.str l u->aA[j]?=some (I,y)->aA[i]?=some (x,y')->m'∉bF aA->m'∉Z->s_1.heap.get? m'=some (qS c9 x)->s_1.heap.get? I=some (qx m' t false)->dl K s_1.heap->kJ K aA Z->ND K I y j i c9 ρ Z s ai l r s_1
theorem aaB{I y c9:Addr}{j i:Nat}{ρ:aJ}{Z:List Addr}{s s_1:Shared}{ai:List MO}{l:Str}{r:Result}(h1:ρ[j]?=some (I,y))(h2:dl K s.heap)(h3:kJ K ρ Z)(i8:ai[j]?=some (.cH i c9 false))(p:uP ρ Z s (.dat (.str l)) ai r s_1):ND K I y j i c9 ρ Z s ai l r s_1:=p.elim λv hr p=>by
 refine cps λ_ KK=>?_
 obtain⟨aA,aO,V,H'⟩:=p
 have mD:=aO.old h1
 obtain⟨Yo,m',t',x',zL,k1,k2,k3,k4,k5⟩:=H'.cH mD i8
 have T:=h2.ext h3 aO dF
 obtain⟨as,rv,_⟩:=id V
 obtain⟨u,hv,_⟩:=rv.fQ
 refine KK ?_
 exact⟨v,aA,u,m',t',x',zL,hr,aO,V,H',hv,mD,k1,k2,k3,k4,Yo▸k5,T.1,T.2⟩
theorem PG(H':HR aA Z ai s_1.heap)(hI:I=y)(mD:aA[j]?=some (I,y))(k1:aA[i]?=some (x',zL))(k2:m'∉bF aA)(k3:m'∉Z)(k4:s_1.heap.get? m'=some (qS c9 x'))
  (e1:h'.get? I=some (qx m' t' true)) (e2:∀b o,b≠I->s_1.heap.get? b=some o->h'.get? b=some o):Ext [] aA s_1 aA {s_1 with heap:=h'}∧HR aA Z (ai.set j (.cH i c9 true)) h':=by
 have Og:I∈bF aA:=hI▸List.mem_map_of_mem (f:=Prod.snd) (aT mD)
 refine⟨⟨⟨[],(bM _).symm,λ_ h=>bT h⟩,λb o hb _ e=>e2 b o (λq=>hb (q▸Og)) e,λb o e=>?_,rfl,rfl,λ_ _ e=>e,λh=>h⟩,H'.set mD (hI▸e2) ⟨hI,m',t',x',zL,k1,k2,k3,e2 _ _ (λq=>k2 (q▸Og)) k4,hI▸e1⟩⟩
 by_cases q:b=I
 ·exact⟨_,q▸e1⟩
 ·exact⟨o,e2 b o q e⟩
theorem CJ.xy{I:Addr}{l:IS}{ρ:aJ}{Z:List Addr}{s:Shared}{C:IS->Prop}(J:CJ K I l ρ Z s)(k:∀j k y,ρ[j]?=some (I,y)->dl K s.heap->kJ K ρ Z->C (.cf j k)):C l:=by
 cases l with
|rem l=>exact J.elim
|cf j n=>exact J.1.elim λy h=>k j n y h J.2.1 J.2.2
theorem Iter.Pu(hh:A.handled=none){kk:Nat}{c9:Addr}{of:Obj}{fd:FuncData}{kL:cV}(iZ:K c9=some of)(n4:of.data=.func fd)(hH:dM prog w K c9 kk kL)(Rm:cJ A (kk+1)){I y:Addr}{j i:Nat}{ρ:aJ}{Z:List Addr}{hp ai:List MO}{s:Shared}{l:Str}{Q:Option Value->Shared->Prop}
  (h1:ρ[j]?=some (I,y)) (h2:dl K s.heap) (h3:kJ K ρ Z) (H:HR ρ Z hp s.heap) (hj:hp[j]?=some (.cH i c9 false)) (eH:kL [.obj i] hp=some (.dat (.str l),ai)) (i8:ai[j]?=some (.cH i c9 false))
  (go:l≠⟨⟨[]⟩⟩->∀(aA:aJ) (s_1:Shared) (u:Tok) (m':Addr) (t':Tok),Ext [] ρ s aA s_1->VR aA Z s_1.heap (.dat (.str l)) (.str l u)->HR aA Z ai s_1.heap->aA[j]?=some (I,y)->s_1.heap.get? I=some (qx m' t' false)->dl K s_1.heap->kJ K aA Z->Q (some (.str l u)) s_1)
  (fin:l=⟨⟨[]⟩⟩->∀(aA:aJ) (s_1:Shared) (h':Heap),Ext [] ρ s aA {s_1 with heap:=h'}->HR aA Z (ai.set j (.cH i c9 true)) h'->Q none {s_1 with heap:=h'}):wpAny (model prog w) A (pyNext (.ref I)) Q a8 s:=by
 obtain⟨hI,m,t,x,y',g1,g2,g3,g4,g5⟩:=H.cH h1 hj
 refine Rk hh (hI▸g5) g4 (h2 _ _ iZ) n4 (codeAny_mono (hH.run A.in1 ρ Z hp s [.obj i] [.ref x] _ _ Rm.cH H h2 h3 (.cons ⟨x,y',g1,rfl⟩ .nil) eH) λr' s_1 p=>?_)
 obtain⟨v,aA,u,m',t',x',zL,hr,aO,V,H',hv,mD,k1,k2,k3,k4,k5,T1,T2⟩:=aaB h1 h2 h3 i8 p
 rw[hv]at hr V
 exact⟨l,u,m',t',c9,x',fd,hr,k5,k4,⟨of,T1 _ _ iZ,n4⟩,λq=>go q aA s_1 u m' t' aO V H' mD k5 T1 T2,λq h' e1 e2=>(PG H' hI mD k1 k2 k3 k4 e1 e2).elim λct nX=>fin q aA s_1 h' (aO.trans ct) nX⟩
theorem Iter.cH(ht:iR tg)(hh:A.handled=none){kk:Nat}{c9:Addr}{of:Obj}{fd:FuncData}{kL:cV}(iZ:K c9=some of)(n4:of.data=.func fd)(hH:dM prog w K c9 kk kL)(Rm:cJ A (kk+1))(I:Addr):Iter prog w A (.ref I) tg [] (λ_=>False) (mP c9 kL) (CJ K I) where
 ext:=λ{l ρ Z s X aA s'} J x hX=>by
  refine J.xy (C:=λl=>CJ K I l aA Z s') λj k y h1 h2 h3=>?_
  have:=h2.ext h3 x λa ha=>(hX a ha).1
  exact⟨⟨y,x.old h1⟩,this.1,this.2⟩
 next:=λ{l hp d l' ai ρ Z s} e J H hw=>by
  revert e
  refine J.xy (C:=λl=>mP c9 kL l hp=some (some (d,l'),ai)->_) λj k y h1 h2 h3 e=>?_
  cases GT e with
 |over _ _ _ h=>exact ar h.symm
 |last _ _ _ _ _ h=>exact ar h.symm
 |go i l hj eH i8 hl hr =>
   have hr:=a5 (bX hr)
   refine hr.1.symm▸hr.2.symm▸?_
   exact Iter.Pu hh iZ n4 hH Rm h1 h2 h3 H hj eH i8 (λ_ aA s_1 u m' t' aO V H' mD k5 T1 T2=>⟨_,rfl,ua ht k5 rfl (by decide) ⟨aA,aO.toG,H',V,⟨_,mD⟩,T1,T2⟩⟩) λq=>absurd q hl
 done:=λ{l hp ai ρ Z s} e J H hw=>by
  revert e
  refine J.xy (C:=λl=>mP c9 kL l hp=some (none,ai)->_) λj k y h1 h2 h3 e=>?_
  cases GT e with
 |over i f hj _ e' =>
   obtain⟨hI,m,t,x,y',g1,g2,g3,g4,g5⟩:=H.cH h1 hj
   refine e'▸?_
   exact VU hh (hI▸g5) λh' k=>⟨rfl,ρ,s,h',s.toks,d5.refl,H,rfl,λb o _ e=>k b o e⟩
 |last i hp1 hj eH i8 _ e' =>
   refine e'▸?_
   exact Iter.Pu hh iZ n4 hH Rm h1 h2 h3 H hj eH i8 (λq=>absurd rfl q) λ_ aA s_1 h' x nX=>⟨rfl,aA,{s_1 with heap:=h'},h',s_1.toks,x.toG,nX,rfl,λ_ _ _ e=>e⟩
 |go _ _ _ _ _ _ h=>exact ar h
 self:=λ{l hp r ρ Z s Q} e J H hQ=>by
  revert e
  refine J.xy (C:=λl=>mP c9 kL l hp=some r->_) λj k y h1 h2 h3 e=>?_
  obtain⟨i,f,d,hj⟩:=(GT (r:=r.1) (ai:=r.2) e).cH
  obtain⟨hI,m,t,x,y',g1,g2,g3,g4,g5⟩:=H.cH h1 hj
  exact Op (hI▸g5) rfl hQ
 more:=λ{l ρ Z Z' s s'} J hZ k _=>by
  refine J.xy (C:=λl=>CJ K I l ρ Z' s') λj k' y h1 h2 h3=>⟨⟨y,h1⟩,λb o hb=>k b o (h2 b o hb),λb hb=>⟨(h3 b hb).1,λq=>(hZ b q).elim (h3 b hb).2 λq=>?_⟩⟩
  cases e:K b with
 |none=>exact hb e
 |some o=>exact ar (q.symm.trans (h2 b o e))
end
noncomputable def wW(Fo:EF)(C c9:Addr)(name:Str):EF:=aN Fo λa σ=>match a with
|.obj i=>if gz C name i σ.hp then some (.obj σ.hp.length,σ.hp++[.cH i c9 false])else none
|_=>none
noncomputable def yo(fuel:List MO->Nat)(F:EF):SF:=λσ=>match F σ with
|some (.obj j,hp)=>match hp[j]? with
 |some (.cH _ _ _)=>some ((.cf j 0,fuel hp),hp)
 |_=>none
|_=>none
section
variable {ρ:aJ}{Z X:List Addr}{h h':Heap}
theorem uI(hX:∀a∈X,a∈bF ρ)(h:a∉bF ρ∧a∉Z):a∉bF ρ∧a∉X++Z:=⟨h.1,λq=>(ae q).elim (λq=>h.1 (hX a q)) h.2⟩
theorem VR.grow(hX:∀a∈X,a∈bF ρ)(q:VR ρ Z h p v):VR ρ (X++Z) h p v:=by
 cases p with
|dat=>exact q.imp λ_ q=>⟨q.1,λa ha=>uI hX (q.2 a ha)⟩
|obj=>exact q
|gH=>exact q.imp λ_ q=>q.imp λ_ q=>q.imp λ_ q=>q.imp λ_ q=>⟨q.1,q.2.1,q.2.2.1,λa ha=>uI hX (q.2.2.2 a ha)⟩
|objs =>
  obtain⟨a,o,vs,n,e,ho,h1,h2,h3,h4,h5,h6⟩:=q
  exact⟨a,o,vs,n,e,ho,h1,h2,h3,h4,h5,(uI hX ⟨h5,h6⟩).2⟩
theorem MR.grow(hX:∀a∈X,a∈bF ρ):∀{mo:MO},MR ρ Z h r b mo->MR ρ (X++Z) h r b mo
|.lst l,⟨hr,o,vs,n,as,ho,h1,h2,h3,h4,rs,q⟩=>⟨hr,o,vs,n,as,ho,h1,h2,h3,h4,rs,λa ha=>uI hX (q a ha)⟩
|.ins c bK,⟨hr,hz,o,mA,ho,h1,h2,h3,h4,h5,h6,h7⟩=>⟨hr,(uI hX ⟨hr,hz⟩).2,o,mA,ho,h1,h2,h3,h4,h5,λp hp=>let⟨v,e,x⟩:=h6 p hp;⟨v,e,x.grow hX⟩,h7⟩
|.cH i f dn,⟨hr,m,t,x,y,h1,h2,h3,h4,h5⟩=>⟨hr,m,t,x,y,h1,h2,(uI hX ⟨h2,h3⟩).2,h4,h5⟩
|.tab _ _,h=>h
theorem HR.Ff(H:HR ρ Z hp h)(hi:ρ[i]?=some (r,b))(k:∀a o,a≠b->a∉Z->h.get? a=some o->h'.get? a=some o)(lv:∀a∈Z,∃o,h'.get? a=some o)(hm:MR ρ Z h' r b mo):HR ρ Z (hp.set i mo) h':=by
 have ot:b∈bF ρ:=List.mem_map_of_mem (f:=Prod.snd) (aT hi)
 have hX:∀a∈[b],a∈bF ρ:=λa ha=>(ak ha).symm▸ot
 refine⟨List.length_set.symm▸H.len,H.nodup,H.fZ,lv,λj wE e=>?_⟩
 replace e:=(List.getElem?_set)▸e
 split at e
 ·rename_i g8
  subst g8
  split at e
  ·cases e;exact⟨r,b,hi,hm⟩
  ·exact ar e
 ·rename_i g8
  refine cps λ_ KK=>?_
  obtain⟨r',b',gL,kA⟩:=H.at_ j wE e
  refine KK ?_
  have WQ:b'∈bF ρ:=List.mem_map_of_mem (f:=Prod.snd) (aT gL)
  have eU:b'≠b:=λq=>by
   have nd:=H.nodup
   have e1:(bF ρ)[i]?=some b:=by rw[List.getElem?_map,hi];rfl
   have e2:(bF ρ)[j]?=some b:=by rw[List.getElem?_map,gL,← q];rfl
   exact g8 ((List.getElem?_inj (List.getElem?_eq_some_iff.mp e1).1 nd).mp (e1.trans e2.symm))
  refine⟨r',b',gL,((kA.grow hX).own (λa o ha e=>k a o (λq=>ha (by rw[q];simp)) (λq=>ha (af _ q)) e) λq=>?_).weak λa h=>af _ h⟩
  rcases ae q with q|q
  ·exact eU (ak q)
  ·exact H.fZ b' WQ q
theorem VR.Ff(ot:∀a∈X,a∈bF ρ)(k:∀a o,a∉X->a∉Z->h.get? a=some o->h'.get? a=some o)(x:VR ρ Z h p v):VR ρ Z h' p v :=
 ((x.grow ot).own λa o ha e=>k a o (λq=>ha (au _ q)) (λq=>ha (af _ q)) e).weak λa h=>af _ h
end
section
variable {prog:Program}{w:World}{K:Addr->Option Obj}{O:Fx}{mg mb:Str->Option Value}
theorem YE{C f:Addr}{name:Str}{a:PV}{h1 ai:List MO}{pv:PV}{P:Prop}(e:(match a with
 |.obj i=>if gz C name i h1 then some (PV.obj h1.length,h1++[MO.cH i f false])else none
 |_=>none)=some (pv,ai)) (k:∀i,a=.obj i->gz C name i h1=true->pv=.obj h1.length->ai=h1++[.cH i f false]->P):P:=by
 cases a with
|obj i=>exact iF (show(if gz C name i h1=true then some (PV.obj h1.length,h1++[MO.cH i f false])else none)=some (pv,ai)from e) λh e=>k i rfl h (b7 e).1.symm (b7 e).2.symm
|dat d=>exact ar e
|gH i=>exact ar e
|objs _ _=>exact ar e
theorem RE{fuel:List MO->Nat}{F:EF}{σ:St}{is:IS}{n:Nat}{ai:List MO}{C:Prop}(q:yo fuel F σ=some ((is,n),ai))(k:∀j i f d,F σ=some (.obj j,ai)->ai[j]?=some (.cH i f d)->is=.cf j 0->n=fuel ai->C):C:=by
 unfold yo at q
 cases h:F σ with
|none=>rw[h]at q;exact ar q
|some x =>
  replace q:=h▸q
  cases x with
 |mk a hp=>cases a with
  |obj j =>
    have q:(match hp[j]? with|some (.cH _ _ _)=>some ((IS.cf j 0,fuel hp),hp)|_=>none)=some ((is,n),ai):=q
    cases h2:hp[j]? with
   |none=>rw[h2]at q;exact ar q
   |some mo =>
     replace q:=h2▸q
     cases mo with
    |cH i f d=>exact k j i f d ((b7 q).2▸h) ((b7 q).2▸h2) (a5 (b7 q).1).1.symm ((b7 q).2▸(a5 (b7 q).1).2.symm)
    |_=>exact ar q
  |dat d=>exact ar q
  |gH i=>exact ar q
  |objs _ _=>exact ar q
theorem Ev.aaH(gl:Gl K mg mb){C:Addr}{mN:Str->Option Value}(cl:jJ K C mN){name:Str}{f:Addr}{of:Obj}{y:Option Value}{x:Str}{GL np ap cp pos:Pos}{kk:Nat}{Fo:EF}(hf:mN name=some (.ref f))(iZ:K f=some of)(kW:of.cls=.type "function")
  (hB:typeLookup (.type "object") name=pure y) (rY:(["__module__","__name__","__qualname__","__doc__","__annotations__"]:List Str).contains name=false) (ho:Ev prog w K O (.Name x np) Fo)
  (hk:O.sc.names.lookup ("iter":Str)=some .globalImplicit) (hg:mg "iter"=none) (hb:mb "iter"=some (.builtin "iter")) :
  Ev prog w K O (.Call (.Name "iter" GL) [.Attribute (.Name x np) name ap,.Constant (.str "") kk cp] [] pos) (wW Fo C f name):=.mk λA ρ Z σ s pv ai Rm R q=>by
 refine Call_ (l9 gl R hk (.inr ⟨hg,hb⟩) ?_ (by decide))
 refine tX (.inl ⟨_,rfl⟩) (wpAny_items_cons (Attribute_name (ho.then Rm R q λa va h1 aD s_1 e1 aO b3 aP=>?_)) rfl) rfl rfl
 refine cps λ_ KK=>?_
 refine YE e1 λi ha hi oB oh=>?_
 obtain⟨bK,hi,eU⟩:=MU hi
 obtain⟨r,b,hr,qK⟩:=(ha▸b3:VR aD Z s_1.heap (.obj i) va)
 obtain⟨uW,vC,o,mA,ho,mD,h2,h3,h4,h5,h6,h7⟩:=aP.hr.ins hi hr
 obtain⟨nm,qn,N,bs,sn,sub,col,dd,k0,k1,k2,k3,k5,hK,oo⟩:=cl.ex
 obtain⟨h,g,d,t,os⟩:=s_1
 refine KK ?_
 refine qK.symm▸oB.symm▸oh.symm▸?_
 refine US (aP.top _ _ hK) (oo h aP.top) cl.ga cl.gh hf (aP.top _ _ iZ) kW hB rY ⟨o,ho,mD,h2,.inr ⟨b,h3,h4,h5⟩⟩ (h7 name eU) ?_
 refine wpAny_items_cons (wpAny_Constant_str (wpAny_items_nil ?_)) rfl
 have hm:(h.push {cls:=.type "method",data:=.fields #[.ref f,.ref r]}).get? h.objs.size=some (Mine.qS f r):=aX _ rfl
 refine Ya hm ?_
 have hz:(h.push {cls:=.type "method",data:=.fields #[.ref f,.ref r]}).objs.size=h.objs.size+1:=Heap.size_push ..
 skip
 refine hz.symm▸?_
 have fm:h.get? h.objs.size=none:=aK (am _)
 have fI:h.get? (h.objs.size+1)=none:=aK (by (exact ax _ _))
 have cg:HR aD Z h1 h:=aP.hr
 generalize ML:({cls:=.type "callable_iterator",data:=.fields #[.ref h.objs.size,.str ("":Str) (t+1),.bool false]}:Obj)=ob
 have kp:∀b o,h.get? b=some o->((h.push {cls:=.type "method",data:=.fields #[.ref f,.ref r]}).push ob).get? b=some o:=λb o e=>ao _ (ao _ e)
 have hI:((h.push {cls:=.type "method",data:=.fields #[.ref f,.ref r]}).push ob).get? (h.objs.size+1)=some ob:=by
  rw[← hz];exact aX _ (by rw[← ML];rfl)
 have nX:HR (aD++[(h.objs.size+1,h.objs.size+1)]) Z (h1++[.cH i f false]) ((h.push {cls:=.type "method",data:=.fields #[.ref f,.ref r]}).push ob):=cg.push fI kp
  ⟨rfl,h.objs.size,t+1,r,b,get_append hr,by
   rw[n5,List.mem_append]
   rintro (q|q)
   ·exact(cg.fresh fm).1 q
   ·have:h.objs.size=h.objs.size+1:=by simpa using q
    lia,(cg.fresh fm).2,ao _ hm,by rw[hI,← ML];rfl⟩
 refine⟨_,aO.trans ⟨⟨_,rfl,λp hp=>(ak hp).symm▸fI⟩,λb o _ _ e=>kp b o e,λb o e=>⟨o,kp b o e⟩,rfl,rfl,λ_ _ e=>e,λh=>h⟩,?_,nX⟩
 exact⟨_,_,by rw[List.getElem?_append_right (cg.len.symm▸Nat.le_refl _),cg.len,Nat.sub_self];rfl,rfl⟩
theorem eT.cH{e tg:Expr}{F:EF}(ht:iR tg)(he:Ev prog w K O e F){kk:Nat}{c9:Addr}{of:Obj}{fd:FuncData}{kL:cV}(iZ:K c9=some of)(n4:of.data=.func fd)(hH:dM prog w K c9 kk kL)(hK:kk+1≤O.k)(fuel:List MO->Nat) :
  eT prog w K O e tg (mP c9 kL) (yo fuel F):=.mk λA ρ Z σ s is n ai Rm R q=>by
 refine RE q λj i f d e1 hj oK hn=>?_
 refine oK.symm▸?_
 refine bq (he.run A ρ Z σ s _ _ Rm R e1) (λv s_1 P=>?_) λ_ _ q=>q.elim
 refine cps λ_ KK=>?_
 obtain⟨aD,aO,⟨r,b,hr,hv⟩,cg⟩:=P
 have aP:=R.next aO cg
 obtain⟨kU,m,t,x,y,g1,g2,g3,g4,g5⟩:=cg.cH hr hj
 refine KK ?_
 refine hv.symm▸?_
 exact Op (kU.symm▸g5) rfl ⟨aD,s_1,[],λ_=>False,_,aO,cg,Ext.refl _ _ _,λ_ _ e=>e,(λ_ h=>bT h),(λ_ h=>bT h),(λ_ h=>h.elim),⟨rfl,⟨_,hr⟩,aP.top,aP.off⟩,(Iter.cH ht Rm.handled iZ n4 hH (Rm.mono hK) r).toD⟩
end
noncomputable def Hh(iS iT tb:Nat)(P0:Addr):XF:=λσ=>match d2 σ.loc iS with
|some (.obj i)=>match σ.hp[tb]? with
 |some (.tab P true)=>if P=P0 then some (.next,⟨σ.loc.set iT (some (.gH i)),σ.hp.set tb (.tab P0 false)⟩)else none
 |_=>none
|_=>none
section
variable {prog:Program}{w:World}{K:Addr->Option Obj}{O:Fx}{mg mb:Str->Option Value}
theorem SO(h:m' x=m x):gc env m' cm x=gc env m cm x:=by
 unfold gc;rw[h]
theorem HB{iS iT tb:Nat}{P0:Addr}{σ:St}{r:Fl×St}{C:Prop}(e:Hh iS iT tb P0 σ=some r)(k:∀i,d2 σ.loc iS=some (.obj i)->σ.hp[tb]?=some (.tab P0 true)->r=(.next,⟨σ.loc.set iT (some (.gH i)),σ.hp.set tb (.tab P0 false)⟩)->C):C:=by
 unfold Hh at e
 cases h1:d2 σ.loc iS with
|none=>rw[h1]at e;exact ar e
|some pv =>
  replace e:=h1▸e
  cases pv with
 |dat d=>exact ar e
 |gH i=>exact ar e
 |objs _ _=>exact ar e
 |obj i =>
   cases h2:σ.hp[tb]? with
  |none=>exact ar ((congrArg (λo=>match o with
   |some (.tab P true)=>if P=P0 then some (Fl.next,(⟨σ.loc.set iT (some (.gH i)),σ.hp.set tb (.tab P0 false)⟩:St))else none
   |_=>none) h2).symm.trans e)
  |some mo =>
    have e:=(congrArg (λo=>match o with
    |some (.tab P true)=>if P=P0 then some (Fl.next,(⟨σ.loc.set iT (some (.gH i)),σ.hp.set tb (.tab P0 false)⟩:St))else none
    |_=>none) h2).symm.trans e
    cases mo with
   |lst l=>exact ar e
   |ins C l=>exact ar e
   |cH a b c=>exact ar e
   |tab P b=>cases b with
    |false=>exact ar e
    |true=>exact d8 e λh e=>k i h1 (h▸h2) e.symm
theorem oq.stream(gl:Gl K mg mb){iS iT tb:Nat}{P0 c0 cS:Addr}{P:Nat->Pos}{pp qp p1 p2 p3 p4 p5 p6 tV:Pos}{lb:Expr}{wg:Scope}{rest:List Stmt}{G:XF}
  (hS:O.vars.lookup iS=some ("signs":Str)) (hT:O.vars.lookup iT=some ("stream":Str)) (Qd:∀i,O.vars.lookup i≠some ("read":Str))
  (kS:O.sc.names.lookup ("signs":Str)=some .cell) (kR:O.sc.names.lookup ("read":Str)=some .local) (kT:O.sc.names.lookup ("stream":Str)=some .local)
  (q8:O.env.cells.lookup ("signs":Str)=some cS) (JL:O.env.code=.ref c0) (P2:cS∈O.own)
  (hC:∀h,dl K h->CodeHd h c0 P0) (hB:∀h,dl K h->h.BuiltinsAt mg P0) (Nn:mainGlobals≠P0)
  (uV:a6 prog w K {O with own:=[O.env.locals]} rest G) (DU:∀v,codeAmong tV [rawInt qp.line,rawInt qp.col,v]=none) (O3:wg.names=[])
  (eR:swapsWith (.Lambda ⟨[],[],none,[],[],none,[]⟩ lb wg tV) (some (.Name "stream" p1)) p2.line O.env=pure false) (SD:swapsWith (.Name "read" p5) (some (.Attribute (.Name "stream" p3) "read" p4)) p6.line O.env=pure false)
  (UX:((P 2).endLine==(P 4).line)=true) :
  oq prog w K O (.FunctionDef "read" ⟨[],[⟨"size",none,pp⟩],none,[],[],none,[]⟩ (readBody P) [] none [] oF none "read" qp ::
   .Assign [.Name "stream" p1] (.Lambda ⟨[],[],none,[],[],none,[]⟩ lb wg tV) p2 ::
   .Assign [.Attribute (.Name "stream" p3) "read" p4] (.Name "read" p5) p6::rest) (aH (Hh iS iT tb P0) G):=.mk λA ρ Z0 σ s fl σ' Rm R abb q=>by
 refine cps λ_ KK=>?_
 refine G4 q (λiN e1 q=>HB e1 λi hi R8 hr=>?_) λe1 n=>HB e1 λi _ _ hr=>(n (congrArg Prod.fst hr)).elim
 rw[(Prod.mk.inj hr).2]at q
 obtain⟨m,cm,hn,hc,hv⟩:=R.er.ex
 obtain⟨v,t5,hV⟩:=hv iS _ _ hS (yx hi)
 obtain⟨g,b,ES,rfl⟩:=hV
 refine KK ?_
 have Sy:O.env.kindOf "signs"=some .cell:=by unfold Env.kindOf;rw[R.er.sc];exact kS
 have II:O.env.kindOf "read"=some .local:=by unfold Env.kindOf;rw[R.er.sc];exact kR
 have FZ:O.env.kindOf "stream"=some .local:=by unfold Env.kindOf;rw[R.er.sc];exact kT
 have ux:cm "signs"=some (.ref g):=by
  unfold gc at t5
  replace t5:=Sy▸t5
  dsimp only at t5
  replace t5:=q8▸t5
  exact t5
 refine cps λ_ KK=>?_
 obtain⟨rt,bt,BZ,WN⟩:=R.hr.at_ tb _ R8
 obtain⟨kU,xG,vs,hP,i9⟩:=WN
 replace BZ:=xG▸kU▸BZ
 replace hP:=xG▸hP
 obtain rfl:=i9 rfl
 obtain⟨L,hL⟩:∃L,O.env.locals=L:=⟨_,rfl⟩
 refine KK ?_
 have tD:P0∈bF ρ:=List.mem_map_of_mem (f:=Prod.snd) (aT BZ)
 have Ie:s.heap.Ns L m:=hL▸hn
 have LZ:L∈O.own++Z0:=R.er.dz _ (hL▸R.er.ld)
 have Aq:L≠P0:=λq=>R.er.pj (hL.symm▸q.symm▸tD)
 have MT:P0 < s.heap.objs.size:=Heap.lt_size hP
 have u1:L < s.heap.objs.size:=by obtain⟨o,e⟩:=Ns.live Ie;exact Heap.lt_size e
 have fN:closureFor oF O.env=pure [(("signs":Str),cS)]:=by
  rw[GD (by show(true&&((false||(O.env.cells.lookup ("signs":Str)).isSome)&&true))=true;rw[q8];rfl)]
  refine congrArg pure ?_
  show kc O.env [(("size":Str),NameKind.local),(("signs":Str),NameKind.free)] []=_
  rw[kc,if_neg (by decide),kc,if_pos (by decide),q8]
  rfl
 have QG:closureFor wg O.env=pure []:=by
  refine(GD (by rw[O3];rfl)).symm▸O3.symm▸?_
  rfl
 have yO:∀b o,K b=some o->b≠P0∧b≠L:=λb o hb=>⟨λq=>(R.off b (hb.symm▸λq=>vD q)).1 (q▸tD),λq=>(R.off b (hb.symm▸λq=>vD q)).2 (q▸LZ)⟩
 have Mu:(O.env.scope.kind==.class||(O.env.scope.kind==.module&&O.env.locals != O.env.globals))=false:=by rw[R.er.fn];rfl
 refine wpAny_execs_cons (nestDef_K rfl rfl rfl (makeFunction_K fN R.er.glob (gl.g _ R.top) JL (hC _ R.top) (ps:=#[]) hP trivial rfl Nn (hB _ R.top) λc' ctv doc h1 tk hx qU dJ abh Tj=>?_))
 obtain⟨fo,pS⟩:∃fo,fo=fnMade ("read":Str) (qualnameIn O.env ("read":Str) ("read":Str)) ⟨[],[⟨"size",none,pp⟩],none,[],[],none,[]⟩ (readBody P) oF [(("signs":Str),cS)] doc ((mg "__name__").getD .none) c' ctv:=⟨_,rfl⟩
 refine pS▸?_
 have QE:fo.isFreed=false:=by rw[pS];rfl
 have Yw:(h1.push fo).Ns L m:=Ns.keep Ie λo e=>ao _ (hx L o Aq e)
 refine wpAny_storeName_local II (hL▸Yw) (λh2 Ak u3=>?_) Mu
 rw[hL]at Ak u3
 have VP:h2.objs.size=h1.objs.size+1:=u3.1.symm▸Heap.size_push ..
 have k2:∀b o,b≠P0->b≠L->s.heap.get? b=some o->h2.get? b=some o:=λb o b1 b2 e=>u3.extBut b o b2 (ao _ (hx b o b1 e))
 have Eg:dl K h2:=λb o hb=>k2 b o (yO b o hb).1 (yO b o hb).2 (R.top b o hb)
 have Ws:h2.get? P0=some (tabObj #[rawInt qp.line,rawInt qp.col,.ref c']):=u3.extBut _ _ (Ne.symm Aq) (ao _ Tj)
 have q9:h1.objs.size > s.heap.objs.size:=ah qU dJ
 have sU:h2.get? h1.objs.size=some fo:=u3.extBut _ _ (bB (a9 u1 q9)) (aX _ QE)
 refine wpAny_execs_cons (wpAny_Assign_Name (kla_eval rfl (kla_makeFunction QG R.er.glob (gl.g _ Eg) JL (hC _ Eg) Ws trivial (DU _) Nn (hB _ Eg) λc2 TL h3 tk3 KV abH SJ adi aac=>?_)) eR)
 obtain⟨lo,hlo⟩:∃lo,lo=kla_obj ("<lambda>":Str) (O.env.qual++"<lambda>") ⟨[],[],none,[],[],none,[]⟩ lb wg [] ((mg "__name__").getD .none) c2 TL:=⟨_,rfl⟩
 refine hlo▸?_
 have RX:lo.isFreed=false:=by rw[hlo];rfl
 have hn3:(h3.push lo).Ns L (λx=>if x="read" then some (.ref h1.objs.size)else m x):=Ns.keep Ak λo e=>ao _ (KV L o Aq e)
 refine wpAny_storeName_local FZ (hL▸hn3) (λh4 xn xz=>?_) Mu
 rw[hL]at xn xz
 have sz4:h4.objs.size=h3.objs.size+1:=xz.1.symm▸Heap.size_push ..
 have k4:∀b o,b≠P0->b≠L->h2.get? b=some o->h4.get? b=some o:=λb o b1 b2 e=>xz.extBut b o b2 (ao _ (KV b o b1 e))
 have uO:h3.objs.size > h1.objs.size:=a9 (bu (Nat.lt_of_lt_of_eq (a7 _) VP.symm) abH) SJ
 have WD:h4.get? h3.objs.size=some lo:=xz.extBut _ _ (bB (a9 u1 (a9 q9 uO))) (aX _ RX)
 have M0:h4.get? P0=some (tabObj (#[rawInt qp.line,rawInt qp.col,.ref c']++#[rawInt tV.line,rawInt tV.col,.ref c2])):=xz.extBut _ _ (Ne.symm Aq) (ao _ aac)
 refine wpAny_execs_cons (plainObj_wpAny_Assign_Attribute (wpAny_Name (wpAny_loadName_local R.er.fn II (hL▸xn) (v:=.ref h1.objs.size) (by show(if("read":Str)="stream" then _ else if("read":Str)="read" then _ else _)=_;rw[if_neg (by decide),if_pos rfl]) (wpAny_Name (wpAny_loadName_local R.er.fn FZ (hL▸xn) (v:=.ref h3.objs.size) (if_pos rfl) ?_) (by decide))) (by decide)) SD)
 refine RL WD (hlo.symm▸rfl) (by rw[hlo]) (hlo.symm▸rfl) λh6 dx t' e1 e2 e3 e4=>?_
 have Jh:∀b o,s.heap.get? b=some o->b≠h3.objs.size:=λb o e=>Nat.ne_of_lt (a9 (Heap.lt_size e) (a9 q9 uO))
 have k6:∀b o,b≠P0->b≠L->s.heap.get? b=some o->h6.get? b=some o:=λb o b1 b2 e=>e4 b o (Jh b o e) (k4 b o b1 b2 (k2 b o b1 b2 e))
 have JI:h6.get? P0=some (tabObj (#[rawInt qp.line,rawInt qp.col,.ref c']++#[rawInt tV.line,rawInt tV.col,.ref c2])):=e4 _ _ (Jh _ _ hP) M0
 have Cv:h6.Ns L (λx=>if x="stream" then some (.ref h3.objs.size)else if x="read" then some (.ref h1.objs.size)else m x):=Ns.keep xn λo e=>e4 L o (Nat.ne_of_lt (a9 u1 (a9 q9 uO))) e
 have SA:∀a∈O.own++Z0,∃o,h6.get? a=some o:=λa ha=>by
  by_cases q:a=L
  ·obtain⟨o,e⟩:=Ns.live Cv;exact⟨o,q▸e⟩
  ·obtain⟨o,e⟩:=R.hr.iI a ha
   exact⟨o,k6 a o (λq'=>R.hr.fZ P0 tD (q'▸ha)) q e⟩
 have wz:∀a∈[L]++Z0,a∈O.own++Z0:=λa h=>(ae h).elim (λh=>(ak h).symm▸LZ) λh=>af _ h
 have kZ:∀a o,a≠P0->a∉O.own++Z0->s.heap.get? a=some o->h6.get? a=some o:=λa o h1 h2 e=>k6 a o h1 (λq=>h2 (q▸LZ)) e
 have H6:HR ρ ([L]++Z0) (σ.hp.set tb (.tab P0 false)) h6:=(R.hr.Ff (mo:=.tab P0 false) BZ kZ SA ⟨rfl,rfl,_,JI,λh=>kP h⟩).weak wz
 have fresh:∀b,s.heap.objs.size≤b->b∉bF ρ∧b∉[L]++Z0:=λb hb=>by
  have f:=R.hr.fresh (aK hb)
  exact⟨f.1,λq=>f.2 (wz b q)⟩
 have D3:s.heap.get? dx=none:=by
  cases q:s.heap.get? dx with
 |none=>rfl
 |some o =>
   exfalso
   by_cases b1:dx=P0
   ·rw[b1,M0]at e1;cases e1
   ·by_cases b2:dx=L
    ·obtain⟨o,e⟩:=Ns.live xn;rw[b2,e]at e1;cases e1
    ·rw[k4 _ _ b1 b2 (k2 _ _ b1 b2 q)]at e1;cases e1
 have U9:dx∉bF ρ∧dx∉[L]++Z0:=by
  have f:=R.hr.fresh D3
  exact⟨f.1,λq=>f.2 (wz dx q)⟩
 have Uh:h6.IsCell cS (some (.ref g)):=by
  obtain⟨o,ho,hd⟩:=hc _ _ q8
  replace hd:=ux▸hd
  exact⟨o,k6 cS o (λq=>(R.er.cell _ _ q8).1 (q▸tD)) (λq=>(R.er.cell _ _ q8).2 (q.trans hL.symm)) ho,hd⟩
 have Yn:h6.get? h1.objs.size=some fo:=e4 _ _ (Nat.ne_of_lt uO) (k4 _ _ (bB (a9 MT q9)) (bB (a9 u1 q9)) sU)
 have Qk:h6.CodeRec (.ref c') (qualnameIn O.env ("read":Str) ("read":Str)):=by
  refine cps λ_ KK=>?_
  obtain⟨c,o,vs,t,e,ge,r⟩:=abh
  refine KK ?_
  replace ge:=(Value.ref.inj e).symm▸ge
  exact⟨c',o,vs,t,rfl,e4 _ _ (Nat.ne_of_lt (a9 dJ uO)) (k4 _ _ (bB (bu MT qU)) (bB (bu u1 qU)) (u3.extBut _ _ (bB (bu u1 qU)) (ao _ ge))),r⟩
 have hVs:VR ρ ([L]++Z0) h6 (.gH i) (.ref h3.objs.size):=by
  refine⟨g,b,h3.objs.size,[h3.objs.size,dx,h1.objs.size,cS,c'],ES,rfl,⟨⟨{lo with dict:=some dx},fo,dx,h1.objs.size,cS,c',_,rfl,e3,hlo.symm▸rfl,⟨_,by rw[hlo]⟩,rfl,e2,Yn,pS.symm▸rfl,by rw[pS],⟨rfl,rfl,rfl,rfl,⟨P,rfl,UX⟩,⟨pp,rfl⟩,rfl,rfl,rfl⟩,Uh,Qk⟩⟩,nU (fresh _ (aG (a9 q9 uO))) (nU U9 (nU (fresh _ (aG q9)) (nU ⟨(R.er.cell _ _ q8).1,λq=>(ae q).elim (λq=>(R.er.cell _ _ q8).2 ((ak q).trans hL.symm)) (abb _ P2)⟩ (all1 (fresh _ qU)))))⟩
 have R6:SR K {O with own:=[O.env.locals]} ρ ([L]++Z0) ⟨σ.loc.set iT (some (.gH i)),σ.hp.set tb (.tab P0 false)⟩ ⟨h6,s.gens,s.drawn,t',s.os⟩:=by
  refine⟨H6,⟨⟨_,cm,hL▸Cv,λn c e=>?_,λj x pv hj hl=>?_⟩,R.er.fn,R.er.sc,R.er.pf,R.er.glob,R.er.bi,List.mem_singleton_self _,λa ha=>by rw[ak ha,hL];simp,R.er.pj,R.er.cell,R.er.inj⟩,λb o hb=>k6 b o (yO b o hb).1 (yO b o hb).2 (R.top b o hb),λb hb=>⟨(R.off b hb).1,λq=>(R.off b hb).2 (wz b q)⟩⟩
  ·obtain⟨o,ho,hd⟩:=hc n c e
   exact⟨o,k6 c o (λq=>(R.er.cell n c e).1 (q▸tD)) (λq=>(R.er.cell n c e).2 (q.trans hL.symm)) ho,hd⟩
  ·rcases yJ hl with⟨rfl,rfl⟩|⟨g8,eZ⟩
   ·refine⟨.ref h3.objs.size,?_,hVs⟩
    refine(bX (hT.symm.trans hj))▸?_
    unfold gc
    refine FZ.symm▸?_
    exact if_pos rfl
   ·obtain⟨u,hu,hr⟩:=hv j x pv hj eZ
    refine⟨u,?_,(VR.Ff (X:=[P0]) (λa ha=>(ak ha).symm▸tD) (λa o h1 h2 e=>kZ a o (λq=>h1 (by rw[q];simp)) h2 e) hr).weak wz⟩
    have n1:x≠"stream":=λq=>g8 (R.er.pf iT j "stream" hT (q▸hj))
    have n2:x≠"read":=λq=>Qd j (q▸hj)
    exact(SO (by show(if _ then _ else if _ then _ else _)=_;rw[if_neg n1,if_neg n2])).trans hu
 refine bq (uV.run A ρ ([L]++Z0) _ _ fl σ' Rm R6 q) (λf s' p=>?_) λ_ _ q=>q
 refine cps λ_ KK=>?_
 obtain⟨aA,x,R',r⟩:=p
 refine KK ?_
 have XO:Ext O.own ρ s ρ ⟨h6,s.gens,s.drawn,t',s.os⟩:=⟨⟨[],by simp,λ_ h=>bT h⟩,λb o hb hX e=>k6 b o (λq=>hb (q▸tD)) (λq=>hX (q.symm▸hL▸R.er.ld)) e,λb o e=>by
  by_cases b1:b=P0
  ·exact⟨_,b1▸JI⟩
  ·by_cases b2:b=L
   ·obtain⟨o,e⟩:=Ns.live Cv;exact⟨o,b2▸e⟩
   ·exact⟨o,k6 b o b1 b2 e⟩,rfl,rfl,λ_ _ e=>e,λh=>h⟩
 exact⟨aA,XO.trans (x.weak λa ha=>(ak ha).symm▸R.er.ld),R'.hr.weak λa h=>af _ h,r.weak λa h=>af _ h⟩
end
noncomputable def nL(G:cV):cV:=λps hp=>match fV ps with
|some _=>match G ps []with
 |some (.dat d,[])=>some (.dat d,hp)
 |_=>none
|none=>none
section
variable {prog:Program}{w:World}{K:Addr->Option Obj}{mg mb:Str->Option Value}
theorem cU.pure:∀{vs:List Value} {ds:List PyData},fV ps=some ds->cU ρ Z h ps vs->cU [] (bF ρ++Z) h ps vs:=by
 induction ps with
|nil=>intro vs ds _ V;rw[V.mi];exact .nil
|cons p ps ih =>
  intro vs ds e V
  refine cps λ_ KK=>?_
  obtain⟨v,r,hv,hp,V2⟩:=V.vq
  refine KK ?_
  refine hv.symm▸?_
  cases p with
 |dat d =>
   refine(Option.map_eq_some_iff.mp (show(fV ps).map (d::·)=some ds from e)).elim λds' h1=>?_
   exact .cons (hp.elim λas q=>⟨as,q.1,λa ha=>⟨bv,λm=>(ae m).elim (q.2 a ha).1 (q.2 a ha).2⟩⟩) (ih h1.1 V2)
 |obj i=>exact ar e
 |gH i=>exact ar e
 |objs _ _=>exact ar e
theorem Xx{G:cV}{ps:List PV}{hp ai:List MO}{pv:PV}{C:Prop}(q:nL G ps hp=some (pv,ai))(k:∀ds d,fV ps=some ds->G ps []=some (.dat d,[])->pv=.dat d->ai=hp->C):C:=by
 unfold nL at q
 cases h1:fV ps with
|none=>rw[h1]at q;exact ar q
|some ds =>
  rw[h1]at q
  cases h2:G ps []with
 |none=>rw[h2]at q;exact ar q
 |some x =>
   rw[h2]at q
   cases x with
  |mk u l=>cases u with
   |dat d=>cases l with
    |nil=>exact k ds d h1 h2 (b7 q).1.symm (b7 q).2.symm
    |cons _ _=>exact ar q
   |obj i=>exact ar q
   |gH i=>exact ar q
   |objs _ _=>exact ar q
theorem dM.pure{a:Addr}{k:Nat}{G:cV}(h:dM prog w K a k G):dM prog w K a k (nL G):=.mk λA ρ Z hp s ps vs pv ai Rm H top off V q=>Xx q λds d yP hG e1 e2=>by
 have H0:HR [] (bF ρ++Z) [] s.heap:=⟨rfl,List.nodup_nil,(λb hb=>bT hb),λa ha=>(ae ha).elim (H.live a) (H.iI a),λi mo e=>ar e⟩
 refine codeAny_mono (h.run A [] (bF ρ++Z) [] s ps vs _ _ Rm H0 top (λa ha=>⟨bv,λm=>(ae m).elim (off a ha).1 (off a ha).2⟩) (cU.pure yP V) hG) λr s' p=>p.elim λv e p=>?_
 refine cps λ_ KK=>?_
 obtain⟨aA,x,⟨as,rv,qv⟩,H'⟩:=p
 refine KK ?_
 refine e.symm▸e1.symm▸e2.symm▸?_
 have k:∀b o,s.heap.get? b=some o->s'.heap.get? b=some o:=λb o e=>x.heap b o bv bv e
 exact⟨ρ,⟨⟨[],(bM _).symm,λ_ h=>bT h⟩,λb o _ _ e=>k b o e,x.live,x.drawn,x.os,x.gens,x.bare⟩,⟨as,rv,λa ha=>⟨λm=>(qv a ha).2 (au _ m),λm=>(qv a ha).2 (af _ m)⟩⟩,H.keep k⟩
theorem FnAt.TC(gl:Gl K mg mb){a:Addr}{st:Stmt}(F:FnAt K a st){names:List Str}{vars:List (Nat×Str)}{k N:Nat}{B:XF}(keep:Bool)(tf:∀q pm c doc (vs:List Value),vs.length=names.length->bindArgs (fdOf st q pm c doc) ⟨vs,[]⟩=pure (names.zip vs))
  (jc:AN (Stmt.mG st) names vars=true) (hb:∀q pm c doc L,oq prog w K (fS (fdOf st q pm c doc) a vars k L) (Stmt.bodyOf st) B):dM prog w K a (k+1) (dX names.length N keep B):=by
 refine cps λ_ KK=>?_
 obtain⟨o,q,pm,c,doc,h1,h2,h3,h4⟩:=F
 refine KK ?_
 exact dM.MB keep gl h1 h3 rfl h4 (tf q pm (.ref c) doc) rfl rfl rfl jc (hb q pm (.ref c) doc)
theorem FnAt.ok(gl:Gl K mg mb){a:Addr}{st:Stmt}(F:FnAt K a st){names:List Str}{vars:List (Nat×Str)}{k N:Nat}{B:XF}(keep:Bool)(tf:∀q pm c doc (vs:List Value),vs.length=names.length->bindArgs (fdOf st q pm c doc) ⟨vs,[]⟩=pure (names.zip vs))
  (jc:AN (Stmt.mG st) names vars=true) (hb:∀q pm c doc L,a6 prog w K (fS (fdOf st q pm c doc) a vars k L) (Stmt.bodyOf st) B):dM prog w K a (k+1) (dX names.length N keep B) :=
 F.TC gl keep tf jc λq pm c doc L=>(hb q pm c doc L).fin
theorem Ev.aat{O:Fx}(gl:Gl K mg mb){f:Str}{a:Addr}{st:Stmt}(F:FnAt K a st){e:Expr}{es:List Expr}{pos np:Pos}{G:LF}{H:cV}{k:Nat}(he:fb prog w K O (e::es) G)(hf:dM prog w K a k H)(hK:k≤O.k)
  (hk:O.sc.names.lookup f=some .globalImplicit) (hg:mg f=some (.ref a)) (hd:autoParam ((f==("__debug__":Str))=false) sZ)
  (hs:autoParam (∀env,starEach (e::es) env=(false,eval e env)::starEach es env) sI) (hp:autoParam (∀env,(backTo pos (starEach es env)).any (·.1)=false) sI) :
  Ev prog w K O (.Call (.Name f np) (e::es) [] pos) (j9 G H):=by
 refine cps λ_ KK=>?_
 obtain⟨o,q,pm,c,doc,h1,h2,h3,h4⟩:=F
 refine KK ?_
 exact Ev.call gl he hf.ok hK h1 h3 hk hg hd hs hp
theorem Ev.C3{O:Fx}{C:Addr}{mN:Str->Option Value}(cl:jJ K C mN){name:Str}{f:Addr}{st:Stmt}(F:FnAt K f st){y:Option Value}{o e:Expr}{es:List Expr}{apos pos:Pos}{Fo:EF}{G:LF}{H:cV}{k:Nat}(hf:mN name=some (.ref f))
  (hB:typeLookup (.type "object") name=pure y) (ho:Ev prog w K O o Fo) (he:fb prog w K O (e::es) G) (hH:dM prog w K f k H) (hK:k≤O.k) (mc:MC O.env o name apos (e::es) pos)
  (hs:autoParam (∀env,starEach (e::es) env=(false,eval e env)::starEach es env) sI) :
  Ev prog w K O (.Call (.Attribute o name apos) (e::es) [] pos) (lS Fo C name G H):=by
 refine cps λ_ KK=>?_
 obtain⟨ob,q,pm,c,doc,h1,h2,h3,h4⟩:=F
 refine KK ?_
 exact Ev.Vd cl hf h1 h2 h3 hB ho he hH.ok hK mc hs
theorem Ev.AQ{O:Fx}{C:Addr}{mN:Str->Option Value}(cl:jJ K C mN){name:Str}{f:Addr}{st:Stmt}(F:FnAt K f st){y:Option Value}{o:Expr}{apos pos:Pos}{Fo:EF}{H:cV}{k:Nat}(hf:mN name=some (.ref f))
  (hB:typeLookup (.type "object") name=pure y) (ho:Ev prog w K O o Fo) (hH:dM prog w K f k H) (hK:k≤O.k) (mc:MC O.env o name apos [] pos) :
  Ev prog w K O (.Call (.Attribute o name apos) [] [] pos) (kX Fo C name H):=by
 refine cps λ_ KK=>?_
 obtain⟨ob,q,pm,c,doc,h1,h2,h3,h4⟩:=F
 refine KK ?_
 exact Ev.VY cl hf h1 h2 h3 hB ho hH.ok hK mc
theorem Ev.N0{O:Fx}(gl:Gl K mg mb){C:Addr}{mN:Str->Option Value}(cl:jJ K C mN){cn:Str}{f:Addr}{st:Stmt}(F:FnAt K f st){e:Expr}{es:List Expr}{pos np:Pos}{G:LF}{H:cV}{k:Nat}(hi:mN "__init__"=some (.ref f))
  (he:fb prog w K O (e::es) G) (hH:dM prog w K f k H) (hK:k+1≤O.k) (hk:O.sc.names.lookup cn=some .globalImplicit) (hg:mg cn=some (.ref C)) (hd:autoParam ((cn==("__debug__":Str))=false) sZ)
  (hs:autoParam (∀env,starEach (e::es) env=(false,eval e env)::starEach es env) sI) (hp:autoParam (∀env,(backTo pos (starEach es env)).any (·.1)=false) sI) :
  Ev prog w K O (.Call (.Name cn np) (e::es) [] pos) (u0 C G H):=by
 refine cps λ_ KK=>?_
 obtain⟨ob,q,pm,c,doc,h1,h2,h3,h4⟩:=F
 refine KK ?_
 exact Ev.new gl cl hi h1 h2 he hH.ok hK hk hg hd hs hp
theorem Ev.Tl{O:Fx}(gl:Gl K mg mb){C:Addr}{mN:Str->Option Value}(cl:jJ K C mN){name:Str}{f:Addr}{st:Stmt}(F:FnAt K f st){y:Option Value}{x:Str}{GL np ap cp pos:Pos}{kk:Nat}{Fo:EF}(hf:mN name=some (.ref f))
  (hB:typeLookup (.type "object") name=pure y) (rY:(["__module__","__name__","__qualname__","__doc__","__annotations__"]:List Str).contains name=false) (ho:Ev prog w K O (.Name x np) Fo)
  (hk:O.sc.names.lookup ("iter":Str)=some .globalImplicit) (hg:mg "iter"=none) (hb:mb "iter"=some (.builtin "iter")) :
  Ev prog w K O (.Call (.Name "iter" GL) [.Attribute (.Name x np) name ap,.Constant (.str "") kk cp] [] pos) (wW Fo C f name):=by
 refine cps λ_ KK=>?_
 obtain⟨ob,q,pm,c,doc,h1,h2,h3,h4⟩:=F
 refine KK ?_
 exact Ev.aaH gl cl hf h1 h2 hB rY ho hk hg hb
theorem eT.EG{O:Fx}{e tg:Expr}{F:EF}(ht:iR tg)(he:Ev prog w K O e F){kk:Nat}{c9:Addr}{st:Stmt}(Fa:FnAt K c9 st){kL:cV}(hH:dM prog w K c9 kk kL)(hK:kk+1≤O.k)(fuel:List MO->Nat) :
  eT prog w K O e tg (mP c9 kL) (yo fuel F):=by
 refine cps λ_ KK=>?_
 obtain⟨ob,q,pm,c,doc,h1,h2,h3,h4⟩:=Fa
 refine KK ?_
 exact eT.cH ht he h1 h3 hH hK fuel
end
section
variable {prog:Program}{w:World}{K:Addr->Option Obj}{O:Fx}{mg mb:Str->Option Value}
theorem Ev.Jd(gl:Gl K mg mb){Kf:Frag}{mc:Value}{C:Addr}{cn attr y:Str}{t:Tok}{np pos:Pos}{l:List Nat}(hX:∀h,dl K h->Kf.In h)(hr:readsIn Kf C mc=true)(e:findCls Kf (.ref C) mc attr=some (.val (.str y t)))(hy:y=⟨⟨l⟩⟩)(ho:PyData.strOk y=true)
  (hk:O.sc.names.lookup cn=some .globalImplicit) (hg:mg cn=some (.ref C)) (hd:autoParam ((cn==("__debug__":Str))=false) sZ) :
  Ev prog w K O (.Attribute (.Name cn np) attr pos) (λσ=>some (.dat (.str ⟨⟨l⟩⟩),σ.hp)):=.mk λA ρ Z σ s pv ai _ R q=>by
 cases q
 subst hy
 refine Attribute_name (l9 gl R hk (.inl hg) (cls_value (hX _ R.top) hr e rfl ?_) hd)
 exact cE.of_toks R.hr ⟨[],.str _ _ ho,λ_ h=>bT h⟩
theorem eT.NJ(gl:Gl K mg mb){f:Str}{a:Addr}{st:Stmt}{P:Nat->Pos}{k:Nat}{e:Expr}{es:List Expr}{pos np:Pos}{F:LF}(Fa:FnAt K a st)(hb:Stmt.bodyOf st=nH P)
  (tf:∀q pm c doc v,bindArgs (fdOf st q pm c doc) ⟨[v],[]⟩=pure [(("addr":Str),v)]) (PE:(Stmt.mG st).isGenerator=true) (qm:(Stmt.mG st).isCoroutine=false) (uK:(Stmt.mG st).kind=.function)
  (te:(Stmt.mG st).names.all (λx=>x.2 != .cell)=true) (h1:(Stmt.mG st).names.lookup ("addr":Str)=some .local) (h2:(Stmt.mG st).names.lookup ("pos":Str)=some .local) (h3:(Stmt.mG st).names.lookup ("escape":Str)=some .local) (h4:(Stmt.mG st).names.lookup ("ch":Str)=some .local)
  (h5:(Stmt.mG st).names.lookup ("enumerate":Str)=some .globalImplicit) (h6:mg "enumerate"=none) (h7:mb "enumerate"=some (.type "enumerate")) (yB:1≤k)
  (he:fb prog w K O (e::es) F) {tg:Expr} (ht:iR tg) (hK:k+1≤O.k)
  (hk:O.sc.names.lookup f=some .globalImplicit) (hg:mg f=some (.ref a)) (hd:autoParam ((f==("__debug__":Str))=false) sZ)
  (hs:autoParam (∀env,starEach (e::es) env=(false,eval e env)::starEach es env) sI) (hp:autoParam (∀env,(backTo pos (starEach es env)).any (·.1)=false) sI) :
  eT prog w K O (.Call (.Name f np) (e::es) [] pos) tg stepI (u2 F):=by
 refine cps λ_ KK=>?_
 obtain⟨o,q,pm,c,doc,a1,a2,a3,a4⟩:=Fa
 refine KK ?_
 refine eT.gen (o:=o) (fd:=fdOf st q pm (.ref c) doc) (P:=P) gl ⟨a1,a3,by show FuncBody.stmts (Stmt.bodyOf st)=_;rw[hb],a4,tf q pm (.ref c) doc,rfl,rfl,rfl,PE,qm,uK,λx hx=>?_,h1,h2,h3,h4,h5,h6,h7,yB⟩ he ht hK hk hg hd hs hp
 have:=bj te x hx
 simpa using this
theorem O5{gens:List Comprehension}(h:gens.all (λg=>g.is_async==0)=true):∀g'∈gens,g'.is_async=0:=λg hg=>by simpa using bj h g hg
end
end Mine
end
section
open PySem PySem.Calls PySem.W PyProof.Rows open Builtin Builtin.Str Builtin.Int
namespace Mine
section
variable {prog:Program}{w:World}{K:Addr->Option Obj}{O:Fx}{A:Around}{s:Shared}{mg mb:Str->Option Value}
noncomputable def AH:PyData->Option PyData
|.str x=>if x.length≤lim∧(spaceWords x (x.length+1)).length≤lim∧(Txt.words x).all PyData.strOk=true then some (.list ((Txt.words x).map .str))else none
|_=>none
theorem acO{d r:PyData}{C:Prop}(q:AH d=some r)(k:∀x:Str,d=.str x->x.length≤lim->(spaceWords x (x.length+1)).length≤lim->(Txt.words x).all PyData.strOk=true->.list ((Txt.words x).map .str)=r->C):C:=by
 cases d with
|str x=>exact d8 (show(if x.length≤lim∧(spaceWords x (x.length+1)).length≤lim∧(Txt.words x).all PyData.strOk=true then some (PyData.list ((Txt.words x).map .str))else none)=some r from q) λh e=>k x rfl h.1 h.2.1 h.2.2 e
|_=>exact ar q
theorem aa5(ra:RD s.heap v (.str x) as)(h1:x.length≤lim)(h2:(spaceWords x (x.length+1)).length≤lim)(h3:(Txt.words x).all PyData.strOk=true)(e:.list ((Txt.words x).map .str)=r) :
  wpAny (model prog w) A (call (.builtin "str.split") [v]) (bO s r P) a8 s:=by
 refine cps λ_ KK=>?_
 obtain⟨t,e1,_,hx⟩:=ra.fQ
 refine KK ?_
 refine e1.symm▸e▸?_
 refine call_meets F.slot_str_split (typeIs_str _ _ _) F.entry_str_split (F.args_str_split_1 _) (meets_str_split_space x t (aa h1 tz) (aa h2 tz)) ?_
 unfold Txt.words at h3 ⊢
 by_cases hw:(spaceWords x (x.length+1)==[(0,x.length)])=true
 ·rw[if_pos hw]
  rw[if_pos hw]
  exact bO.newList (.cons (.str _ _ hx) .nil)
 ·rw[if_neg hw]
  rw[if_neg hw]at h3 ⊢
  exact bO.newList (bz.strsFrom _ _ h3)
theorem bV.split0{o:Expr}{apos pos:Pos}{Fo:EF}(ho:Ev prog w K O o Fo)(mc:MC O.env o "split" apos [] pos) :
  bV prog w K O (.Call (.Attribute o "split" apos) [] [] pos) (aN Fo (im AH)):=.mk λA ρ Z σ s d ai Rm R q=>by
 obtain⟨pl,mc⟩:=mc
 refine MethodCall_ (ho.then Rm R q λa va h1 aD s_1 e1 aO b3 aP=>Ky e1 λx hx hd hh=>acO hd λy hy l1 l2 l3 er=>?_) mc
 refine(jA aP.hr b3 hx).elim λas ra=>?_
 replace ra:=hy▸ra
 exact Hr .split ra.1 rfl (callWith_method0 (bq (aa5 ra.1 l1 l2 l3 er) (λv d4 n=>⟨_,_,λ_=>False,aO,hh▸aP.hr,n,λc hc=>hc.elim⟩) λ_ _ q=>q))
noncomputable def qh:List PyData->Option (List Int)
|[]=>some []
|d::l=>(rm d).bind λx=>(qh l).map (x::·)
theorem U1:∀{l:List PyData} {ns:List Int} {vs:List Value} {as:List Addr},qh l=some ns->bz h vs l as->IntsAre vs ns:=by
 intro l
 induction l with
|nil=>intro ns vs as e r;rw[r.mi,← bX e];exact .nil
|cons d l ih =>
  intro ns vs as e r
  cases d with
 |int x =>
   refine(Option.map_eq_some_iff.mp (show(qh l).map (x::·)=some ns from e)).elim λm q=>?_
   refine cps λ_ KK=>?_
   obtain⟨t,r',e1,_,x1⟩:=k9 r
   refine KK ?_
   refine e1.symm▸q.2▸?_
   exact .cons _ _ (ih q.1 x1)
 |_=>exact ar e
noncomputable def uY:PyData->PyData->Option PyData
|.list l,.int k=>(qh l).map λis=>.int (is.count k:Nat)
|_,_=>none
theorem Wn{d e r:PyData}{C:Prop}(q:uY d e=some r)(k:∀l k is,d=.list l->e=.int k->qh l=some is->.int (is.count k:Nat)=r->C):C:=by
 cases d with
|list l=>cases e with
 |int n=>exact(Option.map_eq_some_iff.mp (show(qh l).map (λis=>PyData.int (is.count n:Nat))=some r from q)).elim λis h=>k l n is rfl rfl h.1 h.2
 |_=>exact ar q
|_=>exact ar q
noncomputable def Kn:PyData->Bool
|.list _=>true
|_=>false
noncomputable def Br(Fo Fe:EF):NF:=aN Fo λa=>match a with
|.dat d=>if Kn d then aN Fe λb=>ev uY (.dat d) b else λ_=>none
|_=>λ_=>none
theorem Zy{Fe:EF}{a:PV}{σ:St}{r:PyData×List MO}{C:Prop}(q:(match a with|.dat d=>if Kn d then aN Fe λb=>ev uY (.dat d) b else λ_=>none|_=>λ_=>none:NF) σ=some r)
  (k:∀l,a=.dat (.list l)->aN Fe (λb=>ev uY (.dat (.list l)) b) σ=some r->C):C:=by
 cases a with
|dat d=>cases d with
 |list l=>exact k l rfl q
 |_=>exact ar q
|_=>exact ar q
theorem bV.Su{o e:Expr}{apos pos:Pos}{Fo Fe:EF}(ho:Ev prog w K O o Fo)(he:Ev prog w K O e Fe)(mc:MC O.env o "count" apos [e] pos)(hs:autoParam (∀env,starEach [e] env=[(false,eval e env)]) sI) :
  bV prog w K O (.Call (.Attribute o "count" apos) [e] [] pos) (Br Fo Fe):=.mk λA ρ Z σ s d ai Rm R q=>by
 obtain⟨pl,mc⟩:=mc
 refine MethodCall_ (ho.then Rm R q λa va h1 aD s_1 e1 aO b3 aP=>Zy e1 λl ha e1=>?_) mc
 replace b3:=ha▸b3
 refine cps λ_ KK=>?_
 obtain⟨as,ra,qa⟩:=id b3
 obtain⟨r,vs,n,bs,hv,_,hA,_,h6⟩:=ra.j8
 refine KK ?_
 subst hv
 exact FE PySem.F.slot_list_count PySem.F.type_list_count hA rfl rfl (callWith_method1 (wpAny_items_cons (he.then Rm aP e1 λb vb h2 eA bn e2 ct gQ cw=>wpAny_items_nil (BA e2 λx y hx hy i0 hh=>Wn i0 λl' k is hl hk hi hr=>by
  refine(VR.ext (Z:=Z) ct (λ_ h=>bT h) b3).elim λjb Go=>(jA cw.hr gQ hy).elim λbs rb=>?_
  replace hx:=bX hx
  have rk:RD bn.heap vb (.int k) bs:=hk▸rb.1
  have rl:RD bn.heap (.ref r) (.list l') jb:=hl▸hx▸Go.1
  refine cps λ_ KK=>?_
  obtain⟨t,et⟩:=rk.KM
  obtain⟨r',Zb,n',uD,Yv,_,XY,_,UD⟩:=rl.j8
  refine KK ?_
  cases Yv
  refine et.symm▸?_
  exact count_list_ints (vs:=Zb.toList) ⟨_,XY,rfl,n',rfl⟩ (U1 hi UD) ⟨_,_,λ_=>False,aO.trans ct,hh▸cw.hr,hr▸bO.val (.int _ _),λc hc=>hc.elim⟩)) (hs _)) (hs _) rfl)
theorem Qw(a b c):checkTypeCall "range" ⟨[a,b,c],[]⟩=pure ():=by kernel_rfl
theorem Q8(a b c):checkBuiltinCall "range.__new__" ⟨[.type "range",a,b,c],[]⟩=pure ():=by kernel_rfl
theorem QV(obj a b c):argsOk "object.__init__" ⟨[obj,a,b,c],[]⟩:=by
 unfold argsOk;rw[signature?_of (id:="object.__init__") (n:=['_','_','t','i','n','i','_','_']) (o:=['t','c','e','j','b','o']) (by kernel_rfl) PySem.F.owner_object];kernel_rfl
theorem ZC(h0:c≠0)(h1:c.natAbs < 2 ^ 60)
  (h:Q (.ref s.heap.objs.size) {s with heap:=s.heap.push {cls:=.type "range",data:=.fields #[.int a t,.int b u,.int c v]},toks:=s.toks}) :
  wpAny (model prog w) A (call (.type "range") [.int a t,.int b u,.int c v]) Q a8 s :=
 callType_new F.called_range (by decide) (Qw _ _ _) (Q8 _ _ _) (λobj=>QV obj _ _ _) F.entry_range_new
  (AutoRange.range___new___type_int_int_int_1 a b c t u v F.called_range.sub (by simpa using h0)) ⟨Pz h1,⟨_,aX _ rfl,rfl⟩,h⟩
noncomputable def TO(a b c:Int)(hp:List MO):Option ((IS×Nat)×List MO) :=
 if c≠0∧Builtin.Range.small a b c=true∧c.natAbs < 2 ^ 60∧0≤Builtin.Range.rangeSize a b c then some ((.rem (ew a c (Builtin.Range.rangeSize a b c).toNat),(Builtin.Range.rangeSize a b c).toNat+1),hp)else none
noncomputable def nu(G:LF):SF:=λσ=>match G σ with
|some (ps,hp)=>match fV ps with
 |some [.int a,.int b,.int c]=>TO a b c hp
 |_=>none
|none=>none
theorem SZ{G:LF}{σ:St}{is:IS}{n:Nat}{ai:List MO}{C:Prop}(q:nu G σ=some ((is,n),ai))(k:∀ps a b c,G σ=some (ps,ai)->fV ps=some [.int a,.int b,.int c]->c≠0∧Builtin.Range.small a b c=true∧c.natAbs < 2 ^ 60∧0≤Builtin.Range.rangeSize a b c->.rem (ew a c (Builtin.Range.rangeSize a b c).toNat)=is->C):C:=by
 unfold nu at q
 cases h:G σ with
|none=>rw[h]at q;exact ar q
|some x =>
  obtain⟨ps,hp⟩:=x
  replace q:=h▸q
  dsimp only at q
  cases h2:fV ps with
 |none=>rw[h2]at q;exact ar q
 |some ds =>
   replace q:=h2▸q
   cases ds with
  |nil=>exact ar q
  |cons d ds=>cases d with
   |int a=>cases ds with
    |nil=>exact ar q
    |cons d ds=>cases d with
     |int b=>cases ds with
      |nil=>exact ar q
      |cons d ds=>cases d with
       |int c=>cases ds with
        |nil=>exact d8 (show(if c≠0∧Builtin.Range.small a b c=true∧c.natAbs < 2 ^ 60∧0≤Builtin.Range.rangeSize a b c then some ((IS.rem (ew a c (Builtin.Range.rangeSize a b c).toNat),(Builtin.Range.rangeSize a b c).toNat+1),hp)else none)=_ from q) λhc e=>k ps a b c (((a5 e).2)▸h) h2 hc (a5 (a5 e).1).1
        |cons _ _=>exact ar q
       |_=>exact ar q
     |_=>exact ar q
   |_=>exact ar q
variable {tg:Expr}
theorem dQ.abx(ht:iR tg)(hh:A.handled=none)
  (aO:Ext [] ρ s aD s_1) (cg:HR aD Z ai s_1.heap) (hr:IsRange s_1.heap r a b c t u v) (xO:Builtin.Range.small a b c=true) (h0:0≤Builtin.Range.rangeSize a b c) :
  wpAny (model prog w) A (pyIter (.ref r)) (dQ prog w A tg stepI ρ Z s (.rem (ew a c (Builtin.Range.rangeSize a b c).toNat)) ai) a8 s_1:=by
 have hn:(((Builtin.Range.rangeSize a b c).toNat:Nat):Int)=Builtin.Range.rangeSize a b c:=Int.toNat_of_nonneg h0
 have fr:s_1.heap.get? s_1.heap.objs.size=none:=aK (am _)
 have live:∀(i:Nat) (h:Heap),IsRangeIter h s_1.heap.objs.size (a+(i:Nat)*c) (((Builtin.Range.rangeSize a b c).toNat:Int) - (i:Nat)) c->∀b∈[s_1.heap.objs.size],∃o,h.get? b=some o:=λi h e=>all1 ⟨_,e⟩
 refine wpAny_pyIter_range hr xO (dQ.vi (fp:=[s_1.heap.objs.size]) (wr:=[s_1.heap.objs.size]) (fd:=[]) (n:=(Builtin.Range.rangeSize a b c).toNat) (Sx:=λi h'=>IsRangeIter h' s_1.heap.objs.size (a+(i:Nat)*c) (((Builtin.Range.rangeSize a b c).toNat:Int) - (i:Nat)) c)
  aO cg (λb o e=>ao _ e) (all1 fr) live (λb hb=>hb) ?_ (λb hb=>bT hb) (all1 (.inl fr))
  (Iter.walks (Walks.range hh _ a c _) (iz _ _ _) live (λi v d h hv hd k=>hv.elim λt e=>⟨[],e.symm▸(tv _ _ _ i hd).symm▸.int _ _,λ_ h=>bT h⟩) λi s v Q h hQ=>ua ht h rfl (by decide) hQ))
 have:=aX s_1.heap (o:={cls:=.type "range_iterator",data:=.fields #[rawInt a,rawInt (Builtin.Range.rangeSize a b c),rawInt c]}) rfl
 simpa[hn]using this
theorem eT.PY(gl:Gl K mg mb)(ht:iR tg){e:Expr}{es:List Expr}{pos np:Pos}{G:LF}(he:fb prog w K O (e::es) G)(hk:O.sc.names.lookup ("range":Str)=some .globalImplicit)(hg:mg "range"=none)(hb:mb "range"=some (.type "range"))
  (hs:autoParam (∀env,starEach (e::es) env=(false,eval e env)::starEach es env) sI) (hp:autoParam (∀env,(backTo pos (starEach es env)).any (·.1)=false) sI) :
  eT prog w K O (.Call (.Name "range" np) (e::es) [] pos) tg stepI (nu G):=.mk λA ρ Z σ s is n ai Rm R q =>
 SZ q λps a b c e1 e2 hc h1=>h1▸Call_ (l9 gl R hk (.inr ⟨hg,hb⟩) (tX (.inr ⟨_,rfl⟩) (bq (he.run pos A ρ Z σ s _ _ Rm R e1) (λvs s_1 P=>P.elim λaD P=>(AE P.2.1 e2).elim λas r=>by
  refine cps λ_ KK=>?_
  obtain⟨t1,r1,f1,_,x1⟩:=k9 r.1
  obtain⟨t2,r2,f2,_,x2⟩:=k9 x1
  obtain⟨t3,r3,f3,_,x3⟩:=k9 x2
  refine KK ?_
  refine f1.symm▸f2.symm▸f3.symm▸x3.mi.symm▸?_
  exact ZC hc.1 hc.2.2.1 (dQ.abx (s_1:={s_1 with heap:=s_1.heap.push {cls:=.type "range",data:=.fields #[.int a t1,.int b t2,.int c t3]},toks:=s_1.toks}) ht Rm.handled (P.1.trans (Ext.of_keep λb o e=>ao _ e)) (P.2.2.keep λb o e=>ao _ e) (IsRange.new _ _ _ _ _ _ _) hc.2.1 hc.2.2.2)) λ_ _ q=>q) (hs _) (hp _)) (by decide))
end
end Mine
end
section
open PySem PySem.Calls PySem.W PyProof.Rows
namespace Mine
noncomputable def ta(G:cV):cV:=λps hp=>match G ps hp with
|some (.obj i,ai)=>match ai[i]? with
 |some (.lst d)=>if hp.length≤i∧(ai.take hp.length).all (MO.closed hp.length)=true∧hp.length≤ai.length then some (.dat (.list d),ai.take hp.length)else none
 |_=>none
|_=>none
theorem RJ{G:cV}{ps:List PV}{hp ai:List MO}{pv:PV}{C:Prop}(e:ta G ps hp=some (pv,ai))(k:∀i hp1 d,G ps hp=some (.obj i,hp1)->hp1[i]?=some (.lst d)->hp.length≤i->(hp1.take hp.length).all (MO.closed hp.length)=true->hp.length≤hp1.length->.dat (.list d)=pv->hp1.take hp.length=ai->C):C:=by
 unfold ta at e
 cases h:G ps hp with
|none=>rw[h]at e;exact ar e
|some x =>
  rw[h]at e
  obtain⟨u,hp1⟩:=x
  cases u with
 |obj i =>
   replace e:(match hp1[i]? with|some (.lst d)=>if hp.length≤i∧(hp1.take hp.length).all (MO.closed hp.length)=true∧hp.length≤hp1.length then some (PV.dat (.list d),hp1.take hp.length)else none|_=>none)=some (pv,ai):=e
   cases hm:hp1[i]? with
  |none=>rw[hm]at e;exact ar e
  |some mo =>
    rw[hm]at e
    cases mo with
   |lst d=>exact d8 (show(if hp.length≤i∧(hp1.take hp.length).all (MO.closed hp.length)=true∧hp.length≤hp1.length then some (PV.dat (.list d),hp1.take hp.length)else none)=_ from e) λhc e=>k i hp1 d h hm hc.1 hc.2.1 hc.2.2 (a5 e).1 (a5 e).2
   |_=>exact ar e
 |_=>exact ar e
section
variable {prog:Program}{w:World}{K:Addr->Option Obj}
theorem cE.Vm{ρ:aJ}{Z:List Addr}{s s':Shared}{i:Nat}{d:List PyData}{hp hp1:List MO}{v:Value}(hn:ρ.length=hp.length)(p:cE ρ Z s (.obj i) hp1 v s')(hm:hp1[i]?=some (.lst d))(hi:hp.length≤i)(c2:(hp1.take hp.length).all (MO.closed hp.length)=true)(c3:hp.length≤hp1.length):cE ρ Z s (.dat (.list d)) (hp1.take hp.length) v s':=by
 refine cps λ_ KK=>?_
 obtain⟨aA,x,V,H⟩:=p
 obtain⟨e',he,_⟩:=x.more
 obtain⟨r,y,hx,hv⟩:=V
 refine KK ?_
 subst he
 refine cps λ_ KK=>?_
 obtain⟨UE,o,ws,m,bs,ho,h1,h2,h3,h4,rs,qb⟩:=H.lst hm hx
 refine KK ?_
 have wG:y∈bF e':=by
  rw[List.getElem?_append_right (hn▸hi)]at hx
  exact List.mem_map_of_mem (f:=Prod.snd) (aT hx)
 have nd:=List.nodup_append.mp (n5 ρ e'▸H.nodup)
 have Y5:y∉bF ρ:=λq=>nd.2.2 y q y wG rfl
 have Y9:y∉Z:=H.fZ y (n5 ρ e'▸af _ wG)
 rw[← hn]at c2 c3 ⊢
 rw[hv,UE]
 exact⟨ρ,x.forget,⟨y::bs,.list ho h1 h2 h3 h4 rs,λb hb=>(aI hb).elim (λq=>q▸⟨Y5,Y9⟩) λha=>⟨wD (qb b ha).1,(qb b ha).2⟩⟩,
  HR.forget (ai:=hp1.drop ρ.length) ((congrArg (λl=>HR (ρ++e') Z l s'.heap) (List.take_append_drop ρ.length hp1)).mpr H) (by rw[List.length_take];exact(Nat.min_eq_left c3).symm) λi mo r b hi hm=>hm.forget (bj c2 mo (aT hi))⟩
theorem dM.Rg{a:Addr}{k:Nat}{G:cV}(h:dM prog w K a k G):dM prog w K a k (ta G):=.mk λA ρ Z hp s ps vs pv ai Rm H top off V q=>RJ q λi hp1 d e1 hm hi c2 c3 oB oh =>
 codeAny_mono (h.run A ρ Z hp s ps vs _ _ Rm H top off V e1) λr s' p=>p.elim λv e p=>by
  refine e.symm▸?_
  exact oB▸oh▸cE.Vm H.len p hm hi c2 c3
end
theorem rH{f:FuncData}{a:Str}(k:∀v,bindArgs f ⟨[v],[]⟩=pure [(a,v)])(vs:List Value)(h:vs.length=[a].length):bindArgs f ⟨vs,[]⟩=pure ([a].zip vs):=(List.length_eq_one_iff.mp h).elim λv e=>e▸k v
theorem sz{f:FuncData}{a b:Str}(k:∀v w,bindArgs f ⟨[v,w],[]⟩=pure [(a,v),(b,w)])(vs:List Value)(h:vs.length=[a,b].length):bindArgs f ⟨vs,[]⟩=pure ([a,b].zip vs):=(List.exists_cons_of_length_eq_add_one h).elim λv q=>q.elim λt e=>(List.length_eq_one_iff.mp (Nat.succ.inj ((congrArg List.length e).symm.trans h))).elim λw e'=>e▸e'▸k v w
theorem jh(h:autoParam (fastLookup "object" n=some none) sK):typeLookup (.type "object") n=pure none:=by
 rw[typeLookup_type,builtinLookup_eq_fast,h]
theorem we:∀j,j≤9->typeLookup (.type "object") (an j)=pure none:=EO jh jh jh jh jh jh jh jh jh jh
noncomputable def jZ(hp:List MO):Nat:=(hp.map λm=>match m with
|.lst l=>l.length
|_=>0).sum+2
noncomputable def Ka:Nat->Pos:=λi=>([⟨64,11,64,17⟩,⟨65,19,65,22⟩,⟨65,24,65,28⟩,⟨65,31,65,33⟩,⟨65,24,65,33⟩,⟨65,18,65,34⟩,⟨65,12,65,34⟩,⟨65,12,65,34⟩,⟨66,12,66,18⟩,⟨66,21,66,26⟩,⟨66,12,66,26⟩,⟨67,13,67,15⟩,⟨67,19,67,23⟩,⟨67,13,67,23⟩,⟨68,12,68,18⟩,⟨68,21,68,25⟩,⟨68,12,68,25⟩,⟨70,19,70,22⟩,⟨70,24,70,26⟩,⟨70,18,70,27⟩,⟨70,12,70,27⟩,⟨70,12,70,27⟩,⟨67,8,70,27⟩,⟨64,8,70,27⟩,⟨63,8,63,11⟩,⟨63,13,63,15⟩,⟨63,8,63,15⟩,⟨63,19,63,28⟩,⟨63,29,63,33⟩,⟨63,19,63,34⟩,⟨63,4,70,27⟩,⟨71,7,71,13⟩,⟨72,15,72,18⟩,⟨72,20,72,24⟩,⟨72,14,72,25⟩,⟨72,8,72,25⟩,⟨72,8,72,25⟩,⟨71,4,72,25⟩,⟨61,4,61,7⟩,⟨61,10,61,11⟩,⟨61,4,61,11⟩,⟨62,4,62,10⟩,⟨62,13,62,18⟩,⟨62,4,62,18⟩]:List Pos)[i]?.getD ⟨0,0,0,0⟩
abbrev mj(s:Stmt)(a:Addr)(vs:List (Nat×Str))(k:Nat):={B:XF//∀{prog:Program} {w:World} {K:Addr->Option Obj} {mg mb:Str->Option Value},Tab K mg mb->∀q pm c doc L,a6 prog w K (fS (fdOf s q pm c doc) a vs k L) (Stmt.bodyOf s) B}
theorem nm{prog:Program}{w:World}{K:Addr->Option Obj}{O:Fx}(i:Nat){x:Str}{pos:Pos}(hv:autoParam (O.vars.lookup i=some x) sR)(hd:autoParam ((x==("__debug__":Str))=false) sZ)(i0:autoParam ((x==("__classdict__":Str))=false) sZ):Ev prog w K O (.Name x pos) (aj i):=.name hv hd i0
theorem sv{prog:Program}{w:World}{K:Addr->Option Obj}{O:Fx}(l:List Nat){x k pos}(hl:autoParam (x=⟨⟨l⟩⟩) sK)(ho:autoParam (PyData.strOk x=true) sK):Ev prog w K O (.Constant (.str x) k pos) (λσ=>some (.dat (.str ⟨⟨l⟩⟩),σ.hp)):=.str hl ho
theorem dw{env:Env}{o:Expr}{name:Str}{apos pos:Pos}{args:List Expr}(h:autoParam ((apos.endLine==pos.line)=true) sK)(hf:autoParam (methodCallForm (args.length+0) (backTo pos (starEach args env)) []=true) sK)(hb:autoParam (attributeBase o name env (eval o env)=eval o env) sK):MC env o name apos args pos:=.O2 h hf hb
theorem nb{a b:Nat}(h:autoParam (Nat.ble a b=true) sR):a≤b:=av h
section
variable {prog:Program}{w:World}{K:Addr->Option Obj}{mg mb:Str->Option Value}{O:Fx}{x y z attr:Str}{p p' np pos apos px py pz:Pos}{e o:Expr}{es:List Expr}{F Fo H:EF}{G:LF}{i j k:Nat}{fd:FuncData}{a L c:Addr}{vs:List (Nat×Str)}
theorem sa(i)(he:Ev prog w K O e F)(hv:autoParam (O.vars.lookup i=some x) sR)(ok:autoParam (O.env.kindOf x=some .local) sK)(hs:autoParam (swapsWith e (some (.Name x p)) p'.line O.env=pure false) sK):Ex prog w K O (.Assign [.Name x p] e p') (bN F (dg i)):=.assign hv (.inl ok) he hs
theorem sc(i)(he:Ev prog w K (fS fd a vs k L) e F)(hv:autoParam (vs.lookup i=some x) sR)(hk:autoParam (fd.scope.names.lookup x=some .cell) sK)(h:autoParam ((fS fd a vs k L).env.cells.lookup x=some c) sR)(hs:autoParam (swapsWith e (some (.Name x p)) p'.line (fS fd a vs k L).env=pure false) sK):Ex prog w K (fS fd a vs k L) (.Assign [.Name x p] e p') (bN F (dg i)):=.assign hv (Ml hk h) he hs
theorem ag(i)(he:Ev prog w K O e F)(hv:autoParam (O.vars.lookup i=some x) sR)(ok:autoParam (O.env.kindOf x=some .local) sK)(hd:autoParam ((x==("__debug__":Str))=false) sZ)(i0:autoParam ((x==("__classdict__":Str))=false) sZ):Ex prog w K O (.AugAssign (.Name x p) op e p') (jr i op F):=.aug hv (.inl ok) he hd i0
theorem xe(he:Ev prog w K O e F)(hi:autoParam (interactive O.env=false) sK)(hs:autoParam (swapsWith e none p.line O.env=pure false) sK):Ex prog w K O (.Expr e p) (bN F λpv σ=>match pv with|.dat .none=>some (.next,σ)|_=>none):=.expr he hi hs
theorem gb(i)(hv:autoParam (O.vars.lookup i=some x) sR)(ok:autoParam (O.env.kindOf x=some .local) sK):As prog w K O (.Name x p) (cr i):=.name hv (.inl ok)
theorem yn(i j)(hi:autoParam (O.vars.lookup i=some x) sR)(oi:autoParam (O.env.kindOf x=some .local) sK)(hj:autoParam (O.vars.lookup j=some y) sR)(oj:autoParam (O.env.kindOf y=some .local) sK):As prog w K O (.Tuple [.Name x px,.Name y py] m p) (jp i j):=.Ox hi (.inl oi) hj (.inl oj)
theorem sM(i j k)(hi:autoParam (O.vars.lookup i=some x) sR)(oi:autoParam (O.env.kindOf x=some .local) sK)(hj:autoParam (O.vars.lookup j=some y) sR)(oj:autoParam (O.env.kindOf y=some .local) sK)(hk:autoParam (O.vars.lookup k=some z) sR)(ok:autoParam (O.env.kindOf z=some .local) sK):As prog w K O (.Tuple [.Name x px,.Name y py,.Name z pz] m p) (mz i j k):=.QN hi (.inl oi) hj (.inl oj) hk (.inl ok)
theorem rg(T:Tab K mg mb)(he:fb prog w K O (e::es) G)(hk:autoParam (O.sc.names.lookup ("range":Str)=some .globalImplicit) sK)(hs:autoParam (∀env,starEach (e::es) env=(false,eval e env)::starEach es env) sI)(hp:autoParam (∀env,(backTo pos (starEach es env)).any (·.1)=false) sI):eT prog w K O (.Call (.Name "range" np) (e::es) [] pos) (.Name x p) stepI (fE G):=.range T.gl (.inl ⟨_,_,rfl⟩) he hk T.DL T.Ct hs hp
theorem KS(T:Tab K mg mb)(he:fb prog w K O (e::es) G)(hk:autoParam (O.sc.names.lookup ("range":Str)=some .globalImplicit) sK)(hs:autoParam (∀env,starEach (e::es) env=(false,eval e env)::starEach es env) sI)(hp:autoParam (∀env,(backTo pos (starEach es env)).any (·.1)=false) sI):eT prog w K O (.Call (.Name "range" np) (e::es) [] pos) (.Name x p) stepI (nu G):=.PY T.gl (.inl ⟨_,_,rfl⟩) he hk T.DL T.Ct hs hp
theorem sq(he:Ev prog w K O e F):eT prog w K O e (.Name x p) stepI (ej F):=.seq (.inl ⟨_,_,rfl⟩) he
theorem sB(he:Ev prog w K O e F):eT prog w K O e (.Tuple es k p) stepI (ej F):=.seq (.inr ⟨_,_,_,rfl⟩) he
theorem tc(hl:Ev prog w K O o Fo)(hr:Ev prog w K O e F)(hk:autoParam (Nat.ble 1 O.k=true) sR)(hm:autoParam (behindInMarks op e=false) sR):Tr prog w K O (.Compare o [op] [e] pos) (aN Fo λa=>aN F λb=>qL op a b):=.cmp hl hr (nb hk) hm
theorem cm(hl:Ev prog w K O o Fo)(hr:Ev prog w K O e F)(hk:autoParam (Nat.ble 1 O.k=true) sR)(hm:autoParam (behindInMarks op e=false) sR):Ev prog w K O (.Compare o [op] [e] pos) (aB (aN Fo λa=>aN F λb=>ev (λx y=>(fq op x y).map .bool) a b)):=(bV.cmp hl hr (nb hk) hm).dat
theorem ln(T:Tab K mg mb)(he:Ev prog w K O e F)(hk:autoParam (O.sc.names.lookup ("len":Str)=some .globalImplicit) sK)(hs:autoParam (∀env,starEach [e] env=[(false,eval e env)]) sI):Ev prog w K O (.Call (.Name "len" np) [e] [] pos) (aB (aN F (im B1.len.f))):=(bV.vV T.gl .len he hk T.JN T.Nv hs).dat
theorem sm(T:Tab K mg mb)(he:Ev prog w K O e F)(hk:autoParam (O.sc.names.lookup ("sum":Str)=some .globalImplicit) sK)(hs:autoParam (∀env,starEach [e] env=[(false,eval e env)]) sI):Ev prog w K O (.Call (.Name "sum" np) [e] [] pos) (aB (aN F (im B1.sum.f))):=(bV.vV T.gl .sum he hk T.Ol T.J5 hs).dat
theorem it(T:Tab K mg mb)(he:Ev prog w K O e F)(hk:autoParam (O.sc.names.lookup ("int":Str)=some .globalImplicit) sK)(hs:autoParam (∀env,starEach [e] env=[(false,eval e env)]) sI):Ev prog w K O (.Call (.Name "int" np) [e] [] pos) (aB (aN F (im B1.int.f))):=(bV.vV T.gl .int he hk T.NY T.Lu hs).dat
theorem la(T:Tab K mg mb)(j)(ho:Ev prog w K O (.Name x np) Fo)(hx:autoParam (attr=an j) sK)(hj:autoParam (Nat.ble j 9=true) sR):Ev prog w K O (.Attribute (.Name x np) attr pos) (aN Fo (dS 163 j)):=.attr T.cL hx (T.aL j (nb hj)) (we j (nb hj)) ho
theorem wa(T:Tab K mg mb)(j)(ho:Ev prog w K O (.Name x np) Fo)(hx:autoParam (attr=an j) sK)(hj:autoParam (Nat.ble j 9=true) sR):Ev prog w K O (.Attribute (.Name x np) attr pos) (aN Fo (dS 100 j)):=.attr T.cW hx (T.aW j (nb hj)) (we j (nb hj)) ho
theorem ls(T:Tab K mg mb)(j)(ho:Ev prog w K O o (aj 0))(he:Ev prog w K O e F)(hx:autoParam (attr=an j) sK)(hj:autoParam (Nat.ble j 9=true) sR)(hs:autoParam (swapsWith e (some (.Attribute o attr p)) p'.line O.env=pure false) sK):Ex prog w K O (.Assign [.Attribute o attr p] e p') (nI (aj 0) F 163 j):=.setAttr T.cL hx (T.aL j (nb hj)) (we j (nb hj)) ho he hs
theorem wS(T:Tab K mg mb)(j)(ho:Ev prog w K O o (aj 0))(he:Ev prog w K O e F)(hx:autoParam (attr=an j) sK)(hj:autoParam (Nat.ble j 9=true) sR)(hs:autoParam (swapsWith e (some (.Attribute o attr p)) p'.line O.env=pure false) sK):Ex prog w K O (.Assign [.Attribute o attr p] e p') (nI (aj 0) F 100 j):=.setAttr T.cW hx (T.aW j (nb hj)) (we j (nb hj)) ho he hs
theorem ca{f:Str}{st:Stmt}{D:cV}(gl:Gl K mg mb)(A:FnAt K a st)(he:fb prog w K O (e::es) G)(hf:dM prog w K a k D)(hg:mg f=some (.ref a))(hK:autoParam (Nat.ble k O.k=true) sR)(hk:autoParam (O.sc.names.lookup f=some .globalImplicit) sK)(hd:autoParam ((f==("__debug__":Str))=false) sZ)(hs:autoParam (∀env,starEach (e::es) env=(false,eval e env)::starEach es env) sI)(hp:autoParam (∀env,(backTo pos (starEach es env)).any (·.1)=false) sI):Ev prog w K O (.Call (.Name f np) (e::es) [] pos) (j9 G D):=.aat gl A he hf (nb hK) hk hg hd hs hp
theorem e1(h:Ev prog w K O e F)(a1:autoParam (∀env,starEach [e] env=(false,eval e env)::starEach [] env) sI):fb prog w K O [e] (aM F bA):=.cons h .nil a1
theorem e2(h:Ev prog w K O e F)(g:Ev prog w K O f H)(a1:autoParam (∀env,starEach [e,f] env=(false,eval e env)::starEach [f] env) sI)(a2:autoParam (∀env,starEach [f] env=(false,eval f env)::starEach [] env) sI):fb prog w K O [e,f] (aM F (aM H bA)):=.cons h (e1 g a2) a1
theorem e3(h:Ev prog w K O e F)(g:Ev prog w K O f H)(k:Ev prog w K O o Fo)(a1:autoParam (∀env,starEach [e,f,o] env=(false,eval e env)::starEach [f,o] env) sI)(a2:autoParam (∀env,starEach [f,o] env=(false,eval f env)::starEach [o] env) sI)(a3:autoParam (∀env,starEach [o] env=(false,eval o env)::starEach [] env) sI):fb prog w K O [e,f,o] (aM F (aM H (aM Fo bA))):=.cons h (e2 g k a2 a3) a1
theorem x1(h:Ex prog w K O s X):a6 prog w K O [s] (aH X bh):=.cons h .nil
theorem bi(hl:Ev prog w K O o Fo)(hr:Ev prog w K O e F):Ev prog w K O (.BinOp o op e pos) (aB (aN Fo λa=>aN F λb=>ev (lO op) a b)):=(bV.bin hl hr).dat
theorem sb(he:Ev prog w K O o Fo)(hi:Ev prog w K O e F):Ev prog w K O (.Subscript o e pos) (aN Fo λa=>aN F λb=>itemF a b):=.sub he hi
theorem tn(L):ji prog w K (gu O s vs L) [] (λσ=>some (true,σ.hp)):=.nil
end
noncomputable def Et:mj (iq 6) 118 [(0,"addr"),(1,"start"),(2,"open_pos"),(3,"result"),(4,"pos"),(5,"ch")] 3:=⟨_,λT q pm c doc L=>(a6.cons (Ex.fR (tc (sv [34]) (nm 0))
 (x1 (Ex.ret (nm 0))) a6.nil)
 (a6.cons (sa 1 Ev.int)
 (a6.cons (sa 2 Ev.none_)
 (a6.cons (sa 3 (bV.list .nil).cf)
 (a6.cons (Ex.i6 (eT.NJ T.gl (P:=Ka) (k:=1) T.C5 rfl (λ_ _ _ _ _=>rfl) rfl rfl rfl rfl rfl rfl rfl rfl rfl T.yw T.yu nb (e1 (nm 0)) (.inr ⟨_,_,_,rfl⟩) nb rfl T.Eb) (yn 4 5)
 (x1 (Ex.fR (tc (nm 5) (sv [34]))
 (x1 (Ex.fR (tc (nm 2) Ev.none_)
 (x1 (sa 2 (nm 4)))
 (a6.cons (Ex.fR (tc (nm 1) (nm 2))
 (x1 (xe (Ev.append (nm 3) (bV.slice (nm 0) (ey.mR (nm 1)) (ey.mR (nm 2)) ey.none_).dat dw))) a6.nil)
 (a6.cons (sa 1 (bi (nm 4) Ev.int))
 (x1 (sa 2 Ev.none_)))))) a6.nil)))
 (a6.cons (Ex.fR (tc (nm 1) (ln T (nm 0)))
 (x1 (xe (Ev.append (nm 3) (bV.slice (nm 0) (ey.mR (nm 1)) ey.none_ ey.none_).dat dw))) a6.nil)
 (x1 (Ex.ret (bV.jx .join (sv []) (nm 3) dw).dat))))))))⟩
noncomputable def Cr:cV:=nL (dX 1 5 false Et.1)
theorem XK{prog:Program}{w:World}{K:Addr->Option Obj}{mg mb:Str->Option Value}(T:Tab K mg mb):dM prog w K 118 4 Cr :=
 dM.pure (T.EW.ok T.gl (names:=["addr"]) false (λq pm c doc vs h=>rH (λ_=>by kernel_rfl) vs h) rfl (Et.2 T))
noncomputable def F0:mj (iq 7) 125 [(0,"addr"),(1,"opens"),(2,"pos"),(3,"ch")] 5:=⟨_,λT q pm c doc L=>(a6.cons (sa 0 (ca T.gl T.EW (e1 (nm 0)) (XK T) T.M7))
 (a6.cons (sa 1 Ev.int)
 (a6.cons (Ex.i6 (eT.NJ T.gl (P:=Ka) (k:=1) T.C5 rfl (λ_ _ _ _ _=>rfl) rfl rfl rfl rfl rfl rfl rfl rfl rfl T.yw T.yu nb (e1 (nm 0)) (.inr ⟨_,_,_,rfl⟩) nb rfl T.Eb) (yn 2 3)
 (x1 (Ex.fR (tc (nm 3) (sv [40]))
 (x1 (ag 1 Ev.int))
 (x1 (Ex.fR (tc (nm 3) (sv [41]))
 (a6.cons (ag 1 Ev.int)
 (x1 (Ex.fR (tc (nm 1) Ev.int)
 (x1 (Ex.ret Ev.bool)) a6.nil))) a6.nil)))))
 (x1 (Ex.ret (cm (nm 1) Ev.int))))))⟩
noncomputable def vT:cV:=nL (dX 1 3 false F0.1)
theorem N4{prog:Program}{w:World}{K:Addr->Option Obj}{mg mb:Str->Option Value}(T:Tab K mg mb):dM prog w K 125 6 vT :=
 dM.pure (T.z8.ok T.gl (names:=["addr"]) false (λq pm c doc vs h=>rH (λ_=>by kernel_rfl) vs h) rfl (F0.2 T))
noncomputable def MW:mj (iq 14) 184 [(0,"data")] 2:=⟨_,λT q pm c doc L =>
 (x1 (Ex.ret (bV.I1 T.gl Rl T.Ng rfl T.L5 (sv [46,46]) (bV.I1 T.gl Si T.Oi rfl T.IO (Ev.XP T.gl (l:=[13,10]) rfl T.L7 rfl (by kernel_rfl)) (nm 0) dw).dat dw).dat))⟩
noncomputable def DE:cV:=nL (dX 1 0 false MW.1)
theorem Qu{prog:Program}{w:World}{K:Addr->Option Obj}{mg mb:Str->Option Value}(T:Tab K mg mb):dM prog w K 184 3 DE :=
 dM.pure (T.FL.ok T.gl (names:=["data"]) false (λq pm c doc vs h=>rH (λ_=>by kernel_rfl) vs h) rfl (MW.2 T))
noncomputable def OA:mj (stM 9 0) 139 [(0,"self"),(1,"fp")] 1:=⟨_,λT q pm c doc L=>(a6.cons (ls T 1 (nm 0) Ev.int)
 (a6.cons (ls T 0 (nm 0) (nm 1))
 (a6.cons (ls T 2 (nm 0) (sv [10,9,13,32]))
 (x1 (ls T 3 (nm 0) (bV.list .nil).cf)))))⟩
noncomputable def ZB:cV:=dX 2 0 true OA.1
theorem Yy{prog:Program}{w:World}{K:Addr->Option Obj}{mg mb:Str->Option Value}(T:Tab K mg mb):dM prog w K 139 2 ZB :=
 T.ER.ok T.gl (names:=["self","fp"]) true (λq pm c doc vs h=>sz (λ_ _=>by kernel_rfl) vs h) rfl (OA.2 T)
noncomputable def Gk:mj (stM 9 1) 146 [(0,"self"),(1,"ch")] 3:=⟨_,λT q pm c doc L=>(a6.cons (sa 1 (Ev.YJ T.gl (la T 0 (nm 0)) dw nb))
 (a6.cons (Ex.fR (tc (nm 1) (sv [10]))
 (x1 (Ex.Zq T.cL (j:=1) rfl (T.aL 1 nb) (we 1 nb) (nm 0) Ev.int)) a6.nil)
 (x1 (Ex.ret (nm 1)))))⟩
noncomputable def kQ:cV:=dX 1 1 false Gk.1
theorem Ap{prog:Program}{w:World}{K:Addr->Option Obj}{mg mb:Str->Option Value}(T:Tab K mg mb):dM prog w K 146 4 kQ :=
 T.sE.ok T.gl (names:=["self"]) false (λq pm c doc vs h=>rH (λ_=>by kernel_rfl) vs h) rfl (Gk.2 T)
theorem rc{prog:Program}{w:World}{K:Addr->Option Obj}{mg mb:Str->Option Value}{O:Fx}{o:Expr}{apos pos:Pos}{Fo:EF}(T:Tab K mg mb)(ho:Ev prog w K O o Fo)(mc:MC O.env o "_read_char" apos [] pos)(hK:autoParam (Nat.ble 4 O.k=true) sR):Ev prog w K O (.Call (.Attribute o "_read_char" apos) [] [] pos) (kX Fo 163 "_read_char" kQ):=.AQ T.cL T.sE T.Dl jh ho (Ap T) (nb hK) mc
noncomputable def H8:mj (stM 9 2) 153 [(0,"self"),(1,"token"),(2,"fiter"),(3,"ch")] 6:=⟨_,λT q pm c doc L=>(a6.cons (Ex.fR (Tr.val (la T 3 (nm 0)))
 (x1 (Ex.ret (Ev.ON (la T 3 (nm 0)) dw))) a6.nil)
 (a6.cons (sa 1 (sv []))
 (a6.cons (sa 2 (Ev.Tl T.gl T.cL T.sE T.Dl jh rfl (nm 0) rfl T.Ko T.MX))
 (a6.cons (Ex.i6 (eT.EG (.inl ⟨_,_,rfl⟩) (nm 2) T.sE (Ap T) nb jZ) (gb 3)
 (a6.cons (Ex.fR (tc (nm 3) (la T 2 (nm 0)))
 (x1 Ex.cont) a6.nil)
 (x1 (Ex.fR (tc (nm 3) (sv [34]))
 (x1 (Ex.i6 (eT.EG (.inl ⟨_,_,rfl⟩) (nm 2) T.sE (Ap T) nb jZ) (gb 3)
 (a6.cons (Ex.fR (tc (nm 3) (sv [34]))
 (x1 (Ex.ret (nm 1)))
 (x1 (Ex.fR (tc (nm 3) (sv [92]))
 (x1 (sa 3 (rc T (nm 0) dw))) a6.nil)))
 (x1 (ag 1 (nm 3))))))
 (a6.cons (Ex.fR (tc (nm 3) (sv [92]))
 (x1 (sa 3 (rc T (nm 0) dw))) a6.nil)
 (a6.cons (ag 1 (nm 3))
 (x1 (Ex.i6 (eT.EG (.inl ⟨_,_,rfl⟩) (nm 2) T.sE (Ap T) nb jZ) (gb 3)
 (a6.cons (Ex.fR (tc (nm 3) (la T 2 (nm 0)))
 (x1 (Ex.ret (nm 1)))
 (x1 (Ex.fR (tc (nm 3) (sv [92]))
 (x1 (sa 3 (rc T (nm 0) dw))) a6.nil)))
 (x1 (ag 1 (nm 3))))))))))))
 (x1 (Ex.ret (nm 1)))))))⟩
noncomputable def qE:cV:=dX 1 3 false H8.1
theorem RT{prog:Program}{w:World}{K:Addr->Option Obj}{mg mb:Str->Option Value}(T:Tab K mg mb):dM prog w K 153 7 qE :=
 T.Fh.ok T.gl (names:=["self"]) false (λq pm c doc vs h=>rH (λ_=>by kernel_rfl) vs h) rfl (H8.2 T)
theorem gt{prog:Program}{w:World}{K:Addr->Option Obj}{mg mb:Str->Option Value}{O:Fx}{o:Expr}{apos pos:Pos}{Fo:EF}(T:Tab K mg mb)(ho:Ev prog w K O o Fo)(mc:MC O.env o "get_token" apos [] pos)(hK:autoParam (Nat.ble 7 O.k=true) sR):Ev prog w K O (.Call (.Attribute o "get_token" apos) [] [] pos) (kX Fo 163 "get_token" qE):=.AQ T.cL T.Fh T.Kh jh ho (RT T) (nb hK) mc
noncomputable def Ei:mj (stM 9 3) 160 [(0,"self"),(1,"token")] 1:=⟨_,λT q pm c doc L =>
 (x1 (xe (Ev.append (la T 3 (nm 0)) (nm 1) dw)))⟩
noncomputable def wb:cV:=dX 2 0 false Ei.1
theorem VX{prog:Program}{w:World}{K:Addr->Option Obj}{mg mb:Str->Option Value}(T:Tab K mg mb):dM prog w K 160 2 wb :=
 T.DX.ok T.gl (names:=["self","token"]) false (λq pm c doc vs h=>sz (λ_ _=>by kernel_rfl) vs h) rfl (Ei.2 T)
theorem pt{prog:Program}{w:World}{K:Addr->Option Obj}{mg mb:Str->Option Value}{O:Fx}{o e:Expr}{apos pos:Pos}{Fo F:EF}(T:Tab K mg mb)(ho:Ev prog w K O o Fo)(he:Ev prog w K O e F)(mc:MC O.env o "push_token" apos [e] pos)(hK:autoParam (Nat.ble 2 O.k=true) sR)(hs:autoParam (∀env,starEach [e] env=[(false,eval e env)]) sI):Ev prog w K O (.Call (.Attribute o "push_token" apos) [e] [] pos) (lS Fo 163 "push_token" (aM F bA) wb):=.C3 T.cL T.DX T.HD jh ho (e1 he hs) (VX T) (nb hK) mc hs
noncomputable def aaf:Nat->Pos:=λi=>([⟨157,31,157,36⟩,⟨157,15,157,20⟩,⟨157,15,157,24⟩,⟨157,25,157,26⟩,⟨157,15,157,27⟩,⟨157,42,157,44⟩,⟨157,15,157,44⟩,⟨157,8,157,44⟩]:List Pos)[i]?.getD ⟨0,0,0,0⟩
theorem YY{vs:List (Nat×Str)}{x:Str}(h:vs.all (λp=>p.2 != x)=true):∀i,vs.lookup i≠some x:=λi e=>by
 have:=bj h _ (lookup_mem e)
 simp at this
noncomputable def Ep:{B:XF//∀{prog:Program} {w:World} {K:Addr->Option Obj} {mg mb:Str->Option Value},Tab K mg mb->∀q pm doc L,oq prog w K (fS (fdOf (iq 16) q pm (.ref 190) doc) 191 [(0,"text"),(1,"signs"),(2,"stream")] 5 L) (Stmt.bodyOf (iq 16)) B}:=⟨_,λT q pm doc L =>
 oq.cons (sc 1 (bV.vV T.gl .list (nm 0) rfl T.O8 T.OS).cf)
 (oq.stream T.gl (iS:=1) (iT:=2) (tb:=0) (P0:=186) (c0:=190) (cS:=L+1) (P:=aaf) rfl rfl (YY rfl) rfl rfl rfl rfl rfl
 (by
  have h:(fS (fdOf (iq 16) q pm (.ref 190) doc) 191 [(0,"text"),(1,"signs"),(2,"stream")] 5 L).own=[L,L+1]:=by kernel_rfl
  rw[h];simp) T.hC T.hB (by decide)
 (x1 (Ex.ret (Ev.N0 T.gl T.cL T.ER T.Jo (e1 (nm 2)) (Yy T) nb rfl T.Ia)))
 (λ_=>by kernel_rfl) rfl rfl rfl rfl)⟩
noncomputable def FK:cV:=dX 1 2 true Ep.1
theorem Ri{prog:Program}{w:World}{K:Addr->Option Obj}{mg mb:Str->Option Value}(T:Tab K mg mb):dM prog w K 191 6 FK:=by
 obtain⟨o,q,pm,doc,h1,h2,h3,h4⟩:=T.Ld
 exact dM.MB (names:=["text"]) true T.gl h1 h3 rfl h4 (λvs h=>rH (λ_=>by kernel_rfl) vs h) rfl rfl rfl rfl (Ep.2 T q pm doc)
noncomputable def Je:mj (stM 3 1) 55 [(0,"self"),(1,"ws"),(2,"S"),(3,"T"),(4,"count"),(5,"b"),(6,"n"),(7,"nt"),(8,"ch")] 3:=⟨_,λT q pm c doc L=>(a6.cons (wS T 4 (nm 0) (nm 1))
 (a6.cons (Ex.EL (ts:=[(2,"S",_),(3,"T",_)]) (λ_=>⟨rfl,(.inl rfl),⟨rfl,(.inl rfl),True.intro⟩⟩) (e2 (Ev.Jd T.gl (l:=[32]) T.cX T.cR T.Pf rfl (by kernel_rfl) rfl T.Ce) (Ev.Jd T.gl (l:=[9]) T.cX T.cR T.O0 rfl (by kernel_rfl) rfl T.Ce)) rfl rfl)
 (a6.cons (sa 4 (bV.list .nil).cf)
 (a6.cons (Ex.Tk (i:=5) (j:=6) (k:=7) rfl (.inl rfl) rfl (.inl rfl) rfl (.inl rfl) Ev.int)
 (a6.cons (Ex.i6 (sq (wa T 4 (nm 0))) (gb 8)
 (x1 (Ex.fR (tc (nm 8) (nm 2))
 (a6.cons (sa 6 (bi (nm 6) Ev.int))
 (x1 (sa 5 (bi (nm 5) Ev.int))))
 (x1 (Ex.fR (tc (nm 8) (nm 3))
 (a6.cons (sa 6 (bi (nm 6) Ev.int))
 (a6.cons (sa 7 (bi (nm 7) Ev.int))
 (a6.cons (Ex.fR (tc (nm 5) (ln T (nm 4)))
 (x1 (sa 4 (bV.bin (nm 4) (bi (bV.list (e1 Ev.int)).dat (bi (bi (nm 5) (ln T (nm 4))) Ev.int))).cf)) a6.nil)
 (a6.cons (Ex.setItem (bi (sb (nm 4) (nm 5)) Ev.int) (nm 4) (nm 5) rfl)
 (x1 (sa 5 Ev.int))))))
 (x1 Ex.brk))))))
 (a6.cons (wS T 5 (nm 0) (nm 6))
 (a6.cons (wS T 6 (nm 0) (nm 7))
 (a6.cons (wS T 7 (nm 0) (bV.tuple (e2 (bV.vV T.gl .tuple (nm 4) rfl T.Os T.Ma).dat (nm 5))).dat)
 (x1 (wS T 8 (nm 0) (cm (ln T (nm 4)) Ev.int)))))))))))⟩
noncomputable def zc:cV:=dX 2 7 false Je.1
theorem UU{prog:Program}{w:World}{K:Addr->Option Obj}{mg mb:Str->Option Value}(T:Tab K mg mb):dM prog w K 55 4 zc :=
 T.FA.ok T.gl (names:=["self","ws"]) false (λq pm c doc vs h=>sz (λ_ _=>by kernel_rfl) vs h) rfl (Je.2 T)
noncomputable def LU:mj (stM 3 2) 62 [(0,"self"),(1,"count"),(2,"trailing")] 3:=⟨_,λT q pm c doc L=>(a6.cons (Ex.HW (yn 1 2) (wa T 7 (nm 0)) rfl rfl)
 (x1 (Ex.ret (bV.mm T.gl .mx (e2 (bi (ln T (nm 1)) Ev.int) (nm 2)) rfl T.A0 T.y7).dat)))⟩
noncomputable def wV:cV:=dX 1 2 false LU.1
theorem Ih{prog:Program}{w:World}{K:Addr->Option Obj}{mg mb:Str->Option Value}(T:Tab K mg mb):dM prog w K 62 4 wV :=
 T.BG.ok T.gl (names:=["self"]) false (λq pm c doc vs h=>rH (λ_=>by kernel_rfl) vs h) rfl (LU.2 T)
noncomputable def Hu:mj (stM 3 3) 69 [(0,"self"),(1,"tabsize"),(2,"count"),(3,"trailing"),(4,"il"),(5,"i")] 3:=⟨_,λT q pm c doc L=>(a6.cons (Ex.HW (yn 2 3) (wa T 7 (nm 0)) rfl rfl)
 (a6.cons (sa 4 Ev.int)
 (a6.cons (Ex.i6 (rg T (e2 (nm 1) (ln T (nm 2)))) (gb 5)
 (x1 (sa 4 (bi (nm 4) (bi (bi (nm 5) (nm 1)) (sb (nm 2) (nm 5)))))))
 (x1 (Ex.ret (bi (nm 3) (bi (nm 1) (bi (nm 4) (wa T 6 (nm 0))))))))))⟩
noncomputable def uh:cV:=dX 2 4 false Hu.1
theorem Rv{prog:Program}{w:World}{K:Addr->Option Obj}{mg mb:Str->Option Value}(T:Tab K mg mb):dM prog w K 69 4 uh :=
 T.GR.ok T.gl (names:=["self","tabsize"]) false (λq pm c doc vs h=>sz (λ_ _=>by kernel_rfl) vs h) rfl (Hu.2 T)
theorem il{prog:Program}{w:World}{K:Addr->Option Obj}{mg mb:Str->Option Value}{O:Fx}{o e:Expr}{apos pos:Pos}{Fo F:EF}(T:Tab K mg mb)(ho:Ev prog w K O o Fo)(he:Ev prog w K O e F)(mc:MC O.env o "indent_level" apos [e] pos)(hK:autoParam (Nat.ble 4 O.k=true) sR)(hs:autoParam (∀env,starEach [e] env=[(false,eval e env)]) sI):Ev prog w K O (.Call (.Attribute o "indent_level" apos) [e] [] pos) (lS Fo 100 "indent_level" (aM F bA) uh):=.C3 T.cW T.GR T.Nq jh ho (e1 he hs) (Rv T) (nb hK) mc hs
noncomputable def Ix:mj (stM 3 5) 83 [(0,"self"),(1,"other"),(2,"n"),(3,"a"),(4,"ts")] 5:=⟨_,λT q pm c doc L=>(a6.cons (sa 2 (bi (bV.mm T.gl .mx (e2 (Ev.AQ T.cW T.BG T.EX jh (nm 0) (Ih T) nb dw) (Ev.AQ T.cW T.BG T.EX jh (nm 1) (Ih T) nb dw)) rfl T.A0 T.y7).dat Ev.int))
 (a6.cons (sa 3 (bV.list .nil).cf)
 (a6.cons (Ex.i6 (rg T (e2 Ev.int (bi (nm 2) Ev.int))) (gb 4)
 (x1 (Ex.fR (tc (il T (nm 0) (nm 4) dw) (il T (nm 1) (nm 4) dw))
 (x1 (xe (Ev.append (nm 3) (bV.tuple (e3 (nm 4) (il T (nm 0) (nm 4) dw) (il T (nm 1) (nm 4) dw))).dat dw))) a6.nil)))
 (x1 (Ex.ret (nm 3))))))⟩
noncomputable def xF:cV:=ta (dX 2 3 true Ix.1)
theorem PH{prog:Program}{w:World}{K:Addr->Option Obj}{mg mb:Str->Option Value}(T:Tab K mg mb):dM prog w K 83 6 xF :=
 dM.Rg (T.D5.ok T.gl (names:=["self","other"]) true (λq pm c doc vs h=>sz (λ_ _=>by kernel_rfl) vs h) rfl (Ix.2 T))
theorem nw{prog:Program}{w:World}{K:Addr->Option Obj}{mg mb:Str->Option Value}{O:Fx}{o e:Expr}{apos pos:Pos}{Fo F:EF}(T:Tab K mg mb)(ho:Ev prog w K O o Fo)(he:Ev prog w K O e F)(mc:MC O.env o "not_equal_witness" apos [e] pos)(hK:autoParam (Nat.ble 6 O.k=true) sR)(hs:autoParam (∀env,starEach [e] env=[(false,eval e env)]) sI):Ev prog w K O (.Call (.Attribute o "not_equal_witness" apos) [e] [] pos) (lS Fo 100 "not_equal_witness" (aM F bA) xF):=.C3 T.cW T.D5 T.J7 jh ho (e1 he hs) (PH T) (nb hK) mc hs
noncomputable def Bb:mj (iq 17) 196 [(0,"first"),(1,"second"),(2,"name"),(3,"left"),(4,"right"),(5,"word"),(6,"p"),(7,"q"),(8,"room"),(9,"few"),(10,"row"),(11,"mail"),(12,"k"),(13,"told")] 5:=⟨_,λT q pm c doc L=>(a6.cons (sa 2 (bV.jx .join (sv []) (bi (bV.slice (bV.split0 (nm 0) dw).dat ey.none_ (ey.mR Ev.int) ey.none_).dat (bV.slice (bV.split0 (nm 1) dw).dat ey.none_ (ey.mR Ev.int) ey.none_).dat) dw).dat)
 (a6.cons (Ex.xQ (i:=3) [16] [(16,"row")] rfl (.inl rfl) rfl rfl (sq (bV.split0 (nm 0) dw).dat) (λ_=>gb 16) (λL=>(ji.one (tc (sb (nm 16) Ev.int) (sv [46])))) (λ_ _=>fM.emit rfl (ln T (nm 16))))
 (a6.cons (Ex.xQ (i:=4) [15] [(15,"row")] rfl (.inl rfl) rfl rfl (sq (bV.split0 (nm 1) dw).dat) (λ_=>gb 15) (λL=>(ji.one (tc (sb (nm 15) Ev.int) (sv [46])))) (λ_ _=>fM.emit rfl (ln T (nm 15))))
 (a6.cons (sa 5 (sv []))
 (a6.cons (Ex.i6 (sq (nm 3)) (gb 6)
 (x1 (Ex.i6 (sq (nm 4)) (gb 7)
 (a6.cons (sa 8 (bi (bV.mm T.gl .mn (e2 (bi (bi Ev.int (nm 6)) (sb (nm 3) Ev.int)) (bi (bi Ev.int (nm 7)) (sb (nm 4) Ev.int))) rfl T.Nt T.Kk).dat Ev.int))
 (a6.cons (sc 9 (bi (bi (bi (nm 6) (nm 7)) Ev.int) (nm 8)))
 (a6.cons (sa 10 (bi (bi (sv [46]) (nm 9)) (sb (bV.list (e3 (sv [10]) (sv [13]) (sv [13,10]))).dat (bi (nm 9) Ev.int))))
 (a6.cons (sa 11 (bi (bi (nm 2) (sv [13])) (nm 10)))
 (a6.cons (Ex.i6 (rg T (e1 (nm 8))) (gb 12)
 (x1 (sa 11 (bi (ca T.gl T.FL (e1 (nm 11)) (Qu T) T.Js) (nm 10)))))
 (a6.cons (sa 13 (bV.jx .join (sv []) (Ev.comp [14] [(14,"k"),(9,"few")] rfl (KS T (e3 (nm 8) Ev.int (Ev.neg rfl))) (λ_=>gb 14) tn (λ_ _=>fM.emit rfl (bi (bi (sv [46]) (bi (nm 9) (nm 14))) (sv [13,10])))) dw).dat)
 (a6.cons (Ex.fR (Tr.xP (gD.and_cons (tc (nm 8) Ev.int) (gD.and_cons (tc (nm 11) (bi (bi (bi (nm 2) (sv [13,10])) (nm 13)) (nm 10))) gD.and_nil)))
 (x1 (Ex.ret (sv []))) a6.nil)
 (x1 (sa 5 (bi (nm 5) (nm 11))))))))))))))
 (x1 (Ex.ret (nm 5))))))))⟩
noncomputable def AV:cV:=nL (dX 2 15 false Bb.1)
theorem Us{prog:Program}{w:World}{K:Addr->Option Obj}{mg mb:Str->Option Value}(T:Tab K mg mb):dM prog w K 196 6 AV :=
 dM.pure (T.EE.ok T.gl (names:=["first","second"]) false (λq pm c doc vs h=>sz (λ_ _=>by kernel_rfl) vs h) rfl (Bb.2 T))
noncomputable def C0:mj (iq 18) 201 [(0,"runs"),(1,"rest")] 5:=⟨_,λT q pm c doc L =>
 (x1 (Ex.ret (Ev.N0 T.gl T.cW T.FA T.O6 (e1 (bi (bi (bV.jx .join (sv []) (Ev.comp [2] [(2,"run")] rfl (sq (nm 0)) (λ_=>gb 2) tn (λ_ _=>fM.emit rfl (bi (bi (sv [32]) (nm 2)) (sv [9])))) dw).dat (bi (sv [32]) (nm 1))) (sv [120,32,9]))) (UU T) nb rfl T.Ce)))⟩
noncomputable def Cs:cV:=dX 2 1 true C0.1
theorem y4{prog:Program}{w:World}{K:Addr->Option Obj}{mg mb:Str->Option Value}(T:Tab K mg mb):dM prog w K 201 6 Cs :=
 T.uC.ok T.gl (names:=["runs","rest"]) true (λq pm c doc vs h=>sz (λ_ _=>by kernel_rfl) vs h) rfl (C0.2 T)
set_option maxHeartbeats 4000000
noncomputable def LV:List (Nat×Str):=[(0,("script":Str)),(1,("numbers":Str)),(2,("sizes":Str)),(3,("words":Str)),(4,("text":Str)),(5,("k":Str)),(6,("end":Str)),(7,("word":Str)),(8,("bare":Str)),(9,("lexer":Str)),(10,("early":Str)),(11,("turns":Str)),(12,("last":Str)),(13,("order":Str)),(14,("fronts":Str)),(15,("taken":Str)),(16,("front":Str)),(17,("up":Str)),(18,("down":Str)),(19,("shut":Str)),(20,("row":Str)),(21,("height":Str)),(22,("verdict":Str)),(23,("total":Str)),(24,("rest":Str)),(25,("late":Str)),(26,("sums":Str)),(27,("many":Str)),(28,("due":Str)),(29,("size":Str)),(30,("stops":Str)),(31,("mailed":Str)),(32,("first":Str)),(33,("short":Str)),(34,("second":Str)),(35,("parts":Str)),(36,("apart":Str))]
noncomputable def OD(l:List Stmt)(i:Nat):Stmt:=l[i]?.getD (.Pass ⟨0,0,0,0⟩)
noncomputable abbrev aae:=Stmt.bodyOf
noncomputable abbrev sL:=OD (Stmt.bodyOf (iq 19))
noncomputable abbrev sf(s:Stmt):=OD (aae s)
abbrev TX(s:Stmt):={B:XF//∀{prog:Program} {w:World} {K:Addr->Option Obj} {mg mb:Str->Option Value},Tab K mg mb->∀q pm c doc L,Ex prog w K (fS (fdOf (iq 19) q pm c doc) 206 LV 8 L) s B}
noncomputable def zr:TX (sL 0):=⟨_,λT q pm c doc L=>(Ex.xQ (i:=1) [37,38] [(37,"k"),(38,"begin"),(0,"script")] rfl (.inl rfl) rfl rfl (eT.enum T.gl (bV.list (e3 Ev.int Ev.int Ev.int)).dat rfl T.yw T.yu) (λ_=>yn 37 38) tn (λ_ _=>fM.emit rfl (bi (bi (nm 38) (sm T (bV.slice (nm 0) (ey.mR (nm 37)) ey.none_ (ey.mR Ev.int)).dat)) (bi Ev.int Ev.int))))⟩
noncomputable def AA:TX (sL 1):=⟨_,λT q pm c doc L=>(sc 2 (bV.list (e3 (bi (sb (nm 1) Ev.int) Ev.int) (bi (sb (nm 1) Ev.int) Ev.int) (bi (sb (nm 1) Ev.int) Ev.int))).dat)⟩
noncomputable def BH:TX (sL 2):=⟨_,λT q pm c doc L=>(Ex.EL (ts:=[(3,"words",_),(4,"text",_)]) (λ_=>⟨rfl,(.inl rfl),⟨rfl,(.inl rfl),True.intro⟩⟩) (e2 (bV.list .nil).cf (sv [])) rfl rfl)⟩
noncomputable def Cw:TX (sf (sL 3) 0):=⟨_,λT q pm c doc L=>(sa 6 (sb (bV.list (e3 (sv [10]) (sv [13]) (sv [13,10]))).dat (bi (bi (sb (nm 1) (nm 5)) Ev.int) Ev.int)))⟩
noncomputable def A3:TX (sf (sL 3) 1):=⟨_,λT q pm c doc L=>(sa 7 (bi (bi (bi (bi (sb (sv [97,98,99]) (nm 5)) (sv [46])) (nm 6)) (bi (sv [46]) (bi (sb (nm 2) (nm 5)) Ev.int))) (nm 6)))⟩
noncomputable def GK:TX (sf (sL 3) 2):=⟨_,λT q pm c doc L=>(sa 8 (bV.jx .join (sv []) (Ev.comp [39] [(39,"sign")] rfl (sq (nm 7)) (λ_=>gb 39) tn (λ_ _=>fM.emit rfl (bi (sv [92]) (nm 39)))) dw).dat)⟩
noncomputable def F4:TX (sf (sL 3) 3):=⟨_,λT q pm c doc L=>(sa 4 (bi (nm 4) (sb (bV.list (e3 (bi (bi (sv [34]) (nm 7)) (sv [34])) (nm 8) (bi (bi (sv [34]) (nm 8)) (sv [34])))).dat (bi (bi (sb (nm 1) (nm 5)) Ev.int) Ev.int))))⟩
noncomputable def yv:TX (sf (sL 3) 4):=⟨_,λT q pm c doc L=>(sa 4 (bi (nm 4) (sb (sv [10,9,13,32]) (bi (bi (sb (nm 1) (nm 5)) Ev.int) Ev.int))))⟩
noncomputable def zO:TX (sf (sL 3) 5):=⟨_,λT q pm c doc L=>(xe (Ev.append (nm 3) (nm 7) dw))⟩
noncomputable def GB:TX (sL 3):=⟨_,λT q pm c doc L=>(Ex.i6 (rg T (e1 Ev.int)) (gb 5) (a6.cons (Cw.2 T q pm c doc L) (a6.cons (A3.2 T q pm c doc L) (a6.cons (GK.2 T q pm c doc L) (a6.cons (F4.2 T q pm c doc L) (a6.cons (yv.2 T q pm c doc L) (x1 (zO.2 T q pm c doc L))))))))⟩
noncomputable def AM:TX (sL 4):=⟨_,λT q pm c doc L=>(sa 4 (bV.slice (nm 4) ey.none_ (ey.mR (Ev.neg rfl)) ey.none_).dat)⟩
noncomputable def Aa:TX (sL 5):=⟨_,λT q pm c doc L=>(sc 9 (ca T.gl T.MH (e1 (nm 4)) (Ri T) T.N5))⟩
noncomputable def Bg:TX (sL 6):=⟨_,λT q pm c doc L=>(sa 10 (gt T (nm 9) dw))⟩
noncomputable def yF:TX (sL 7):=⟨_,λT q pm c doc L=>(xe (pt T (nm 9) (nm 10) dw))⟩
noncomputable def A6:TX (sL 8):=⟨_,λT q pm c doc L=>(xe (pt T (nm 9) (nm 10) dw))⟩
noncomputable def Ay:TX (sL 9):=⟨_,λT q pm c doc L=>(Ex.fR (Tr.xP (gD.or_cons (tc (Ev.comp [40] [(40,"k"),(9,"lexer")] rfl (rg T (e1 Ev.int)) (λ_=>gb 40) tn (λ_ _=>fM.emit rfl (gt T (nm 9) dw))) (bi (bi (bV.slice (nm 3) ey.none_ (ey.mR Ev.int) ey.none_).dat (nm 3)) (bV.list (e1 (sv []))).dat)) (gD.or_cons (tc (la T 1 (nm 9)) (bi Ev.int (bV.jx .count (nm 4) (sv [10]) dw).dat)) gD.or_nil)))
 (x1 (Ex.ret Ev.bool)) a6.nil)⟩
noncomputable def yM:TX (sf (sL 10) 0):=⟨_,λT q pm c doc L=>(xe (pt T (nm 9) (nm 7) dw))⟩
noncomputable def Ee:TX (sL 10):=⟨_,λT q pm c doc L=>(Ex.i6 (sq (nm 3)) (gb 7) (x1 (yM.2 T q pm c doc L)))⟩
noncomputable def A4:TX (sL 11):=⟨_,λT q pm c doc L=>(sa 11 (bi (bi (sb (nm 1) Ev.int) Ev.int) Ev.int))⟩
noncomputable def A7:TX (sf (sL 12) 0):=⟨_,λT q pm c doc L=>(xe (pt T (nm 9) (gt T (nm 9) dw) dw))⟩
noncomputable def F5:TX (sL 12):=⟨_,λT q pm c doc L=>(Ex.i6 (rg T (e1 (nm 11))) (gb 5) (x1 (A7.2 T q pm c doc L)))⟩
noncomputable def DH:TX (sf (sL 13) 0):=⟨_,λT q pm c doc L=>(xe (pt T (nm 9) (ca T.gl T.EE (e2 (gt T (nm 9) dw) (gt T (nm 9) dw)) (Us T) T.Nr) dw))⟩
noncomputable def E1:TX (sL 13):=⟨_,λT q pm c doc L=>(Ex.i6 (rg T (e1 Ev.int)) (gb 5) (x1 (DH.2 T q pm c doc L)))⟩
noncomputable def Cl:TX (sL 14):=⟨_,λT q pm c doc L=>(sa 12 (bV.split0 (gt T (nm 9) dw) dw).dat)⟩
noncomputable def zf:TX (sL 15):=⟨_,λT q pm c doc L=>(sa 13 (bV.slice (sv [97,98,99,97,98,99]) (ey.mR (nm 11)) (ey.mR (bi (nm 11) Ev.int)) ey.none_).dat)⟩
noncomputable def BS:TX (sL 16):=⟨_,λT q pm c doc L=>(Ex.fR (tc (bV.slice (nm 12) ey.none_ (ey.mR Ev.int) ey.none_).dat (bV.list (e1 (bi (bi (bi (bi (bi (sb (nm 13) Ev.int) (sv [46])) (sb (nm 13) Ev.int)) (sv [46])) (sb (nm 13) Ev.int)) (sv [46])))).dat)
 (x1 (Ex.ret Ev.bool)) a6.nil)⟩
noncomputable def B5:TX (sL 17):=⟨_,λT q pm c doc L=>(sa 14 (bV.list (e1 (bV.tuple (e3 (sv []) Ev.int Ev.int)).dat)).dat)⟩
noncomputable def Fd:TX (sf (sL 18) 0):=⟨_,λT q pm c doc L=>(sa 15 (bV.list .nil).cf)⟩
noncomputable def zQ:TX (sf (sf (sf (sL 18) 1) 0) 0):=⟨_,λT q pm c doc L=>(sa 20 (bi (bi (nm 16) (bi (sv [41]) (nm 19))) (bi (sv [40]) (bi (sb (nm 2) (nm 5)) (nm 19)))))⟩
noncomputable def yL:TX (sf (sf (sf (sL 18) 1) 0) 1):=⟨_,λT q pm c doc L=>(sa 20 (bi (nm 20) (sb (bV.list (fb.cons (sv []) (e3 (sv [92,40]) (sv [92,41]) (sv [92,92])))).dat (bi (bi (sb (nm 1) (nm 5)) Ev.int) Ev.int))))⟩
noncomputable def Bw:TX (sf (sf (sf (sL 18) 1) 0) 2):=⟨_,λT q pm c doc L=>(sa 21 (bi (bi (bi (bi (nm 17) (sb (nm 2) (nm 5))) (nm 19)) (nm 18)) (nm 19)))⟩
noncomputable def BV:TX (sf (sf (sf (sL 18) 1) 0) 3):=⟨_,λT q pm c doc L=>(sa 22 (ca T.gl T.z8 (e1 (bi (nm 20) (bi (sv [41]) (nm 21)))) (N4 T) T.Ez))⟩
noncomputable def CP:TX (sf (sf (sf (sL 18) 1) 0) 4):=⟨_,λT q pm c doc L=>(Ex.fR (tc (nm 22) Ev.bool)
 (x1 (xe (Ev.append (nm 15) (bV.tuple (e3 (nm 20) (bi (bi (nm 17) (sb (nm 2) (nm 5))) (nm 19)) (bi (nm 18) (nm 19)))).dat dw)))
 (x1 (Ex.fR (tc (nm 22) Ev.bool)
 (x1 (Ex.ret Ev.bool)) a6.nil)))⟩
noncomputable def FC:TX (sf (sf (sL 18) 1) 0):=⟨_,λT q pm c doc L=>(Ex.i6 (rg T (e1 (bi (sb (nm 2) (nm 5)) Ev.int))) (gb 19) (a6.cons (zQ.2 T q pm c doc L) (a6.cons (yL.2 T q pm c doc L) (a6.cons (Bw.2 T q pm c doc L) (a6.cons (BV.2 T q pm c doc L) (x1 (CP.2 T q pm c doc L)))))))⟩
noncomputable def Dd:TX (sf (sL 18) 1):=⟨_,λT q pm c doc L=>(Ex.i6 (sB (nm 14)) (sM 16 17 18) (x1 (FC.2 T q pm c doc L)))⟩
noncomputable def An:TX (sf (sL 18) 2):=⟨_,λT q pm c doc L=>(sa 14 (nm 15))⟩
noncomputable def GV:TX (sL 18):=⟨_,λT q pm c doc L=>(Ex.i6 (rg T (e1 Ev.int)) (gb 5) (a6.cons (Fd.2 T q pm c doc L) (a6.cons (Dd.2 T q pm c doc L) (x1 (An.2 T q pm c doc L)))))⟩
noncomputable def zo:TX (sL 19):=⟨_,λT q pm c doc L=>(Ex.fR (Tr.xP (gD.or_cons (tc (nm 14) (bV.list .nil).dat) (gD.or_cons (tc (ca T.gl T.z8 (e1 (bi (sb (sb (nm 14) Ev.int) Ev.int) (sv [40]))) (N4 T) T.Ez) Ev.bool) gD.or_nil)))
 (x1 (Ex.ret Ev.bool)) a6.nil)⟩
noncomputable def Ac:TX (sL 20):=⟨_,λT q pm c doc L=>(sc 23 (sm T (nm 2)))⟩
noncomputable def Bq:TX (sL 21):=⟨_,λT q pm c doc L=>(Ex.EL (ts:=[(24,"rest",_),(25,"late",_)]) (λ_=>⟨rfl,(.inl rfl),⟨rfl,(.inl rfl),True.intro⟩⟩) (e2 (bi (bi (bi (sb (nm 1) Ev.int) Ev.int) Ev.int) Ev.int) (bi (bi (bi (sb (nm 1) Ev.int) Ev.int) Ev.int) Ev.int)) rfl rfl)⟩
noncomputable def wK:TX (sL 22):=⟨_,λT q pm c doc L=>(sc 26 (Ev.comp [41,42,43] [(41,"a"),(42,"b"),(43,"c"),(2,"sizes")] rfl (rg T (e1 (bi (sb (nm 2) Ev.int) Ev.int))) (λ_=>gb 41) tn (λL D hD lJ=>(fM.nest rfl (O5 rfl) (rg T (e1 (bi (sb (nm 2) Ev.int) Ev.int))) (gb 42) ji.nil (fM.nest rfl (O5 rfl) (rg T (e1 (bi (sb (nm 2) Ev.int) Ev.int))) (gb 43) ji.nil (fM.emit rfl (bi (bi (nm 41) (nm 42)) (nm 43)) hD lJ) lJ) lJ))))⟩
noncomputable def AK:TX (sL 23):=⟨_,λT q pm c doc L=>(sc 27 (Ev.comp [44] [(44,"k"),(26,"sums")] rfl (rg T (e1 (bi (nm 23) Ev.int))) (λ_=>gb 44) tn (λ_ _=>fM.emit rfl (bV.Su (nm 26) (nm 44) dw).dat)))⟩
noncomputable def yD:TX (sL 24):=⟨_,λT q pm c doc L=>(sa 28 (bV.list .nil).cf)⟩
noncomputable def CQ:TX (sf (sL 25) 0):=⟨_,λT q pm c doc L=>(sa 30 (sm T (Ev.comp [45] [(45,"k"),(27,"many"),(29,"size"),(23,"total")] rfl (rg T (e1 (bi (bi (nm 23) Ev.int) Ev.int))) (λ_=>gb 45) tn (λ_ _=>fM.emit rfl (bi (bi (sb (nm 27) (nm 45)) (bi (sb (nm 27) (bi (nm 45) Ev.int)) (it T (cm (nm 45) Ev.int)))) (bi (bi (bi (nm 23) (nm 45)) (nm 29)) Ev.int))))))⟩
noncomputable def EK:TX (sf (sL 25) 1):=⟨_,λT q pm c doc L=>(xe (Ev.append (nm 28) (bV.tuple (e3 (nm 29) (bi (bi (nm 29) (nm 30)) (nm 24)) (bi (bi (nm 29) (bi (nm 30) (sm T (Ev.comp [46] [(46,"k"),(27,"many")] rfl (KS T (e3 Ev.int (bi (nm 23) Ev.int) (nm 29))) (λ_=>gb 46) tn (λ_ _=>fM.emit rfl (sb (nm 27) (nm 46))))))) (nm 25)))).dat dw))⟩
noncomputable def Cc:TX (sL 25):=⟨_,λT q pm c doc L=>(Ex.i6 (rg T (e2 Ev.int (bi (bV.mm T.gl .mx (e3 (nm 23) (nm 24) (nm 25)) rfl T.A0 T.y7).dat Ev.int))) (As.name (i:=29) rfl (Ml rfl rfl)) (a6.cons (CQ.2 T q pm c doc L) (x1 (EK.2 T q pm c doc L))))⟩
noncomputable def Av:TX (sL 26):=⟨_,λT q pm c doc L=>(sa 31 (ca T.gl T.uC (e2 (Ev.comp [47] [(47,"row")] rfl (sq (nm 12)) (λ_=>gb 47) (λL=>(ji.one (tc (sb (nm 47) Ev.int) (sv [46])))) (λ_ _=>fM.emit rfl (bi (ln T (nm 47)) Ev.int))) (nm 24)) (y4 T) T.xW))⟩
noncomputable def z6:TX (sL 27):=⟨_,λT q pm c doc L=>(sa 32 (ca T.gl T.uC (e2 (Ev.comp [48,49,50] [(48,"row"),(49,"up"),(50,"down")] rfl (sB (nm 14)) (λ_=>sM 48 49 50) tn (λ_ _=>fM.emit rfl (nm 49))) (nm 24)) (y4 T) T.xW))⟩
noncomputable def B4:TX (sL 28):=⟨_,λT q pm c doc L=>(sa 33 (ca T.gl T.uC (e2 (Ev.comp [51,52,53] [(51,"row"),(52,"up"),(53,"down"),(23,"total")] rfl (sB (nm 14)) (λ_=>sM 51 52 53) tn (λ_ _=>fM.emit rfl (bi (nm 52) (it T (cm (nm 52) (nm 23)))))) (nm 24)) (y4 T) T.xW))⟩
noncomputable def B9:TX (sL 29):=⟨_,λT q pm c doc L=>(sa 34 (ca T.gl T.uC (e2 (Ev.comp [54,55,56] [(54,"row"),(55,"up"),(56,"down")] rfl (sB (nm 14)) (λ_=>sM 54 55 56) (λL=>(ji.one (tc (nm 56) Ev.int))) (λ_ _=>fM.emit rfl (bi (nm 56) Ev.int))) (nm 25)) (y4 T) T.xW))⟩
noncomputable def A1:TX (sL 30):=⟨_,λT q pm c doc L=>(Ex.xQ (i:=35) [57,58,59] [(57,"size"),(58,"high"),(59,"low"),(23,"total")] rfl (.inl rfl) rfl rfl (sB (nm 28)) (λ_=>sM 57 58 59) (λL=>(ji.one (Tr.xP (gD.and_cons (tc (nm 23) Ev.int) (gD.and_cons (tc (bi (nm 23) (nm 57)) Ev.int) gD.and_nil))))) (λ_ _=>fM.emit rfl (bV.tuple (e3 (nm 57) (nm 58) (bi (nm 58) (nm 57)))).dat))⟩
noncomputable def Bo:TX (sL 31):=⟨_,λT q pm c doc L=>(Ex.fR (Tr.xP (gD.or_cons (tc (nw T (nm 31) (nm 32) dw) (bV.list .nil).dat) (gD.or_cons (tc (nw T (nm 32) (nm 33) dw) (nm 35)) gD.or_nil)))
 (x1 (Ex.ret Ev.bool)) a6.nil)⟩
noncomputable def BB:TX (sL 32):=⟨_,λT q pm c doc L=>(Ex.xQ (i:=36) [60,61,62] [(60,"size"),(61,"high"),(62,"low")] rfl (.inl rfl) rfl rfl (sB (nm 28)) (λ_=>sM 60 61 62) (λL=>(ji.one (tc (nm 61) (nm 62)))) (λ_ _=>fM.emit rfl (bV.tuple (e3 (nm 60) (nm 61) (nm 62))).dat))⟩
noncomputable def y5:TX (sL 33):=⟨_,λT q pm c doc L=>(Ex.fR (tc (nw T (nm 32) (nm 34) dw) (nm 36))
 (x1 (Ex.ret Ev.bool)) a6.nil)⟩
noncomputable def y9:TX (sL 34):=⟨_,λT q pm c doc L=>(Ex.ret (cm (nw T (nm 34) (nm 32) dw) (Ev.comp [63,64,65] [(63,"size"),(64,"high"),(65,"low")] rfl (sB (nm 36)) (λ_=>sM 63 64 65) tn (λ_ _=>fM.emit rfl (bV.tuple (e3 (nm 63) (nm 65) (nm 64))).dat))))⟩
noncomputable def MZ:{B:XF//∀{prog:Program} {w:World} {K:Addr->Option Obj} {mg mb:Str->Option Value},Tab K mg mb->∀q pm c doc L,a6 prog w K (fS (fdOf (iq 19) q pm c doc) 206 LV 8 L) (Stmt.bodyOf (iq 19)) B}:=⟨_,λT q pm c doc L=>(a6.cons (zr.2 T q pm c doc L) (a6.cons (AA.2 T q pm c doc L) (a6.cons (BH.2 T q pm c doc L) (a6.cons (GB.2 T q pm c doc L) (a6.cons (AM.2 T q pm c doc L) (a6.cons (Aa.2 T q pm c doc L) (a6.cons (Bg.2 T q pm c doc L) (a6.cons (yF.2 T q pm c doc L) (a6.cons (A6.2 T q pm c doc L) (a6.cons (Ay.2 T q pm c doc L) (a6.cons (Ee.2 T q pm c doc L) (a6.cons (A4.2 T q pm c doc L) (a6.cons (F5.2 T q pm c doc L) (a6.cons (E1.2 T q pm c doc L) (a6.cons (Cl.2 T q pm c doc L) (a6.cons (zf.2 T q pm c doc L) (a6.cons (BS.2 T q pm c doc L) (a6.cons (B5.2 T q pm c doc L) (a6.cons (GV.2 T q pm c doc L) (a6.cons (zo.2 T q pm c doc L) (a6.cons (Ac.2 T q pm c doc L) (a6.cons (Bq.2 T q pm c doc L) (a6.cons (wK.2 T q pm c doc L) (a6.cons (AK.2 T q pm c doc L) (a6.cons (yD.2 T q pm c doc L) (a6.cons (Cc.2 T q pm c doc L) (a6.cons (Av.2 T q pm c doc L) (a6.cons (z6.2 T q pm c doc L) (a6.cons (B4.2 T q pm c doc L) (a6.cons (B9.2 T q pm c doc L) (a6.cons (A1.2 T q pm c doc L) (a6.cons (Bo.2 T q pm c doc L) (a6.cons (BB.2 T q pm c doc L) (a6.cons (y5.2 T q pm c doc L) (x1 (y9.2 T q pm c doc L))))))))))))))))))))))))))))))))))))⟩
noncomputable def Ry:Nat:=65
noncomputable def Bx:cV:=dX 1 Ry false MZ.1
theorem UJ{prog:Program}{w:World}{K:Addr->Option Obj}{mg mb:Str->Option Value}(T:Tab K mg mb):dM prog w K 206 9 Bx :=
 T.LE.ok T.gl (names:=["script"]) false (λq pm c doc vs h=>rH (λ_=>by kernel_rfl) vs h) rfl (MZ.2 T)
end Mine
end
section
open PySem PyProof.Rows
namespace Mine
noncomputable def sC(l:List Nat):EF:=λσ=>some (.dat (.str ⟨⟨l⟩⟩),σ.hp)
noncomputable def iC(k:Int):EF:=λσ=>some (.dat (.int k),σ.hp)
noncomputable def cb(op:CmpOp)(a b:EF):BF:=aN a λx=>aN b λy=>qL op x y
noncomputable def aZ(op:Operator)(a b:EF):NF:=aN a λx=>aN b λy=>ev (lO op) x y
noncomputable def gr(F:EF):XF:=bN F λpv σ=>some (.ret pv,σ)
noncomputable def lY(F:EF)(lo hi st:PF):NF:=aN F λa=>o5 lo λl=>o5 hi λu=>o5 st λk=>um l u k a
section
variable {F1 F2 F:EF}{σ:St}{hp1 bU:List MO}{p1 p2:PV}{a b d:PyData}{op:Operator}{r:Bool}{L:Loc}
theorem bS(h1:F1 ⟨L,hp1⟩=some (.dat a,bU))(h2:F2 ⟨L,bU⟩=some (.dat b,bU))(h3:lO op a b=some d):aB (aZ op F1 F2) ⟨L,hp1⟩=some (.dat d,bU):=by
 unfold aB aZ aN
 refine h1.symm▸?_
 dsimp only
 refine h2.symm▸?_
 skip
 unfold ev
 dsimp only[rd]
 exact h3.symm▸rfl
theorem gK{op:CmpOp}(h1:F1 ⟨L,hp1⟩=some (p1,bU))(h2:F2 ⟨L,bU⟩=some (p2,bU))(r1:rd bU p1=some a)(r2:rd bU p2=some b)(h3:fq op a b=some r):cb op F1 F2 ⟨L,hp1⟩=some (r,bU):=by
 unfold cb aN
 refine h1.symm▸?_
 dsimp only
 refine h2.symm▸?_
 dsimp only
 unfold qL
 dsimp only
 refine r1.symm▸r2.symm▸?_
 dsimp only
 exact h3.symm▸rfl
theorem dR{i:Nat}{L:Loc}{p:PV}(h:F ⟨L,hp1⟩=some (p,bU)):bN F (dg i) ⟨L,hp1⟩=some (.next,⟨L.set i (some p),bU⟩):=by
 unfold bN
 refine h.symm▸?_
 rfl
theorem hO{i:Nat}{L:Loc}{p:PV}(h:d2 L i=some p):aj i ⟨L,hp1⟩=some (p,hp1):=by
 unfold aj
 exact h.symm▸rfl
theorem vt{lo hi st:PF}{l u k:Option Int}{L:Loc}(h1:F ⟨L,hp1⟩=some (.dat a,hp1))(h2:lo ⟨L,hp1⟩=some (l,hp1))(h3:hi ⟨L,hp1⟩=some (u,hp1))(h4:st ⟨L,hp1⟩=some (k,hp1))(h5:lr l u k a=some d):aB (lY F lo hi st) ⟨L,hp1⟩=some (.dat d,hp1):=by
 unfold aB lY aN
 refine h1.symm▸?_
 skip
 unfold o5
 dsimp only
 refine h2.symm▸?_
 dsimp only
 refine h3.symm▸?_
 dsimp only
 refine h4.symm▸?_
 skip
 unfold um
 dsimp only[rd]
 exact h5.symm▸rfl
theorem wm{C:BF}{G:XF}{L:Loc}{hp1 bU:List MO}(h:C ⟨L,hp1⟩=some (false,bU)):cZ C G bh ⟨L,hp1⟩=some (.next,⟨L,bU⟩):=by
 unfold cZ
 refine h.symm▸?_
 rfl
theorem abo{A B:EF}{L:Loc}{hp:List MO}{a b:PyData}(h1:A ⟨L,hp⟩=some (.dat a,hp))(h2:B ⟨L,hp⟩=some (.dat b,hp)):aB (lH (aM A (aM B bA))) ⟨L,hp⟩=some (.dat (.tuple [a,b]),hp):=by
 unfold aB lH aM aN
 refine h1.symm▸?_
 dsimp only
 refine h2.symm▸?_
 rfl
theorem sY{F1 F2:EF}{L:Loc}{hp:List MO}{a b:PV}(h1:F1 ⟨L,hp⟩=some (a,hp))(h2:F2 ⟨L,hp⟩=some (b,hp)):aM F1 (aM F2 bA) ⟨L,hp⟩=some ([a,b],hp):=by
 unfold aM aN
 refine h1.symm▸?_
 dsimp only
 refine h2.symm▸?_
 rfl
theorem mE{F:EF}{f:PyData->Option PyData}{L:Loc}{hp1 bU:List MO}{a d:PyData}(h1:F ⟨L,hp1⟩=some (.dat a,bU))(h2:f a=some d):aB (aN F (im f)) ⟨L,hp1⟩=some (.dat d,bU):=by
 unfold aB aN
 refine h1.symm▸?_
 skip
 unfold im
 dsimp only[rd]
 exact h2.symm▸rfl
theorem jo{F1 F2:EF}{L:Loc}{hp:List MO}{a b d:PyData}(h1:F1 ⟨L,hp⟩=some (.dat a,hp))(h2:F2 ⟨L,hp⟩=some (.dat b,hp))(h3:l7 a b=some d):(aN F1 λa=>aN F2 λb=>itemF a b) ⟨L,hp⟩=some (.dat d,hp):=by
 unfold aN
 refine h1.symm▸?_
 dsimp only
 refine h2.symm▸?_
 skip
 unfold itemF
 dsimp only[rd]
 exact h3.symm▸rfl
theorem vF{m:M1}{F1 F2:EF}{L:Loc}{hp1 bU:List MO}{x b d:PyData}(h1:F1 ⟨L,hp1⟩=some (.dat x,hp1))(hx:pU x=true)(h2:F2 ⟨L,hp1⟩=some (.dat b,bU))(h3:m.f x b=some d):aB (Mine.jx m F1 F2) ⟨L,hp1⟩=some (.dat d,bU):=by
 unfold aB Mine.jx aN
 refine h1.symm▸?_
 dsimp only
 refine(if_pos hx).symm▸?_
 skip
 refine h2.symm▸?_
 skip
 unfold ev
 dsimp only[rd]
 exact h3.symm▸rfl
theorem ef{i:Nat}{L:Loc}{o:Option PV}{p:PV}(h:L[i]?=some o)(h1:o=some p):d2 L i=some p:=by
 unfold d2
 exact h.symm▸h1.symm▸rfl
theorem aV{i:Nat}{L:Loc}{o:Option PV}{p:PV}(h:L[i]?=some o)(h1:o=some p):aj i ⟨L,hp1⟩=some (p,hp1):=hO (ef h h1)
theorem ne_str(l):fq .NotEq (.str ⟨⟨l⟩⟩) (.str ⟨⟨l⟩⟩)=some false:=by
 show some (!(l==l))=_
 rw[beq_self_eq_true];rfl
theorem add_str(h:x.length+y.length≤lim):wk (.str ⟨⟨x⟩⟩) (.str ⟨⟨y⟩⟩)=some (.str ⟨⟨x++y⟩⟩):=if_pos h
theorem xq{F:EF}{H:cV}{p:PV}{q:Option (PV×List MO)}(h:F ⟨L,hp1⟩=some (p,bU))(k:H [p] bU=q):j9 (aM F bA) H ⟨L,hp1⟩=q:=by
 unfold j9 aM aN
 refine h.symm▸?_
 exact k
theorem Cf{op:CmpOp}{x:Bool}(h1:F1 ⟨L,hp1⟩=some (.dat a,bU))(h2:F2 ⟨L,bU⟩=some (.dat b,bU))(h3:fq op a b=some x):aB (aN F1 λa=>aN F2 λb=>ev (λx y=>(fq op x y).map .bool) a b) ⟨L,hp1⟩=some (.dat (.bool x),bU):=by
 unfold aB aN
 refine h1.symm▸?_
 dsimp only
 refine h2.symm▸?_
 skip
 unfold ev
 dsimp only[rd]
 refine h3.symm▸?_
 rfl
theorem vf(h:F ⟨L,hp1⟩=some (.dat (.int k),bU)):ik F ⟨L,hp1⟩=some (some k,bU):=by
 unfold ik aN
 refine h.symm▸?_
 rfl
theorem add_list(h:x.length+y.length≤lim):wk (.list x) (.list y)=some (.list (x++y)):=if_pos h
theorem append_eq(h:F1 ⟨L,hp1⟩=some (.obj i,hp1))(hi:hp1[i]?=some (.lst l))(hl:l.length≤lim)(h2:F2 ⟨L,hp1⟩=some (.dat d,hp1)):mT F1 F2 ⟨L,hp1⟩=some (.dat .none,hp1.set i (.lst (l++[d]))):=by
 unfold mT aN
 refine h.symm▸?_
 have e:xS hp1 i=true:=by unfold xS;rw[hi]
 dsimp only
 refine(if_pos e).symm▸h2.symm▸?_
 skip
 unfold ul
 dsimp only
 refine hi.symm▸?_
 exact if_pos hl
theorem XJ(h1:F1 ⟨L,hp1⟩=some (p,bU))(h2:F2 ⟨L,bU⟩=some (q,bU))(r1:rd bU p=some a)(r2:rd bU q=some b)(h3:l7 a b=some d):(aN F1 λa=>aN F2 λb=>itemF a b) ⟨L,hp1⟩=some (.dat d,bU):=by
 unfold aN
 refine h1.symm▸?_
 dsimp only
 refine h2.symm▸?_
 skip
 unfold itemF
 dsimp only
 refine r1.symm▸r2.symm▸?_
 dsimp only
 exact h3.symm▸rfl
theorem XE(h:F ⟨L,hp1⟩=some (.dat .none,bU)):bN F (λpv σ=>match pv with
  |.dat .none=>some (.next,σ)
  |_=>none) ⟨L,hp1⟩=some (.next,⟨L,bU⟩):=by
 unfold bN
 exact h.symm▸rfl
theorem Ax(h:F ⟨L,hp1⟩=some (.obj i,bU))(hi:bU[i]?=some (.lst l)):ej F ⟨L,hp1⟩=some ((.cf i 0,l.length+1),bU):=by
 unfold ej
 rw[h]
 dsimp only
 rw[hi]
end
theorem i5(r:Int):r.toNat≤r.natAbs:=match r with
|.ofNat _=>am _
|.negSucc _=>bZ _
theorem yj(a b:Int):a+1+b=a+(b+1):=(Int.add_assoc a 1 b).trans (congrArg (a+·) (Int.add_comm 1 b))
@[elab_as_elim] theorem mU{P:Nat->Prop}(k:Nat)(h:k < 3)(h0:P 0)(h1:P 1)(h2:P 2):P k:=(Nat.lt_or_eq_of_le (aC h)).elim (λh=>(Nat.lt_or_eq_of_le (aC h)).elim (λh=>(Nat.lt_one_iff.mp h).symm▸h0) λe=>e.symm▸h1) λe=>e.symm▸h2
@[elab_as_elim] theorem za{P:Nat->Prop}(k:Nat)(h:k < 4)(h0:P 0)(h1:P 1)(h2:P 2)(h3:P 3):P k:=(Nat.lt_or_eq_of_le (aC h)).elim (λh=>mU k h h0 h1 h2) λe=>e▸h3
end Mine
end
section
open PySem PySem.StrLaws PySem.Builtin PySem.Builtin.Str
namespace Mine
theorem Wp(h:∀c∈l,c < 0x110000):PyData.strOk ⟨⟨l⟩⟩=true:=by
 unfold PyData.strOk
 rw[← Array.all_toList,List.all_eq_true]
 intro c hc
 simpa using h c hc
noncomputable def sF(g:List Nat):List (List Nat)->List Nat
|[]=>[]
|w::r=>w++(r.map (g++·)).flatten
theorem aal(g w v)(r):sF g (w::v::r)=w++(g++sF g (v::r)):=by
 show w++((g++v)++(r.map (g++·)).flatten)=w++(g++(v++(r.map (g++·)).flatten))
 rw[bJ]
noncomputable def ce(ws:List (List Nat)):List PyData:=ws.map λw=>.str ⟨⟨w⟩⟩
theorem NB:∀ws:List (List Nat),qw (ce ws)=some (ws.map λw=>(⟨⟨w⟩⟩:Str))
|[]=>rfl
|w::r=>by
  show(qw (ce r)).map ((⟨⟨w⟩⟩:Str)::·)=_
  rw[NB r];rfl
theorem HN(g):∀(r:List (List Nat)) (a:Array Nat),(r.map λw=>(⟨⟨w⟩⟩:Str)).foldl (λacc p=>acc++(⟨⟨g⟩⟩:Str).cps++p.cps) a=⟨a.toList++(r.map (g++·)).flatten⟩
|[],a=>by simp
|w::r,a=>by
  rw[bP,List.foldl_cons,HN g r]
  simp
theorem Xb(g)(ws):glued ⟨⟨g⟩⟩ (ws.map λw=>(⟨⟨w⟩⟩:Str))=⟨⟨sF g ws⟩⟩:=by
 unfold glued
 cases ws with
|nil=>rfl
|cons w r =>
  rw[bP,List.drop_succ_cons,List.drop_zero,HN]
  rfl
theorem Np(g):∀(ws:List (List Nat)) (n:Nat),(ws.map λw=>(⟨⟨w⟩⟩:Str)).foldl (·+·.length+(⟨⟨g⟩⟩:Str).length) n=n+(ws.map λw=>w.length+g.length).sum
|[],n=>by simp
|w::r,n=>by
  rw[bP,List.foldl_cons,Np g r,bP,List.sum_cons]
  exact(Nat.add_assoc (n+w.length) g.length _).trans ((Nat.add_assoc n w.length _).trans (congrArg (n+·) (Nat.add_assoc w.length g.length _).symm))
theorem P4(g):∀ws:List (List Nat),(sF g ws).length≤(ws.map λw=>w.length+g.length).sum
|[]=>am _
|w::r=>by
  have:((r.map (g++·)).flatten).length=(r.map λw=>w.length+g.length).sum:=by
   rw[List.length_flatten,List.map_map]
   congr 1
   refine List.map_congr_left λx _=>?_
   simp[Nat.add_comm]
  show(w++_).length≤_
  rw[bH,this,bP,List.sum_cons]
  exact az (ax _ _) _
theorem Q2(h:c∈sF g ws):c∈g∨∃w∈ws,c∈w:=by
 cases ws with
|nil=>exact bT h
|cons w r =>
  rcases ae h with h|h
  ·exact .inr ⟨w,aq ..,h⟩
  ·refine cps λ_ KK=>?_
   obtain⟨l,hl,hc⟩:=List.mem_flatten.mp h
   obtain⟨v,hv,rfl⟩:=bo hl
   refine KK ?_
   rcases ae hc with hc|hc
   ·exact .inl hc
   ·exact .inr ⟨v,al _ hv,hc⟩
theorem join_eq(h:(ws.map λw=>w.length+g.length).sum≤lim)(hg:∀c∈g,c < 0x110000)(hw:∀w∈ws,∀c∈w,c < 0x110000) :
  nQ ⟨⟨g⟩⟩ (ce ws)=some (.str ⟨⟨sF g ws⟩⟩):=by
 unfold nQ
 rw[NB]
 dsimp only
 rw[Xb,if_pos]
 refine⟨by rw[Np,Nat.zero_add];exact h,Wp λc hc=>(Q2 hc).elim (hg c) λ⟨w,m7,hc⟩=>hw w m7 c hc,?_⟩
 skip
 exact aa (P4 g ws) h
theorem acj(h:c≠10∧c≠13):dP (c::r)=c::dP r:=by
 cases r with
|nil=>unfold dP;rw[if_neg (by simp[h.1,h.2])]
|cons c' r=>rw[dP,if_neg (by simp[h.1,h.2])]
theorem IR:∀(w r:List Nat),(∀c∈w,c≠10∧c≠13)->dP (w++r)=w++dP r
|[],r,_=>rfl
|c::w,r,h=>by
  refine List.cons_append.symm▸(acj (h c (aq ..))).symm▸(IR w r λx hx=>h x (al _ hx)).symm▸?_
  rfl
theorem Xr(hs:sep=[10]∨sep=[13]∨sep=[13,10])(hr:r.head?≠some 10):dP (sep++r)=[13,10]++dP r:=by
 rcases hs with rfl|rfl|rfl
 ·cases r with
 |nil=>rfl
 |cons c r=>show dP (10::c::r)=_;rw[dP,if_pos (by rfl),if_neg (by simp)];rfl
 ·cases r with
 |nil=>rfl
 |cons c r =>
   have:c≠10:=λh=>hr (by rw[h];rfl)
   show dP (13::c::r)=_
   rw[dP,if_pos (by rfl),if_neg (by simp[this])];rfl
 ·show dP (13::10::r)=_
  rw[dP,if_pos (by rfl),if_pos (by rfl)];rfl
noncomputable def rN(w:List Nat):Prop:=w≠[]∧∀c∈w,c≠10∧c≠13
noncomputable def nO:List Nat->List Nat
|46::w=>46::46::w
|w=>w
theorem CW:∀(w r:List Nat) ,(∀c∈w,c≠10)->w≠[]->∀b,dB b (w++13::10::r)=dB b w++13::10::dB true r
|[],_,_,h,_=>absurd rfl h
|[c],r,h,_,b=>by
  have hc:c≠10:=h c (aq ..)
  have e1:dB b (c::13::10::r)=if b&&c==46 then 46::46::13::10::dB true r else c::13::10::dB true r:=by
   rw[dB]
   have lR:dB (c==10) (13::10::r)=13::10::dB true r:=by rw[dB,if_neg (by simp),dB,if_neg (by simp)];rfl
   have abs:dB false (13::10::r)=13::10::dB true r:=by rw[dB,if_neg (by simp),dB,if_neg (by simp)];rfl
   exact lR.symm▸abs.symm▸rfl
  have e2:dB b [c]=if b&&c==46 then[46,46]else[c]:=rfl
  skip
  refine e1.symm▸e2.symm▸?_
  split<;>rfl
|c::d::w,r,h,_,b=>by
  have hc:c≠10:=h c (aq ..)
  show dB b (c::((d::w)++13::10::r))=_
  rw[dB,dB]
  split
  ·rw[CW (d::w) r (λx hx=>h x (List.mem_cons_of_mem _ hx)) (by simp)];rfl
  ·rw[CW (d::w) r (λx hx=>h x (List.mem_cons_of_mem _ hx)) (by simp)];rfl
theorem UV(w)(h:∀c∈w,c≠10):dB true w=nO w:=by
 have main:∀(w:List Nat),(∀c∈w,c≠10)->dB false w=w:=by
  intro w
  induction w with
 |nil=>intro _;rfl
 |cons c w ih =>
   intro h
   have hc:(c==10)=false:=by simpa using h c (aq ..)
   rw[dB,hc]
   simp only[Bool.false_and,Bool.false_eq_true,if_false]
   exact(ih λx hx=>h x (al _ hx)).symm▸rfl
 cases w with
|nil=>rfl
|cons c w =>
  have hw:=main w λx hx=>h x (al _ hx)
  have hc:(c==10)=false:=by simpa using h c (aq ..)
  rw[dB]
  by_cases vH:c=46
  ·subst vH
   simp only[Bool.true_and,beq_self_eq_true,if_true]
   rw[hw];rfl
  ·rw[if_neg (by simpa using vH),hc,hw]
   unfold nO
   split
   ·rename_i e;cases e;exact absurd rfl vH
   ·rfl
end Mine
end
section
open PySem
namespace Mine
noncomputable def bK(f:Bool)(n:Int):List (Nat×PV):=if f then[(1,.dat (.int n)),(3,.obj 4),(2,.dat (.str ⟨⟨[10,9,13,32]⟩⟩)),(0,.gH 2)]else[(3,.obj 4),(2,.dat (.str ⟨⟨[10,9,13,32]⟩⟩)),(0,.gH 2),(1,.dat (.int n))]
noncomputable def W0:Option Bool->List MO
|none=>[]
|some dn=>[.cH 3 146 dn]
noncomputable def hs(P:Addr)(fl:Bool)(wl:List PyData)(s:List Nat)(f:Bool)(n:Int)(pb:List PyData)(t:Option Bool):List MO :=
 .tab P fl::.lst wl::.lst (chars s)::.ins 163 (bK f n)::.lst pb::W0 t
section
variable {P:Addr}{fl f:Bool}{wl pb:List PyData}{s r:List Nat}{n:Int}{t:Option Bool}{c:Nat}
theorem ac5:chars (c::r)=.str ⟨⟨[c]⟩⟩::chars r:=rfl
theorem KP:kQ [.obj 3] (hs P fl wl [] f n pb t)=some (.dat (.str ⟨⟨[]⟩⟩),hs P fl wl [] f n pb t):=by
 cases f<;>rcases t with _|_<;>rfl
theorem X7(h:r.length < lim):qV 2 (hs P fl wl (c::r) f n pb t)=some (.dat (.str ⟨⟨[c]⟩⟩),hs P fl wl r f n pb t):=by
 show(if(chars (c::r)).length≤lim then some (PV.dat (.str ⟨⟨[c]⟩⟩),hs P fl wl r f n pb t)else none)=_
 exact if_pos (show(chars r).length+1≤lim by rw[chars,bI];exact h)
theorem Kc(h:F σ=some (.next,σ')):aH F G σ=G σ':=by unfold aH;rw[h]
theorem Vi(c k):fq .Eq (.str ⟨⟨[c]⟩⟩) (.str ⟨⟨[k]⟩⟩)=some (c==k):=by
 show some (([c]:List Nat)==[k])=_
 congr 1
 exact Bool.and_true _
theorem Wb:cb .Eq (aj 1) (sC [10]) ⟨[some (.obj 3),some (.dat (.str ⟨⟨[c]⟩⟩))],hs P fl wl r f n pb t⟩=some (c==10,hs P fl wl r f n pb t):=by
 show(match fq .Eq (.str ⟨⟨[c]⟩⟩) (.str ⟨⟨[10]⟩⟩)with
 |some d=>some (d,hs P fl wl r f n pb t)
 |none=>none)=_
 rw[Vi]
theorem ZJ:cZ (cb .Eq (aj 1) (sC [10])) (aH (HX (aj 0) (λσ=>some (.dat (.int 1),σ.hp)) 163 1 .Add) bh) bh ⟨[some (.obj 3),some (.dat (.str ⟨⟨[c]⟩⟩))],hs P fl wl r f n pb t⟩=some (.next,⟨[some (.obj 3),some (.dat (.str ⟨⟨[c]⟩⟩))],hs P fl wl r (f||c==10) (if c=10 then n+1 else n) pb t⟩):=by
 unfold cZ
 refine Wb.symm▸?_
 by_cases hc:c=10
 ·rw[hc];cases f<;>rfl
 ·rw[if_neg hc,beq_false_of_ne hc,Bool.or_false];rfl
theorem acz:trunc (hs P fl wl s f n pb t).length (.dat (.str ⟨⟨[c]⟩⟩)) (hs P fl wl r g m pb t)=some (.dat (.str ⟨⟨[c]⟩⟩),hs P fl wl r g m pb t):=by
 cases g<;>rcases t with _|_<;>rfl
theorem LB(h:r.length < lim):kQ [.obj 3] (hs P fl wl (c::r) f n pb t)=some (.dat (.str ⟨⟨[c]⟩⟩),hs P fl wl r (f||c==10) (if c=10 then n+1 else n) pb t):=by
 have h1:bN (E6 (aN (aj 0) (dS 163 0))) (dg 1) ⟨[some (.obj 3),none],hs P fl wl (c::r) f n pb t⟩=some (.next,⟨[some (.obj 3),some (.dat (.str ⟨⟨[c]⟩⟩))],hs P fl wl r f n pb t⟩):=by
  unfold bN
  rw[show E6 (aN (aj 0) (dS 163 0)) ⟨[some (.obj 3),none],hs P fl wl (c::r) f n pb t⟩=qV 2 (hs P fl wl (c::r) f n pb t)by cases f<;>rfl,X7 h]
  rfl
 have e:Gk.1 ⟨dI [.obj 3] 1,hs P fl wl (c::r) f n pb t⟩=some (.ret (.dat (.str ⟨⟨[c]⟩⟩)),⟨[some (.obj 3),some (.dat (.str ⟨⟨[c]⟩⟩))],hs P fl wl r (f||c==10) (if c=10 then n+1 else n) pb t⟩):=(Kc h1).trans ((Kc ZJ).trans rfl)
 unfold kQ dX
 rw[e]
 exact acz
end
section
variable {step:g0}{T:PyData->Loc->Option Loc}{B:XF}{m:Nat}{is is':IS}{σ dv:St}{d:PyData}{hp:List MO}{loc:Loc}{v:PV}
theorem iM(h1:step is σ.hp=some (some (d,is'),hp))(h2:T d σ.loc=some loc)(h3:B ⟨loc,hp⟩=some (.next,dv)):cx step T B (m+1) is σ=cx step T B m is' dv:=by
 rw[cx];dsimp only;rw[h1];dsimp only;rw[h2];dsimp only;rw[h3]
theorem Lj(h1:step is σ.hp=some (some (d,is'),hp))(h2:T d σ.loc=some loc)(h3:B ⟨loc,hp⟩=some (.cont,dv)):cx step T B (m+1) is σ=cx step T B m is' dv:=by
 rw[cx];dsimp only;rw[h1];dsimp only;rw[h2];dsimp only;rw[h3]
theorem uT(h1:step is σ.hp=some (some (d,is'),hp))(h2:T d σ.loc=some loc)(h3:B ⟨loc,hp⟩=some (.ret v,dv)):cx step T B (m+1) is σ=some (.ret v,dv):=by
 rw[cx];dsimp only;rw[h1];dsimp only;rw[h2];dsimp only;rw[h3]
theorem qr(h1:step is σ.hp=some (none,hp)):cx step T B (m+1) is σ=some (.next,⟨σ.loc,hp⟩):=by
 rw[cx];dsimp only;rw[h1]
end
noncomputable def jE:XF:=cZ (cb .Eq (aj 3) (sC [92])) (aH (bN (kX (aj 0) 163 "_read_char" kQ) (dg 3)) bh) bh
noncomputable def BQ:XF:=aH (cZ (cb .Eq (aj 3) (sC [34])) (aH (gr (aj 1)) bh) (aH jE bh)) (aH (jr 1 .Add (aj 3)) bh)
noncomputable def BW:XF:=aH (cZ (cb .In (aj 3) (aN (aj 0) (dS 163 2))) (aH (gr (aj 1)) bh) (aH jE bh)) (aH (jr 1 .Add (aj 3)) bh)
noncomputable def ti(B:XF):XF:=fu (yo jZ (aj 2)) λis n=>cx (mP 146 kQ) (cr 3) B n is
noncomputable def BO:XF:=aH (cZ (cb .In (aj 3) (aN (aj 0) (dS 163 2))) (aH (λσ=>some (.cont,σ)) bh) bh)
 (aH (cZ (cb .Eq (aj 3) (sC [34])) (aH (ti BQ) bh) (aH jE (aH (jr 1 .Add (aj 3)) (aH (ti BW) bh)))) bh)
noncomputable def BT:XF:=aH (cZ (aN (aN (aj 0) (dS 163 3)) mu) (aH (gr (oS (aN (aj 0) (dS 163 3)) true)) bh) bh)
 (aH (bN (sC []) (dg 1)) (aH (bN (wW (aj 0) 163 146 "_read_char") (dg 2)) (aH (ti BO) (aH (gr (aj 1)) bh))))
theorem I9:qE=dX 1 3 false BT:=rfl
noncomputable def LT(tok:List Nat)(ch:List Nat):Loc:=[some (.obj 3),some (.dat (.str ⟨⟨tok⟩⟩)),some (.obj 5),some (.dat (.str ⟨⟨ch⟩⟩))]
section
variable {P:Addr}{fl f dn:Bool}{wl pb:List PyData}{s r tok ch:List Nat}{n:Int}{t:Option Bool}{c d:Nat}
noncomputable abbrev ST:=mP 146 kQ
theorem rM:ST (.cf 5 0) (hs P fl wl [] f n pb (some false))=some (none,hs P fl wl [] f n pb (some true)):=by
 have:(hs P fl wl [] f n pb (some false))[5]?=some (.cH 3 146 false):=rfl
 unfold ST mP
 dsimp only
 refine this.symm▸?_
 dsimp only
 refine(if_pos rfl).symm▸KP.symm▸?_
 rfl
theorem step_done:ST (.cf 5 0) (hs P fl wl s f n pb (some true))=some (none,hs P fl wl s f n pb (some true)):=rfl
theorem step_cons(h:r.length < lim):ST (.cf 5 0) (hs P fl wl (c::r) f n pb (some false))=some (some (.str ⟨⟨[c]⟩⟩,.cf 5 0),hs P fl wl r (f||c==10) (if c=10 then n+1 else n) pb (some false)):=by
 have:(hs P fl wl (c::r) f n pb (some false))[5]?=some (.cH 3 146 false):=rfl
 unfold ST mP
 dsimp only
 rw[this]
 dsimp only
 rw[if_pos rfl,LB h]
 rfl
theorem eqs(c k):fq .Eq (.str ⟨⟨[c]⟩⟩) (.str ⟨⟨[k]⟩⟩)=some (c==k):=by
 show some (([c]:List Nat)==[k])=_
 congr 1
 rw[Bool.eq_iff_iff]
 simp
theorem uX(k):cb .Eq (aj 3) (sC [k]) ⟨LT tok [c],hs P fl wl s f n pb t⟩=some (c==k,hs P fl wl s f n pb t):=by
 show(match fq .Eq (.str ⟨⟨[c]⟩⟩) (.str ⟨⟨[k]⟩⟩)with
 |some d=>some (d,hs P fl wl s f n pb t)
 |none=>none)=_
 rw[eqs]
noncomputable def isWs(c:Nat):Bool:=[10,9,13,32].contains c
theorem xA:cb .In (aj 3) (aN (aj 0) (dS 163 2)) ⟨LT tok [c],hs P fl wl s f n pb t⟩=some (isWs c,hs P fl wl s f n pb t):=by
 cases f<;>rfl
theorem wL(h:tok.length+ch.length≤lim):jr 1 .Add (aj 3) ⟨LT tok ch,hs P fl wl s f n pb t⟩=some (.next,⟨LT (tok++ch) ch,hs P fl wl s f n pb t⟩):=by
 show(match m5 .Add (.str ⟨⟨tok⟩⟩) (.str ⟨⟨ch⟩⟩)with
 |some d=>some (Fl.next,(⟨(LT tok ch).set 1 (some (.dat d)),hs P fl wl s f n pb t⟩:St))
 |none=>none)=_
 have:m5 .Add (.str ⟨⟨tok⟩⟩) (.str ⟨⟨ch⟩⟩)=some (.str ⟨⟨tok++ch⟩⟩):=if_pos h
 rw[this];rfl
theorem uH(h:c≠92):jE ⟨LT tok [c],hs P fl wl s f n pb t⟩=some (.next,⟨LT tok [c],hs P fl wl s f n pb t⟩):=by
 unfold jE cZ
 rw[uX]
 have:(c==92)=false:=by simpa using h
 rw[this];rfl
theorem Dq:jE ⟨LT tok [92],hs P fl wl [] f n pb t⟩=some (.next,⟨LT tok [],hs P fl wl [] f n pb t⟩):=by
 unfold jE cZ
 rw[uX]
 show aH (bN (kX (aj 0) 163 "_read_char" kQ) (dg 3)) bh ⟨LT tok [92],hs P fl wl [] f n pb t⟩=_
 have:kX (aj 0) 163 "_read_char" kQ ⟨LT tok [92],hs P fl wl [] f n pb t⟩=some (.dat (.str ⟨⟨[]⟩⟩),hs P fl wl [] f n pb t):=by
  show(if gz 163 "_read_char" 3 (hs P fl wl [] f n pb t)then kQ [.obj 3] (hs P fl wl [] f n pb t)else none)=_
  rw[show gz 163 "_read_char" 3 (hs P fl wl [] f n pb t)=true by cases f<;>kernel_rfl,if_pos rfl,KP]
 unfold aH bN
 rw[this];rfl
theorem Ef(h:r.length < lim):jE ⟨LT tok [92],hs P fl wl (d::r) f n pb t⟩=some (.next,⟨LT tok [d],hs P fl wl r (f||d==10) (if d=10 then n+1 else n) pb t⟩):=by
 unfold jE cZ
 rw[uX]
 show aH (bN (kX (aj 0) 163 "_read_char" kQ) (dg 3)) bh ⟨LT tok [92],hs P fl wl (d::r) f n pb t⟩=_
 have:kX (aj 0) 163 "_read_char" kQ ⟨LT tok [92],hs P fl wl (d::r) f n pb t⟩=some (.dat (.str ⟨⟨[d]⟩⟩),hs P fl wl r (f||d==10) (if d=10 then n+1 else n) pb t):=by
  show(if gz 163 "_read_char" 3 (hs P fl wl (d::r) f n pb t)then kQ [.obj 3] (hs P fl wl (d::r) f n pb t)else none)=_
  rw[show gz 163 "_read_char" 3 (hs P fl wl (d::r) f n pb t)=true by cases f<;>kernel_rfl,if_pos rfl,LB h]
 unfold aH bN
 rw[this];rfl
end
noncomputable def mf:List Nat->List Nat->List Nat×Option (List Nat)
|[],tok=>(tok,none)
|[c],tok=>if c=34 then(tok,some [])else if c=92 then(tok,none)else(tok++[c],none)
|c::d::r,tok=>if c=34 then(tok,some (d::r))else if c=92 then mf r (tok++[d])else mf (d::r) (tok++[c])
noncomputable def kv:List Nat->List Nat->List Nat×Option (List Nat)
|[],tok=>(tok,none)
|[c],tok=>if isWs c then(tok,some [])else if c=92 then(tok,none)else(tok++[c],none)
|c::d::r,tok=>if isWs c then(tok,some (d::r))else if c=92 then kv r (tok++[d])else kv (d::r) (tok++[c])
section
variable {P:Addr}{fl f dn:Bool}{wl pb:List PyData}{s r tok ch:List Nat}{n:Int}{t:Option Bool}{c d:Nat}
noncomputable def Rz(P:Addr)(fl:Bool)(wl pb:List PyData)(N:Int)(x:List Nat×Option (List Nat))(res:Option (Fl×St)):Prop:=match x with
|(t',some r)=>∃kn f' n',res=some (.ret (.dat (.str ⟨⟨t'⟩⟩)),⟨LT t' kn,hs P fl wl r f' n' pb (some false)⟩)∧n'+(r.count 10:Nat)=N
|(t',none)=>∃kn f',res=some (.next,⟨LT t' kn,hs P fl wl [] f' N pb (some true)⟩)
theorem l4{c:Nat}{r:List Nat}{n:Int}:(if c=10 then n+1 else n)+(r.count 10:Nat)=n+((c::r).count 10:Nat):=by
 rw[List.count_cons]
 by_cases h:c=10
 ·subst h;simp;exact yj _ _
 ·simp[h]
theorem Of:BQ ⟨LT tok [34],hs P fl wl s f n pb t⟩=some (.ret (.dat (.str ⟨⟨tok⟩⟩)),⟨LT tok [34],hs P fl wl s f n pb t⟩):=rfl
theorem BE(h:c≠34)(he:jE ⟨LT tok [c],hs P fl wl s f n pb t⟩=some (.next,σ')):BQ ⟨LT tok [c],hs P fl wl s f n pb t⟩=aH (jr 1 .Add (aj 3)) bh σ':=by
 unfold BQ cZ
 have h1:cb .Eq (aj 3) (sC [34]) ⟨LT tok [c],hs P fl wl s f n pb t⟩=some (false,hs P fl wl s f n pb t):=by
  rw[uX]
  have:(c==34)=false:=by simpa using h
  exact this.symm▸rfl
 rw[aH]
 rw[h1]
 dsimp only
 refine(if_neg aw).symm▸?_
 show(match aH jE bh ⟨LT tok [c],hs P fl wl s f n pb t⟩with
 |some (.next,σ')=>aH (jr 1 .Add (aj 3)) bh σ'
 |r=>r)=_
 have:aH jE bh ⟨LT tok [c],hs P fl wl s f n pb t⟩=some (.next,σ'):=by
  unfold aH
  rw[he];rfl
 exact this.symm▸rfl
theorem Li(h:isWs c=true):BW ⟨LT tok [c],hs P fl wl s f n pb t⟩=some (.ret (.dat (.str ⟨⟨tok⟩⟩)),⟨LT tok [c],hs P fl wl s f n pb t⟩):=by
 unfold BW cZ
 rw[aH]
 rw[xA,h]
 rfl
theorem yY(h:isWs c=false)(he:jE ⟨LT tok [c],hs P fl wl s f n pb t⟩=some (.next,σ')):BW ⟨LT tok [c],hs P fl wl s f n pb t⟩=aH (jr 1 .Add (aj 3)) bh σ':=by
 unfold BW cZ
 rw[aH]
 rw[xA,h]
 dsimp only
 refine(if_neg aw).symm▸?_
 show(match aH jE bh ⟨LT tok [c],hs P fl wl s f n pb t⟩with
 |some (.next,σ')=>aH (jr 1 .Add (aj 3)) bh σ'
 |r=>r)=_
 have:aH jE bh ⟨LT tok [c],hs P fl wl s f n pb t⟩=some (.next,σ'):=by
  unfold aH
  rw[he];rfl
 exact this.symm▸rfl
theorem re(h:tok.length+ch.length≤lim):aH (jr 1 .Add (aj 3)) bh ⟨LT tok ch,hs P fl wl s f n pb t⟩=some (.next,⟨LT (tok++ch) ch,hs P fl wl s f n pb t⟩):=by
 unfold aH
 rw[wL h];rfl
theorem zi:∀(k:Nat) (s tok ch:List Nat) (f:Bool) (n:Int) (m:Nat),s.length≤k->s.length < m->s.length < lim->tok.length+s.length≤lim ->
  Rz P fl wl pb (n+(s.count 10:Nat)) (mf s tok) (cx ST (cr 3) BQ m (.cf 5 0) ⟨LT tok ch,hs P fl wl s f n pb (some false)⟩)
|_,_,_,_,_,_,0=>λ_ h=>absurd h (bw _)
|0,_::_,_,_,_,_,_=>λh=>absurd h (Nat.not_succ_le_zero _)
|_,[],tok,ch,f,n,m+1=>λ_ _ _ _=>by
  refine⟨ch,f,?_⟩
  rw[qr rM]
  simp
|k+1,[c],tok,ch,f,n,m+1=>λhk hm hl ht=>by
  have dN:=step_cons (P:=P) (fl:=fl) (wl:=wl) (pb:=pb) (c:=c) (r:=[]) (f:=f) (n:=n) (by decide)
  have hN:(if c=10 then n+1 else n)=n+([c].count 10:Nat):=by have:=l4 (c:=c) (r:=[]) (n:=n);simpa using this
  rw[mf]
  by_cases eJ:c=34
  ·subst eJ
   refine(if_pos rfl).symm▸?_
   exact⟨[34],_,_,uT dN rfl Of,by simp⟩
  ·refine(if_neg eJ).symm▸?_
   cases m with
  |zero=>simp at hm
  |succ m =>
   by_cases dK:c=92
   ·subst dK
    refine(if_pos rfl).symm▸?_
    rw[iM dN rfl ((BE eJ Dq).trans (re (by simp at ht ⊢;(exact Nat.le_of_lt (by assumption))))),qr rM]
    exact⟨[],_,by simp;rfl⟩
   ·refine(if_neg dK).symm▸?_
    rw[iM dN rfl ((BE eJ (uH dK)).trans (re (by simpa using ht))),qr rM]
    exact⟨[c],_,by rw[hN]⟩
|k+1,c::d::r,tok,ch,f,n,m+1=>λhk hm hl ht=>by
  simp only[List.length_cons]at hk hm hl ht
  have dN:=step_cons (P:=P) (fl:=fl) (wl:=wl) (pb:=pb) (c:=c) (r:=d::r) (f:=f) (n:=n) (by simp;(exact aG (by assumption)))
  rw[mf]
  by_cases eJ:c=34
  ·subst eJ
   refine(if_pos rfl).symm▸?_
   exact⟨[34],_,_,uT dN rfl Of,l4.symm▸rfl⟩
  ·refine(if_neg eJ).symm▸?_
   by_cases dK:c=92
   ·subst dK
    refine(if_pos rfl).symm▸?_
    rw[iM dN rfl ((BE eJ (Ef (by (exact Nat.lt_of_le_of_lt (Nat.le_add_right _ _) (by assumption))))).trans (re (by simp;(exact Nat.lt_of_le_of_lt (Nat.le_add_right _ _) (by assumption)))))]
    have ih:=zi k r (tok++[d]) [d] (f||(92:Nat)==10||d==10) (if d=10 then(if(92:Nat)=10 then n+1 else n)+1 else(if(92:Nat)=10 then n+1 else n)) m (bR (Nat.le_of_succ_le_succ hk)) (Nat.lt_of_succ_lt (bG hm)) (by (exact ah (ax _ _) (by assumption))) (by simp;exact aa (aU (bg tok.length 1 r.length)) (bR ht))
    rw[l4,if_neg (by decide)]at ih
    refine(show((92::d::r).count 10:Nat)=((d::r).count 10:Nat)by rw[List.count_cons];simp).symm▸?_
    exact ih
   ·refine(if_neg dK).symm▸?_
    rw[iM dN rfl ((BE eJ (uH dK)).trans (re (by simp;(exact Nat.lt_of_le_of_lt (Nat.le_add_right _ _) (by assumption)))))]
    have ih:=zi k (d::r) (tok++[c]) [c] (f||c==10) (if c=10 then n+1 else n) m (by simp;(exact aC (by assumption))) (by simp;(exact aC (by assumption))) (by simp;(exact aG (by assumption))) (by simp;exact aa (aU (congrArg Nat.succ (bg tok.length 1 r.length))) ht)
    replace ih:=l4▸ih
    exact ih
theorem vv:∀(k:Nat) (s tok ch:List Nat) (f:Bool) (n:Int) (m:Nat),s.length≤k->s.length < m->s.length < lim->tok.length+s.length≤lim ->
  Rz P fl wl pb (n+(s.count 10:Nat)) (kv s tok) (cx ST (cr 3) BW m (.cf 5 0) ⟨LT tok ch,hs P fl wl s f n pb (some false)⟩)
|_,_,_,_,_,_,0=>λ_ h=>absurd h (bw _)
|0,_::_,_,_,_,_,_=>λh=>absurd h (Nat.not_succ_le_zero _)
|_,[],tok,ch,f,n,m+1=>λ_ _ _ _=>by
  refine⟨ch,f,?_⟩
  rw[qr rM]
  simp
|k+1,[c],tok,ch,f,n,m+1=>λhk hm hl ht=>by
  have dN:=step_cons (P:=P) (fl:=fl) (wl:=wl) (pb:=pb) (c:=c) (r:=[]) (f:=f) (n:=n) (by decide)
  have hN:(if c=10 then n+1 else n)=n+([c].count 10:Nat):=by have:=l4 (c:=c) (r:=[]) (n:=n);simpa using this
  rw[kv]
  cases hw:isWs c with
 |true =>
   rw[if_pos rfl]
   exact⟨[c],_,_,uT dN rfl (Li hw),by simpa using hN⟩
 |false =>
   rw[if_neg aw]
   cases m with
  |zero=>simp at hm
  |succ m =>
   by_cases dK:c=92
   ·subst dK
    rw[if_pos rfl]
    rw[iM dN rfl ((yY hw Dq).trans (re (by simp at ht ⊢;(exact Nat.le_of_lt (by assumption))))),qr rM]
    exact⟨[],_,by simp;rfl⟩
   ·rw[if_neg dK]
    rw[iM dN rfl ((yY hw (uH dK)).trans (re (by simpa using ht))),qr rM]
    exact⟨[c],_,by rw[hN]⟩
|k+1,c::d::r,tok,ch,f,n,m+1=>λhk hm hl ht=>by
  simp only[List.length_cons]at hk hm hl ht
  have dN:=step_cons (P:=P) (fl:=fl) (wl:=wl) (pb:=pb) (c:=c) (r:=d::r) (f:=f) (n:=n) (by simp;(exact aG (by assumption)))
  rw[kv]
  cases hw:isWs c with
 |true =>
   rw[if_pos rfl]
   exact⟨[c],_,_,uT dN rfl (Li hw),by rw[l4]⟩
 |false =>
   rw[if_neg aw]
   by_cases dK:c=92
   ·subst dK
    rw[if_pos rfl]
    rw[iM dN rfl ((yY hw (Ef (by (exact Nat.lt_of_le_of_lt (Nat.le_add_right _ _) (by assumption))))).trans (re (by simp;(exact Nat.lt_of_le_of_lt (Nat.le_add_right _ _) (by assumption)))))]
    have ih:=vv k r (tok++[d]) [d] (f||(92:Nat)==10||d==10) (if d=10 then(if(92:Nat)=10 then n+1 else n)+1 else(if(92:Nat)=10 then n+1 else n)) m (bR (Nat.le_of_succ_le_succ hk)) (Nat.lt_of_succ_lt (bG hm)) (by (exact ah (ax _ _) (by assumption))) (by simp;exact aa (aU (bg tok.length 1 r.length)) (bR ht))
    rw[l4,if_neg (by decide)]at ih
    rw[show((92::d::r).count 10:Nat)=((d::r).count 10:Nat)by rw[List.count_cons];simp]
    exact ih
   ·rw[if_neg dK]
    rw[iM dN rfl ((yY hw (uH dK)).trans (re (by simp;(exact Nat.lt_of_le_of_lt (Nat.le_add_right _ _) (by assumption)))))]
    have ih:=vv k (d::r) (tok++[c]) [c] (f||c==10) (if c=10 then n+1 else n) m (by simp;(exact aC (by assumption))) (by simp;(exact aC (by assumption))) (by simp;(exact aG (by assumption))) (by simp;exact aa (aU (congrArg Nat.succ (bg tok.length 1 r.length))) ht)
    rw[l4]at ih
    exact ih
end
noncomputable def iY(tok:List Nat)(o:Option PV):Loc:=[some (.obj 3),some (.dat (.str ⟨⟨tok⟩⟩)),some (.obj 5),o]
noncomputable def ft:List Nat->List Nat×Option (List Nat)
|[]=>([],none)
|[c]=>if isWs c then([],none)else if c=34 then([],none)else if c=92 then([],none)else([c],none)
|c::d::r=>if isWs c then ft (d::r)else if c=34 then mf (d::r) []else if c=92 then kv r [d]else kv (d::r) [c]
section
variable {P:Addr}{fl f dn:Bool}{wl pb:List PyData}{s r tok ch:List Nat}{n:Int}{t:Option Bool}{c d:Nat}
theorem sN:s.length+2≤jZ (hs P fl wl s f n pb t):=by
 unfold jZ hs
 have:(chars s).length=s.length:=by simp[chars]
 simp[this]
 lia
theorem Zm(B):ti B ⟨iY tok (some (.dat (.str ⟨⟨ch⟩⟩))),hs P fl wl s f n pb (some dn)⟩=cx ST (cr 3) B (jZ (hs P fl wl s f n pb (some dn))) (.cf 5 0) ⟨LT tok ch,hs P fl wl s f n pb (some dn)⟩:=rfl
noncomputable def Rt(P:Addr)(fl:Bool)(wl pb:List PyData)(N:Int)(x:List Nat×Option (List Nat))(res:Option (Fl×St)):Prop:=match x with
|(t',some r)=>∃o f' n',res=some (.ret (.dat (.str ⟨⟨t'⟩⟩)),⟨iY t' o,hs P fl wl r f' n' pb (some false)⟩)∧n'+(r.count 10:Nat)=N
|(t',none)=>∃o f',res=some (.next,⟨iY t' o,hs P fl wl [] f' N pb (some true)⟩)
theorem Rz.outer{N:Int}{x:List Nat×Option (List Nat)}{m:Nat}{st ai:List MO}{loc loc':Loc}{e:PyData}(h1:ST (.cf 5 0) st=some (some (e,.cf 5 0),ai))(h2:cr 3 e loc=some loc')(h:Rz P fl wl pb N x (BO ⟨loc',ai⟩))(hm:0 < m) :
  Rt P fl wl pb N x (cx ST (cr 3) BO (m+1) (.cf 5 0) ⟨loc,st⟩):=by
 obtain⟨t',o⟩:=x
 cases o with
|some r =>
  obtain⟨kn,f',n',e,hn⟩:=h
  exact⟨some (.dat (.str ⟨⟨kn⟩⟩)),f',n',uT h1 h2 e,hn⟩
|none =>
  obtain⟨kn,f',e⟩:=h
  refine⟨some (.dat (.str ⟨⟨kn⟩⟩)),f',?_⟩
  rw[iM h1 h2 e]
  cases m with
 |zero=>cases hm
 |succ m =>
   rw[qr step_done]
   rfl
theorem bm(h:F σ=some (.next,σ')):aH F G σ=G σ':=by unfold aH;rw[h]
theorem oU(h:F σ=some (.ret v,σ')):aH F G σ=some (.ret v,σ'):=by unfold aH;rw[h]
theorem gJ(F)(σ):aH F bh σ=F σ:=by
 unfold aH
 split
 ·rename_i e;rw[e];rfl
 ·rfl
theorem LO(h:isWs c=true):BO ⟨iY tok (some (.dat (.str ⟨⟨[c]⟩⟩))),hs P fl wl s f n pb t⟩=some (.cont,⟨iY tok (some (.dat (.str ⟨⟨[c]⟩⟩))),hs P fl wl s f n pb t⟩):=by
 unfold BO
 rw[aH]
 unfold cZ
 refine(show cb .In (aj 3) (aN (aj 0) (dS 163 2)) ⟨iY tok (some (.dat (.str ⟨⟨[c]⟩⟩))),hs P fl wl s f n pb t⟩=some (isWs c,hs P fl wl s f n pb t)from xA).symm▸h.symm▸?_
 rfl
theorem NS:BO ⟨iY tok (some (.dat (.str ⟨⟨[34]⟩⟩))),hs P fl wl s f n pb (some false)⟩=cx ST (cr 3) BQ (jZ (hs P fl wl s f n pb (some false))) (.cf 5 0) ⟨LT tok [34],hs P fl wl s f n pb (some false)⟩:=by
 unfold BO
 rw[aH]
 unfold cZ
 refine(show cb .In (aj 3) (aN (aj 0) (dS 163 2)) ⟨iY tok (some (.dat (.str ⟨⟨[34]⟩⟩))),hs P fl wl s f n pb (some false)⟩=some (isWs 34,hs P fl wl s f n pb (some false))from xA).symm▸?_
 refine(show isWs 34=false by rfl).symm▸?_
 dsimp only
 refine(if_neg aw).symm▸?_
 show aH (λσ=>match cb .Eq (aj 3) (sC [34]) σ with
 |some (b,hp)=>if b=true then aH (ti BQ) bh ⟨σ.loc,hp⟩else _
 |none=>none) bh _=_
 rw[gJ]
 rw[show cb .Eq (aj 3) (sC [34]) ⟨iY tok (some (.dat (.str ⟨⟨[34]⟩⟩))),hs P fl wl s f n pb (some false)⟩=some ((34:Nat)==34,hs P fl wl s f n pb (some false))from uX 34]
 dsimp only
 rw[if_pos (by rfl),gJ,Zm]
theorem yC(h:isWs c=false)(eJ:c≠34)(he:jE ⟨LT tok [c],hs P fl wl s f n pb (some false)⟩=some (.next,σ')) :
  BO ⟨iY tok (some (.dat (.str ⟨⟨[c]⟩⟩))),hs P fl wl s f n pb (some false)⟩=aH (jr 1 .Add (aj 3)) (aH (ti BW) bh) σ':=by
 unfold BO
 rw[aH]
 unfold cZ
 rw[show cb .In (aj 3) (aN (aj 0) (dS 163 2)) ⟨iY tok (some (.dat (.str ⟨⟨[c]⟩⟩))),hs P fl wl s f n pb (some false)⟩=some (isWs c,hs P fl wl s f n pb (some false))from xA,h]
 dsimp only
 rw[if_neg aw]
 show aH (λσ=>match cb .Eq (aj 3) (sC [34]) σ with
 |some (b,hp)=>if b=true then _ else aH jE (aH (jr 1 .Add (aj 3)) (aH (ti BW) bh)) ⟨σ.loc,hp⟩
 |none=>none) bh _=_
 rw[gJ]
 rw[show cb .Eq (aj 3) (sC [34]) ⟨iY tok (some (.dat (.str ⟨⟨[c]⟩⟩))),hs P fl wl s f n pb (some false)⟩=some (c==34,hs P fl wl s f n pb (some false))from uX 34]
 rw[show(c==34)=false by simpa using eJ]
 dsimp only
 rw[if_neg aw]
 exact bm he
theorem OK:∀(k:Nat) (s:List Nat) (o:Option PV) (f:Bool) (n:Int) (m:Nat),s.length≤k->s.length+1 < m->s.length+2 < lim ->
  Rt P fl wl pb (n+(s.count 10:Nat)) (ft s) (cx ST (cr 3) BO m (.cf 5 0) ⟨iY [] o,hs P fl wl s f n pb (some false)⟩)
|_,_,_,_,_,0=>λ_ h=>absurd h (bw _)
|0,_::_,_,_,_,_=>λh=>absurd h (Nat.not_succ_le_zero _)
|_,[],o,f,n,m+1=>λ_ _ _=>by
  refine⟨o,f,?_⟩
  rw[qr rM]
  simp
|k+1,[c],o,f,n,m+1=>λhk hm hl=>by
  have dN:=step_cons (P:=P) (fl:=fl) (wl:=wl) (pb:=pb) (c:=c) (r:=[]) (f:=f) (n:=n) (by decide)
  have hN:(if c=10 then n+1 else n)=n+([c].count 10:Nat):=by have:=l4 (c:=c) (r:=[]) (n:=n);simpa using this
  have kA:0 < m:=by simp at hm;exact Nat.lt_of_succ_lt (bG hm)
  rw[ft]
  cases hw:isWs c with
 |true =>
   refine(if_pos rfl).symm▸?_
   obtain⟨m,rfl⟩:∃m',m=m'+1:=⟨m - 1,by (exact(Nat.sub_add_cancel (by assumption)).symm)⟩
   rw[Lj dN rfl (LO hw),qr rM,hN]
   exact⟨_,_,rfl⟩
 |false =>
   refine(if_neg aw).symm▸?_
   by_cases eJ:c=34
   ·subst eJ
    refine(if_pos rfl).symm▸?_
    refine Rz.outer dN rfl ?_ kA
    skip
    refine NS.symm▸?_
    have:=zi (P:=P) (fl:=fl) (wl:=wl) (pb:=pb) 0 [] [] [34] (f||(34:Nat)==10) (if(34:Nat)=10 then n+1 else n) (jZ (hs P fl wl [] (f||(34:Nat)==10) (if(34:Nat)=10 then n+1 else n) pb (some false))) (am _) (by have:=sN (P:=P) (fl:=fl) (wl:=wl) (pb:=pb) (s:=[]) (f:=f||(34:Nat)==10) (n:=if(34:Nat)=10 then n+1 else n) (t:=some false);simp at this ⊢;(exact Nat.succ_pos _)) (by decide) (by decide)
    simpa[mf]using this
   ·refine(if_neg eJ).symm▸?_
    by_cases dK:c=92
    ·subst dK
     refine(if_pos rfl).symm▸?_
     refine Rz.outer dN rfl ?_ kA
     show Rz P fl wl pb _ _ (BO ⟨iY [] (some (.dat (.str ⟨⟨[92]⟩⟩))),_⟩)
     rw[yC hw eJ Dq,bm (wL (by decide)),gJ,← hN]
     show Rz P fl wl pb _ _ (cx ST (cr 3) BW _ (.cf 5 0) _)
     have:=vv (P:=P) (fl:=fl) (wl:=wl) (pb:=pb) 0 [] [] [] (f||(92:Nat)==10) (if(92:Nat)=10 then n+1 else n) (jZ (hs P fl wl [] (f||(92:Nat)==10) (if(92:Nat)=10 then n+1 else n) pb (some false))) (am _) (by have:=sN (P:=P) (fl:=fl) (wl:=wl) (pb:=pb) (s:=[]) (f:=f||(92:Nat)==10) (n:=if(92:Nat)=10 then n+1 else n) (t:=some false);simp at this ⊢;(exact Nat.succ_pos _)) (by decide) (by decide)
     simpa[kv]using this
    ·refine(if_neg dK).symm▸?_
     refine Rz.outer dN rfl ?_ kA
     show Rz P fl wl pb _ _ (BO ⟨iY [] (some (.dat (.str ⟨⟨[c]⟩⟩))),_⟩)
     rw[yC hw eJ (uH dK),bm (wL (by show 0+1≤lim;decide)),gJ,← hN]
     show Rz P fl wl pb _ _ (cx ST (cr 3) BW _ (.cf 5 0) _)
     have:=vv (P:=P) (fl:=fl) (wl:=wl) (pb:=pb) 0 [] [c] [c] (f||c==10) (if c=10 then n+1 else n) (jZ (hs P fl wl [] (f||c==10) (if c=10 then n+1 else n) pb (some false))) (am _) (by have:=sN (P:=P) (fl:=fl) (wl:=wl) (pb:=pb) (s:=[]) (f:=f||c==10) (n:=if c=10 then n+1 else n) (t:=some false);simp at this ⊢;(exact Nat.succ_pos _)) (by decide) (by show 1+0≤lim;decide)
     simpa[kv]using this
|k+1,c::d::r,o,f,n,m+1=>λhk hm hl=>by
  simp only[List.length_cons]at hk hm hl
  have dN:=step_cons (P:=P) (fl:=fl) (wl:=wl) (pb:=pb) (c:=c) (r:=d::r) (f:=f) (n:=n) (by simp;exact ah (ax (r.length+1) 3) hl)
  have kA:0 < m:=ah (bZ _) (bG hm)
  rw[ft]
  cases hw:isWs c with
 |true =>
   rw[if_pos rfl,Lj dN rfl (LO hw)]
   have ih:=OK k (d::r) (some (.dat (.str ⟨⟨[c]⟩⟩))) (f||c==10) (if c=10 then n+1 else n) m (by simp;(exact aC (by assumption))) (by simp;(exact aC (by assumption))) (by simp;(exact aG (by assumption)))
   replace ih:=l4▸ih
   exact ih
 |false =>
   refine(if_neg aw).symm▸?_
   by_cases eJ:c=34
   ·subst eJ
    refine(if_pos rfl).symm▸?_
    refine Rz.outer dN rfl ?_ kA
    skip
    refine NS.symm▸?_
    have:=zi (P:=P) (fl:=fl) (wl:=wl) (pb:=pb) (r.length+1) (d::r) [] [34] (f||(34:Nat)==10) (if(34:Nat)=10 then n+1 else n) (jZ (hs P fl wl (d::r) (f||(34:Nat)==10) (if(34:Nat)=10 then n+1 else n) pb (some false))) (by simp) (by have:=sN (P:=P) (fl:=fl) (wl:=wl) (pb:=pb) (s:=d::r) (f:=f||(34:Nat)==10) (n:=if(34:Nat)=10 then n+1 else n) (t:=some false);(exact aG (by assumption))) (by simp;exact ah (ax (r.length+1) 3) hl) (by simp;(exact ah (ax _ _) (by assumption)))
    replace this:=l4▸this
    exact this
   ·refine(if_neg eJ).symm▸?_
    by_cases dK:c=92
    ·subst dK
     refine(if_pos rfl).symm▸?_
     refine Rz.outer dN rfl ?_ kA
     show Rz P fl wl pb _ _ (BO ⟨iY [] (some (.dat (.str ⟨⟨[92]⟩⟩))),_⟩)
     rw[yC hw eJ (Ef (by (exact Nat.lt_of_le_of_lt (Nat.le_add_right _ _) (by assumption)))),bm (wL (by show 0+1≤lim;decide)),gJ]
     have:=vv (P:=P) (fl:=fl) (wl:=wl) (pb:=pb) r.length r [d] [d] (f||(92:Nat)==10||d==10) (if d=10 then(if(92:Nat)=10 then n+1 else n)+1 else(if(92:Nat)=10 then n+1 else n)) (jZ (hs P fl wl r (f||(92:Nat)==10||d==10) (if d=10 then(if(92:Nat)=10 then n+1 else n)+1 else(if(92:Nat)=10 then n+1 else n)) pb (some false))) (am _) (by have:=sN (P:=P) (fl:=fl) (wl:=wl) (pb:=pb) (s:=r) (f:=f||(92:Nat)==10||d==10) (n:=if d=10 then(if(92:Nat)=10 then n+1 else n)+1 else(if(92:Nat)=10 then n+1 else n)) (t:=some false);(exact aG (by assumption))) (by (exact ah (ax _ _) (by assumption))) (by simp;exact aa (aU (Nat.add_comm 1 _)) (aG (ah (ax (r.length+1) 3) hl)))
     rw[l4,if_neg (by decide)]at this
     refine(show((92::d::r).count 10:Nat)=((d::r).count 10:Nat)by rw[List.count_cons];simp).symm▸?_
     exact this
    ·refine(if_neg dK).symm▸?_
     refine Rz.outer dN rfl ?_ kA
     show Rz P fl wl pb _ _ (BO ⟨iY [] (some (.dat (.str ⟨⟨[c]⟩⟩))),_⟩)
     rw[yC hw eJ (uH dK),bm (wL (by show 0+1≤lim;decide)),gJ]
     have:=vv (P:=P) (fl:=fl) (wl:=wl) (pb:=pb) (r.length+1) (d::r) [c] [c] (f||c==10) (if c=10 then n+1 else n) (jZ (hs P fl wl (d::r) (f||c==10) (if c=10 then n+1 else n) pb (some false))) (by simp) (by have:=sN (P:=P) (fl:=fl) (wl:=wl) (pb:=pb) (s:=d::r) (f:=f||c==10) (n:=if c=10 then n+1 else n) (t:=some false);(exact aG (by assumption))) (by simp;exact ah (ax (r.length+1) 3) hl) (by simp;exact aa (aU (Nat.add_comm 1 _)) (aG (ah (ax (r.length+1+1) 2) hl)))
     replace this:=l4▸this
     exact this
end
section
variable {P:Addr}{fl f dn:Bool}{wl pb:List PyData}{s r tok ch:List Nat}{n:Int}{t:Option Bool}{c:Nat}{d:PyData}
theorem JW:trunc 5 (.dat v) (hs P fl wl s f n pb (some o))=some (.dat v,hs P fl wl s f n pb none):=by
 cases f<;>rfl
theorem z7(hl:s.length+2 < lim):∃f' n',qE [.obj 3] (hs P fl wl s f n [] none)=some (.dat (.str ⟨⟨(ft s).1⟩⟩),hs P fl wl ((ft s).2.getD []) f' n' [] none)∧n'+(((ft s).2.getD []).count 10:Nat)=n+(s.count 10:Nat):=by
 have h:=OK (P:=P) (fl:=fl) (wl:=wl) (pb:=[]) s.length s none f n (jZ (hs P fl wl s f n [] (some false))) (am _) (by have:=sN (P:=P) (fl:=fl) (wl:=wl) (pb:=[]) (s:=s) (f:=f) (n:=n) (t:=some false);assumption) hl
 have V0:BT ⟨dI [.obj 3] 3,hs P fl wl s f n [] none⟩=aH (λσ=>cx ST (cr 3) BO (jZ (hs P fl wl s f n [] (some false))) (.cf 5 0) σ) (aH (gr (aj 1)) bh) ⟨iY [] none,hs P fl wl s f n [] (some false)⟩:=by
  have h1:cZ (aN (aN (aj 0) (dS 163 3)) mu) (aH (gr (oS (aN (aj 0) (dS 163 3)) true)) bh) bh ⟨dI [.obj 3] 3,hs P fl wl s f n [] none⟩=some (.next,⟨dI [.obj 3] 3,hs P fl wl s f n [] none⟩):=by
   cases f<;>rfl
  have h2:bN (wW (aj 0) 163 146 "_read_char") (dg 2) ⟨[some (.obj 3),some (.dat (.str ⟨⟨[]⟩⟩)),none,none],hs P fl wl s f n [] none⟩=some (.next,⟨iY [] none,hs P fl wl s f n [] (some false)⟩):=by
   unfold bN
   have:wW (aj 0) 163 146 "_read_char" ⟨[some (.obj 3),some (.dat (.str ⟨⟨[]⟩⟩)),none,none],hs P fl wl s f n [] none⟩=some (.obj 5,hs P fl wl s f n [] (some false)):=by
    show(if gz 163 "_read_char" 3 (hs P fl wl s f n [] none)then some (PV.obj 5,hs P fl wl s f n [] none++[.cH 3 146 false])else none)=_
    rw[show gz 163 "_read_char" 3 (hs P fl wl s f n [] none)=true by cases f<;>kernel_rfl,if_pos rfl]
    rfl
   rw[this];rfl
  unfold BT
  refine(bm h1).symm▸?_
  rw[bm (σ':=⟨[some (.obj 3),some (.dat (.str ⟨⟨[]⟩⟩)),none,none],hs P fl wl s f n [] none⟩) rfl,bm h2]
  rfl
 refine I9.symm▸?_
 unfold dX
 refine V0.symm▸?_
 revert h
 generalize ft s=x
 obtain⟨t',o⟩:=x
 cases o with
|some r =>
  rintro ⟨o,f',n',e,hn⟩
  refine⟨f',n',?_,hn⟩
  refine(oU e).symm▸?_
  skip
  exact JW
|none =>
  rintro ⟨o,f',e⟩
  refine⟨f',n+(s.count 10:Nat),?_,by simp⟩
  rw[bm e,gJ]
  skip
  exact JW
theorem I4(hl:pb.length < lim):qE [.obj 3] (hs P fl wl s f n (d::pb) none)=some (.dat d,hs P fl wl s f n pb none):=by
 have hp:∀hp:List MO,mQ 4 0 (d::pb) hp=some (.dat d,hp.set 4 (.lst pb)):=λhp=>by
  unfold mQ
  rw[if_pos (by show pb.length+1≤lim;assumption)]
  rfl
 have ht:ue (.list (d::pb))=some true:=by
  show(if(d::pb).length≤lim then some ((d::pb).length != 0)else none)=_
  rw[if_pos (by show pb.length+1≤lim;assumption)]
  rfl
 have h1:aN (aN (aj 0) (dS 163 3)) mu ⟨dI [.obj 3] 3,hs P fl wl s f n (d::pb) none⟩=some (true,hs P fl wl s f n (d::pb) none):=by
  have:aN (aN (aj 0) (dS 163 3)) mu ⟨dI [.obj 3] 3,hs P fl wl s f n (d::pb) none⟩=(match ue (.list (d::pb))with
  |some b=>some (b,hs P fl wl s f n (d::pb) none)
  |none=>none):=by cases f<;>rfl
  rw[this,ht]
 have h2:oS (aN (aj 0) (dS 163 3)) true ⟨dI [.obj 3] 3,hs P fl wl s f n (d::pb) none⟩=some (.dat d,hs P fl wl s f n pb none):=by
  have:oS (aN (aj 0) (dS 163 3)) true ⟨dI [.obj 3] 3,hs P fl wl s f n (d::pb) none⟩=mQ 4 0 (d::pb) (hs P fl wl s f n (d::pb) none):=by cases f<;>rfl
  rw[this,hp];rfl
 rw[I9]
 unfold dX
 have hB:BT ⟨dI [.obj 3] 3,hs P fl wl s f n (d::pb) none⟩=some (.ret (.dat d),⟨dI [.obj 3] 3,hs P fl wl s f n pb none⟩):=by
  unfold BT
  refine oU ?_
  unfold cZ
  rw[h1]
  dsimp only
  rw[if_pos rfl,gJ]
  unfold gr bN
  rw[h2]
 rw[hB]
 show trunc 5 _ _=_
 cases f<;>rfl
theorem Kb(hl:pb.length≤lim):wb [.obj 3,.dat d] (hs P fl wl s f n pb none)=some (.dat .none,hs P fl wl s f n (pb++[d]) none):=by
 have hA:∀hp:List MO,hp[4]?=some (.lst pb)->ul 4 (.dat d) ⟨dI [.obj 3,.dat d] 0,hp⟩=some (.dat .none,hp.set 4 (.lst (pb++[d]))):=λhp h=>by
  unfold ul
  dsimp only
  rw[h]
  dsimp only
  rw[if_pos hl]
 unfold wb dX
 have hB:Ei.1 ⟨dI [.obj 3,.dat d] 0,hs P fl wl s f n pb none⟩=some (.next,⟨dI [.obj 3,.dat d] 0,hs P fl wl s f n (pb++[d]) none⟩):=by
  have e1:mT (aN (aj 0) (dS 163 3)) (aj 1) ⟨dI [.obj 3,.dat d] 0,hs P fl wl s f n pb none⟩=some (.dat .none,hs P fl wl s f n (pb++[d]) none):=by
   have:mT (aN (aj 0) (dS 163 3)) (aj 1) ⟨dI [.obj 3,.dat d] 0,hs P fl wl s f n pb none⟩=ul 4 (.dat d) ⟨dI [.obj 3,.dat d] 0,hs P fl wl s f n pb none⟩:=by cases f<;>rfl
   rw[this,hA _ rfl];rfl
  show aH (bN (mT (aN (aj 0) (dS 163 3)) (aj 1)) _) bh _=_
  refine bm ?_
  unfold bN
  exact e1.symm▸rfl
 refine hB.symm▸?_
 show trunc 5 _ _=_
 cases f<;>rfl
theorem Vf(hl:s.length≤lim):FK [.dat (.str ⟨⟨s⟩⟩)] [.tab 186 true,.lst wl]=some (.obj 3,hs 186 false wl s false 1 [] none):=by
 have h0:lp (aN (aj 0) (im B1.list.f)) ⟨dI [.dat (.str ⟨⟨s⟩⟩)] 2,[.tab 186 true,.lst wl]⟩=some (.obj 2,[.tab 186 true,.lst wl,.lst (chars s)]):=by
  have:lp (aN (aj 0) (im B1.list.f)) ⟨dI [.dat (.str ⟨⟨s⟩⟩)] 2,[.tab 186 true,.lst wl]⟩=(match(match(if s.length≤lim then some (PyData.list (chars s))else none)with
  |some d=>some (d,[MO.tab 186 true,MO.lst wl])
  |none=>none)with
  |some (.list l,hp)=>some (PV.obj hp.length,hp++[.lst l])
  |_=>none):=rfl
  rw[this,if_pos hl];rfl
 unfold FK dX
 have hB:Ep.1 ⟨dI [.dat (.str ⟨⟨s⟩⟩)] 2,[.tab 186 true,.lst wl]⟩=some (.ret (.obj 3),⟨[some (.dat (.str ⟨⟨s⟩⟩)),some (.obj 2),some (.gH 2)],hs 186 false wl s false 1 [] none⟩):=by
  show aH (bN (lp (aN (aj 0) (im B1.list.f))) (dg 1)) _ _=_
  have h1:bN (lp (aN (aj 0) (im B1.list.f))) (dg 1) ⟨dI [.dat (.str ⟨⟨s⟩⟩)] 2,[.tab 186 true,.lst wl]⟩=some (.next,⟨[some (.dat (.str ⟨⟨s⟩⟩)),some (.obj 2),none],[.tab 186 true,.lst wl,.lst (chars s)]⟩):=by
   unfold bN
   rw[h0];rfl
  rw[bm h1]
  rfl
 rw[hB]
 rfl
end
noncomputable def fk(a:EF):NF:=aN a (im B1.len.f)
noncomputable def W6:XF:=aH (bN (aB (aZ .Add (aj 6) (iC 1))) (dg 6)) (aH (bN (aB (aZ .Add (aj 5) (iC 1))) (dg 5)) bh)
noncomputable def FI:XF:=bN (lp (aZ .Add (aj 4) (aB (aZ .Mult (aB (gZ (aM (iC 0) bA))) (aB (aZ .Add (aB (aZ .Sub (aj 5) (aB (fk (aj 4))))) (iC 1))))))) (dg 4)
noncomputable def DB:XF:=DY (aB (aZ .Add (aN (aj 4) λa=>aN (aj 5) λb=>itemF a b) (iC 1))) (aj 4) (aj 5)
noncomputable def t9:XF:=aH (bN (aB (aZ .Add (aj 6) (iC 1))) (dg 6)) (aH (bN (aB (aZ .Add (aj 7) (iC 1))) (dg 7))
 (aH (cZ (cb .GtE (aj 5) (aB (fk (aj 4)))) (aH FI bh) bh) (aH DB (aH (bN (iC 0) (dg 5)) bh))))
noncomputable def mv:XF:=aH (cZ (cb .Eq (aj 8) (aj 2)) W6 (aH (cZ (cb .Eq (aj 8) (aj 3)) t9 (aH (λσ=>some (.brk,σ)) bh)) bh)) bh
noncomputable def Cp:XF:=aH (nI (aj 0) (aj 6) 100 5) (aH (nI (aj 0) (aj 7) 100 6)
 (aH (nI (aj 0) (aB (lH (aM (aB (aN (aj 4) (im B1.tuple.f))) (aM (aj 5) bA)))) 100 7)
 (aH (nI (aj 0) (aB (aN (aB (fk (aj 4))) λa=>aN (iC 1) λb=>ev (λx y=>(fq .LtE x y).map .bool) a b)) 100 8) bh)))
noncomputable def AL:XF:=aH (nI (aj 0) (aj 1) 100 4) (aH (wN [2,3] (aM (sC [32]) (aM (sC [9]) bA))) (aH (bN (lp (gZ bA)) (dg 4)) (aH (FY 5 6 7 (iC 0))
 (aH (fu (ej (aN (aj 0) (dS 100 4))) λis n=>cx stepI (cr 8) mv n is) Cp))))
theorem ZM:zc=dX 2 7 false AL:=rfl
noncomputable def aY(c:List Nat):List PyData:=c.map λ(k:Nat)=>.int ((k:Nat):Int)
noncomputable def ck(i:Nat)(s:List Nat)(j:Nat)(b n nt:Int)(ch:Option PV):Loc:=[some (.obj i),some (.dat (.str ⟨⟨s⟩⟩)),some (.dat (.str ⟨⟨[32]⟩⟩)),some (.dat (.str ⟨⟨[9]⟩⟩)),some (.obj j),some (.dat (.int b)),some (.dat (.int n)),some (.dat (.int nt)),ch]
noncomputable def j7:Option PV:=some (.dat (.str ⟨⟨[9]⟩⟩))
noncomputable def vG:Option PV:=some (.dat (.str ⟨⟨[32]⟩⟩))
noncomputable def iV(c:List Nat)(b:Nat):List Nat:=if b < c.length then c else c++List.replicate (b - c.length+1) 0
noncomputable def j1(c:List Nat)(b:Nat):List Nat:=(iV c b).set b ((iV c b)[b]?.getD 0+1)
section
variable {i j:Nat}{s c:List Nat}{b:Nat}{n nt:Int}{ch:Option PV}{hp:List MO}
theorem Xo{b:Int}:mv ⟨ck i s j b n nt vG,hp⟩=some (.next,⟨ck i s j (b+1) (n+1) nt vG,hp⟩):=rfl
theorem MY:mv ⟨ck i s j b n nt j7,hp⟩=t9 ⟨ck i s j b n nt j7,hp⟩:=by
 unfold mv
 rw[gJ]
 show aH (cZ (cb .Eq (aj 8) (aj 3)) t9 _) bh _=_
 rw[gJ]
 rfl
theorem qs:(aY c).length=c.length:=by simp[aY]
theorem RC(h:b < c.length):(aY c)[b]?=some (.int ((c[b]?.getD 0:Nat):Int)):=by
 simp[aY,h]
theorem yy(hj:hp[j]?=some (.lst (aY c))):rd hp (.obj j)=some (.list (aY c)):=by
 show(match hp[j]? with
 |some (.lst l)=>some (PyData.list l)
 |_=>none)=_
 exact hj.symm▸rfl
theorem CK{b:Int}(hj:hp[j]?=some (.lst (aY c)))(hl:c.length≤lim):fk (aj 4) ⟨ck i s j b n nt ch,hp⟩=some (.int c.length,hp):=by
 show(match rd hp (.obj j)with
 |some x=>match Eh x with
  |some d=>some (d,hp)
  |none=>none
 |none=>none)=_
 refine(yy hj).symm▸?_
 show(match(if(aY c).length≤lim then some (PyData.int (aY c).length)else none)with
 |some d=>some (d,hp)
 |none=>none)=_
 exact qs.symm▸(if_pos hl).symm▸rfl
theorem IB(hj:hp[j]?=some (.lst (aY c)))(hl:c.length≤lim):cb .GtE (aj 5) (aB (fk (aj 4))) ⟨ck i s j b n nt ch,hp⟩=some (decide (c.length≤b),hp):=by
 have h1:aB (fk (aj 4)) ⟨ck i s j b n nt ch,hp⟩=some (.dat (.int c.length),hp):=by
  unfold aB;rw[CK hj hl]
 show(match aB (fk (aj 4)) ⟨ck i s j b n nt ch,hp⟩with
 |some (v,ai)=>qL .GtE (.dat (.int b)) v ⟨ck i s j b n nt ch,ai⟩
 |none=>none)=_
 refine h1.symm▸?_
 show(match fq .GtE (.int b) (.int c.length)with
 |some d=>some (d,hp)
 |none=>none)=_
 show some (decide ((c.length:Int)≤(b:Int)),hp)=_
 congr 2
 simp
theorem Mj:∀k:Nat,(List.replicate k ([PyData.int 0]:List PyData)).flatten=aY (List.replicate k 0)
|0=>rfl
|k+1=>by
  refine List.replicate_succ.symm▸List.flatten_cons.symm▸(Mj k).symm▸?_
  rfl
theorem YA(hj:hp[j]?=some (.lst (aY c)))(hl:c.length≤b)(hb:b+1≤lim):FI ⟨ck i s j b n nt ch,hp⟩=some (.next,⟨ck i s hp.length b n nt ch,hp++[.lst (aY (iV c b))]⟩):=by
 have h1:aB (fk (aj 4)) ⟨ck i s j b n nt ch,hp⟩=some (.dat (.int c.length),hp):=by
  unfold aB;rw[CK hj (by (exact Nat.le_trans (by assumption) (Nat.le_of_lt (by assumption))))]
 have h2:aB (aZ .Sub (aj 5) (aB (fk (aj 4)))) ⟨ck i s j b n nt ch,hp⟩=some (.dat (.int ((b:Int) - c.length)),hp):=by
  show(match(match aB (fk (aj 4)) ⟨ck i s j b n nt ch,hp⟩with
  |some (v,ai)=>ev (lO .Sub) (.dat (.int b)) v ⟨ck i s j b n nt ch,ai⟩
  |none=>none)with
  |some (d,hp)=>some (PV.dat d,hp)
  |none=>none)=_
  rw[h1];rfl
 have h3:aB (aZ .Add (aB (aZ .Sub (aj 5) (aB (fk (aj 4))))) (iC 1)) ⟨ck i s j b n nt ch,hp⟩=some (.dat (.int ((b:Int) - c.length+1)),hp):=by
  show(match(match aB (aZ .Sub (aj 5) (aB (fk (aj 4)))) ⟨ck i s j b n nt ch,hp⟩with
  |some (v,ai)=>ev (lO .Add) v (.dat (.int 1)) ⟨ck i s j b n nt ch,ai⟩
  |none=>none)with
  |some (d,hp)=>some (PV.dat d,hp)
  |none=>none)=_
  rw[h2];rfl
 have e1:((b:Int) - c.length+1).toNat=b - c.length+1:=(congrArg (λx:Int=>(x+1).toNat) (Int.natCast_sub hl).symm).trans rfl
 have h4:aB (aZ .Mult (aB (gZ (aM (iC 0) bA))) (aB (aZ .Add (aB (aZ .Sub (aj 5) (aB (fk (aj 4))))) (iC 1)))) ⟨ck i s j b n nt ch,hp⟩=some (.dat (.list (aY (List.replicate (b - c.length+1) 0))),hp):=by
  show(match(match aB (aZ .Add (aB (aZ .Sub (aj 5) (aB (fk (aj 4))))) (iC 1)) ⟨ck i s j b n nt ch,hp⟩with
  |some (v,ai)=>ev (lO .Mult) (.dat (.list [.int 0])) v ⟨ck i s j b n nt ch,ai⟩
  |none=>none)with
  |some (d,hp)=>some (PV.dat d,hp)
  |none=>none)=_
  rw[h3]
  show(match(match(if([PyData.int 0]:List PyData).length*((b:Int) - c.length+1).toNat≤lim∧((b:Int) - c.length+1).natAbs≤lim then some (PyData.list (List.replicate ((b:Int) - c.length+1).toNat ([PyData.int 0]:List PyData)).flatten)else none)with
  |some d=>some (d,hp)
  |none=>none)with
  |some (d,hp)=>some (PV.dat d,hp)
  |none=>none)=_
  rw[if_pos ⟨by rw[e1];show 1*_≤_;exact aa (aU (Nat.one_mul _)) (aa (aS (b5 b _)) hb),(aa (aU (congrArg (λx:Int=>(x+1).natAbs) (Int.natCast_sub hl).symm)) (aa (aS (b5 b _)) hb))⟩,e1,Mj]
 have h5:lp (aZ .Add (aj 4) (aB (aZ .Mult (aB (gZ (aM (iC 0) bA))) (aB (aZ .Add (aB (aZ .Sub (aj 5) (aB (fk (aj 4))))) (iC 1)))))) ⟨ck i s j b n nt ch,hp⟩=some (.obj hp.length,hp++[MO.lst (aY (iV c b))]):=by
  show(match(match aB (aZ .Mult (aB (gZ (aM (iC 0) bA))) (aB (aZ .Add (aB (aZ .Sub (aj 5) (aB (fk (aj 4))))) (iC 1)))) ⟨ck i s j b n nt ch,hp⟩with
  |some (v,ai)=>ev (lO .Add) (.obj j) v ⟨ck i s j b n nt ch,ai⟩
  |none=>none)with
  |some (.list l,hp)=>some (PV.obj hp.length,hp++[MO.lst l])
  |_=>none)=_
  have h6:ev (lO .Add) (.obj j) (.dat (.list (aY (List.replicate (b - c.length+1) 0)))) ⟨ck i s j b n nt ch,hp⟩=some (.list (aY (iV c b)),hp):=by
   unfold ev
   rw[show rd (⟨ck i s j b n nt ch,hp⟩:St).hp (.obj j)=some (.list (aY c))from yy hj]
   show(match(if(aY c).length+(aY (List.replicate (b - c.length+1) 0)).length≤lim then some (PyData.list (aY c++aY (List.replicate (b - c.length+1) 0)))else none)with
   |some d=>some (d,hp)
   |none=>none)=_
   rw[if_pos (by rw[qs,qs,bL];exact aa (aU (congrArg Nat.succ (Nat.add_sub_of_le hl))) hb)]
   unfold iV
   rw[if_neg (Nat.not_lt_of_le hl)]
   simp[aY]
  rw[h4]
  dsimp only
  rw[h6]
 unfold FI bN
 rw[h5]
 rfl
theorem Hs(hj:hp[j]?=some (.lst (aY c)))(hb:b < c.length)(hl:c.length≤lim):DB ⟨ck i s j b n nt ch,hp⟩=some (.next,⟨ck i s j b n nt ch,hp.set j (.lst (aY (c.set b (c[b]?.getD 0+1))))⟩):=by
 have h1:(aN (aj 4) λa=>aN (aj 5) λb=>itemF a b) ⟨ck i s j b n nt ch,hp⟩=some (.dat (.int ((c[b]?.getD 0:Nat):Int)),hp):=by
  show itemF (.obj j) (.dat (.int b)) ⟨ck i s j b n nt ch,hp⟩=_
  unfold itemF
  rw[show rd (⟨ck i s j b n nt ch,hp⟩:St).hp (.obj j)=some (.list (aY c))from yy hj]
  show(match(if(b:Int).natAbs≤lim then idx (aY c) (b:Int)else none)with
  |some d=>some (PV.dat d,hp)
  |none=>none)=_
  rw[if_pos (by show b≤lim;(exact Nat.le_trans (Nat.le_of_lt (by assumption)) (by assumption)))]
  have:idx (aY c) (b:Int)=(aY c)[b]?:=by
   unfold idx
   rw[if_neg (Int.not_lt.mpr (Int.natCast_nonneg b))]
   rfl
  rw[this,RC hb]
 have h2:aB (aZ .Add (aN (aj 4) λa=>aN (aj 5) λb=>itemF a b) (iC 1)) ⟨ck i s j b n nt ch,hp⟩=some (.dat (.int (((c[b]?.getD 0+1:Nat)):Int)),hp):=by
  show(match(match(aN (aj 4) λa=>aN (aj 5) λb=>itemF a b) ⟨ck i s j b n nt ch,hp⟩with
  |some (v,ai)=>ev (lO .Add) v (.dat (.int 1)) ⟨ck i s j b n nt ch,ai⟩
  |none=>none)with
  |some (d,hp)=>some (PV.dat d,hp)
  |none=>none)=_
  rw[h1];rfl
 unfold DB DY bN
 rw[h2]
 show(match hp[j]? with
 |some (.lst l)=>if 0≤(b:Int)∧(b:Int).toNat < l.length∧l.length≤lim then some (Fl.next,(⟨ck i s j b n nt ch,hp.set j (.lst (l.set (b:Int).toNat (.int (((c[b]?.getD 0+1:Nat)):Int))))⟩:St))else none
 |_=>none)=_
 rw[hj]
 dsimp only
 rw[if_pos ⟨by (exact Int.natCast_nonneg _),by rw[qs];simpa using hb,by rw[qs];exact hl⟩]
 have:(aY c).set (b:Int).toNat (.int (((c[b]?.getD 0+1:Nat)):Int))=aY (c.set b (c[b]?.getD 0+1)):=by
  skip
  simp[aY,List.map_set]
 exact this.symm▸rfl
theorem YH(hj:hp[j]?=some (.lst (aY c)))(hb:b < c.length)(hl:c.length≤lim):t9 ⟨ck i s j b n nt j7,hp⟩=some (.next,⟨ck i s j 0 (n+1) (nt+1) j7,hp.set j (.lst (aY (j1 c b)))⟩):=by
 unfold t9
 rw[bm (σ':=⟨ck i s j b (n+1) nt j7,hp⟩) rfl,bm (σ':=⟨ck i s j b (n+1) (nt+1) j7,hp⟩) rfl]
 rw[bm (σ':=⟨ck i s j b (n+1) (nt+1) j7,hp⟩) (by
  unfold cZ
  rw[IB hj hl,decide_eq_false (Nat.not_le_of_lt hb)]
  rfl)]
 rw[bm (Hs hj hb hl)]
 have:j1 c b=c.set b (c[b]?.getD 0+1):=by unfold j1 iV;rw[if_pos hb]
 rw[this]
 rfl
theorem I8(h:c.length≤b):(iV c b).length=b+1:=by
 unfold iV
 rw[if_neg (Nat.not_lt_of_le h),bH,bL]
 (exact ar8 (by assumption))
theorem aam(hj:hp[j]?=some (.lst (aY c)))(hb:c.length≤b)(hl:b+1≤lim):t9 ⟨ck i s j b n nt j7,hp⟩=some (.next,⟨ck i s hp.length 0 (n+1) (nt+1) j7,hp++[.lst (aY (j1 c b))]⟩):=by
 unfold t9
 rw[bm (σ':=⟨ck i s j b (n+1) nt j7,hp⟩) rfl,bm (σ':=⟨ck i s j b (n+1) (nt+1) j7,hp⟩) rfl]
 rw[bm (σ':=⟨ck i s hp.length b (n+1) (nt+1) j7,hp++[.lst (aY (iV c b))]⟩) (by
  unfold cZ
  rw[IB hj (by (exact Nat.le_trans (by assumption) (Nat.le_of_lt (by assumption)))),decide_eq_true (by assumption)]
  dsimp only
  rw[if_pos rfl,gJ]
  exact YA hj hb hl)]
 have i8:(hp++[MO.lst (aY (iV c b))])[hp.length]?=some (.lst (aY (iV c b))):=by simp
 rw[bm (Hs i8 (by rw[I8 hb];(exact am _)) (by rw[I8 hb];exact hl))]
 have:(hp++[MO.lst (aY (iV c b))]).set hp.length (.lst (aY ((iV c b).set b ((iV c b)[b]?.getD 0+1))))=hp++[.lst (aY (j1 c b))]:=by
  rw[List.set_append_right _ _ (Nat.le_refl _)]
  simp[j1]
 rw[this]
 rfl
end
structure iL(base:List MO)(i:Nat)(hp:List MO)(j:Nat)(c:List Nat)(bK:List (Nat×PV)):Prop where
 pre:hp.take (i+1)=base++[.ins 100 bK]
 bl:base.length=i
 lt:i < j
 at_:hp[j]?=some (.lst (aY c))
noncomputable def fU(runs:List Nat):List Nat:=(runs.map λr=>List.replicate r 32++[9]).flatten
noncomputable def gP(runs c:List Nat):List Nat:=runs.foldl (λc r=>j1 c r) c
section
variable {base:List MO}{i j m:Nat}{s c l:List Nat}{b r:Nat}{n nt:Int}{ch:Option PV}{hp:List MO}{bK:List (Nat×PV)}
theorem iL.self(h:iL base i hp j c bK):hp[i]?=some (.ins 100 bK):=by
 have h1:(hp.take (i+1))[i]?=hp[i]?:=by rw[List.getElem?_take];simp
 rw[← h1,h.pre,List.getElem?_append_right (by rw[h.bl];exact am _),h.bl,Nat.sub_self]
 rfl
theorem iL.F6(h:iL base i hp j c bK):j < hp.length:=(List.getElem?_eq_some_iff.mp h.at_).1
theorem iL.setC(h:iL base i hp j c bK):iL base i (hp.set j (.lst (aY c'))) j c' bK:=by
 refine⟨?_,h.bl,h.lt,?_⟩
 ·rw[List.take_set,List.set_eq_of_length_le,h.pre]
  rw[List.length_take];have:=h.lt;(exact aa (Nat.min_le_left _ _) (by assumption))
 ·rw[List.getElem?_set,if_pos rfl,if_pos h.F6]
theorem iL.abc(h:iL base i hp j c bK):iL base i (hp++[.lst (aY c')]) hp.length c' bK:=by
 have:=h.F6
 refine⟨?_,h.bl,a9 h.lt this,by simp⟩
 rw[List.take_append_of_le_length (by have:=h.lt;(exact Nat.lt_trans (by assumption) (by assumption))),h.pre]
theorem iL.At(h:iL base i hp j c bK)(Lw:List (Nat×PV)):iL base i (hp.set i (.ins 100 Lw)) j c Lw:=by
 refine⟨?_,h.bl,h.lt,?_⟩
 ·rw[List.take_set,h.pre,List.set_append_right _ _ (by rw[h.bl];exact am _),h.bl,Nat.sub_self]
  rfl
 ·rw[List.getElem?_set,if_neg (by have:=h.lt;(exact Nat.ne_of_lt (by assumption)))]
  exact h.at_
theorem FQ:∀(r:Nat) (b n:Int) (ch:Option PV),∃kn,cx stepI (cr 8) mv (m+r) (.rem (chars (List.replicate r 32++l))) ⟨ck i s j b n nt ch,hp⟩=cx stepI (cr 8) mv m (.rem (chars l)) ⟨ck i s j (b+r) (n+r) nt kn,hp⟩
|0,b,n,ch=>⟨ch,by simp⟩
|r+1,b,n,ch=>by
  obtain⟨kn,e⟩:=FQ r (b+1) (n+1) vG
  refine⟨kn,?_⟩
  rw[List.replicate_succ,List.cons_append,← Nat.add_assoc]
  rw[iM (is':=.rem (chars (List.replicate r 32++l))) (d:=.str ⟨⟨[32]⟩⟩) (hp:=hp) (loc:=ck i s j b n nt vG) (dv:=⟨ck i s j (b+1) (n+1) nt vG,hp⟩) rfl rfl Xo,e]
  congr 3
  ·push_cast;exact yj _ _
  ·push_cast;exact yj _ _
theorem PP(h:iL base i hp j c bK)(hb:b+1≤lim)(hc:c.length≤lim):∃j' ai,iL base i ai j' (j1 c b) bK∧cx stepI (cr 8) mv (m+1) (.rem (chars (9::l))) ⟨ck i s j b n nt ch,hp⟩=cx stepI (cr 8) mv m (.rem (chars l)) ⟨ck i s j' 0 (n+1) (nt+1) j7,ai⟩:=by
 by_cases dJ:b < c.length
 ·refine⟨j,_,h.setC,?_⟩
  rw[iM (is':=.rem (chars l)) (d:=.str ⟨⟨[9]⟩⟩) (hp:=hp) (loc:=ck i s j b n nt j7) rfl rfl (MY.trans (YH h.at_ dJ hc))]
 ·refine⟨hp.length,_,h.abc,?_⟩
  rw[iM (is':=.rem (chars l)) (d:=.str ⟨⟨[9]⟩⟩) (hp:=hp) (loc:=ck i s j b n nt j7) rfl rfl (MY.trans (aam h.at_ (by (exact Nat.le_of_not_lt (by assumption))) hb))]
theorem Nm:(j1 c b).length=max c.length (b+1):=by
 unfold j1 iV
 refine List.length_set.symm▸?_
 split
 ·exact(Nat.max_eq_left ‹b < c.length›).symm
 ·rw[bH,bL];exact(congrArg Nat.succ (Nat.add_sub_of_le (Nat.le_of_not_lt ‹_›))).trans (Nat.max_eq_right (Nat.le_succ_of_le (Nat.le_of_not_lt ‹_›))).symm
theorem OF:∀(runs:List Nat) (j:Nat) (c:List Nat) (n nt:Int) (ch:Option PV) (hp:List MO),iL base i hp j c bK->(∀r∈runs,r+1≤lim)->c.length≤lim->∃j' ai kn,iL base i ai j' (gP runs c) bK ∧
  cx stepI (cr 8) mv (m+(fU runs).length) (.rem (chars (fU runs++l))) ⟨ck i s j 0 n nt ch,hp⟩=cx stepI (cr 8) mv m (.rem (chars l)) ⟨ck i s j' 0 (n+(fU runs).length) (nt+runs.length) kn,ai⟩
|[],j,c,n,nt,ch,hp,h,_,_=>⟨j,hp,ch,h,by simp[fU]⟩
|r::runs,j,c,n,nt,ch,hp,h,hr,hc=>by
  have e0:fU (r::runs)=List.replicate r 32++(9::fU runs):=by simp[fU]
  refine cps λ_ KK=>?_
  obtain⟨Ir,e1⟩:=FQ (m:=m+(fU runs).length+1) (l:=9::(fU runs++l)) (i:=i) (s:=s) (j:=j) (nt:=nt) (hp:=hp) r 0 n ch
  obtain⟨j2,bU,h2,e2⟩:=PP (m:=m+(fU runs).length) (l:=fU runs++l) (s:=s) (n:=n+r) (nt:=nt) (ch:=Ir) (b:=r) h (hr r (aq ..)) hc
  obtain⟨j3,vr,Z5,h3,e3⟩:=OF runs j2 (j1 c r) (n+r+1) (nt+1) j7 bU h2 (λx hx=>hr x (al _ hx)) (by rw[Nm];have:=hr r (aq ..);exact Nat.max_le.mpr ⟨hc,this⟩)
  refine KK ?_
  refine⟨j3,vr,Z5,h3,?_⟩
  have hlen:m+(List.replicate r 32++(9::fU runs):List Nat).length=m+(fU runs).length+1+r:=by simp;exact(congrArg (m+·) (Nat.add_comm r _)).trans (Nat.add_assoc m _ r).symm
  rw[e0,bJ,List.cons_append,hlen,e1]
  rw[show((0:Int)+(r:Int))=(r:Int)from Int.zero_add _,e2,e3]
  congr 3
  ·simp;exact(yj _ _).trans (Int.add_assoc _ _ _)
  ·simp;exact yj _ _
end
end Mine
end
section
open PySem PyProof.Rows
namespace Mine
noncomputable def pq(F:EF):XF:=bN F λpv σ=>match pv with
|.dat .none=>some (.next,σ)
|_=>none
noncomputable def eM(F G:EF):EF:=aN F λa=>aN G λb=>itemF a b
theorem Iz{α:Type}{l:List α}{p:Nat}:idx l (p:Int)=l[p]?:=if_neg (Int.not_lt.mpr (bf p))
theorem Dx(h:hp[i]?=some (.lst l)):rd hp (.obj i)=some (.list l):=by
 show(match hp[i]? with
 |some (.lst l)=>some (PyData.list l)
 |_=>none)=_
 exact h.symm▸rfl
theorem wx{T:PyData->Loc->Option Loc}{B:XF}{its:List PyData}(I:Nat->St->Prop)
  (h:∀(k:Nat) (d:PyData) σ,its[k]?=some d->I k σ->∃loc σ',T d σ.loc=some loc∧B ⟨loc,σ.hp⟩=some (.next,σ')∧I (k+1) σ'):∀(l:List PyData) (k n:Nat) (σ:St),its.drop k=l->l.length < n->I k σ ->
  ∃σ',cx stepI T B n (.rem l) σ=some (.next,σ')∧I (k+l.length) σ'
|_,_,0=>λ_ _ h=>absurd h (bw _)
|[],k,n+1=>λσ _ _ hI=>⟨σ,rfl,hI⟩
|d::l,k,n+1=>λσ hk hn hI=>by
  have hd:its[k]?=some d:=by
   have:(its.drop k)[0]?=some d:=by rw[hk];rfl
   rwa [List.getElem?_drop,Nat.add_zero]at this
  have pr:its.drop (k+1)=l:=by
   have:(its.drop k).drop 1=l:=by rw[hk];rfl
   rwa [List.drop_drop]at this
  refine cps λ_ KK=>?_
  obtain⟨loc,σ',h1,h2,h3⟩:=h k d σ hd hI
  obtain⟨dv,e,q⟩:=wx I h l (k+1) n σ' pr (bG hn) h3
  refine KK ?_
  refine⟨dv,?_,by rw[List.length_cons,Nat.add_comm l.length,← Nat.add_assoc];exact q⟩
  rw[iM (is':=.rem l) (d:=d) (hp:=σ.hp) (loc:=loc) rfl h1 h2,e]
theorem BJ{T:PyData->Loc->Option Loc}{B:XF}{its:List PyData}(I:Nat->St->Prop)
  (h:∀(k:Nat) (d:PyData) σ,its[k]?=some d->I k σ->∃loc σ',T d σ.loc=some loc∧B ⟨loc,σ.hp⟩=some (.next,σ')∧I (k+1) σ') (σ:St) (h0:I 0 σ):∃σ',cx stepI T B (its.length+1) (.rem its) σ=some (.next,σ')∧I its.length σ' :=
 (wx I h its 0 _ σ rfl (a7 _) h0).imp λ_ q=>⟨q.1,Nat.zero_add its.length▸q.2⟩
theorem CB(I:Nat->St->Prop)(hl:∀k σ,I k σ->σ.hp[i]?=some (.lst l))
  (h:∀(k:Nat) (d:PyData) σ,l[k]?=some d->I k σ->∃loc σ',T d σ.loc=some loc∧B ⟨loc,σ.hp⟩=some (.next,σ')∧I (k+1) σ'):∀(m k n:Nat) (σ:St),k+m=l.length->m < n->I k σ ->
  ∃σ',cx stepI T B n (.cf i k) σ=some (.next,σ')∧I l.length σ'
|_,_,0=>λ_ _ h=>absurd h (bw _)
|0,k,n+1=>λσ hk _ hI=>by
  have e:stepI (.cf i k) σ.hp=some (none,σ.hp):=by
   rw[xL,hl k σ hI]
   show(match l[k]? with|some d=>some (some (d,IS.cf i (k+1)),σ.hp)|none=>some (none,σ.hp))=_
   rw[List.getElem?_eq_none (show l.length≤k from Nat.le_of_eq hk.symm)]
  refine⟨σ,?_,(show k=l.length from hk)▸hI⟩
  unfold cx
  rw[e]
|m+1,k,n+1=>λσ hk hn hI=>by
  have dJ:k < l.length:=hk▸Nat.lt_add_of_pos_right (Nat.succ_pos m)
  have hd:l[k]?=some l[k]:=List.getElem?_eq_getElem dJ
  have e:stepI (.cf i k) σ.hp=some (some (l[k],.cf i (k+1)),σ.hp):=by
   rw[xL,hl k σ hI]
   show(match l[k]? with|some d=>some (some (d,IS.cf i (k+1)),σ.hp)|none=>some (none,σ.hp))=_
   rw[hd]
  refine cps λ_ KK=>?_
  obtain⟨loc,σ',h1,h2,h3⟩:=h k _ σ hd hI
  obtain⟨dv,e2,q⟩:=CB I hl h m (k+1) n σ' (by rw[← hk,Nat.add_assoc,Nat.add_comm 1]) (bG hn) h3
  refine KK ?_
  refine⟨dv,?_,q⟩
  rw[iM (is':=.cf i (k+1)) (d:=l[k]) (hp:=σ.hp) (loc:=loc) e h1 h2,e2]
theorem pA(h:F ⟨L,hp1⟩=some (.dat .none,bU)):pq F ⟨L,hp1⟩=some (.next,⟨L,bU⟩):=XE h
theorem G8{n k:Nat}(h:0 < k)(h2:k < 2 ^ 60):Bs (.int (n:Int)) (.int (k:Int))=some (.int ((n / k:Nat):Int)):=by
 show(if(k:Int)≠0∧(k:Int).natAbs < 2 ^ 60 then some (PyData.int ((n:Int).fdiv k))else none)=_
 rw[if_pos ⟨λe=>Nat.ne_of_gt h (Int.ofNat_eq_zero.mp e),h2⟩,Int.fdiv_eq_ediv_of_nonneg _ (Int.natCast_nonneg k)]
 rfl
theorem Ae{n k:Nat}(h:0 < k):DP (.int (n:Int)) (.int (k:Int))=some (.int ((n % k:Nat):Int)):=by
 show(if(k:Int)≠0 then some (PyData.int ((n:Int).fmod k))else none)=_
 rw[if_pos λe=>Nat.ne_of_gt h (Int.ofNat_eq_zero.mp e),Int.fmod_eq_emod_of_nonneg _ (Int.natCast_nonneg k)]
 rfl
theorem n9(h:l[p]?=some d)(hp:p≤lim):l7 (.list l) (.int (p:Int))=some d:=by
 show(if(p:Int).natAbs≤lim then idx l (p:Int)else none)=_
 rw[if_pos (show(p:Int).natAbs≤lim from hp),Iz]
 exact h
theorem rn{ns:List Nat}{k n:Nat}(h:ns[k]?=some n):(aY ns)[k]?=some (.int (n:Int)):=by
 unfold aY
 rw[List.getElem?_map,h]
 rfl
theorem zU{n:Nat}(h:n≤100000):Builtin.Range.rangeFitsLong (n:Int)=true:=by
 unfold Builtin.Range.rangeFitsLong
 rw[decide_eq_true (Int.le_trans (by decide) (Int.natCast_nonneg n)),decide_eq_true (Int.lt_of_le_of_lt (bk h) (by decide))]
 rfl
theorem zT{a b:Nat}(ha:a≤100000)(hb:b≤100000):Builtin.Range.small a b 1=true∧(Builtin.Range.rangeSize a b 1).toNat=b - a:=by
 have e:Builtin.Range.rangeSize (a:Int) (b:Int) 1=((b - a:Nat):Int):=by
  rw[EI]
  by_cases h:(a:Int) < b
  ·rw[if_pos h,Int.natCast_sub (Int.ofNat_le.mp (Int.le_of_lt h))]
  ·rw[if_neg h,Nat.sub_eq_zero_of_le (Int.ofNat_le.mp (bY h))];rfl
 refine⟨?_,by rw[e];rfl⟩
 show(Builtin.Range.rangeFitsLong (a:Int)&&Builtin.Range.rangeFitsLong (b:Int)&&Builtin.Range.rangeFitsLong 1&&Builtin.Range.rangeFitsLong (Builtin.Range.rangeSize a b 1)&&(Builtin.Range.rangeSize a b 1==0||Builtin.Range.rangeFitsLong ((b:Int)+(1 - 1))))=true
 rw[e,zU ha,zU hb,zU (Nat.le_trans (Nat.sub_le ..) hb),show((b:Int)+(1 - 1))=b from Int.add_zero _,zU hb,Bool.or_true]
 rfl
theorem RH{N:Nat}(h:N≤4000):Builtin.Range.small 0 N 1=true∧(Builtin.Range.rangeSize 0 N 1).toNat=N:=zT (a:=0) (bZ _) (aa h b9)
theorem sr{hp:List MO}{N:Nat}{loc:Loc}{F:EF}(hN:N≤4000)(h:F ⟨loc,hp⟩=some (.dat (.int (N:Nat)),hp)):fE (aM F bA) ⟨loc,hp⟩=some ((.rem (ew 0 1 N),N+1),hp):=by
 obtain⟨h1,h2⟩:=RH hN
 unfold fE
 rw[show aM F bA ⟨loc,hp⟩=some ([.dat (.int (N:Nat))],hp)by unfold aM aN;rw[h];rfl]
 show(if(1:Int)≠0∧Builtin.Range.small 0 N 1=true∧(1:Int).natAbs < 2 ^ 60 then some ((IS.rem (ew 0 1 (Builtin.Range.rangeSize 0 N 1).toNat),(Builtin.Range.rangeSize 0 N 1).toNat+1),hp)else none)=_
 rw[if_pos ⟨by decide,h1,by decide⟩,h2]
theorem Cx(x):ce (R++[x])=ce R++[.str ⟨⟨x⟩⟩]:=List.map_append
theorem OU(hl:ps.length=np)(h:B ⟨dI ps N,hp⟩=some (.ret pv,σ)):dX np N true B ps hp=some (pv,σ.hp):=by
 unfold dX
 rw[if_pos (by rw[hl];exact beq_self_eq_true np),h]
 rfl
end Mine
end
section
open PySem
namespace Mine
theorem M2(Φ:Loc->Prop):∀(l:List PyData),
  (∀d∈l,∀loc,Φ loc->∃dL,Φ dL∧T d loc=some dL∧tests ⟨dL,hp⟩=some (t d,hp)∧(t d=true->∃lq,Φ lq∧inner ⟨dL,hp⟩=some (ds d,⟨lq,hp⟩))) ->
  ∀(loc:Loc) (n:Nat),Φ loc->l.length < n->∃loc',Φ loc'∧gx stepI T tests inner n (.rem l) ⟨loc,hp⟩=some ((l.filter t).flatMap ds,⟨loc',hp⟩)
|[]=>λ_ loc n hl hn=>by
  obtain⟨n,rfl⟩:=Nat.exists_eq_succ_of_ne_zero (bB hn)
  exact⟨loc,hl,rfl⟩
|d::l=>λh loc n hl hn=>by
  obtain⟨n,rfl⟩:=Nat.exists_eq_succ_of_ne_zero (bB (ah (bZ _) hn))
  refine cps λ_ KK=>?_
  obtain⟨dL,h1,h2,h3,h4⟩:=h d (aq ..) loc hl
  refine KK ?_
  have ih:=M2 Φ (T:=T) (tests:=tests) (inner:=inner) (t:=t) (ds:=ds) (hp:=hp) l λx hx=>h x (al _ hx)
  have kY:l.length < n:=by rw[List.length_cons]at hn;(exact aC (by assumption))
  rw[gx]
  dsimp only[stepI]
  refine h2.symm▸?_
  dsimp only
  rw[h3]
  cases ht:t d with
 |false =>
   obtain⟨loc',q,e⟩:=ih dL n h1 kY
   refine⟨loc',q,?_⟩
   dsimp only
   rw[e,List.filter_cons_of_neg (by rw[ht];exact aw)]
 |true =>
   refine cps λ_ KK=>?_
   obtain⟨lq,h5,h6⟩:=h4 ht
   obtain⟨loc',q,e⟩:=ih lq n h5 kY
   refine KK ?_
   refine⟨loc',q,?_⟩
   dsimp only
   refine h6.symm▸?_
   dsimp only
   refine e.symm▸(List.filter_cons_of_pos ht).symm▸?_
   rfl
theorem T8(Φ:Loc->Prop)(hS:S ⟨loc,hp⟩=some ((.rem l,n),hp))(hn:l.length < n)
  (h:∀d∈l,∀loc,Φ loc->∃dL,Φ dL∧T d loc=some dL∧tests ⟨dL,hp⟩=some (t d,hp)∧(t d=true->F ⟨dL,hp⟩=some (.dat (g d),hp))) (h0:Φ (unset ts loc)) (hl:l.length≤lim) :
  ix S stepI T tests (gM F) ts ⟨loc,hp⟩=some (.dat (.list ((l.filter t).map g)),hp):=by
 obtain⟨loc',_,e⟩:=M2 Φ (T:=T) (tests:=tests) (inner:=gM F) (t:=t) (ds:=λd=>[g d]) (hp:=hp) l (λd hd loc ai=>by
  refine cps λ_ KK=>?_
  obtain⟨dL,h1,h2,h3,h4⟩:=h d hd loc ai
  refine KK ?_
  refine⟨dL,h1,h2,h3,λht=>⟨dL,h1,?_⟩⟩
  unfold gM
  rw[h4 ht]) (unset ts loc) n h0 hn
 unfold ix
 rw[hS]
 dsimp only
 rw[e]
 dsimp only
 have e2:(l.filter t).flatMap (λd=>[g d])=(l.filter t).map g:=by
  exact(List.map_eq_flatMap ..).symm
 rw[e2,if_pos]
 have:=List.length_filter_le t l
 rw[bI];(exact aa (by assumption) (by assumption))
end Mine
end
section
open PySem PyProof.Rows
namespace Mine
noncomputable abbrev sD(l:List Nat):PyData:=.str ⟨⟨l⟩⟩
theorem Lo:∀l:List PyData,(∀d∈l,∃i,d=.int i)->∃s,jt l=some s
|[],_=>⟨0,rfl⟩
|d::l,h=>by
  obtain⟨i,rfl⟩:=h d (aq ..)
  obtain⟨s,e⟩:=Lo l λx hx=>h x (al _ hx)
  exact⟨i+s,by rw[jt,e];rfl⟩
theorem Z8{α:Type}{lo hi st:Option Int}{l:List α}{x:α}(h:x∈pick lo hi st l):x∈l:=by
 unfold pick at h
 exact(List.mem_filterMap.mp h).elim λi q=>aT q.2
theorem IN:∀(ns:List Int) (i:Nat),∀d∈jN i (ns.map .int),∃(k:Nat) (b:Int),d=.tuple [.int k,.int b]
|[],i,d,h=>bT h
|n::ns,i,d,h=>(aI h).elim (λe=>⟨i,n,e⟩) (IN ns (i+1) d)
theorem z5(h:p≤n):clip n (some (p:Int)) d=p:=by
 show(max 0 (min (if(p:Int) < 0 then(p:Int)+n else p) (n:Int))).toNat=p
 rw[if_neg (Int.not_lt.mpr (Int.natCast_nonneg p)),Int.min_eq_left (bk h),Int.max_eq_right (Int.natCast_nonneg p)];rfl
theorem PC:clip (n+1) (some (-1)) d=n:=by
 show(max 0 (min (-1+((n+1:Nat):Int)) ((n+1:Nat):Int))).toNat=n
 rw[show(-1+((n+1:Nat):Int))=n from(Int.add_comm _ _).trans (Int.add_sub_cancel (n:Int) 1),Int.min_eq_left (bk (Nat.le_succ n)),Int.max_eq_right (Int.natCast_nonneg n)];rfl
theorem WE:sl none (some (-1)) (l++[x])=l:=by
 show((l++[x]).take (clip (l++[x]).length (some (-1)) (l++[x]).length)).drop 0=_
 refine List.length_append.symm▸List.length_singleton.symm▸PC.symm▸?_
 exact List.take_left' rfl
theorem Ea{lo hi:Option Int}{l:List Nat}(h:l.length≤lim):lr lo hi none (sD l)=some (sD (sl lo hi l)):=if_pos h
section
variable {hp:List MO}
theorem jK(h1:F ⟨L,hp1⟩=some (p,bU))(h2:G ⟨L,bU⟩=some (ps,bU)):aM F G ⟨L,hp1⟩=some (p::ps,bU):=by
 unfold aM aN
 rw[h1]
 dsimp only
 exact h2.symm▸rfl
theorem GP(h1:G ⟨L,hp1⟩=some (ps,bU))(h2:fV ps=some ds)(h3:ds.length≤lim):aB (gZ G) ⟨L,hp1⟩=some (.dat (.list ds),bU):=by
 unfold aB gZ
 rw[h1]
 dsimp only
 rw[h2]
 dsimp only
 rw[if_pos h3]
end
theorem xT(M):∀l:List (List Nat),(∀w∈l,w.length≤M)->l.flatten.length≤l.length*M
|[],_=>aU (Nat.zero_mul M).symm
|w::l,h=>by
  rw[List.flatten_cons,bH,List.length_cons,Nat.succ_mul,Nat.add_comm]
  exact ay (xT M l λx hx=>h x (al _ hx)) (h w (aq ..))
noncomputable abbrev hN(P:Addr)(fl:Bool)(wl:List PyData)(s:List Nat)(f:Bool)(n:Int)(pb:List PyData):List MO:=hs P fl wl s f n pb none
section
variable {P:Addr}{fl f:Bool}{wl pb:List PyData}{s:List Nat}{n:Int}{loc:Loc}{hp ai:List MO}{r:Option (PV×List MO)}{d:PyData}
theorem vx:gz 163 "get_token" 3 (hN P fl wl s f n pb)=true:=by cases f<;>kernel_rfl
theorem Ic:gz 163 "push_token" 3 (hN P fl wl s f n pb)=true:=by cases f<;>kernel_rfl
noncomputable def getM:EF:=kX (aj 9) 163 "get_token" qE
theorem FD(h:d2 loc 9=some (.obj 3))(h2:gz 163 "get_token" 3 hp=true):getM ⟨loc,hp⟩=qE [.obj 3] hp:=by
 unfold getM kX aN aj
 refine h.symm▸?_
 dsimp only
 exact(if_pos h2).symm▸rfl
noncomputable def ub(F:EF):EF:=lS (aj 9) 163 "push_token" (aM F bA) wb
theorem Na(h:d2 loc 9=some (.obj 3))(hF:F ⟨loc,hN P fl wl s f n pb⟩=some (.dat d,hN P fl wl s f n pb))(hl:pb.length≤lim):ub F ⟨loc,hN P fl wl s f n pb⟩=some (.dat .none,hN P fl wl s f n (pb++[d])):=by
 unfold ub lS aN aj
 refine h.symm▸?_
 dsimp only
 refine(if_pos Ic).symm▸?_
 unfold aM aN
 refine hF.symm▸?_
 exact Kb hl
noncomputable def mY:List PyData->List MO->List MO->Prop
|[],hp,ai=>hp=ai
|t::ts,hp,ai=>∃hp1,qE [.obj 3] hp=some (.dat t,hp1)∧gz 163 "get_token" 3 hp=true∧mY ts hp1 ai
theorem mY.append:∀{a b:List PyData} {h1 h2 h3:List MO},mY a h1 h2->mY b h2 h3->mY (a++b) h1 h3
|[],_,_,_,_,h,q=>by cases h;exact q
|t::a,b,_,_,_,⟨hp1,e1,e2,h⟩,q=>⟨hp1,e1,e2,mY.append h q⟩
theorem On:∀(pb:List PyData) {rest:List PyData},pb.length+rest.length < lim->mY pb (hN P fl wl s f n (pb++rest)) (hN P fl wl s f n rest)
|[],_,_=>rfl
|d::pb,rest,h=>⟨_,I4 (by show(pb++rest).length < lim;rw[bH];rw[List.length_cons]at h;exact ah (az (bx _) _) h),vx,On pb (by rw[List.length_cons]at h;exact ah (az (bx _) _) h)⟩
theorem K6{i:Nat}{base:Loc}(hi:∀a,d2 (base.set i a) 9=some (.obj 3)):∀(ts l:List PyData) (m:Nat) (a:Option PV) (hp ai:List MO),l.length=ts.length->l.length < m->mY ts hp ai ->
  ∃a',gx stepI (cr i) (λσ=>some (true,σ.hp)) (gM getM) m (.rem l) ⟨base.set i a,hp⟩=some (ts,⟨base.set i a',ai⟩)
|_,_,0=>λ_ _ _ _ h=>absurd h (bw _)
|[],_::_,_=>λ_ _ _ h=>absurd h (Nat.succ_ne_zero _)
|_::_,[],_=>λ_ _ _ h=>absurd h.symm (Nat.succ_ne_zero _)
|[],[],m+1=>λa hp ai _ _ h=>by cases h;exact⟨a,rfl⟩
|t::ts,d::l,m+1=>λa hp ai hl hm ⟨hp1,e1,e2,h⟩=>by
  obtain⟨a',e⟩:=K6 hi ts l m (some (.dat d)) hp1 ai (by simpa using hl) (by rw[List.length_cons]at hm;(exact aC (by assumption))) h
  refine⟨a',?_⟩
  rw[gx]
  dsimp only[stepI,cr]
  rw[List.set_set]
  unfold gM
  refine(FD (hi _) e2).symm▸e1.symm▸?_
  dsimp only
  unfold gM at e
  refine e.symm▸?_
  rfl
theorem QB(hi:∀a,d2 (base.set i a) 9=some (.obj 3))(hN:N=ts.length)(hS:S ⟨base,hp⟩=some ((.rem (ew 0 1 N),N+1),hp))(hl:ts.length≤lim)(h:mY ts hp ai) :
  ix S stepI (cr i) (λσ=>some (true,σ.hp)) (gM getM) [i] ⟨base,hp⟩=some (.dat (.list ts),ai):=by
 obtain⟨a',e⟩:=K6 hi ts (ew 0 1 N) (N+1) none hp ai (by rw[iz,hN]) (by rw[iz];(exact am _)) h
 unfold ix
 rw[hS]
 dsimp only
 rw[show unset [i] base=base.set i none from rfl,e]
 dsimp only
 rw[if_pos hl]
end
theorem Yr{w:Nat}{r:List Nat}(hw:isWs w=true)(hr:r≠[]):ft (w::r)=ft r:=by
 obtain⟨d,r',rfl⟩:=List.exists_cons_of_ne_nil hr
 rw[ft,if_pos hw]
theorem I3(c):∀l:List Nat,cnt c l=(l.count c:Nat)
|[]=>rfl
|x::l=>by
  rw[cnt_cons,I3 c l,List.count_cons]
  by_cases h:x=c
  ·simp[h];exact Int.add_comm _ _
  ·simp[h]
theorem ne_int(n):fq .NotEq (.int n) (.int n)=some false:=by
 show some (!(n==n))=_
 rw[beq_self_eq_true];rfl
noncomputable def bC(b:Bool):EF:=λσ=>some (.dat (.bool b),σ.hp)
noncomputable def m4:XF:=cZ (cb .Eq (aj 3) (sC [40])) (aH (jr 1 .Add (iC 1)) bh)
 (aH (cZ (cb .Eq (aj 3) (sC [41])) (aH (jr 1 .Sub (iC 1)) (aH (cZ (cb .Lt (aj 1) (iC 0)) (aH (gr (bC false)) bh) bh) bh)) bh) bh)
noncomputable def CkF:XF:=fu (u2 (aM (aj 0) bA)) λis n=>cx stepI (jp 2 3) (aH m4 bh) n is
noncomputable def wO:XF:=gr (aB (aN (aj 1) λa=>aN (iC 0) λb=>ev (λx y=>(fq .Eq x y).map .bool) a b))
noncomputable def OT:XF:=bN (j9 (aM (aj 0) bA) Cr) (dg 0)
theorem Wv:F0.1=aH OT (aH (bN (iC 0) (dg 1)) (aH CkF (aH wO bh))):=rfl
noncomputable def par:List Nat->Bool->Nat->Bool
|[],_,o=>o==0
|_::r,true,o=>par r false o
|c::r,false,o=>if c=92 then par r true o else if c=40 then par r false (o+1)else if c=41 then(match o with
 |0=>false
 |o+1=>par r false o)else par r false o
noncomputable def LC(a:Option PV)(o:Nat)(p c:Option PV):Loc:=[a,some (.dat (.int (o:Int))),p,c]
theorem sA(h:C ⟨L,h1⟩=some (true,h2)):cZ C G H ⟨L,h1⟩=G ⟨L,h2⟩:=by
 unfold cZ
 refine h.symm▸?_
 rfl
theorem oQ(h:C ⟨L,h1⟩=some (false,h2)):cZ C G H ⟨L,h1⟩=H ⟨L,h2⟩:=by
 unfold cZ
 refine h.symm▸?_
 rfl
theorem JK(h:F σ=F' σ'):aH F G σ=aH F' G σ':=by unfold aH;rw[h]
theorem D6(a b):fq .Eq (.str ⟨⟨a⟩⟩) (.str ⟨⟨b⟩⟩)=some (a==b):=rfl
section
variable {a p:Option PV}{o:Nat}{ch:List Nat}{i:Int}
theorem RY:m4 ⟨LC a o p (some (.dat (sD [40]))),[]⟩=some (.next,⟨LC a (o+1) p (some (.dat (sD [40]))),[]⟩):=rfl
theorem SP:m4 ⟨LC a (o+1) p (some (.dat (sD [41]))),[]⟩=some (.next,⟨LC a o p (some (.dat (sD [41]))),[]⟩):=by
 have h:((o+1:Nat):Int) - 1=o:=Int.add_sub_cancel (o:Int) 1
 have e1:cb .Eq (aj 3) (sC [40]) ⟨LC a (o+1) p (some (.dat (sD [41]))),[]⟩=some (false,[]):=rfl
 have e2:cb .Eq (aj 3) (sC [41]) ⟨LC a (o+1) p (some (.dat (sD [41]))),[]⟩=some (true,[]):=rfl
 have e3:jr 1 .Sub (iC 1) ⟨LC a (o+1) p (some (.dat (sD [41]))),[]⟩=some (.next,⟨LC a o p (some (.dat (sD [41]))),[]⟩):=by
  show some (Fl.next,(⟨[a,some (.dat (.int (((o+1:Nat):Int) - 1))),p,some (.dat (sD [41]))],[]⟩:St))=_
  rw[h];rfl
 have e4:cb .Lt (aj 1) (iC 0) ⟨LC a o p (some (.dat (sD [41]))),[]⟩=some (false,[]):=gK (F2:=iC 0) (aV rfl rfl) rfl rfl rfl (congrArg some (decide_eq_false (Int.not_lt.mpr (bf o))))
 exact(oQ e1).trans <| (gJ _ _).trans <| (sA e2).trans <| (bm e3).trans <| (gJ _ _).trans <| (oQ e4).trans rfl
theorem QT:∃σ',m4 ⟨LC a 0 p (some (.dat (sD [41]))),[]⟩=some (.ret (.dat (.bool false)),σ'):=⟨_,rfl⟩
theorem Fz(h1:ch≠[40])(h2:ch≠[41]):m4 ⟨LC a o p (some (.dat (sD ch))),[]⟩=some (.next,⟨LC a o p (some (.dat (sD ch))),[]⟩):=by
 have e1:cb .Eq (aj 3) (sC [40]) ⟨LC a o p (some (.dat (sD ch))),[]⟩=some (false,[]):=gK (F2:=sC [40]) (aV rfl rfl) rfl rfl rfl (by rw[D6,beq_false_of_ne h1])
 have e2:cb .Eq (aj 3) (sC [41]) ⟨LC a o p (some (.dat (sD ch))),[]⟩=some (false,[]):=gK (F2:=sC [41]) (aV rfl rfl) rfl rfl rfl (by rw[D6,beq_false_of_ne h2])
 exact(oQ e1).trans <| (gJ _ _).trans <| (oQ e2).trans rfl
theorem Ot:wO ⟨LC a o p c,[]⟩=some (.ret (.dat (.bool (o==0))),⟨LC a o p c,[]⟩):=by
 have h:fq .Eq (.int (o:Int)) (.int 0)=some (o==0):=by
  show some ((o:Int)==0)=_
  cases o with
 |zero=>rfl
 |succ o=>rfl
 have e:aB (aN (aj 1) λa=>aN (iC 0) λb=>ev (λx y=>(fq .Eq x y).map .bool) a b) ⟨LC a o p c,[]⟩=some (.dat (.bool (o==0)),[]):=Cf (op:=.Eq) (F2:=iC 0) (aV rfl rfl) rfl h
 unfold wO gr bN
 exact e.symm▸rfl
theorem Bk:∀(l:List Nat) (i:Nat) (cv:Bool) (o n:Nat) (p c:Option PV),(gF l i cv).length < n ->
  ∃σ',aH (cx stepI (jp 2 3) (aH m4 bh) n (.rem (gF l i cv))) (aH wO bh) ⟨LC a o p c,[]⟩=some (.ret (.dat (.bool (par l cv o))),σ')
|[],_,false,_,0=>λ_ _ h=>absurd h (bw _)
|[],i,false,o,n+1=>λp c _=>⟨_,(bm rfl).trans (oU Ot)⟩
|[],i,true,o,0=>λp c h=>absurd h (bw _)
|[],i,true,o,1=>λp c h=>absurd h (Nat.lt_irrefl _)
|[],i,true,o,n+2=>λp c _=>by
  have e:cx stepI (jp 2 3) (aH m4 bh) (n+2) (.rem (gF [] i true)) ⟨LC a o p c,[]⟩=some (.next,⟨LC a o (some (.dat (.int ((i:Int) - 1)))) (some (.dat (sD [92]))),[]⟩) :=
   (iM (is':=.rem []) (d:=.tuple [.int ((i:Int) - 1),sD [92]]) (hp:=[]) (loc:=LC a o (some (.dat (.int ((i:Int) - 1)))) (some (.dat (sD [92])))) rfl rfl ((gJ _ _).trans (Fz (by decide) (by decide)))).trans rfl
  exact⟨_,(bm e).trans (oU Ot)⟩
|x::r,i,true,o,0=>λp c h=>absurd h (bw _)
|x::r,i,true,o,n+1=>λp c h=>by
  have e:=iM (m:=n) (is':=.rem (gF r (i+1) false)) (d:=.tuple [.int (i:Int),sD [92,x]]) (step:=stepI) (is:=.rem (gF (x::r) i true)) (σ:=⟨LC a o p c,[]⟩) (hp:=[]) (T:=jp 2 3) (loc:=LC a o (some (.dat (.int (i:Int)))) (some (.dat (sD [92,x])))) (B:=aH m4 bh) rfl rfl ((gJ _ _).trans (Fz (λq=>by cases q) (λq=>by cases q)))
  obtain⟨σ',e'⟩:=Bk r (i+1) false o n (some (.dat (.int (i:Int)))) (some (.dat (sD [92,x]))) (bG h)
  exact⟨σ',(JK e).trans e'⟩
|x::r,i,false,o,n=>λp c h=>by
  by_cases dK:x=92
  ·have hg:gF (x::r) i false=gF r (i+1) true:=by rw[dK];rfl
   rw[hg]at h ⊢
   rw[show par (x::r) false o=par r true o from if_pos dK]
   exact Bk r (i+1) true o n p c h
  ·have hg:gF (x::r) i false=.tuple [.int (i:Int),sD [x]]::gF r (i+1) false:=by
    show(if x==92 then _ else _)=_
    rw[if_neg (by rw[beq_false_of_ne dK];exact aw)]
   rw[hg]at h ⊢
   cases n with
  |zero=>exact absurd h (bw _)
  |succ n =>
    have hn:=bG h
    have step:∀o',m4 ⟨LC a o (some (.dat (.int (i:Int)))) (some (.dat (sD [x]))),[]⟩=some (.next,⟨LC a o' (some (.dat (.int (i:Int)))) (some (.dat (sD [x]))),[]⟩)->par (x::r) false o=par r false o' ->
      ∃σ',aH (cx stepI (jp 2 3) (aH m4 bh) (n+1) (.rem (.tuple [.int (i:Int),sD [x]]::gF r (i+1) false))) (aH wO bh) ⟨LC a o p c,[]⟩=some (.ret (.dat (.bool (par (x::r) false o))),σ'):=λo' hb hp=>by
     have e:=iM (m:=n) (is':=.rem (gF r (i+1) false)) (d:=.tuple [.int (i:Int),sD [x]]) (step:=stepI) (is:=.rem (.tuple [.int (i:Int),sD [x]]::gF r (i+1) false)) (σ:=⟨LC a o p c,[]⟩) (hp:=[]) (T:=jp 2 3) (loc:=LC a o (some (.dat (.int (i:Int)))) (some (.dat (sD [x])))) (B:=aH m4 bh) rfl rfl ((gJ _ _).trans hb)
     obtain⟨σ',e'⟩:=Bk r (i+1) false o' n (some (.dat (.int (i:Int)))) (some (.dat (sD [x]))) hn
     exact⟨σ',hp▸(JK e).trans e'⟩
    by_cases zJ:x=40
    ·refine zJ.symm▸?_
     replace step:=zJ▸step
     exact step (o+1) RY rfl
    ·by_cases AY:x=41
     ·refine AY.symm▸?_
      replace step:=AY▸step
      cases o with
     |zero =>
       obtain⟨σ',hb⟩:=QT (a:=a) (p:=some (.dat (.int (i:Int))))
       have e:=uT (m:=n) (is':=.rem (gF r (i+1) false)) (d:=.tuple [.int (i:Int),sD [41]]) (step:=stepI) (is:=.rem (.tuple [.int (i:Int),sD [41]]::gF r (i+1) false)) (σ:=⟨LC a 0 p c,[]⟩) (hp:=[]) (T:=jp 2 3) (loc:=LC a 0 (some (.dat (.int (i:Int)))) (some (.dat (sD [41])))) (B:=aH m4 bh) rfl rfl ((gJ _ _).trans hb)
       exact⟨_,(oU e).trans rfl⟩
     |succ o=>exact step o SP rfl
     ·exact step o (Fz (λq=>zJ (List.cons.inj q).1) (λq=>AY (List.cons.inj q).1)) (by
       show(if x=92 then _ else if x=40 then _ else if x=41 then _ else _)=_
       rw[if_neg dK,if_neg zJ,if_neg AY])
end
noncomputable def nC:EF:=λσ=>some (.dat .none,σ.hp)
noncomputable def Gy(lo hi:PF):NF:=lY (aj 0) lo hi gm
noncomputable def Y4:XF:=aH (cZ (cb .NotEq (aj 1) (aj 2)) (aH (pq (mT (aj 3) (aB (Gy (ik (aj 1)) (ik (aj 2)))))) bh) bh)
 (aH (bN (aB (aZ .Add (aj 4) (iC 1))) (dg 1)) (aH (bN nC (dg 2)) bh))
noncomputable def tO:XF:=cZ (cb .Eq (aj 5) (sC [34])) (aH (cZ (cb .Is (aj 2) nC) (aH (bN (aj 4) (dg 2)) bh) Y4) bh) bh
noncomputable def Lb:XF:=fu (u2 (aM (aj 0) bA)) λis n=>cx stepI (jp 4 5) (aH tO bh) n is
noncomputable def N2:XF:=cZ (cb .Lt (aj 1) (aB (fk (aj 0)))) (aH (pq (mT (aj 3) (aB (Gy (ik (aj 1)) gm)))) bh) bh
noncomputable def C4:XF:=gr (aB (Mine.jx .join (sC []) (aj 3)))
noncomputable def Hw:XF:=cZ (cb .NotIn (sC [34]) (aj 0)) (aH (gr (aj 0)) bh) bh
theorem Pr:Et.1=aH Hw (aH (bN (iC 0) (dg 1)) (aH (bN nC (dg 2)) (aH (bN (lp (gZ bA)) (dg 3)) (aH Lb (aH N2 (aH C4 bh)))))):=rfl
noncomputable def Z6:Option Nat->PyData
|none=>.none
|some p=>.int (p:Int)
noncomputable def LS(t:List Nat)(s:Nat)(op:Option Nat)(p c:Option PV):Loc:=[some (.dat (sD t)),some (.dat (.int (s:Int))),some (.dat (Z6 op)),some (.obj 0),p,c]
noncomputable def hS(res:List (List Nat)):List MO:=[.lst (ce res)]
section
variable {t:List Nat}{s i p:Nat}{op:Option Nat}{res:List (List Nat)}{pos:Option PV}{ch:List Nat}
theorem DR(h:ch≠[34]):tO ⟨LS t s op pos (some (.dat (sD ch))),hS res⟩=some (.next,⟨LS t s op pos (some (.dat (sD ch))),hS res⟩):=by
 have e1:cb .Eq (aj 5) (sC [34]) ⟨LS t s op pos (some (.dat (sD ch))),hS res⟩=some (false,hS res):=gK (F2:=sC [34]) (aV rfl rfl) rfl rfl rfl (by rw[D6,beq_false_of_ne h])
 exact(oQ e1).trans rfl
theorem aan:tO ⟨LS t s none (some (.dat (.int (i:Int)))) (some (.dat (sD [34]))),hS res⟩=some (.next,⟨LS t s (some i) (some (.dat (.int (i:Int)))) (some (.dat (sD [34]))),hS res⟩):=rfl
noncomputable def lL(t:List Nat)(s p:Nat)(res:List (List Nat)):List (List Nat):=if s=p then res else res++[(t.take p).drop s]
theorem aaW(ha:a≤t.length)(hb:b≤t.length):sl (some (a:Int)) (some (b:Int)) t=(t.take b).drop a:=by
 unfold sl
 exact(z5 ha).symm▸(z5 hb).symm▸rfl
theorem S5(ha:a≤t.length):sl (some (a:Int)) none t=t.drop a:=by
 show(t.take t.length).drop (clip t.length (some (a:Int)) 0)=_
 exact(z5 ha).symm▸List.take_length.symm▸rfl
theorem QR(hs:s≤t.length)(hp:p≤t.length)(ht:t.length≤1000)(hr:res.length≤1000):tO ⟨LS t s (some p) (some (.dat (.int (i:Int)))) (some (.dat (sD [34]))),hS res⟩=some (.next,⟨LS t (i+1) none (some (.dat (.int (i:Int)))) (some (.dat (sD [34]))),hS (lL t s p res)⟩):=by
 let L:=LS t s (some p) (some (.dat (.int (i:Int)))) (some (.dat (sD [34])))
 let L1:=LS t (i+1) (some p) (some (.dat (.int (i:Int)))) (some (.dat (sD [34])))
 have e1:cb .Eq (aj 5) (sC [34]) ⟨L,hS res⟩=some (true,hS res):=rfl
 have e2:cb .Is (aj 2) nC ⟨L,hS res⟩=some (false,hS res):=rfl
 have e3:cb .NotEq (aj 1) (aj 2) ⟨L,hS res⟩=some (!(s==p),hS res):=gK (aV rfl rfl) (aV rfl rfl) rfl rfl (show some (!((s:Int)==(p:Int)))=_ from congrArg (λb=>some (!b)) (by
  rw[Bool.eq_iff_iff,beq_iff_eq,beq_iff_eq,Int.ofNat_inj]))
 have e6:∀h,bN (aB (aZ .Add (aj 4) (iC 1))) (dg 1) ⟨L,h⟩=some (.next,⟨L1,h⟩):=λh=>dR (bS (op:=.Add) (F2:=iC 1) (aV rfl rfl) rfl rfl)
 have fin:cZ (cb .NotEq (aj 1) (aj 2)) (aH (pq (mT (aj 3) (aB (Gy (ik (aj 1)) (ik (aj 2)))))) bh) bh ⟨L,hS res⟩=some (.next,⟨L,hS (lL t s p res)⟩):=by
  by_cases h:s=p
  ·rw[show(!(s==p))=false from by rw[h,beq_self_eq_true];rfl]at e3
   rw[show lL t s p res=res from if_pos h]
   exact(oQ e3).trans rfl
  ·rw[show(!(s==p))=true from by rw[beq_false_of_ne h];rfl]at e3
   have a1:lr (some (s:Int)) (some (p:Int)) none (sD t)=some (sD ((t.take p).drop s)):=by
    rw[Ea (Nat.le_trans ht b9),aaW hs hp]
   have a2:=pA (append_eq (F1:=aj 3) (i:=0) (L:=L) (hp1:=hS res) (aV rfl rfl) rfl (show(ce res).length≤lim from(bI ..).symm▸aa hr b9) (vt (F:=aj 0) (lo:=ik (aj 1)) (hi:=ik (aj 2)) (st:=gm) (aV (i:=0) rfl rfl) (vf (aV (i:=1) rfl rfl)) (vf (aV (i:=2) rfl rfl)) rfl a1))
   refine(sA e3).trans <| (gJ _ _).trans <| a2.trans ?_
   rw[show lL t s p res=res++[(t.take p).drop s]from if_neg h]
   unfold hS
   rw[Cx]
   rfl
 exact(sA e1).trans <| (gJ _ _).trans <| (oQ e2).trans <| (bm fin).trans <| (bm (e6 _)).trans rfl
end
noncomputable def cB:List Nat->Bool->Option (List Nat)->List Nat
|[],_,none=>[]
|[],_,some q=>q
|c::r,true,none=>c::cB r false none
|c::r,true,some q=>cB r false (some (q++[c]))
|c::r,false,none=>if c=92 then c::cB r true none else if c=34 then cB r false (some [34])else c::cB r false none
|c::r,false,some q=>if c=92 then cB r true (some (q++[c]))else if c=34 then cB r false none else cB r false (some (q++[c]))
noncomputable def u4(t:List Nat)(i s:Nat):Option Nat->List Nat
|none=>(t.take i).drop s
|some p=>(t.take p).drop s
noncomputable def pend(t:List Nat)(i:Nat):Option Nat->Option (List Nat)
|none=>none
|some p=>some ((t.take i).drop p)
noncomputable def rS(i s:Nat):Option Nat->Prop
|none=>s≤i
|some p=>s≤p∧p < i
theorem take_one{t:List Nat}{i s c:Nat}(h:t[i]?=some c)(hs:s≤i):(t.take (i+1)).drop s=(t.take i).drop s++[c]:=by
 have hi:=(List.getElem?_eq_some_iff.mp h).1
 rw[List.take_add_one,h,List.drop_append_of_le_length (by rw[List.length_take];exact Nat.le_min.mpr ⟨hs,aa hs (aG hi)⟩)]
 rfl
theorem GH{t:List Nat}{i s c:Nat}{op:Option Nat}(h:t[i]?=some c)(ho:rS i s op):∀(f:List Nat->Bool->Option (List Nat)->List Nat) (r:List Nat) (b:Bool) (X:List Nat),
  (∀q,X=(match q with|none=>c::cB r b none|some q=>cB r b (some (q++[c])))->pend t i op=q->u4 t i s op++X=u4 t (i+1) s op++cB r b (pend t (i+1) op)):=λf r b X q hX hq=>by
 cases op with
|none =>
  cases hq
  rw[hX]
  show(t.take i).drop s++(c::cB r b none)=(t.take (i+1)).drop s++cB r b none
  rw[take_one h ho,bJ]
  rfl
|some p =>
  cases hq
  rw[hX]
  show(t.take p).drop s++cB r b (some ((t.take i).drop p++[c]))=(t.take p).drop s++cB r b (some ((t.take (i+1)).drop p))
  rw[take_one h (Nat.le_of_lt ho.2)]
theorem rS.next(h:rS i s op):rS (i+1) s op:=by
 cases op with
|none=>exact Nat.le_succ_of_le h
|some p=>exact⟨h.1,Nat.lt_succ_of_lt h.2⟩
inductive pn(t:List Nat)(l:List Nat)(i:Nat)(cv:Bool)(s:Nat)(op:Option Nat)(res:List (List Nat))(n:Nat)(p c:Option PV):Prop
|mk (s':Nat) (op':Option Nat) (res':List (List Nat)) (p' c':Option PV):cx stepI (jp 4 5) (aH tO bh) n (.rem (gF l i cv)) ⟨LS t s op p c,hS res⟩=some (.next,⟨LS t s' op' p' c',hS res'⟩) ->
  res'.flatten++t.drop s'=res.flatten++(u4 t i s op++cB l cv (pend t i op))->s'≤t.length->res'.length≤res.length+l.length->pn t l i cv s op res n p c
theorem Ms{t:List Nat}{i s:Nat}{op:Option Nat}{res:List (List Nat)}{cv:Bool}(hi:i=t.length)(ho:rS i s op):res.flatten++t.drop s=res.flatten++(u4 t i s op++cB [] cv (pend t i op)):=by
 refine congrArg (res.flatten++·) ?_
 cases op with
|none =>
  show t.drop s=(t.take i).drop s++cB [] cv none
  rw[hi,List.take_length,show cB [] cv none=[]from by cases cv<;>rfl,bM]
|some p =>
  show t.drop s=(t.take p).drop s++cB [] cv (some ((t.take i).drop p))
  have hp:p≤t.length:=hi▸aG ho.2
  rw[show ∀q,cB [] cv (some q)=q from λq=>by cases cv<;>rfl,hi,List.take_length]
  have e:t.drop s=((t.take p)++t.drop p).drop s:=by rw[List.take_append_drop]
  rw[e,List.drop_append_of_le_length (by rw[List.length_take];exact Nat.le_min.mpr ⟨ho.1,aa ho.1 hp⟩)]
theorem rS.le{t:List Nat}{i s:Nat}{op:Option Nat}(h:rS i s op)(hi:i≤t.length):s≤t.length:=by
 cases op with
|none=>exact aa h hi
|some p=>exact aa h.1 (aa (aG h.2) hi)
theorem drop_cons{t r:List Nat}{i x:Nat}(h:t.drop i=x::r):t[i]?=some x∧t.drop (i+1)=r∧i+1≤t.length:=by
 have h1:t[i]?=some x:=by
  have e:(t.drop i)[0]?=some x:=by rw[h];rfl
  rwa [List.getElem?_drop,Nat.add_zero]at e
 refine⟨h1,?_,(List.getElem?_eq_some_iff.mp h1).1⟩
 have e:(t.drop i).drop 1=r:=by rw[h];rfl
 rwa [List.drop_drop]at e
theorem Pm(t:List Nat)(i:Nat):(t.take i).drop i=[]:=List.drop_eq_nil_of_le (List.length_take.symm▸Nat.min_le_left _ _)
theorem Um(t)(s p)(res):(lL t s p res).flatten=res.flatten++(t.take p).drop s:=by
 unfold lL
 by_cases h:s=p
 ·rw[if_pos h,h,List.drop_eq_nil_of_le (by rw[List.length_take];exact Nat.min_le_left _ _),bM]
 ·rw[if_neg h,List.flatten_append]
  show res.flatten++((t.take p).drop s++[])=_
  rw[bM]
theorem Mr(t)(s p)(res):(lL t s p res).length≤res.length+1:=by
 unfold lL
 by_cases h:s=p
 ·rw[if_pos h];exact bx _
 ·rw[if_neg h,bH];exact am _
theorem pn.turn
  (hg:gF l i cv=.tuple [.int pos,sD ch]::gF r i' false) (hb:tO ⟨LS t s op (some (.dat (.int pos))) (some (.dat (sD ch))),hS res⟩=some (.next,⟨LS t s' op' (some (.dat (.int pos))) (some (.dat (sD ch))),hS res'⟩))
  (he:res.flatten++(u4 t i s op++cB l cv (pend t i op))=res'.flatten++(u4 t i' s' op'++cB r false (pend t i' op'))) (hl:res'.length+r.length≤res.length+l.length)
  (h:pn t r i' false s' op' res' n (some (.dat (.int pos))) (some (.dat (sD ch)))):pn t l i cv s op res (n+1) p c:=by
 refine cps λ_ KK=>?_
 obtain⟨s2,Hi,mS,p2,c2,e1,e2,e3,e4⟩:=h
 refine KK ?_
 have e:=iM (m:=n) (is':=.rem (gF r i' false)) (d:=.tuple [.int pos,sD ch]) (step:=stepI) (is:=.rem (.tuple [.int pos,sD ch]::gF r i' false)) (σ:=⟨LS t s op p c,hS res⟩) (hp:=hS res) (T:=jp 4 5) (loc:=LS t s op (some (.dat (.int pos))) (some (.dat (sD ch)))) (B:=aH tO bh) rfl rfl ((gJ _ _).trans hb)
 exact⟨s2,Hi,mS,p2,c2,hg.symm▸e.trans e1,e2.trans he.symm,e3,aa e4 hl⟩
theorem vE{t:List Nat}(ht:t.length≤400):∀(l:List Nat) (i:Nat) (cv:Bool) (s:Nat) (op:Option Nat) (res:List (List Nat)) (n:Nat) (p c:Option PV),t.drop i=l->i≤t.length->rS i s op->res.length+l.length≤1000->(gF l i cv).length < n->pn t l i cv s op res n p c
|[],_,false,_,_,_,0=>λ_ _ _ _ _ _ h=>absurd h (bw _)
|[],i,false,s,op,res,n+1=>λp c hl hi ho hr hn=>⟨s,op,res,p,c,rfl,Ms (Nat.le_antisymm hi (List.drop_eq_nil_iff.mp hl)) ho,ho.le hi,am _⟩
|[],i,true,s,op,res,0=>λp c hl hi ho hr hn=>absurd hn (bw _)
|[],i,true,s,op,res,1=>λp c hl hi ho hr hn=>absurd hn (Nat.lt_irrefl _)
|[],i,true,s,op,res,n+2=>λp c hl hi ho hr hn =>
  pn.turn (r:=[]) (i':=i) (n:=n+1) (pos:=(i:Int) - 1) (ch:=[92]) rfl (DR (by decide)) (by cases op<;>rfl) (am _)
   ⟨s,op,res,_,_,rfl,Ms (Nat.le_antisymm hi (List.drop_eq_nil_iff.mp hl)) ho,ho.le hi,am _⟩
|x::r,i,true,s,op,res,0=>λp c hl hi ho hr hn=>absurd hn (bw _)
|x::r,i,true,s,op,res,n+1=>λp c hl hi ho hr hn =>
  have d:=drop_cons hl
  pn.turn (r:=r) (i':=i+1) (n:=n) (pos:=(i:Int)) (ch:=[92,x]) rfl (DR (λq=>by cases q)) (congrArg (res.flatten++·) (GH d.1 ho cB r false _ _ (by cases pend t i op<;>rfl) rfl)) (aQ (bx _) _)
   (vE ht r (i+1) false s op res n _ _ d.2.1 d.2.2 ho.next (aa (aQ (bx _) _) hr) (bG hn))
|x::r,i,false,s,op,res,n=>λp c hl hi ho hr hn=>by
  have d:=drop_cons hl
  have gL:res.length+r.length≤1000:=aa (aQ (bx _) _) hr
  by_cases dK:x=92
  ·have hg:gF (x::r) i false=gF r (i+1) true:=by rw[dK];rfl
   replace hn:=hg▸hn
   refine cps λ_ KK=>?_
   obtain⟨s2,Hi,mS,p2,c2,e1,e2,e3,e4⟩:=vE ht r (i+1) true s op res n p c d.2.1 d.2.2 ho.next gL hn
   refine KK ⟨s2,Hi,mS,p2,c2,hg▸e1,e2.trans (congrArg (res.flatten++·) (GH d.1 ho cB r true _ _ ?_ rfl)).symm,e3,aa e4 (aQ (bx _) _)⟩
   cases pend t i op with
  |none=>exact if_pos dK
  |some q=>exact if_pos dK
  ·have hg:gF (x::r) i false=.tuple [.int (i:Int),sD [x]]::gF r (i+1) false:=by
    show(if x==92 then _ else _)=_
    rw[if_neg (by rw[beq_false_of_ne dK];exact aw)]
   replace hn:=hg▸hn
   cases n with
  |zero=>exact absurd hn (bw _)
  |succ n =>
    have hn:=bG hn
    by_cases eJ:x=34
    ·cases op with
    |none =>
      refine pn.turn (r:=r) (i':=i+1) (n:=n) (pos:=(i:Int)) (ch:=[34]) (op':=some i) (eJ▸hg) aan (congrArg (res.flatten++·) ?_) (aQ (bx _) _) (vE ht r (i+1) false s (some i) res n _ _ d.2.1 d.2.2 ⟨ho,a7 i⟩ gL hn)
      show(t.take i).drop s++(if x=92 then _ else if x=34 then cB r false (some [34])else _)=(t.take i).drop s++cB r false (some ((t.take (i+1)).drop i))
      refine(if_neg dK).symm▸(if_pos eJ).symm▸(take_one d.1 (am i)).symm▸(Pm t i).symm▸eJ.symm▸?_
      rfl
    |some p0 =>
      have O4:p0≤t.length:=aa (aG ho.2) hi
      refine pn.turn (r:=r) (i':=i+1) (n:=n) (pos:=(i:Int)) (ch:=[34]) (s':=i+1) (op':=none) (res':=lL t s p0 res) (eJ▸hg) (QR (aa ho.1 O4) O4 (aa ht b9) (aa (ax _ _) hr)) ?_ ?_ (vE ht r (i+1) false (i+1) none (lL t s p0 res) n _ _ d.2.1 d.2.2 (am _) ?_ hn)
      ·show res.flatten++((t.take p0).drop s++(if x=92 then _ else if x=34 then cB r false none else _))=(lL t s p0 res).flatten++((t.take (i+1)).drop (i+1)++cB r false none)
       rw[if_neg dK,if_pos eJ,Um,Pm t (i+1),bJ]
       rfl
      ·show(lL t s p0 res).length+r.length≤res.length+(r.length+1)
       rw[Nat.add_comm r.length,← Nat.add_assoc]
       exact az (Mr ..) _
      ·refine aa ?_ hr
       show(lL t s p0 res).length+r.length≤res.length+(r.length+1)
       rw[Nat.add_comm r.length,← Nat.add_assoc]
       exact az (Mr ..) _
    ·refine pn.turn (r:=r) (i':=i+1) (n:=n) (pos:=(i:Int)) (ch:=[x]) hg (DR λq=>eJ (List.cons.inj q).1) (congrArg (res.flatten++·) (GH d.1 ho cB r false _ _ ?_ rfl)) (aQ (bx _) _) (vE ht r (i+1) false s op res n _ _ d.2.1 d.2.2 ho.next gL hn)
     cases pend t i op with
    |none=>exact(if_neg dK).trans (if_neg eJ)
    |some q=>exact(if_neg dK).trans (if_neg eJ)
theorem rj:∀(l:List Nat) (cv:Bool) (q:Option (List Nat)),(cB l cv q).length≤l.length+(q.getD []).length
|[],_,none=>am _
|[],_,some q=>aU (Nat.zero_add _).symm
|c::r,true,none=>aS (rj r false none)
|c::r,true,some q=>by
  refine aa (rj r false (some (q++[c]))) ?_
  show r.length+(q++[c]).length≤r.length+1+q.length
  rw[bH,Nat.add_assoc,Nat.add_comm 1]
  exact am _
|c::r,false,none=>by
  show(if c=92 then c::cB r true none else if c=34 then cB r false (some [34])else c::cB r false none).length≤r.length+1
  by_cases h:c=92
  ·rw[if_pos h];exact aS (rj r true none)
  ·rw[if_neg h]
   by_cases h:c=34
   ·rw[if_pos h];exact rj r false (some [34])
   ·rw[if_neg h];exact aS (rj r false none)
|c::r,false,some q=>by
  have e:∀b,(cB r b (some (q++[c]))).length≤r.length+1+q.length:=λb=>by
   refine aa (rj r b (some (q++[c]))) ?_
   show r.length+(q++[c]).length≤r.length+1+q.length
   rw[bH,Nat.add_assoc,Nat.add_comm 1]
   exact am _
  show(if c=92 then cB r true (some (q++[c]))else if c=34 then cB r false none else cB r false (some (q++[c]))).length≤r.length+1+q.length
  by_cases h:c=92
  ·rw[if_pos h];exact e true
  ·rw[if_neg h]
   by_cases h:c=34
   ·rw[if_pos h];exact aa (rj r false none) (aa (bx _) (ax _ _))
   ·rw[if_neg h];exact e false
theorem qF(B)(hB:34 < B):∀(l:List Nat) (cv:Bool) (q:Option (List Nat)),(∀c∈l,c < B)->(∀c∈q.getD [],c < B)->∀c∈cB l cv q,c < B
|[],_,none=>λ_ _ c h=>bT h
|[],_,some q=>λ_ hq c h=>hq c h
|x::r,true,none=>λhl hq c h=>(aI h).elim (λe=>e▸hl x (aq ..)) (qF B hB r false none (λc h=>hl c (al _ h)) hq c)
|x::r,true,some q=>λhl hq c h=>qF B hB r false (some (q++[x])) (λc h=>hl c (al _ h)) (λc h=>(ae h).elim (hq c) λh=>ak h▸hl x (aq ..)) c h
|x::r,false,none=>λhl hq c h=>by
  have hr:∀c∈r,c < B:=λc h=>hl c (al _ h)
  have hx:=hl x (aq ..)
  replace h:c∈(if x=92 then x::cB r true none else if x=34 then cB r false (some [34])else x::cB r false none):=h
  by_cases h1:x=92
  ·rw[if_pos h1]at h
   exact(aI h).elim (λe=>e▸hx) (qF B hB r true none hr hq c)
  ·rw[if_neg h1]at h
   by_cases h2:x=34
   ·rw[if_pos h2]at h
    exact qF B hB r false (some [34]) hr (λc h=>ak h▸hB) c h
   ·rw[if_neg h2]at h
    exact(aI h).elim (λe=>e▸hx) (qF B hB r false none hr hq c)
|x::r,false,some q=>λhl hq c h=>by
  have hr:∀c∈r,c < B:=λc h=>hl c (al _ h)
  have hx:=hl x (aq ..)
  have yR:∀c∈q++[x],c < B:=λc h=>(ae h).elim (hq c) λh=>ak h▸hx
  replace h:c∈(if x=92 then cB r true (some (q++[x]))else if x=34 then cB r false none else cB r false (some (q++[x]))):=h
  by_cases h1:x=92
  ·rw[if_pos h1]at h
   exact qF B hB r true (some (q++[x])) hr yR c h
  ·rw[if_neg h1]at h
   by_cases h2:x=34
   ·rw[if_pos h2]at h
    exact qF B hB r false none hr (λ_ h=>bT h) c h
   ·rw[if_neg h2]at h
    exact qF B hB r false (some (q++[x])) hr yR c h
theorem wi:∀(l:List Nat) (cv:Bool),l.contains 34=false->cB l cv none=l
|[],_,_=>rfl
|c::r,cv,h=>by
  have h:(34==c||r.contains 34)=false:=h
  have h:=Bool.or_eq_false_iff.mp h
  have hc:c≠34:=λe=>by rw[e]at h;exact FJ h.1
  cases cv with
 |true=>exact congrArg (c::·) (wi r false h.2)
 |false =>
   show(if c=92 then c::cB r true none else if c=34 then _ else c::cB r false none)=_
   refine(if_neg hc).symm▸(wi r true h.2).symm▸(wi r false h.2).symm▸?_
   by_cases dK:c=92
   ·exact(if_pos dK).symm▸rfl
   ·exact(if_neg dK).symm▸rfl
theorem uu:∀ws:List (List Nat),sF [] ws=ws.flatten
|[]=>rfl
|[w]=>rfl
|w::v::r=>by rw[aal,uu (v::r)];rfl
theorem Mb:∀ws:List (List Nat),(ws.map λw=>w.length+([]:List Nat).length).sum=ws.flatten.length
|[]=>rfl
|w::r=>by
  refine List.flatten_cons.symm▸List.length_append.symm▸(Mb r)▸?_
  rfl
theorem WA(h1:F1 ⟨L,hp1⟩=some (.dat x,hp1))(hx:pU x=true)(h2:F2 ⟨L,hp1⟩=some (p,hp1))(hr:rd hp1 p=some b)(h3:m.f x b=some d):aB (Mine.jx m F1 F2) ⟨L,hp1⟩=some (.dat d,hp1):=by
 unfold aB Mine.jx aN
 refine h1.symm▸?_
 dsimp only
 refine(if_pos hx).symm▸?_
 skip
 refine h2.symm▸?_
 skip
 unfold ev
 dsimp only
 refine(show rd hp1 (.dat x)=some x from rfl).symm▸hr.symm▸?_
 dsimp only
 exact h3.symm▸rfl
theorem JO(h1:fV ps=some ds)(h2:G ps []=some (.dat d,[])):nL G ps hp=some (.dat d,hp):=by
 unfold nL
 rw[h1]
 dsimp only
 rw[h2]
theorem C1(hl:ps.length=np)(h:B ⟨dI ps N,[]⟩=some (.ret (.dat d),σ)):dX np N false B ps []=some (.dat d,[]):=by
 unfold dX
 rw[if_pos (by rw[hl];exact beq_self_eq_true np),h]
 show trunc 0 (.dat d) σ.hp=_
 unfold trunc
 rw[if_pos (by rw[decide_eq_true (Nat.zero_le _)];rfl)]
 rfl
theorem acP(ht:t.length≤400)(hc:∀c∈t,c < 0x110000)(hp):Cr [.dat (sD t)] hp=some (.dat (sD (cB t false none)),hp):=by
 refine JO (ds:=[sD t]) rfl ?_
 have e0:∀b,t.contains 34=b->cb .NotIn (sC [34]) (aj 0) ⟨dI [.dat (sD t)] 5,[]⟩=some (!b,[]):=λb hb=>gK (F1:=sC [34]) (F2:=aj 0) rfl (aV (i:=0) rfl rfl) rfl rfl (hb▸rfl)
 cases h:t.contains 34 with
|false =>
  refine(wi t false h).symm▸?_
  exact C1 (σ:=⟨dI [.dat (sD t)] 5,[]⟩) rfl ((congrFun Pr _).trans (oU ((sA (e0 false h)).trans (oU rfl))))
|true =>
  refine cps λ_ KK=>?_
  obtain⟨s',op',res',p',c',e1,e2,e3,e4⟩:=vE ht t 0 false 0 none [] ((gF t 0 false).length+1) none none rfl (bZ _) (am 0) (by show 0+t.length≤1000;rw[Nat.zero_add];exact aa ht b9) (a7 _)
  refine KK ?_
  have e2:res'.flatten++t.drop s'=cB t false none:=e2
  have a0:Hw ⟨dI [.dat (sD t)] 5,[]⟩=some (.next,⟨dI [.dat (sD t)] 5,[]⟩):=(oQ (e0 true h)).trans rfl
  have hlen:(cB t false none).length≤400:=aa (rj t false none) ht
  have yT:∀c∈cB t false none,c < 0x110000:=qF 0x110000 (by decide) t false none hc (λ_ h=>bT h)
  have aF:Lb ⟨LS t 0 none none none,hS []⟩=some (.next,⟨LS t s' op' p' c',hS res'⟩):=e1
  have ZZ:res'.length≤400:=aa e4 (by show 0+t.length≤400;rw[Nat.zero_add];exact ht)
  have aE:∃mS,N2 ⟨LS t s' op' p' c',hS res'⟩=some (.next,⟨LS t s' op' p' c',hS mS⟩)∧mS.flatten=cB t false none:=by
   have el:aB (fk (aj 0)) ⟨LS t s' op' p' c',hS res'⟩=some (.dat (.int (t.length:Nat)),hS res'):=mE (f:=B1.len.f) (a:=sD t) (aV (i:=0) rfl rfl) (if_pos (aa ht b9))
   have ec:cb .Lt (aj 1) (aB (fk (aj 0))) ⟨LS t s' op' p' c',hS res'⟩=some (decide (s' < t.length),hS res'):=gK (aV (i:=1) rfl rfl) el rfl rfl (congrArg some (decide_eq_decide.mpr Int.ofNat_lt))
   by_cases dJ:s' < t.length
   ·rw[decide_eq_true dJ]at ec
    have a1:lr (some (s':Int)) none none (sD t)=some (sD (t.drop s')):=by
     exact(Ea (aa ht b9)).symm▸(S5 e3).symm▸rfl
    have a2:=pA (append_eq (F1:=aj 3) (i:=0) (L:=LS t s' op' p' c') (hp1:=hS res') (aV rfl rfl) rfl (show(ce res').length≤lim from(bI ..).symm▸aa ZZ b9) (vt (F:=aj 0) (lo:=ik (aj 1)) (hi:=gm) (st:=gm) (aV (i:=0) rfl rfl) (vf (aV (i:=1) rfl rfl)) rfl rfl a1))
    refine⟨res'++[t.drop s'],(sA ec).trans <| (gJ _ _).trans <| a2.trans ?_,?_⟩
    ·unfold hS
     rw[Cx]
     rfl
    ·refine List.flatten_append.symm▸e2▸?_
     show res'.flatten++(t.drop s'++[])=_
     rw[bM]
   ·replace ec:=(decide_eq_false dJ)▸ec
    refine⟨res',(oQ ec).trans rfl,?_⟩
    rw[← e2,List.drop_eq_nil_of_le (Nat.not_lt.mp dJ),bM]
  refine cps λ_ KK=>?_
  obtain⟨mS,aE,hf⟩:=aE
  refine KK ?_
  have hj:nQ ⟨⟨[]⟩⟩ (ce mS)=some (sD (cB t false none)):=by
   have j:=join_eq (g:=[]) (ws:=mS) (by rw[Mb,hf];exact aa hlen b9) (λ_ h=>bT h) (λw hw c me=>yT c (hf▸List.mem_flatten.mpr ⟨w,hw,me⟩))
   rw[uu,hf]at j
   exact j
  have aR:C4 ⟨LS t s' op' p' c',hS mS⟩=some (.ret (.dat (sD (cB t false none))),⟨LS t s' op' p' c',hS mS⟩):=by
   have e:=WA (m:=.join) (F1:=sC []) (F2:=aj 3) (L:=LS t s' op' p' c') (hp1:=hS mS) rfl rfl (aV (i:=3) rfl rfl) (Dx rfl) hj
   unfold C4 gr bN
   exact e.symm▸rfl
  exact C1 rfl ((congrFun Pr _).trans <| (bm a0).trans <| (bm (σ':=⟨(dI [.dat (sD t)] 5).set 1 (some (.dat (.int 0))),[]⟩) rfl).trans <| (bm (σ':=⟨((dI [.dat (sD t)] 5).set 1 (some (.dat (.int 0)))).set 2 (some (.dat .none)),[]⟩) rfl).trans <| (bm (σ':=⟨LS t 0 none none none,hS []⟩) rfl).trans <| (bm aF).trans <| (bm aE).trans <| oU aR)
theorem Tw(ht:t.length≤400)(hc:∀c∈t,c < 0x110000)(hp):vT [.dat (sD t)] hp=some (.dat (.bool (par (cB t false none) false 0)),hp):=by
 refine JO (ds:=[sD t]) rfl ?_
 let u:=cB t false none
 have a0:OT ⟨dI [.dat (sD t)] 3,[]⟩=some (.next,⟨(dI [.dat (sD t)] 3).set 0 (some (.dat (sD (cB t false none)))),[]⟩):=dR (xq (aV (i:=0) rfl rfl) (acP ht hc []))
 refine(Bk (a:=some (.dat (sD (cB t false none)))) (cB t false none) 0 false 0 ((gF (cB t false none) 0 false).length+1) none none (a7 _)).elim λσ' e=>?_
 exact C1 rfl ((congrFun Wv _).trans <| (bm a0).trans <| (bm (σ':=⟨LC (some (.dat (sD (cB t false none)))) 0 none none,[]⟩) rfl).trans <| e)
theorem Mc(h:∀c∈l,c < 0x110000):PyData.strOk (⟨⟨l⟩⟩:Str)=true:=by
 unfold PyData.strOk
 rw[← Array.all_toList,List.all_eq_true]
 exact λc hc=>decide_eq_true (h c hc)
theorem N7(h:4*l.length≤lim)(ho:∀c∈f l,c < 0x110000):rL f ⟨⟨l⟩⟩=some (.str ⟨⟨f l⟩⟩):=if_pos ⟨h,Mc ho⟩
section
variable {F F1 F2:EF}{L:Loc}{hp hp1 bU:List MO}
theorem HI(h1:F1 ⟨L,hp1⟩=some (.dat (.str r),bU))(h2:F2 ⟨L,bU⟩=some (.dat (.str x),bU))(h3:rL f x=some d):aB (CD r f F1 F2) ⟨L,hp1⟩=some (.dat d,bU):=by
 unfold aB CD aN
 rw[h1]
 dsimp only
 rw[h2]
 dsimp only
 rw[if_pos rfl,h3]
theorem vK(h:F ⟨L,hp1⟩=some (p,bU)):aH (gr F) G ⟨L,hp1⟩=some (.ret p,⟨L,bU⟩):=by
 unfold aH gr bN
 exact h.symm▸rfl
theorem NA(hl:ps.length=np)(hd:fV ps=some ds)(h:B ⟨dI ps N,[]⟩=some (.ret (.dat d),⟨L',[]⟩)):nL (dX np N false B) ps hp=some (.dat d,hp):=by
 unfold nL
 refine hd.symm▸?_
 unfold dX
 dsimp only
 refine(if_pos (beq_iff_eq.mpr hl)).symm▸h.symm▸?_
 rfl
end
theorem PM{l:List Nat}{hp:List MO}(h:4*l.length≤lim)(h2:4*(dP l).length≤lim)(DQ:∀c∈dP l,c < 0x110000)(qi:∀c∈dB true (dP l),c < 0x110000) :
  DE [.dat (.str ⟨⟨l⟩⟩)] hp=some (.dat (.str ⟨⟨dB true (dP l)⟩⟩),hp) :=
 NA rfl rfl (vK (HI (F1:=sC [46,46]) rfl (HI (F1:=sC [13,10]) rfl (aV rfl rfl) (N7 (f:=dP) h DQ)) (N7 (f:=dB true) (l:=dP l) h2 qi)))
theorem Af:∀ws:List (List Nat),(∀w∈ws,w.length≤M)->(ws.map λw=>w.length+k).sum≤ws.length*(M+k)
|[],_=>by simp
|w::ws,h=>by
  have:=Af (k:=k) ws λx hx=>h x (al _ hx)
  have h1:=h w (aq ..)
  rw[bP,List.sum_cons,List.length_cons,Nat.add_mul]
  exact aa (aU (Nat.add_comm _ _)) (ay this (aa (az h1 k) (aU (Nat.one_mul _).symm)))
theorem xm{α:Type}(g:α->PyData)(Φ:Loc->Prop){T:PyData->Loc->Option Loc}{tests:BF}{inner:CF}{t:α->Bool}{ds:α->List PyData}{hp:List MO}:∀(l:List α),
  (∀k∈l,∀loc,Φ loc->∃dL,Φ dL∧T (g k) loc=some dL∧tests ⟨dL,hp⟩=some (t k,hp)∧(t k=true->∃lq,Φ lq∧inner ⟨dL,hp⟩=some (ds k,⟨lq,hp⟩))) ->
  ∀(loc:Loc) (n:Nat),Φ loc->l.length < n->∃loc',Φ loc'∧gx stepI T tests inner n (.rem (l.map g)) ⟨loc,hp⟩=some ((l.filter t).flatMap ds,⟨loc',hp⟩)
|[]=>λ_ loc n hl hn=>by
  obtain⟨n,rfl⟩:=Nat.exists_eq_succ_of_ne_zero (bB hn)
  exact⟨loc,hl,rfl⟩
|d::l=>λh loc n hl hn=>by
  obtain⟨n,rfl⟩:=Nat.exists_eq_succ_of_ne_zero (bB (ah (bZ _) hn))
  refine cps λ_ KK=>?_
  obtain⟨dL,h1,h2,h3,h4⟩:=h d (aq ..) loc hl
  refine KK ?_
  have ih:=xm g Φ (T:=T) (tests:=tests) (inner:=inner) (t:=t) (ds:=ds) (hp:=hp) l λx hx=>h x (al _ hx)
  have kY:l.length < n:=by rw[List.length_cons]at hn;(exact aC (by assumption))
  rw[bP,gx]
  dsimp only[stepI]
  refine h2.symm▸?_
  dsimp only
  rw[h3]
  cases ht:t d with
 |false =>
   obtain⟨loc',q,e⟩:=ih dL n h1 kY
   refine⟨loc',q,?_⟩
   dsimp only
   rw[e,List.filter_cons_of_neg (by rw[ht];exact aw)]
 |true =>
   refine cps λ_ KK=>?_
   obtain⟨lq,h5,h6⟩:=h4 ht
   obtain⟨loc',q,e⟩:=ih lq n h5 kY
   refine KK ?_
   refine⟨loc',q,?_⟩
   dsimp only
   refine h6.symm▸?_
   dsimp only
   refine e.symm▸(List.filter_cons_of_pos ht).symm▸?_
   rfl
theorem comp_map{α:Type}(g:α->PyData)(Φ:Loc->Prop){S:SF}{T:PyData->Loc->Option Loc}{tests:BF}{F:EF}{t:α->Bool}{r:α->PyData}{hp:List MO}{l:List α}{loc:Loc}{ts:List Nat}{n:Nat}(hS:S ⟨loc,hp⟩=some ((.rem (l.map g),n),hp))(hn:l.length < n)
  (h:∀k∈l,∀loc,Φ loc->∃dL,Φ dL∧T (g k) loc=some dL∧tests ⟨dL,hp⟩=some (t k,hp)∧(t k=true->F ⟨dL,hp⟩=some (.dat (r k),hp))) (h0:Φ (unset ts loc)) (hl:l.length≤lim) :
  ix S stepI T tests (gM F) ts ⟨loc,hp⟩=some (.dat (.list ((l.filter t).map r)),hp):=by
 obtain⟨loc',_,e⟩:=xm g Φ (T:=T) (tests:=tests) (inner:=gM F) (t:=t) (ds:=λd=>[r d]) (hp:=hp) l (λd hd loc ai=>by
  refine cps λ_ KK=>?_
  obtain⟨dL,h1,h2,h3,h4⟩:=h d hd loc ai
  refine KK ?_
  refine⟨dL,h1,h2,h3,λht=>⟨dL,h1,?_⟩⟩
  unfold gM
  rw[h4 ht]) (unset ts loc) n h0 hn
 unfold ix
 rw[hS]
 dsimp only
 rw[e]
 dsimp only
 have e2:(l.filter t).flatMap (λd=>[r d])=(l.filter t).map r:=(List.map_eq_flatMap ..).symm
 rw[e2,if_pos]
 have:=List.length_filter_le t l
 rw[bI];(exact aa (by assumption) (by assumption))
theorem yq{Fe:EF}{L:Loc}{hp:List MO}{i j:Nat}{pv:PV}{bK:List (Nat×PV)}(hL:d2 L 0=some (.obj i))(he:Fe ⟨L,hp⟩=some (pv,hp))(hi:hp[i]?=some (.ins 100 bK))(hj:j≤9)(ha:bK.length≤lim)(hb:bK.all (λp=>decide (p.1≤9))=true) :
  nI (aj 0) Fe 100 j ⟨L,hp⟩=some (.next,⟨L,hp.set i (.ins 100 (gn bK j pv))⟩):=by
 unfold nI bN
 rw[he]
 dsimp only
 rw[hO hL]
 dsimp only
 unfold setOf
 dsimp only
 rw[hi]
 dsimp only
 rw[if_pos ⟨rfl,hj,ha,hb⟩]
theorem xK{i j:Nat}{s:List Nat}{b n nt:Int}{ch:Option PV}:d2 (ck i s j b n nt ch) 0=some (.obj i):=rfl
section
variable {base:List MO}{i j:Nat}{t c:List Nat}{b n nt:Int}{ch:Option PV}{hp:List MO}
theorem ED(c):(aY c).length=c.length:=by simp[aY]
end
theorem Gw:∀(runs c:List Nat) (M:Nat),(∀r∈runs,r < M)->c.length≤M->(gP runs c).length≤M
|[],c,M,_,h=>h
|r::runs,c,M,hr,h=>Gw runs (j1 c r) M (λx hx=>hr x (al _ hx)) (by rw[Nm];have:=hr r (aq ..);exact Nat.max_le.mpr ⟨h,this⟩)
noncomputable def rV(r:Nat):List Nat:=List.replicate r 32++[9]
theorem JX(h:r≤50):(rV r).length≤51:=by
 unfold rV
 refine List.length_append.symm▸List.length_replicate.symm▸?_
 exact az h 1
theorem XN(h:∀r∈runs,r≤50)(hl:runs.length≤100):(fU runs).length≤100000:=by
 refine aa (xT 51 (runs.map rV) λw hw=>(bo hw).elim λr q=>q.2▸JX (h r q.1)) ?_
 rw[bI]
 exact aa (ba 51 hl) b9
theorem IM(h:F ⟨L,hp1⟩=some (p,bU)):gr F ⟨L,hp1⟩=some (.ret p,⟨L,bU⟩):=by
 unfold gr bN
 exact h.symm▸rfl
noncomputable abbrev Vs:=Nat->Option PV
noncomputable def Vs.u(v:Vs)(i:Nat)(x:Option PV):Vs:=λj=>cond (Nat.beq j i) x (v j)
noncomputable def Vs.loc(v:Vs):Loc:=[v 0,v 1,v 2,v 3,v 4,v 5,v 6,v 7,v 8,v 9,v 10,v 11,v 12,v 13,v 14,v 15,v 16,v 17,v 18,v 19,v 20,v 21,v 22,v 23,v 24,v 25,v 26,v 27,v 28,v 29,v 30,v 31,v 32,v 33,v 34,v 35,v 36,none,none,none,none,none,none,none,none,none,none,none,none,none,none,none,none,none,none,none,none,none,none,none,none,none,none,none,none,none]
noncomputable def Vs.e:Vs:=λ_=>none
noncomputable def Kp(l:List Nat)(v v':Nat->Option PV):Prop:=∀i,l.contains i=false->v' i=v i
theorem Vs.aaX(v:Vs)(i:Nat)(x:Option PV):v.u i x i=x:=congrArg (cond · x (v i)) (Nat.beq_refl i)
theorem Kp.rf{l:List Nat}{v:Vs}:Kp l v v:=λ_ _=>rfl
theorem Kp.u{l:List Nat}{v v':Vs}{i:Nat}{x:Option PV}(k:Kp l v v')(h:l.contains i=true):Kp l v (v'.u i x):=λj hj=>by
 show cond (Nat.beq j i) x (v' j)=v j
 cases e:Nat.beq j i with
|true=>exact FJ (h.symm.trans (Nat.eq_of_beq_eq_true e▸hj))
|false=>exact k j hj
theorem Kp.to{l m:List Nat}{v v' w:Vs}(k:Kp l v v')(q:Kp m v' w)(h:m.all l.contains=true):Kp l v w:=λj hj =>
 (q j (Bool.eq_false_iff.mpr λe=>kP (hj.symm.trans (bj h j (List.contains_iff_mem.mp e))))).trans (k j hj)
inductive Lp(l:List Nat)(i:Nat)(x:Option PV)(v:Vs)(H:List MO):St->Prop
|mk (w:Vs) (k:Kp l v w) (p:w i=x):Lp l i x v H ⟨w.loc,H⟩
theorem Lp.to{l m:List Nat}{i:Nat}{x:Option PV}{v w:Vs}{H:List MO}{σ:St}(q:Lp m i x w H σ)(k:Kp l v w)(h:m.all l.contains=true):Lp l i x v H σ:=by
 cases q with|mk u k' p=>exact .mk u (k.to k' h) p
theorem xD{B:XF}{l:List Nat}{i:Nat}{x:Option PV}{v:Vs}{h H:List MO}{C:Prop}(q:∃σ,B ⟨v.loc,h⟩=some (.next,σ)∧Lp l i x v H σ)(k:∀w:Vs,B ⟨v.loc,h⟩=some (.next,⟨w.loc,H⟩)->Kp l v w->w i=x->C):C :=
 q.elim λσ q=>by
  obtain⟨e,q⟩:=q
  cases q with|mk w K p=>exact k w e K p
theorem B0{N k:Nat}{d:PyData}(h:(ew 0 1 N)[k]?=some d):k < N∧d=.int (k:Nat):=by
 have hk:k < N:=by
  have:=(List.getElem?_eq_some_iff.mp h).1
  rwa [iz]at this
 exact⟨hk,(tv _ _ _ _ h).trans (by rw[Int.mul_one,Int.zero_add])⟩
theorem pW{S:SF}{G:IS->Nat->XF}{L:Loc}{hp bU:List MO}{is:IS}{n:Nat}{q:Option (Fl×St)}(h:S ⟨L,hp⟩=some ((is,n),bU))(k:G is n ⟨L,bU⟩=q):fu S G ⟨L,hp⟩=q:=by
 unfold fu
 refine h.symm▸?_
 exact k
theorem vL{B:XF}{t N i:Nat}{its:List PyData}{l:List Nat}{x:Nat->Option PV}{v:Vs}{H:Nat->List MO}(g:Nat->PyData)(hN:its.length=N)(hg:∀k d,its[k]?=some d->k < N∧d=g k)(ht:l.contains t=true)(zt:∀(w:Vs) d,cr t d w.loc=some (w.u t (some (.dat d))).loc)(hi:∀(w:Vs) y,(w.u t y) i=w i)
  (h0:v i=x 0) (hB:∀k,k < N->∀w:Vs,Kp l v w->w i=x k->w t=some (.dat (g k))->∃σ,B ⟨w.loc,H k⟩=some (.next,σ)∧Lp l i (x (k+1)) v (H (k+1)) σ):∃σ,cx stepI (cr t) B (N+1) (.rem its) ⟨v.loc,H 0⟩=some (.next,σ)∧Lp l i (x N) v (H N) σ:=by
 subst hN
 exact BJ (λk σ=>Lp l i (x k) v (H k) σ) (λk d σ hd q=>by
  obtain⟨hk,rfl⟩:=hg k d hd
  cases q with|mk w K p =>
  exact(hB k hk _ (K.u ht) ((hi w _).trans p) (w.aaX t _)).elim λσ' q=>⟨_,σ',zt w _,q⟩) _ (.mk v .rf h0)
section
variable {v:Vs}{hp:List MO}{dh:List Int}{ns:List Nat}{i k n q m:Nat}
noncomputable def sumK(dh:List Int)(k:Nat):Int:=(jt (pick (some (k:Int)) none (some 3) (dh.map .int))).getD 0
noncomputable def om(dh:List Int)(k:Nat)(b:Int):Int:=(b+sumK dh k).fmod 1000000
theorem XC(k:Nat):jt (pick (some (k:Int)) none (some 3) (dh.map .int))=some (sumK dh k):=by
 obtain⟨s,e⟩:=Lo (pick (some (k:Int)) none (some 3) (dh.map .int)) λd hd=>(bo (Z8 hd)).elim λi q=>⟨i,q.2.symm⟩
 unfold sumK
 rw[e];rfl
noncomputable def Wy(dh:List Int):PyData->PyData
|.tuple [.int k,.int b]=>.int (om dh k.toNat b)
|_=>.none
noncomputable def Ny:EF:=aB (aZ .Mod (aB (aZ .Add (aj 38) (aB (aN (aB (lY (aj 0) (ik (aj 37)) gm (ik (iC 3)))) (im B1.sum.f))))) (aB (aZ .Pow (iC 10) (iC 6))))
theorem UA(h0:v 0=some (.dat (.list (dh.map .int))))(hs:dh.length≤63)(k:Nat)(b:Int):Ny ⟨(v.loc.set 37 (some (.dat (.int k)))).set 38 (some (.dat (.int b))),hp⟩=some (.dat (.int (om dh k b)),hp):=by
 have G3:lr (some (k:Int)) none (some 3) (.list (dh.map .int))=some (.list (pick (some (k:Int)) none (some 3) (dh.map .int))):=by
  show(if(dh.map PyData.int).length≤lim then(if(3:Int)≠0 then some (PyData.list (pick (some (k:Int)) none (some 3) (dh.map .int)))else none)else none)=_
  rw[if_pos (by rw[bI];exact aa hs b9),if_pos (by decide)]
 exact bS (op:=.Mod) (bS (op:=.Add) (aV rfl rfl) (mE (vt (hi:=gm) (st:=ik (iC 3)) (aV rfl h0) (vf (aV rfl rfl)) rfl rfl G3) (congrArg (Option.map PyData.int) (XC k))) rfl) (bS (op:=.Pow) (F1:=iC 10) (F2:=iC 6) rfl rfl rfl) rfl
noncomputable def JF(dh:List Int):List Int:=[om dh 0 159,om dh 1 1982,om dh 2 1213]
noncomputable def abD:List PyData:=[.int 159,.int 1982,.int 1213]
noncomputable def nums(dh:List Int):List Nat:=(JF dh).map Int.toNat
theorem aaO(dh:List Int):(JF dh).map PyData.int=aY (nums dh):=by
 have h:∀(k:Nat) (b:Int),((om dh k b).toNat:Int)=om dh k b:=λk b=>Int.toNat_of_nonneg (by
  unfold om
  rw[Int.fmod_eq_emod_of_nonneg _ (by decide)]
  exact Int.emod_nonneg _ (by decide))
 show[PyData.int _,.int _,.int _]=[PyData.int ((om dh 0 159).toNat:Int),.int ((om dh 1 1982).toNat:Int),.int ((om dh 2 1213).toNat:Int)]
 rw[h,h,h]
theorem s0(h0:v 0=some (.dat (.list (dh.map .int))))(hs:dh.length≤63) :
  zr.1 ⟨v.loc,hp⟩=some (.next,⟨(v.u 1 (some (.dat (.list (aY (nums dh)))))).loc,hp⟩):=by
 have e:=T8 (λloc=>∃a b,loc=(v.loc.set 37 a).set 38 b) (S:=enumSrc (aB (gZ (aM (iC 159) (aM (iC 1982) (aM (iC 1213) bA)))))) (T:=jp 37 38) (tests:=λσ=>some (true,σ.hp)) (F:=Ny) (t:=λ_=>true) (g:=Wy dh) (hp:=hp) (l:=jN 0 abD) (loc:=v.loc) (ts:=[37,38]) (n:=4)
  rfl (by decide) (λd hd loc hl=>by
   refine cps λ_ KK=>?_
   obtain⟨a,b,hl⟩:=hl
   obtain⟨k,n,hd⟩:=IN [159,1982,1213] 0 d hd
   refine KK ?_
   refine hl.symm▸hd.symm▸?_
   exact⟨_,⟨some (.dat (.int k)),some (.dat (.int n)),rfl⟩,rfl,rfl,λ_=>UA h0 hs k n⟩) ⟨none,none,rfl⟩ (by decide)
 rw[← aaO]
 exact dR (e.trans rfl)
theorem VF{F G:EF}{L:Loc}{d:PyData}(hF:F ⟨L,hp⟩=some (.dat (.list (aY ns)),hp))(hG:G ⟨L,hp⟩=some (.dat (.int (k:Nat)),hp))(hn:ns[k]?=some n)(hk:k < 5)(hm:0 < m) :
  aB (aZ .Mod (eM F G) (iC m)) ⟨L,hp⟩=some (.dat (.int ((n % m:Nat):Int)),hp) :=
 bS (op:=.Mod) (jo hF hG (n9 (rn hn) (aa (aG hk) b9))) rfl (Ae hm)
theorem vm{F G:EF}{L:Loc}(hF:F ⟨L,hp⟩=some (.dat (.list (aY ns)),hp))(hG:G ⟨L,hp⟩=some (.dat (.int (k:Nat)),hp))(hn:ns[k]?=some n)(hk:k < 5)(hq:0 < q)(Tg:q < 2 ^ 60)(hm:0 < m) :
  aB (aZ .Mod (aB (aZ .FloorDiv (eM F G) (iC q))) (iC m)) ⟨L,hp⟩=some (.dat (.int ((n / q % m:Nat):Int)),hp) :=
 bS (op:=.Mod) (bS (op:=.FloorDiv) (jo hF hG (n9 (rn hn) (aa (aG hk) b9))) rfl (G8 hq Tg)) rfl (Ae hm)
noncomputable def cC(ns:List Nat)(k:Nat):Nat:=(ns[k]?).getD 0
theorem xi(hl:ns.length=3)(hk:k < 3):ns[k]?=some (cC ns k):=by
 unfold cC
 rw[List.getElem?_eq_getElem (hl.symm▸hk)];rfl
noncomputable def mO(ns:List Nat):List Nat:=[cC ns 0 % 4,cC ns 1 % 3,cC ns 2 % 3]
theorem s1(h1:v 1=some (.dat (.list (aY ns))))(hl:ns.length=3):AA.1 ⟨v.loc,hp⟩=some (.next,⟨(v.u 2 (some (.dat (.list (aY (mO ns)))))).loc,hp⟩):=by
 have a:∀k:Nat,k < 3->∀m:Nat,0 < m->aB (aZ .Mod (eM (aj 1) (iC k)) (iC m)) ⟨v.loc,hp⟩=some (.dat (.int ((cC ns k % m:Nat):Int)),hp):=λk hk m hm=>VF (G:=iC k) (d:=.none) (aV rfl h1) rfl (xi hl hk) (a9 hk b9) hm
 exact dR (GP (jK (a 0 (by decide) 4 (by decide)) (jK (a 1 (by decide) 3 (by decide)) (jK (a 2 (by decide) 3 (by decide)) rfl))) rfl (av rfl))
theorem s2:BH.1 ⟨v.loc,hp⟩=some (.next,⟨((v.u 3 (some (.obj hp.length))).u 4 (some (.dat (sD [])))).loc,hp++[.lst []]⟩):=rfl
end
noncomputable def eS(e:Nat):List Nat:=if e=0 then[10]else if e=1 then[13]else[13,10]
noncomputable def kO(k z e:Nat):List Nat:=[97+k]++[46]++eS e++List.replicate (z+1) 46++eS e
noncomputable def gR(w:List Nat):List Nat:=(w.map λc=>[92,c]).flatten
noncomputable def iD(a:Nat)(w:List Nat):List Nat:=if a=0 then[34]++w++[34]else if a=1 then gR w else[34]++gR w++[34]
noncomputable def lP(b:Nat):Nat:=[10,9,13,32].getD b 0
theorem Cg(e):(eS e).length≤2:=by
 unfold eS
 by_cases h:e=0
 ·rw[if_pos h];exact bx 1
 ·rw[if_neg h]
  by_cases h:e=1
  ·rw[if_pos h];exact bx 1
  ·rw[if_neg h];exact am 2
theorem MN{k z e:Nat}(hz:z < 4):(kO k z e).length≤10:=by
 have:=Cg e
 unfold kO
 simp only[bH,bL,List.length_singleton]
 exact ay (ay (aQ this _) hz) this
theorem F8(w):(gR w).length=2*w.length:=by
 unfold gR
 induction w with
|nil=>rfl
|cons c w ih =>
  rw[bP,List.flatten_cons,bH,ih]
  show 2+2*w.length=2*(w.length+1)
  (exact Nat.add_comm _ _)
theorem xj{a:Nat}{w:List Nat}(h:w.length≤10):(iD a w).length≤22:=by
 unfold iD
 by_cases h0:a=0
 ·rw[if_pos h0];simp only[bH,List.length_singleton];exact aa (az (aQ h 1) 1) b9
 ·rw[if_neg h0]
  by_cases h1:a=1
  ·rw[if_pos h1,F8];exact aa (bc 2 h) b9
  ·rw[if_neg h1];simp only[bH,List.length_singleton,F8];exact az (aQ (bc 2 h) 1) 1
theorem Jc(e):∀c∈eS e,c < 200:=by
 unfold eS
 by_cases h:e=0
 ·rw[if_pos h];decide
 ·rw[if_neg h]
  by_cases h:e=1
  ·rw[if_pos h];decide
  ·rw[if_neg h];decide
theorem LX{k z e:Nat}(hk:k < 3):∀c∈kO k z e,c < 200:=λc hc=>by
 unfold kO at hc
 rcases ae hc with hc|hc
 ·rcases ae hc with hc|hc
  ·rcases ae hc with hc|hc
   ·rcases ae hc with hc|hc
    ·rw[ak hc];exact bu (Nat.add_lt_add_left hk 97) b9
    ·rw[ak hc];decide
   ·exact Jc e c hc
  ·rw[(b4 hc).2];decide
 ·exact Jc e c hc
theorem AG{c:Nat}{i:Int}(h:i.natAbs≤lim):xZ (sD [c]) (.int i)=some (sD (List.replicate i.toNat c)):=by
 show(if 1*i.toNat≤lim∧i.natAbs≤lim then some (PyData.str ⟨⟨(List.replicate i.toNat [c]).flatten⟩⟩)else none)=_
 rw[if_pos ⟨Nat.le_trans (Nat.le_of_eq (Nat.one_mul _)) (Nat.le_trans (i5 i) h),h⟩]
 have:∀r,(List.replicate r [c]).flatten=List.replicate r c:=λr=>by
  induction r with
 |zero=>rfl
 |succ r ih=>rw[List.replicate_succ,List.flatten_cons,ih];rfl
 rw[this]
section
variable {v:Vs}{hp:List MO}{ns zs:List Nat}{i k n q m z e a b:Nat}{l w:List Nat}{ws:List (List Nat)}{wl:List PyData}
theorem QJ(h1:v 1=some (.dat (.list (aY ns))))(h5:v 5=some (.dat (.int (k:Nat))))(hn:ns[k]?=some n)(hk:k < 3):Cw.1 ⟨v.loc,hp⟩=some (.next,⟨(v.u 6 (some (.dat (sD (eS (n / 12 % 3)))))).loc,hp⟩):=by
 have e2:∀e,e < 3->([sD [10],sD [13],sD [13,10]]:List PyData)[e]?=some (sD (eS e)):=λe he=>by
  exact mU e he rfl rfl rfl
 have hm:=bD (n / 12) (show 0 < 3 by decide)
 exact dR (jo (F1:=aB (gZ (aM (sC [10]) (aM (sC [13]) (aM (sC [13,10]) bA))))) rfl (vm (q:=12) (m:=3) (aV rfl h1) (aV rfl h5) hn (a9 hk b9) (by decide) (by decide) (by decide)) (n9 (e2 _ hm) (aa (aG hm) b9)))
theorem T6(h2:v 2=some (.dat (.list (aY zs))))(h5:v 5=some (.dat (.int (k:Nat))))(h6:v 6=some (.dat (sD (eS e))))(hz:zs[k]?=some z)(hk:k < 3)(h4:z < 4):A3.1 ⟨v.loc,hp⟩=some (.next,⟨(v.u 7 (some (.dat (sD (kO k z e))))).loc,hp⟩):=by
 have e0:l7 (sD [97,98,99]) (.int (k:Nat))=some (sD [97+k]):=by
  exact mU k hk rfl rfl rfl
 have hE:=Cg e
 have n6:aj 6 ⟨v.loc,hp⟩=some (.dat (sD (eS e)),hp):=aV rfl h6
 have ez:aB (aZ .Mult (sC [46]) (aB (aZ .Add (eM (aj 2) (aj 5)) (iC 1)))) ⟨v.loc,hp⟩=some (.dat (sD (List.replicate (z+1) 46)),hp) :=
  bS (op:=.Mult) (b:=.int ((z+1:Nat):Int)) rfl (bS (op:=.Add) (F2:=iC 1) (jo (aV rfl h2) (aV rfl h5) (n9 (rn hz) (aa (aG hk) b9))) rfl rfl) (AG (i:=((z+1:Nat):Int)) (by unfold lim;(exact aa (by assumption) b9)))
 refine dR (bS (op:=.Add) (bS (op:=.Add) (bS (op:=.Add) (bS (op:=.Add) (jo (F1:=sC [97,98,99]) rfl (aV rfl h5) e0) (show sC [46] _=some (PV.dat (sD [46]),_)from rfl) (add_str (x:=[97+k]) (y:=[46]) (av rfl))) n6 (add_str ?_)) ez (add_str ?_)) n6 (add_str ?_))<;>simp only[bH,bL,List.length_singleton]
 ·exact aa (aQ hE _) b9
 ·exact aa (ay (aQ hE _) h4) b9
 ·exact aa (ay (ay (aQ hE _) h4) hE) b9
theorem Xl(h7:v 7=some (.dat (sD w)))(hw:∀c∈w,c < 200)(hl:w.length≤10):GK.1 ⟨v.loc,hp⟩=some (.next,⟨(v.u 8 (some (.dat (sD (gR w))))).loc,hp⟩):=by
 have n7:ej (aj 7) ⟨v.loc,hp⟩=some ((.rem (chars w),w.length+1),hp):=by
  unfold ej
  rw[aV rfl h7]
  show some ((IS.rem (chars w),(chars w).length+1),hp)=_
  unfold chars
  rw[bI]
 have e:=comp_map (λc:Nat=>sD [c]) (λloc=>∃a,loc=v.loc.set 39 a) (S:=ej (aj 7)) (T:=cr 39) (tests:=λσ=>some (true,σ.hp)) (F:=aB (aZ .Add (sC [92]) (aj 39))) (t:=λ_=>true) (r:=λc=>sD [92,c]) (hp:=hp) (l:=w) (loc:=v.loc) (ts:=[39]) (n:=w.length+1)
  n7 (am _) (λc hm loc ⟨a,eQ⟩=>by
   subst eQ
   exact⟨_,⟨some (.dat (sD [c])),rfl⟩,by show some ((v.loc.set 39 a).set 39 _)=_;rw[List.set_set],rfl,λ_=>bS (op:=.Add) rfl (aV rfl rfl) (add_str (x:=[92]) (y:=[c]) (av rfl))⟩) ⟨none,rfl⟩ (aa hl b9)
 replace e:=(List.filter_eq_self.mpr (λ_ _=>rfl))▸e
 have hj:nQ ⟨⟨[]⟩⟩ (w.map λc=>sD [92,c])=some (sD (gR w)):=by
  have h1:(w.map λc=>sD [92,c])=ce (w.map λc=>[92,c]):=by unfold ce;rw[List.map_map];rfl
  have hq:∀x∈w.map λc=>[92,c],x.length≤2∧∀c∈x,c < 0x110000:=λx hx=>(bo hx).elim λc q=>by
   refine q.2▸?_
   refine⟨am 2,λy hy=>?_⟩
   rcases aI hy with hy|hy
   ·rw[hy];decide
   ·rw[ak hy];exact a9 (hw c q.1) b9
  rw[h1,join_eq (by
   refine Nat.le_trans (Af (M:=2) (k:=0) _ λx hx=>(hq x hx).1) ?_
   rw[bI]
   exact aa (ba 2 hl) b9) (λ_ h=>bT h) (λx hx=>(hq x hx).2),uu]
  rfl
 exact dR (vF (m:=.join) (F1:=sC []) (x:=sD []) rfl rfl e hj)
theorem Wf(h1:v 1=some (.dat (.list (aY ns))))(h5:v 5=some (.dat (.int (k:Nat))))(h4:v 4=some (.dat (sD l)))(h7:v 7=some (.dat (sD w)))(h8:v 8=some (.dat (sD (gR w))))(hn:ns[k]?=some n)(hk:k < 3)(hl:l.length≤1000)(hw:w.length≤10) :
  F4.1 ⟨v.loc,hp⟩=some (.next,⟨(v.u 4 (some (.dat (sD (l++iD (n / 432 % 3) w))))).loc,hp⟩):=by
 have hb:=F8 w
 have e2:∀a,a < 3->([sD ([34]++w++[34]),sD (gR w),sD ([34]++gR w++[34])]:List PyData)[a]?=some (sD (iD a w)):=λa ha=>by
  exact mU a ha rfl rfl rfl
 have hm:=bD (n / 432) (show 0 < 3 by decide)
 have n7:aj 7 ⟨v.loc,hp⟩=some (.dat (sD w),hp):=aV rfl h7
 have n8:aj 8 ⟨v.loc,hp⟩=some (.dat (sD (gR w)),hp):=aV rfl h8
 have qd:∀{F:EF} {x:List Nat},F ⟨v.loc,hp⟩=some (.dat (sD x),hp)->x.length≤100->aB (aZ .Add (aB (aZ .Add (sC [34]) F)) (sC [34])) ⟨v.loc,hp⟩=some (.dat (sD ([34]++x++[34])),hp):=λ{F x} hF hx =>
  bS (op:=.Add) (bS (op:=.Add) (show sC [34] _=some (PV.dat (sD [34]),_)from rfl) hF (add_str (aa (aQ hx 1) b9))) (show sC [34] _=some (PV.dat (sD [34]),_)from rfl) (add_str (by simp only[bH,List.length_singleton];exact aa (az (aQ hx 1) 1) b9))
 have l3:=GP (ds:=[sD ([34]++w++[34]),sD (gR w),sD ([34]++gR w++[34])]) (jK (qd n7 (by (exact aa (by assumption) b9))) (jK n8 (jK (qd n8 (aa (aU hb) (aa (bc 2 hw) b9))) (show bA ⟨v.loc,hp⟩=some ([],hp)from rfl)))) rfl (av rfl)
 exact dR (bS (op:=.Add) (aV rfl h4) (jo l3 (vm (q:=432) (m:=3) (aV rfl h1) (aV rfl h5) hn (a9 hk b9) (by decide) (by decide) (by decide)) (n9 (e2 _ hm) (aa (aG hm) b9))) (add_str (aa (ay hl (xj hw)) b9)))
theorem P9(h1:v 1=some (.dat (.list (aY ns))))(h5:v 5=some (.dat (.int (k:Nat))))(h4:v 4=some (.dat (sD l)))(hn:ns[k]?=some n)(hk:k < 3)(hl:l.length≤1000) :
  yv.1 ⟨v.loc,hp⟩=some (.next,⟨(v.u 4 (some (.dat (sD (l++[lP (n / 1296 % 4)]))))).loc,hp⟩):=by
 have e2:∀b:Nat,b < 4->l7 (sD [10,9,13,32]) (.int (b:Int))=some (sD [lP b]):=λb hb=>by
  exact za b hb rfl rfl rfl rfl
 have hm:=bD (n / 1296) (show 0 < 4 by decide)
 exact dR (bS (op:=.Add) (aV rfl h4) (jo (F1:=sC [10,9,13,32]) rfl (vm (q:=1296) (m:=4) (aV rfl h1) (aV rfl h5) hn (a9 hk b9) (by decide) (by decide) (by decide)) (e2 _ hm)) (add_str (y:=[_]) (aa (az hl 1) b9)))
theorem Zc(h3:v 3=some (.obj i))(h7:v 7=some (.dat (sD w)))(hi:hp[i]?=some (.lst wl))(hl:wl.length≤lim):zO.1 ⟨v.loc,hp⟩=some (.next,⟨v.loc,hp.set i (.lst (wl++[sD w]))⟩):=by
 show pq (mT (aj 3) (aj 7)) _=_
 exact pA (append_eq (aV rfl h3) hi hl (aV rfl h7))
noncomputable def fO(ns:List Nat)(k:Nat):List Nat:=kO k (((mO ns)[k]?).getD 0) (cC ns k / 12 % 3)
noncomputable def mH(ns:List Nat)(k:Nat):List (List Nat):=(List.range k).map (fO ns)
noncomputable def m8(ns:List Nat):Nat->List Nat
|0=>[]
|j+1=>m8 ns j++iD (cC ns j / 432 % 3) (fO ns j)++[lP (cC ns j / 1296 % 4)]
theorem yU(ns)(hk:k < 3):∃z,(mO ns)[k]?=some z∧z < 4:=by
 exact mU k hk (⟨_,rfl,bD _ (by decide)⟩) (⟨_,rfl,a9 (bD _ (by decide)) b9⟩) (⟨_,rfl,a9 (bD _ (by decide)) b9⟩)
theorem AP(ns)(hk:k < 3):(fO ns k).length≤10:=by
 obtain⟨z,hz,h4⟩:=yU ns hk
 unfold fO
 refine hz.symm▸?_
 exact MN h4
theorem Fm(ns):∀k,k≤3->(m8 ns k).length≤23*k
|0,_=>am _
|k+1,h=>by
  have h1:=Fm ns k (bR h)
  have h2:=xj (a:=cC ns k / 432 % 3) (AP ns h)
  show(m8 ns k++iD (cC ns k / 432 % 3) (fO ns k)++[lP (cC ns k / 1296 % 4)]).length≤_
  simp only[bH,List.length_singleton]
  exact az (ay h1 h2) 1
noncomputable def B3:XF:=aH Cw.1 (aH A3.1 (aH GK.1 (aH F4.1 (aH yv.1 (aH zO.1 bh)))))
theorem s3(h1:v 1=some (.dat (.list (aY ns))))(h2:v 2=some (.dat (.list (aY (mO ns)))))(h3:v 3=some (.obj 1))(h4:v 4=some (.dat (sD [])))(hl:ns.length=3) :
  ∃σ,GB.1 ⟨v.loc,[.tab P f,.lst []]⟩=some (.next,σ)∧Lp [5,6,7,8,4] 4 (some (.dat (sD (m8 ns 3)))) v [.tab P f,.lst (ce (mH ns 3))] σ :=
 (vL (B:=B3) (t:=5) (l:=[5,6,7,8,4]) (H:=λk=>[.tab P f,.lst (ce (mH ns k))]) (x:=λk=>some (.dat (sD (m8 ns k)))) (λk=>.int (k:Nat)) (iz 3 0 1) (λ_ _=>B0) rfl (λ_ _=>rfl) (λ_ _=>rfl) h4 λk hk w K p q=>by
  have hn:=xi hl hk
  have hwl:=AP ns hk
  have vQ:=Fm ns k (aG hk)
  have a1:=(K 1 rfl).trans h1
  let H:List MO:=[.tab P f,.lst (ce (mH ns k))]
  let v2:Vs:=w.u 6 (some (.dat (sD (eS (cC ns k / 12 % 3)))))
  let v3:Vs:=v2.u 7 (some (.dat (sD (fO ns k))))
  let v4:Vs:=v3.u 8 (some (.dat (sD (gR (fO ns k)))))
  let v5:Vs:=v4.u 4 (some (.dat (sD (m8 ns k++iD (cC ns k / 432 % 3) (fO ns k)))))
  let v6:Vs:=v5.u 4 (some (.dat (sD (m8 ns (k+1)))))
  obtain⟨z,hz,gN⟩:=yU ns hk
  have hW:fO ns k=kO k z (cC ns k / 12 % 3):=by unfold fO;rw[hz];rfl
  have e1:A3.1 ⟨v2.loc,H⟩=some (.next,⟨v3.loc,H⟩):=(T6 (v:=v2) ((K 2 rfl).trans h2) q rfl hz hk gN).trans (hW▸rfl)
  have e4:yv.1 ⟨v5.loc,H⟩=some (.next,⟨v6.loc,H⟩):=P9 (v:=v5) a1 q rfl hn hk (by rw[bH];exact aa (ay (aa vQ (bc 23 (aG hk))) (xj hwl)) b9)
  have e5:zO.1 ⟨v6.loc,H⟩=some (.next,⟨v6.loc,[.tab P f,.lst (ce (mH ns (k+1)))]⟩):=(Zc (v:=v6) (i:=1) (wl:=ce (mH ns k)) ((K 3 rfl).trans h3) rfl rfl (by unfold ce mH;rw[bI,bI,List.length_range];exact aa (aG hk) b9)).trans (by
   have:ce (mH ns (k+1))=ce (mH ns k)++[sD (fO ns k)]:=by
    unfold mH
    rw[List.range_succ,List.map_append,List.map_singleton,Cx]
   rw[this];rfl)
  exact⟨_,(bm (QJ a1 q hn hk)).trans <| (bm e1).trans <| (bm (Xl (v:=v3) rfl (hW▸LX hk) hwl)).trans <| (bm (Wf (v:=v4) a1 q p rfl rfl hn hk (aa vQ (aa (bc 23 (aG hk)) b9)) hwl)).trans <| (bm e4).trans <| (bm e5).trans rfl,.mk v6 (((((K.u rfl).u rfl).u rfl).u rfl).u rfl) rfl⟩).imp λ_ q=>⟨(show fu (fE (aM (iC 3) bA)) (λis n=>cx stepI (cr 5) B3 n is) _=_ from pW (sr (N:=3) (by decide) rfl) q.1),q.2⟩
noncomputable def nM(ns:List Nat):List Nat:=m8 ns 2++iD (cC ns 2 / 432 % 3) (fO ns 2)
theorem s4(h4:v 4=some (.dat (sD (m8 ns 3)))):AM.1 ⟨v.loc,hp⟩=some (.next,⟨(v.u 4 (some (.dat (sD (nM ns))))).loc,hp⟩):=by
 have hl:=Fm ns 3 (am 3)
 have e1:lr none (some (-1)) none (sD (m8 ns 3))=some (sD (nM ns)):=by
  rw[Ea (Nat.le_trans hl b9)]
  show some (sD (sl none (some (-1)) (m8 ns 2++iD (cC ns 2 / 432 % 3) (fO ns 2)++[lP (cC ns 2 / 1296 % 4)])))=_
  rw[WE]
  rfl
 exact dR (vt (lo:=gm) (hi:=ik (iC (-1))) (st:=gm) (aV rfl h4) rfl rfl rfl e1)
end
theorem zw(c)(w):gR (c::w)=92::c::gR w:=rfl
theorem OG:∃d r',w++a::r=d::r':=by
 cases w with
|nil=>exact⟨a,r,rfl⟩
|cons d w=>exact⟨d,w++a::r,rfl⟩
theorem Gr:∀(w tok:List Nat),(∀c∈w,c≠34∧c≠92)->mf (w++34::r) tok=(tok++w,some r)
|[],tok,_=>by
  rw[bM]
  cases r with
 |nil=>rfl
 |cons d r=>rfl
|c::w,tok,h=>by
  have hc:=h c (aq ..)
  have ih:=Gr (r:=r) w (tok++[c]) λx hx=>h x (al _ hx)
  obtain⟨d,r',e⟩:=OG (w:=w) (a:=34) (r:=r)
  rw[List.cons_append,e,mf,if_neg hc.1,if_neg hc.2,← e,ih,bJ]
  rfl
theorem CG:∀(w tok:List Nat),mf (gR w++34::r) tok=(tok++w,some r)
|[],tok=>by
  rw[bM]
  cases r with
 |nil=>rfl
 |cons d r=>rfl
|c::w,tok=>by
  have ih:=CG (r:=r) w (tok++[c])
  rw[zw]
  show mf (92::c::(gR w++34::r)) tok=_
  rw[mf,if_neg (by decide),if_pos rfl,ih,bJ]
  rfl
theorem JP(hb:isWs b=true):∀(w tok:List Nat),kv (gR w++b::r) tok=(tok++w,some r)
|[],tok=>by
  rw[bM]
  cases r with
 |nil=>exact if_pos hb
 |cons d r=>exact if_pos hb
|c::w,tok=>by
  have ih:=JP (r:=r) hb w (tok++[c])
  rw[zw]
  show kv (92::c::(gR w++b::r)) tok=_
  rw[kv,if_neg (by decide),if_pos rfl,ih,bJ]
  rfl
theorem Ki:∀(w tok:List Nat),kv (gR w) tok=(tok++w,none)
|[],tok=>by rw[bM];rfl
|c::w,tok=>by
  have ih:=Ki w (tok++[c])
  rw[zw,kv,if_neg (by decide),if_pos rfl,ih,bJ]
  rfl
structure yf(w:List Nat):Prop where
 ne:w≠[]
 c:∀c∈w,c≠34∧c≠92
theorem yZ{x y:List Nat}{a:Nat}{r:List Nat}:ft ([34]++x++[34]++r)=mf (x++34::r) []:=by
 obtain⟨d,r',e⟩:=OG (w:=x) (a:=34) (r:=r)
 have:[34]++x++[34]++r=34::(x++34::r):=by simp
 rw[this,e,ft,if_neg (by decide),if_pos rfl]
theorem Md{c:Nat}{w r:List Nat}:ft (gR (c::w)++r)=kv (gR w++r) [c]:=by
 rw[zw]
 show ft (92::c::(gR w++r))=_
 rw[ft,if_neg (by decide),if_neg (by decide),if_pos rfl]
theorem ZF{a b:Nat}{w r:List Nat}(hw:yf w)(hb:isWs b=true):ft (iD a w++b::r)=(w,some (if a=1 then r else b::r)):=by
 unfold iD
 by_cases h0:a=0
 ·rw[if_pos h0,yZ (y:=[]) (a:=0),Gr _ _ hw.c,if_neg λe=>absurd (h0.symm.trans e) (by decide)]
  rfl
 ·rw[if_neg h0]
  by_cases h1:a=1
  ·rw[if_pos h1,if_pos h1]
   cases w with
  |nil=>exact absurd rfl hw.ne
  |cons c w=>rw[Md,JP hb];rfl
  ·rw[if_neg h1,if_neg h1,yZ (y:=[]) (a:=0),CG]
   rfl
theorem Zo{a:Nat}{w:List Nat}(hw:yf w):(ft (iD a w)).1=w∧(ft (iD a w)).2.getD []=[]:=by
 unfold iD
 by_cases h0:a=0
 ·refine(if_pos h0).symm▸(bM ([34]++w++[34]))▸(yZ (y:=[]) (a:=0)).symm▸(Gr _ _ hw.c).symm▸?_
  exact⟨rfl,rfl⟩
 ·refine(if_neg h0).symm▸?_
  by_cases h1:a=1
  ·refine(if_pos h1).symm▸?_
   cases w with
  |nil=>exact absurd rfl hw.ne
  |cons c w =>
    rw[← bM (gR (c::w)),Md,bM,Ki]
    exact⟨rfl,rfl⟩
  ·rw[if_neg h1,← bM ([34]++gR w++[34]),yZ (y:=[]) (a:=0),CG]
   exact⟨rfl,rfl⟩
theorem D4(h:c∈eS e):c=10∨c=13:=by
 unfold eS at h
 by_cases h0:e=0
 ·rw[if_pos h0]at h;exact .inl (ak h)
 ·rw[if_neg h0]at h
  by_cases h1:e=1
  ·rw[if_pos h1]at h;exact .inr (ak h)
  ·rw[if_neg h1]at h
   rcases aI h with h|h
   ·exact .inr h
   ·exact .inl (ak h)
theorem Zf(h:c∈kO k z e):c=97+k∨c=46∨c=10∨c=13:=by
 unfold kO at h
 rcases ae h with h|h
 ·rcases ae h with h|h
  ·rcases ae h with h|h
   ·rcases ae h with h|h
    ·exact .inl (ak h)
    ·exact .inr (.inl (ak h))
   ·exact .inr (.inr (D4 h))
  ·exact .inr (.inl (b4 h).2)
 ·exact .inr (.inr (D4 h))
theorem SL(k z e):yf (kO k z e):=⟨(λh=>tP (show(97+k)::_=([]:List Nat)from h)),λc hc=>by
 rcases Zf hc with h|h|h|h<;>rw[h]
 ·exact⟨bB (bu b9 (ax 97 k)),bB (bu b9 (ax 97 k))⟩
 all_goals decide⟩
theorem E2(ns)(k):yf (fO ns k):=SL ..
noncomputable def gO(ns:List Nat):Nat->Nat->List Nat
|0,k=>iD (cC ns k / 432 % 3) (fO ns k)
|j+1,k=>iD (cC ns k / 432 % 3) (fO ns k)++lP (cC ns k / 1296 % 4)::gO ns j (k+1)
theorem Od(ns):nM ns=gO ns 2 0:=by simp[nM,m8,gO]
theorem Ga(b)(h:b < 4):isWs (lP b)=true:=by
 exact za b h rfl rfl rfl rfl
theorem VV(hw:yf w):iD a w≠[]:=by
 unfold iD
 by_cases h0:a=0
 ·rw[if_pos h0];exact λh=>tP (show 34::_=([]:List Nat)from h)
 ·refine(if_neg h0).symm▸?_
  by_cases h1:a=1
  ·refine(if_pos h1).symm▸?_
   cases w with
  |nil=>exact absurd rfl hw.ne
  |cons c w=>exact λh=>tP (show 92::_=([]:List Nat)from h)
  ·rw[if_neg h1];exact λh=>tP (show 34::_=([]:List Nat)from h)
theorem U0(ns)(j k):gO ns j k≠[]:=by
 have:=VV (a:=cC ns k / 432 % 3) (E2 ns k)
 cases j with
|zero=>exact this
|succ j=>exact λh=>this (List.append_eq_nil_iff.mp (show iD (cC ns k / 432 % 3) (fO ns k)++_=[]from h)).1
theorem FR(ns):∀j k,j+k≤2->(gO ns j k).length≤23*j+22
|0,k,h=>xj (AP ns (bQ (aa (Nat.le_add_left k 0) h)))
|j+1,k,h=>by
  have t:=xj (a:=cC ns k / 432 % 3) (AP ns (k:=k) (bQ (aa (Nat.le_add_left k (j+1)) h)))
  have:=FR ns j (k+1) (aa (aU (bg j 1 k).symm) h)
  show(iD (cC ns k / 432 % 3) (fO ns k)++lP (cC ns k / 1296 % 4)::gO ns j (k+1)).length≤_
  rw[bH,List.length_cons]
  exact aa (aU (Nat.add_comm _ _)) (ay (aS this) t)
noncomputable def Pd(ns:List Nat):Nat->Nat->List PyData
|0,k=>[sD (fO ns k),sD []]
|j+1,k=>sD (fO ns k)::Pd ns j (k+1)
theorem IG(ns)(j k):ft (gO ns (j+1) k)=(fO ns k,some (if cC ns k / 432 % 3=1 then gO ns j (k+1)else lP (cC ns k / 1296 % 4)::gO ns j (k+1))) :=
 ZF (E2 ns k) (Ga _ (bD _ (by decide)))
theorem JB(ns)(j k)(p:Prop)[Decidable p](hb:isWs b=true):ft (if p then gO ns j k else b::gO ns j k)=ft (gO ns j k):=by
 by_cases h:p
 ·rw[if_pos h]
 ·rw[if_neg h];exact Yr hb (U0 ns j k)
theorem L8(ns)(j k)(p:Prop)[Decidable p](h:j+k≤2):(if p then gO ns j k else b::gO ns j k).length≤200:=by
 have t:(gO ns j k).length≤68:=aa (FR ns j k h) (az (bc 23 (aa (ax j k) h)) 22)
 by_cases h:p
 ·rw[if_pos h];exact aa t b9
 ·rw[if_neg h,List.length_cons];exact aa (aS t) b9
theorem HL:∀(j k:Nat) (s:List Nat) (f:Bool) (n:Int),j+k=2->ft s=ft (gO ns j k)->s.length≤200 ->
  ∃f' n',mY (Pd ns j k) (hN P fl wl s f n []) (hN P fl wl [] f' n' [])∧n'=n+(s.count 10:Nat)
|0,k,s,f,n,hk,hs,hl=>by
  refine cps λ_ KK=>?_
  obtain⟨f1,n1,e1,q1⟩:=z7 (P:=P) (fl:=fl) (wl:=wl) (s:=s) (f:=f) (n:=n) (ah (az hl 2) b9)
  have hg:ft s=ft (iD (cC ns k / 432 % 3) (fO ns k)):=hs
  have ge:=Zo (a:=cC ns k / 432 % 3) (E2 ns k)
  replace e1:=ge.2▸ge.1▸hg▸e1
  replace q1:=ge.2▸hg▸q1
  obtain⟨f2,n2,e2,q2⟩:=z7 (P:=P) (fl:=fl) (wl:=wl) (s:=[]) (f:=f1) (n:=n1) (by decide)
  refine KK ?_
  refine⟨f2,n2,⟨_,e1,vx,_,e2,vx,rfl⟩,?_⟩
  have z1:(([]:List Nat).count 10:Nat)=0:=rfl
  have z2:((ft []).2.getD []).count 10=0:=rfl
  replace q2:=z1▸z2▸q2
  replace q1:=z1▸q1
  exact(Int.add_zero n2).symm.trans (q2.trans q1)
|j+1,k,s,f,n,hk,hs,hl=>by
  refine cps λ_ KK=>?_
  obtain⟨f1,n1,e1,q1⟩:=z7 (P:=P) (fl:=fl) (wl:=wl) (s:=s) (f:=f) (n:=n) (ah (az hl 2) b9)
  have hg:=hs.trans (IG ns j k)
  rw[hg]at e1 q1
  obtain⟨f2,n2,G,q2⟩:=HL (ns:=ns) (P:=P) (fl:=fl) (wl:=wl) j (k+1) (if cC ns k / 432 % 3=1 then gO ns j (k+1)else lP (cC ns k / 1296 % 4)::gO ns j (k+1)) f1 n1 ((bg j 1 k).symm.trans hk) (JB ns j (k+1) _ (Ga _ (bD _ (by decide)))) (L8 ns j (k+1) _ (aU ((bg j 1 k).symm.trans hk)))
  refine KK ?_
  refine⟨f2,n2,⟨_,e1,vx,G⟩,?_⟩
  dsimp only[Option.getD]at q1
  exact q2.trans q1
section
variable {v:Vs}{P:Addr}{fl f:Bool}{wl pb Jk:List PyData}{s l:List Nat}{n:Int}{hp ai hp1 bU:List MO}{d:PyData}{ns:List Nat}{loc L:Loc}{F1 F2:EF}
theorem Iq(h:d2 loc 9=some (.obj 3))(hF:F ⟨loc,hN P fl wl s f n Jk⟩=some (.dat d,hN P fl wl s f n pb))(hl:pb.length≤lim):ub F ⟨loc,hN P fl wl s f n Jk⟩=some (.dat .none,hN P fl wl s f n (pb++[d])):=by
 unfold ub lS aN aj
 refine h.symm▸?_
 dsimp only
 refine(if_pos Ic).symm▸?_
 unfold aM aN
 refine hF.symm▸?_
 exact Kb hl
theorem Ad(h:d2 loc 9=some (.obj 3))(hl:pb.length < lim):getM ⟨loc,hN P fl wl s f n (d::pb)⟩=some (.dat d,hN P fl wl s f n pb):=(FD h vx).trans (I4 hl)
theorem s5(h4:v 4=some (.dat (sD l)))(hl:l.length≤lim):Aa.1 ⟨v.loc,[.tab 186 true,.lst wl]⟩=some (.next,⟨(v.u 9 (some (.obj 3))).loc,hN 186 false wl l false 1 []⟩) :=
 dR (xq (aV rfl h4) (Vf hl))
theorem s6(h:v 9=some (.obj 3))(h2:gz 163 "get_token" 3 hp=true)(e:qE [.obj 3] hp=some (.dat d,ai)):Bg.1 ⟨v.loc,hp⟩=some (.next,⟨(v.u 10 (some (.dat d))).loc,ai⟩):=by
 show bN getM (dg 10) _=_
 unfold bN
 rw[FD (ef rfl h) h2,e]
 rfl
theorem s7(h:v 9=some (.obj 3))(h2:v 10=some (.dat d))(hl:pb.length≤lim):yF.1 ⟨v.loc,hN P fl wl s f n pb⟩=some (.next,⟨v.loc,hN P fl wl s f n (pb++[d])⟩):=by
 show pq (ub (aj 10)) _=_
 exact pA (Na (d:=d) (ef rfl h) (aV rfl h2) hl)
theorem s8(h:v 9=some (.obj 3))(h2:v 10=some (.dat d))(hl:pb.length≤lim):A6.1 ⟨v.loc,hN P fl wl s f n pb⟩=some (.next,⟨v.loc,hN P fl wl s f n (pb++[d])⟩):=s7 h h2 hl
theorem Yu{op:Operator}{p1 p2:PV}{a b d:PyData}(h1:F1 ⟨L,hp1⟩=some (p1,bU))(h2:F2 ⟨L,bU⟩=some (p2,bU))(r1:rd bU p1=some a)(r2:rd bU p2=some b)(h3:lO op a b=some d):aB (aZ op F1 F2) ⟨L,hp1⟩=some (.dat d,bU):=by
 unfold aB aZ aN
 rw[h1]
 dsimp only
 rw[h2]
 unfold ev
 dsimp only
 rw[r1,r2]
 dsimp only
 exact h3.symm▸rfl
theorem P6{F:EF}{a d:PyData}{p:PV}{lo hi st:PF}{l u k:Option Int}(h1:F ⟨L,hp⟩=some (p,hp))(hr:rd hp p=some a)(h2:lo ⟨L,hp⟩=some (l,hp))(h3:hi ⟨L,hp⟩=some (u,hp))(h4:st ⟨L,hp⟩=some (k,hp))(h5:lr l u k a=some d):aB (lY F lo hi st) ⟨L,hp⟩=some (.dat d,hp):=by
 unfold aB lY aN
 refine h1.symm▸?_
 skip
 unfold o5
 dsimp only
 refine h2.symm▸?_
 dsimp only
 refine h3.symm▸?_
 dsimp only
 refine h4.symm▸?_
 skip
 unfold um
 dsimp only
 refine hr.symm▸?_
 dsimp only
 exact h5.symm▸rfl
theorem Me(l):fq .NotEq (.list (ce l)) (.list (ce l))=some false:=by
 have gy:(ce l).all (gV 2)=true:=by
  unfold ce
  rw[List.all_map]
  exact List.all_eq_true.mpr λ_ _=>rfl
 have heq:∀l:List (List Nat),mt (ce l) (ce l)=true:=λl=>by
  induction l with
 |nil=>rfl
 |cons x l ih =>
   show((x==x)&&mt (ce l) (ce l))=true
   rw[ih,beq_self_eq_true];rfl
 show(if((ce l).all (gV 2)||gV 3 (.list (ce l)))=true then some (!(mt (ce l) (ce l)))else none)=_
 rw[gy,if_pos (by rfl),heq]
 rfl
theorem s9(h:v 9=some (.obj 3))(h3:v 3=some (.obj 1))(h4:v 4=some (.dat (sD t)))(hwl:wl=ce [w0,w1,w2])(hg:mY (ce [w0,w0,w1,w2,[]]) hp (hN P fl wl s f n pb))(hn:n=1+(t.count 10:Nat)) :
  Ay.1 ⟨v.loc,hp⟩=some (.next,⟨v.loc,hN P fl wl s f n pb⟩):=by
 let H:=hN P fl wl s f n pb
 have r1:rd H (.obj 1)=some (.list (ce [w0,w1,w2])):=Dx (by rw[← hwl];rfl)
 have e1:ix (fE (aM (iC 5) bA)) stepI (cr 40) (λσ=>some (true,σ.hp)) (gM getM) [40] ⟨v.loc,hp⟩=some (.dat (.list (ce [w0,w0,w1,w2,[]])),H) :=
  QB (N:=5) (λa=>ef rfl h) rfl (sr (N:=5) (by decide) rfl) (av rfl) hg
 have n3:aj 3 ⟨v.loc,H⟩=some (.obj 1,H):=aV rfl h3
 have e2:aB (lY (aj 3) gm (ik (iC 1)) gm) ⟨v.loc,H⟩=some (.dat (.list (ce [w0])),H):=P6 n3 r1 rfl rfl rfl rfl
 have e3:aB (aZ .Add (aB (aZ .Add (aB (lY (aj 3) gm (ik (iC 1)) gm)) (aj 3))) (aB (gZ (aM (sC []) bA)))) ⟨v.loc,H⟩=some (.dat (.list (ce [w0,w0,w1,w2,[]])),H) :=
  bS (op:=.Add) (Yu (op:=.Add) (p2:=.obj 1) e2 n3 rfl r1 (add_list (x:=ce [w0]) (y:=ce [w0,w1,w2]) (av rfl))) (show _=some (PV.dat (.list (ce [[]])),H)from rfl) (add_list (x:=ce [w0,w0,w1,w2]) (y:=ce [[]]) (av rfl))
 have c1:cb .NotEq (ix (fE (aM (iC 5) bA)) stepI (cr 40) (λσ=>some (true,σ.hp)) (gM getM) [40]) (aB (aZ .Add (aB (aZ .Add (aB (lY (aj 3) gm (ik (iC 1)) gm)) (aj 3))) (aB (gZ (aM (sC []) bA))))) ⟨v.loc,hp⟩=some (false,H) :=
  gK e1 e3 rfl rfl (Me _)
 have e5:dS 163 1 (.obj 3) ⟨v.loc,H⟩=some (.dat (.int n),H):=by cases f<;>rfl
 have e6:Txt.count ⟨⟨t⟩⟩ ⟨⟨[10]⟩⟩=(t.count 10:Nat):=by
  rw[show(⟨⟨[10]⟩⟩:Str)=⟨#[10]⟩from rfl,count_cnt,I3]
 have a1:aN (aj 9) (dS 163 1) ⟨v.loc,H⟩=some (.dat (.int n),H):=by
  unfold aN
  rw[aV rfl h]
  exact e5
 have c2:cb .NotEq (aN (aj 9) (dS 163 1)) (aB (aZ .Add (iC 1) (aB (Mine.jx .count (aj 4) (sC [10]))))) ⟨v.loc,H⟩=some (false,H) :=
  gK a1 (bS (op:=.Add) rfl (vF (m:=.count) (aV rfl h4) rfl rfl (congrArg (λk=>some (PyData.int k)) e6)) (by rw[hn];rfl)) rfl rfl (ne_int n)
 show cZ (bindB (cb .NotEq (ix (fE (aM (iC 5) bA)) stepI (cr 40) (λσ=>some (true,σ.hp)) (gM getM) [40]) (aB (aZ .Add (aB (aZ .Add (aB (lY (aj 3) gm (ik (iC 1)) gm)) (aj 3))) (aB (gZ (aM (sC []) bA)))))) λb=>if b then ia true else bindB (cb .NotEq (aN (aj 9) (dS 163 1)) (aB (aZ .Add (iC 1) (aB (Mine.jx .count (aj 4) (sC [10])))))) λb=>if b then ia true else ia false) _ bh _=_
 unfold cZ bindB
 refine c1.symm▸?_
 dsimp only
 refine(if_neg aw).symm▸c2.symm▸?_
 rfl
theorem TF(h:v 9=some (.obj 3))(h3:v 3=some (.obj 1))(hl:wl.length≤100):∃σ,Ee.1 ⟨v.loc,hN P fl wl s f n []⟩=some (.next,σ)∧Lp [7] 9 (some (.obj 3)) v (hN P fl wl s f n wl) σ:=by
 obtain⟨σ',e,hI⟩:=CB (T:=cr 7) (B:=aH yM.1 bh) (i:=1) (l:=wl) (λj σ=>Lp [7] 9 (some (.obj 3)) v (hN P fl wl s f n (wl.take j)) σ) (λj σ q=>by cases q;rfl) (λj d σ hd q=>by
  cases q with|mk w K p =>
  have e0:yM.1 ⟨(w.u 7 (some (.dat d))).loc,hN P fl wl s f n (wl.take j)⟩=some (.next,⟨(w.u 7 (some (.dat d))).loc,hN P fl wl s f n (wl.take (j+1))⟩):=by
   rw[List.take_add_one,hd]
   exact pA (Na (d:=d) (ef rfl p) (aV rfl rfl) (aa (List.length_take_le' ..) (aa hl b9)))
  exact⟨_,_,rfl,(bm e0).trans rfl,.mk _ (K.u rfl) p⟩) wl.length 0 (wl.length+1) ⟨v.loc,hN P fl wl s f n []⟩ (Nat.zero_add _) (a7 _) (.mk v .rf h)
 rw[List.take_length]at hI
 exact⟨σ',(show fu (ej (aj 3)) (λis n=>cx stepI (cr 7) (aH yM.1 bh) n is) _=_ from pW (Ax (aV rfl h3) rfl) e),hI⟩
theorem X4(h1:v 1=some (.dat (.list (aY ns))))(hl:ns.length=3):A4.1 ⟨v.loc,hp⟩=some (.next,⟨(v.u 11 (some (.dat (.int (cC ns 0 / 36 % 3:Nat))))).loc,hp⟩) :=
 dR (vm (G:=iC 0) (k:=0) (q:=36) (m:=3) (aV rfl h1) rfl (xi hl (by decide)) (by decide) (by decide) (by decide) (by decide))
theorem Wa(h:wl[j]?=some x):∃r,wl.drop j++wl.take j=x::r∧r++[x]=wl.drop (j+1)++wl.take (j+1):=by
 have h1:=List.drop_eq_getElem_cons (List.getElem?_eq_some_iff.mp h).1
 refine⟨wl.drop (j+1)++wl.take j,?_,?_⟩
 ·rw[h1,(List.getElem?_eq_some_iff.mp h).2];rfl
 ·rw[bJ,List.take_add_one,h];rfl
theorem VO(h:v 9=some (.obj 3))(nq:v 11=some (.dat (.int (t:Nat))))(ht:t≤wl.length)(hl:wl.length≤100):∃σ,F5.1 ⟨v.loc,hN P fl wl s f n wl⟩=some (.next,σ)∧Lp [5] 9 (some (.obj 3)) v (hN P fl wl s f n (wl.drop t++wl.take t)) σ:=by
 have q:=vL (B:=aH A7.1 bh) (t:=5) (l:=[5]) (H:=λj=>hN P fl wl s f n (wl.drop j++wl.take j)) (x:=λ_=>some (.obj 3)) (v:=v) (λk=>.int (k:Nat)) (iz t 0 1) (λ_ _=>B0) rfl (λ_ _=>rfl) (λ_ _=>rfl) h λj hj w K p _=>by
  have h1:=bu hj ht
  obtain⟨r,e1,e2⟩:=Wa (wl:=wl) (List.getElem?_eq_getElem h1)
  have hr:r.length≤100:=by
   have:=congrArg List.length e2
   rw[bH,bH,List.length_drop,List.length_take,List.length_singleton]at this
   exact aa (bx _) (aa (aU (this.trans (by rw[Nat.min_eq_left h1,Nat.sub_add_cancel h1]))) hl)
  have e0:A7.1 ⟨w.loc,hN P fl wl s f n (wl.drop j++wl.take j)⟩=some (.next,⟨w.loc,hN P fl wl s f n (wl.drop (j+1)++wl.take (j+1))⟩):=by
   show pq (ub getM) _=_
   rw[e1,← e2]
   exact pA (Iq (ef rfl p) (Ad (ef rfl p) (ah hr b9)) (aa hr b9))
  exact⟨_,(bm e0).trans rfl,.mk w K p⟩
 rw[List.drop_zero,List.take_zero,bM]at q
 exact q.imp λ_ q=>⟨(show fu (fE (aM (aj 11) bA)) (λis n=>cx stepI (cr 5) (aH A7.1 bh) n is) _=_ from pW (sr (N:=t) (aa ht (aa hl b9)) (aV rfl nq)) q.1),q.2⟩
end
noncomputable def d3:List Nat->List Nat->List (List Nat)
|[],run=>if run=[]then[]else[run]
|c::l,run=>if Unicode.isSpace c=true then(if run=[]then d3 l []else run::d3 l [])else d3 l (run++[c])
theorem Qz(run)(c):(⟨⟨run⟩⟩:Str)++(⟨#[c]⟩:Str)=⟨⟨run++[c]⟩⟩:=Str.ext' (by rw[Str.cps_append];exact Array.ext' (by simp))
theorem zv{run:List Nat}:(⟨⟨run⟩⟩:Str).length=0↔run=[]:=List.length_eq_zero_iff
theorem fin_fold:∀(l:List Nat) (ws:List Str) (run:List Nat),KWd.fin (l.foldl KWd.step (ws,⟨⟨run⟩⟩))=ws++(d3 l run).map λw=>⟨⟨w⟩⟩
|[],ws,run=>by
  show KWd.fin (ws,⟨⟨run⟩⟩)=_
  unfold KWd.fin d3
  by_cases h:run=[]
  ·rw[if_pos (zv.mpr h),if_pos h];exact(bM ws).symm
  ·rw[if_neg (λq=>h (zv.mp q)),if_neg h];rfl
|c::l,ws,run=>by
  rw[List.foldl_cons,d3]
  unfold KWd.step
  by_cases hc:Unicode.isSpace c=true
  ·rw[if_pos hc,if_pos hc]
   by_cases h:run=[]
   ·rw[if_pos (zv.mpr h),if_pos h,h]
    exact fin_fold l ws []
   ·rw[if_neg (λq=>h (zv.mp q)),if_neg h]
    refine(fin_fold l (ws++[⟨⟨run⟩⟩]) []).trans ?_
    rw[bJ]
    rfl
  ·rw[if_neg hc,if_neg hc]
   show KWd.fin (l.foldl KWd.step (ws,(⟨⟨run⟩⟩:Str)++⟨#[c]⟩))=_
   rw[Qz]
   exact fin_fold l ws (run++[c])
theorem OC(l):KWd.fin (KWd.scan ⟨⟨l⟩⟩)=(d3 l []).map λw=>⟨⟨w⟩⟩:=fin_fold l [] []
theorem x7:∀(l run:List Nat),(d3 l run).length≤l.length+1
|[],run=>by
  unfold d3
  by_cases h:run=[]
  ·rw[if_pos h];exact bZ _
  ·rw[if_neg h];exact am 1
|c::l,run=>by
  rw[d3]
  have h1:=x7 l []
  have h2:=x7 l (run++[c])
  by_cases hc:Unicode.isSpace c=true
  ·rw[if_pos hc]
   by_cases h:run=[]
   ·rw[if_pos h];exact Nat.le_succ_of_le h1
   ·rw[if_neg h];exact aS h1
  ·rw[if_neg hc];exact Nat.le_succ_of_le h2
theorem AU:∀(l run:List Nat) (P:Nat->Prop),(∀c∈l,P c)->(∀c∈run,P c)->∀w∈d3 l run,∀c∈w,P c
|[],run,P,_,hr,w,hw=>by
  unfold d3 at hw
  by_cases h:run=[]
  ·rw[if_pos h]at hw;exact bT hw
  ·rw[if_neg h]at hw;exact ak hw▸hr
|c::l,run,P,hl,hr,w,hw=>by
  rw[d3]at hw
  have eZ:∀c∈l,P c:=λx hx=>hl x (al _ hx)
  by_cases hc:Unicode.isSpace c=true
  ·rw[if_pos hc]at hw
   by_cases h:run=[]
   ·rw[if_pos h]at hw;exact AU l [] P eZ (λ_ h=>bT h) w hw
   ·rw[if_neg h]at hw
    rcases aI hw with hw|hw
    ·exact hw▸hr
    ·exact AU l [] P eZ (λ_ h=>bT h) w hw
  ·rw[if_neg hc]at hw
   exact AU l (run++[c]) P eZ (λx hx=>(ae hx).elim (hr x) λhx=>ak hx▸hl c (aq ..)) w hw
open Builtin Builtin.Str in
theorem HT(hl:l.length < lim)(hc:∀c∈l,c < 0x110000):AH (sD l)=some (.list (ce (d3 l []))):=by
 have e1:Txt.words ⟨⟨l⟩⟩=(d3 l []).map λw=>(⟨⟨w⟩⟩:Str):=(KWd.words_scan ⟨⟨l⟩⟩).trans (OC l)
 have e2:=(KWd.wordsOf_scan ⟨⟨l⟩⟩).trans (OC l)
 have hn:(spaceWords (⟨⟨l⟩⟩:Str) ((⟨⟨l⟩⟩:Str).length+1)).length≤lim:=by
  have:=congrArg List.length e2
  rw[bI,bI]at this
  rw[this]
  exact aa (x7 l []) hl
 have gy:((d3 l []).map λw=>(⟨⟨w⟩⟩:Str)).all PyData.strOk=true:=by
  rw[List.all_map]
  exact List.all_eq_true.mpr λw hw=>Mc λc hx=>AU l [] (· < 0x110000) hc (λ_ h=>bT h) w hw c hx
 show(if(⟨⟨l⟩⟩:Str).length≤lim∧(spaceWords (⟨⟨l⟩⟩:Str) ((⟨⟨l⟩⟩:Str).length+1)).length≤lim∧(Txt.words ⟨⟨l⟩⟩).all PyData.strOk=true then some (PyData.list ((Txt.words ⟨⟨l⟩⟩).map .str))else none)=_
 rw[e1,if_pos ⟨Nat.le_of_lt hl,hn,gy⟩,List.map_map]
 rfl
noncomputable def solid(w:List Nat):Prop:=∀c∈w,Unicode.isSpace c=false
theorem OH:∀(w r run:List Nat),solid w->d3 (w++r) run=d3 r (run++w)
|[],r,run,_=>by rw[bM];rfl
|c::w,r,run,h=>by
  rw[List.cons_append,d3,if_neg (by rw[h c (List.mem_cons_self ..)];exact aw),OH w r (run++[c]) λx hx=>h x (al _ hx),bJ]
  rfl
theorem Pw:∀(E r:List Nat),(∀c∈E,Unicode.isSpace c=true)->d3 (E++r) []=d3 r []
|[],_,_=>rfl
|c::E,r,h=>by
  rw[List.cons_append,d3,if_pos (h c (List.mem_cons_self ..)),if_pos rfl]
  exact Pw E r λx hx=>h x (al _ hx)
theorem CI(hw:solid w)(eU:w≠[])(hE:∀c∈E,Unicode.isSpace c=true)(Se:E≠[]):d3 (w++E++r) []=w::d3 r []:=by
 rw[bJ,OH w _ [] hw]
 cases E with
|nil=>exact absurd rfl Se
|cons c E =>
  rw[List.cons_append,d3,if_pos (hE c (List.mem_cons_self ..)),if_neg (by exact eU)]
  exact congrArg (w::·) (Pw E r λx hx=>hE x (al _ hx))
theorem Hd:Unicode.isSpace 10=true:=by decide +kernel
theorem FP:Unicode.isSpace 13=true:=by decide +kernel
theorem D1:Unicode.isSpace 46=false:=by decide +kernel
theorem Ok(h:k < 3):Unicode.isSpace (97+k)=false:=by
 exact mU k h (by decide +kernel) (by decide +kernel) (by decide +kernel)
theorem LJ(e):∀c∈eS e,Unicode.isSpace c=true:=λc hc=>by
 rcases D4 hc with h|h
 ·rw[h];exact Hd
 ·rw[h];exact FP
theorem OM(e):eS e≠[]:=by
 unfold eS
 by_cases h:e=0
 ·rw[if_pos h];exact b8 _ _
 ·rw[if_neg h]
  by_cases h:e=1
  ·rw[if_pos h];exact b8 _ _
  ·rw[if_neg h];exact b8 _ _
noncomputable abbrev dD(n:Nat):List Nat:=List.replicate n 46
theorem E5(n):solid (dD n):=λc hc=>by rw[(b4 hc).2];exact D1
theorem WG(hk:k < 3):d3 (kO k z e) []=[[97+k,46],dD (z+1)]:=by
 have e1:kO k z e=[97+k,46]++eS e++(dD (z+1)++eS e++[]):=by
  unfold kO
  simp only[bJ,bM]
  rfl
 rw[e1,CI (λc hc=>by
  rcases aI hc with h|h
  ·rw[h];exact Ok hk
  ·rw[ak h];exact D1) (b8 _ _) (LJ e) (OM e),CI (w:=dD (z+1)) (E5 _) (b8 46 (dD z)) (LJ e) (OM e)]
 rfl
abbrev Ln:=List Nat×List Nat
noncomputable def gW(ls:List Ln):List Nat:=(ls.map λx=>x.1++x.2).flatten
noncomputable abbrev gj:List Nat:=[13,10]
noncomputable def hU(E:List Nat):Prop:=E=[10]∨E=[13]∨E=[13,10]
theorem w8(e):hU (eS e):=by
 unfold eS
 by_cases h:e=0
 ·rw[if_pos h];exact .inl rfl
 ·rw[if_neg h]
  by_cases h:e=1
  ·rw[if_pos h];exact .inr (.inl rfl)
  ·rw[if_neg h];exact .inr (.inr rfl)
theorem pD(x:Ln)(ls:List Ln):gW (x::ls)=x.1++x.2++gW ls:=rfl
theorem aaC(a b:List Ln):gW (a++b)=gW a++gW b:=by unfold gW;rw[List.map_append,List.flatten_append]
theorem Zg{ls:List Ln}(h:∀x∈ls,rN x.1∧hU x.2):(gW ls).head?≠some 10:=by
 cases ls with
|nil=>exact λh=>ar h
|cons x ls =>
  obtain⟨⟨h1,h2⟩,_⟩:=h x (aq ..)
  obtain⟨w,E⟩:=x
  cases w with
 |nil=>exact absurd rfl h1
 |cons c w =>
   intro q
   have:c=10:=bX q
   exact(h2 c (aq ..)).1 this
theorem IU:∀ls:List Ln,(∀x∈ls,rN x.1∧hU x.2)->dP (gW ls)=gW (ls.map λx=>(x.1,gj))
|[],_=>rfl
|x::ls,h=>by
  have hx:=h x (aq ..)
  have h':∀x∈ls,rN x.1∧hU x.2:=λy hy=>h y (al _ hy)
  rw[pD,bJ,IR _ _ hx.1.2,Xr hx.2 (Zg h'),IU ls h',bP,pD,bJ]
theorem K5:∀ls:List Ln,(∀x∈ls,rN x.1)->dB true (gW (ls.map λx=>(x.1,gj)))=gW (ls.map λx=>(nO x.1,gj))
|[],_=>rfl
|x::ls,h=>by
  have hx:=h x (aq ..)
  have e:gW ((x::ls).map λx=>(x.1,gj))=x.1++13::10::gW (ls.map λx=>(x.1,gj)):=by
   rw[bP,pD,bJ];rfl
  rw[e,CW _ _ (λc hc=>(hx.2 c hc).1) hx.1,UV _ (λc hc=>(hx.2 c hc).1),K5 ls λy hy=>h y (List.mem_cons_of_mem _ hy),bP,pD,bJ]
  rfl
noncomputable def jC(few:Nat)(E:List Nat):Nat->List Ln
|0=>[(dD few,E)]
|k+1=>(dD (few+k+1),gj)::jC few E k
noncomputable def fK(nm:List Nat)(few:Nat)(E:List Nat)(k:Nat):List Nat:=gW ((nm,if k=0 then[13]else gj)::jC few E k)
noncomputable def mM(few:Nat):Nat->List Nat
|0=>[]
|k+1=>dD (few+k+1)++gj++mM few k
noncomputable def q7(few:Nat):Nat->List Nat
|0=>[few]
|k+1=>(few+k+1)::q7 few k
theorem Az(few)(E):∀k,gW (jC few E k)=mM few k++(dD few++E)
|0=>by unfold jC mM;rw[pD];exact bM _
|k+1=>by
  unfold jC mM
  rw[pD,Az few E k,← bJ]
theorem ID(n):rN (dD (n+1)):=⟨b8 46 (dD n),λc hc=>by rw[(b4 hc).2];decide⟩
theorem Kl(hE:hU E):∀k,∀x∈jC (g+1) E k,rN x.1∧hU x.2
|0,x,hx=>by rw[ak hx];exact⟨ID g,hE⟩
|k+1,x,hx=>by
  rcases aI hx with hx|hx
  ·rw[hx];exact⟨ID (g+1+k),.inr (.inr rfl)⟩
  ·exact Kl hE k x hx
theorem OJ:∀k,(jC (g+1) E k).map (λx=>(nO x.1,gj))++[(dD (g+1),E)]=jC (g+1) E (k+1)
|0=>rfl
|k+1=>by
  have ih:=OJ (g:=g) (E:=E) k
  show(nO (dD (g+1+k+1)),gj)::((jC (g+1) E k).map (λx=>(nO x.1,gj))++[(dD (g+1),E)])=_
  refine ih.symm▸?_
  rfl
structure iH(nm:List Nat):Prop where
 p:rN nm
 d:nO nm=nm
 s:solid nm
 c:∀c∈nm,c < 200
theorem Fy{nm E:List Nat}{g:Nat}(hn:iH nm)(hE:hU E)(k:Nat):∀x∈((nm,if k=0 then[13]else gj):Ln)::jC (g+1) E k,rN x.1∧hU x.2:=λx hx=>by
 rcases aI hx with hx|hx
 ·refine hx.symm▸?_
  refine⟨hn.p,?_⟩
  show hU (if k=0 then[13]else gj)
  by_cases h:k=0
  ·rw[if_pos h];exact .inr (.inl rfl)
  ·rw[if_neg h];exact .inr (.inr rfl)
 ·exact Kl hE k x hx
theorem Id{nm E:List Nat}{g:Nat}(hn:iH nm)(hE:hU E)(k:Nat):dP (fK nm (g+1) E k)=gW ((((nm,if k=0 then[13]else gj):Ln)::jC (g+1) E k).map λx=>(x.1,gj)):=IU _ (Fy hn hE k)
theorem W8{nm E:List Nat}{g:Nat}(hn:iH nm)(hE:hU E)(k:Nat):dB true (dP (fK nm (g+1) E k))++(dD (g+1)++E)=fK nm (g+1) E (k+1):=by
 rw[Id hn hE,K5 _ (λx hx=>(Fy hn hE k x hx).1)]
 have e:(dD (g+1)++E)=gW [(dD (g+1),E)]:=by rw[pD];exact(bM _).symm
 rw[e,← aaC,bP]
 show gW (((nO nm,gj):Ln)::((jC (g+1) E k).map (λx=>(nO x.1,gj))++[(dD (g+1),E)]))=_
 rw[OJ,hn.d]
 unfold fK
 exact(if_neg (Nat.succ_ne_zero k)).symm▸rfl
theorem JR(ls:List Ln)(h:∀x∈ls,x.1.length≤M∧x.2.length≤2):(gW ls).length≤ls.length*(M+2):=by
 unfold gW
 refine aa (xT (M+2) _ λw hw=>(bo hw).elim λx q=>?_) (by rw[bI];exact am _)
 refine q.2▸List.length_append.symm▸?_
 exact ay (h x q.1).1 (h x q.1).2
theorem abQ(h:hU E):E.length≤2:=by
 rcases h with h|h|h<;>rw[h]<;>decide
theorem vX(h:hU E):∀c∈E,c < 200:=by
 rcases h with h|h|h<;>rw[h]<;>decide
theorem FF(few)(E):∀k,(jC few E k).length=k+1
|0=>rfl
|k+1=>congrArg (·+1) (FF few E k)
theorem u9(hE:hU E):∀k,∀x∈jC few E k,x.1.length≤few+k∧x.2.length≤2∧(∀c∈x.1,c < 200)∧∀c∈x.2,c < 200
|0,x,hx=>by
  refine(ak hx).symm▸?_
  exact⟨aU (bL ..),abQ hE,λc hc=>by rw[(b4 hc).2];decide,vX hE⟩
|k+1,x,hx=>by
  rcases aI hx with hx|hx
  ·refine hx.symm▸?_
   exact⟨aU (bL ..),am 2,λc hc=>by rw[(b4 hc).2];decide,vX (.inr (.inr rfl))⟩
  ·have:=u9 hE k x hx
   exact⟨Nat.le_succ_of_le this.1,this.2⟩
theorem Ch{nm E:List Nat}{few k:Nat}(hn:nm.length≤10)(hE:hU E)(hf:few≤40)(hk:k≤20):(fK nm few E k).length≤2000:=by
 refine aa (JR (M:=60) _ λx hx=>?_) ?_
 ·rcases aI hx with hx|hx
  ·refine hx.symm▸?_
   refine⟨aa hn b9,?_⟩
   show(if k=0 then[13]else gj).length≤2
   by_cases h:k=0
   ·rw[if_pos h];decide
   ·rw[if_neg h];decide
  ·have:=u9 hE k x hx
   exact⟨aa this.1 (ay hf hk),this.2.1⟩
 ·rw[List.length_cons,FF]
  exact aa (ba _ (az (az hk 1) 1)) b9
theorem Jn{nm E:List Nat}{few k:Nat}(hn:∀c∈nm,c < 200)(hE:hU E):∀c∈fK nm few E k,c < 200:=λc hc=>by
 unfold fK gW at hc
 obtain⟨w,hw,qX⟩:=List.mem_flatten.mp hc
 obtain⟨x,hx,q⟩:=bo hw
 rw[← q]at qX
 rcases aI hx with hx|hx
 ·rw[hx]at qX
  rcases ae qX with h|h
  ·exact hn c h
  ·have h:c∈(if k=0 then[13]else gj):=h
   by_cases hk:k=0
   ·rw[if_pos hk]at h;rw[ak h];decide
   ·rw[if_neg hk]at h;exact vX (.inr (.inr rfl)) c h
 ·have:=(u9 hE k x hx).2.2
  rcases ae qX with h|h
  ·exact this.1 c h
  ·exact this.2 c h
theorem KJ(h:hU E):(∀c∈E,Unicode.isSpace c=true)∧E≠[]:=by
 rcases h with h|h|h<;>rw[h]
 ·exact⟨λc hc=>by rw[ak hc];exact Hd,b8 _ _⟩
 ·exact⟨λc hc=>by rw[ak hc];exact FP,b8 _ _⟩
 ·exact⟨λc hc=>by
   rcases aI hc with h|h
   ·rw[h];exact FP
   ·rw[ak h];exact Hd,b8 _ _⟩
theorem Kg:∀(ls:List Ln) (r:List Nat),(∀x∈ls,solid x.1∧x.1≠[]∧hU x.2)->d3 (gW ls++r) []=ls.map (·.1)++d3 r []
|[],r,_=>rfl
|x::ls,r,h=>by
  obtain⟨h1,h2,h3⟩:=h x (aq ..)
  rw[pD,bJ,CI h1 h2 (KJ h3).1 (KJ h3).2,Kg ls r λy hy=>h y (List.mem_cons_of_mem _ hy)]
  rfl
theorem Ow(few)(E):∀k,(jC few E k).map (·.1)=(q7 few k).map dD
|0=>rfl
|k+1=>congrArg (dD (few+k+1)::·) (Ow few E k)
theorem JM:∀k,∀x∈jC few E k,solid x.1
|0,x,hx=>(ak hx).symm▸E5 _
|k+1,x,hx=>by
  rcases aI hx with hx|hx
  ·rw[hx];exact E5 _
  ·exact JM k x hx
theorem QU{nm E r:List Nat}{g k:Nat}(hn:iH nm)(hE:hU E):d3 (fK nm (g+1) E k++r) []=nm::(q7 (g+1) k).map dD++d3 r []:=by
 unfold fK
 rw[Kg _ r λx hx=>?_,bP,Ow]
 have h1:=Fy hn hE k x hx
 refine⟨?_,h1.1.1,h1.2⟩
 rcases aI hx with hx|hx
 ·rw[hx];exact hn.s
 ·exact JM k x hx
noncomputable def uo(i:Nat):EF:=aB (aN (aj i) (im AH))
noncomputable def C9:XF:=bN (aB (Mine.jx .join (sC []) (aB (aZ .Add (aB (lY (uo 0) gm (ik (iC 1)) gm)) (aB (lY (uo 1) gm (ik (iC 1)) gm)))))) (dg 2)
noncomputable def x8(i c j:Nat):XF:=bN (ix (ej (uo i)) stepI (cr c) (cb .Eq (eM (aj c) (iC 0)) (sC [46])) (gM (aB (fk (aj c)))) [c]) (dg j)
noncomputable def Ni:XF:=bN (sC []) (dg 5)
noncomputable def KO:XF:=bN (aB (aZ .Sub (aB (oC .mn (aM (aB (aZ .Sub (aB (aZ .Mult (iC 2) (aj 6))) (eM (aj 3) (iC 0)))) (aM (aB (aZ .Sub (aB (aZ .Mult (iC 2) (aj 7))) (eM (aj 4) (iC 0)))) bA)))) (iC 1))) (dg 8)
noncomputable def Hk:XF:=bN (aB (aZ .Sub (aB (aZ .Sub (aB (aZ .Add (aj 6) (aj 7))) (iC 1))) (aj 8))) (dg 9)
noncomputable def Dw:XF:=bN (aB (aZ .Add (aB (aZ .Mult (sC [46]) (aj 9))) (eM (aB (gZ (aM (sC [10]) (aM (sC [13]) (aM (sC [13,10]) bA))))) (aB (aZ .Mod (aj 9) (iC 3)))))) (dg 10)
noncomputable def F9:XF:=bN (aB (aZ .Add (aB (aZ .Add (aj 2) (sC [13]))) (aj 10))) (dg 11)
noncomputable def D8:XF:=bN (aB (aZ .Add (j9 (aM (aj 11) bA) DE) (aj 10))) (dg 11)
noncomputable def Fw:XF:=fu (fE (aM (aj 8) bA)) λis n=>cx stepI (cr 12) (aH D8 bh) n is
noncomputable def EJ:XF:=bN (aB (Mine.jx .join (sC []) (ix (nu (aM (aj 8) (aM (iC 0) (aM (iC (-1)) bA)))) stepI (cr 14) (λσ=>some (true,σ.hp)) (gM (aB (aZ .Add (aB (aZ .Mult (sC [46]) (aB (aZ .Add (aj 9) (aj 14))))) (sC [13,10])))) [14]))) (dg 13)
noncomputable def Gs:BF:=cb .NotEq (aj 11) (aB (aZ .Add (aB (aZ .Add (aB (aZ .Add (aj 2) (sC [13,10]))) (aj 13))) (aj 10)))
noncomputable def Gv:XF:=cZ (bindB (cb .Gt (aj 8) (iC 0)) λb=>if b then bindB Gs λb=>if b then ia true else ia false else ia false) (aH (gr (sC [])) bh) bh
noncomputable def Kv:XF:=bN (aB (aZ .Add (aj 5) (aj 11))) (dg 5)
noncomputable def FV:XF:=aH KO (aH Hk (aH Dw (aH F9 (aH Fw (aH EJ (aH Gv (aH Kv bh)))))))
noncomputable def BD:XF:=fu (ej (aj 4)) λis n=>cx stepI (cr 7) FV n is
noncomputable def CN:XF:=fu (ej (aj 3)) λis n=>cx stepI (cr 6) (aH BD bh) n is
noncomputable def UF:XF:=aH C9 (aH (x8 0 16 3) (aH (x8 1 15 4) (aH Ni (aH CN (aH (gr (aj 5)) bh)))))
theorem VW:Bb.1=UF:=rfl
noncomputable abbrev Vk:=Nat->Option PV
noncomputable def Vk.u(v:Vk)(i:Nat)(x:Option PV):Vk:=λj=>cond (Nat.beq j i) x (v j)
noncomputable def Vk.loc(v:Vk):Loc:=[v 0,v 1,v 2,v 3,v 4,v 5,v 6,v 7,v 8,v 9,v 10,v 11,v 12,v 13,none,none,none]
noncomputable def Vk.e:Vk:=λ_=>none
section
variable {v:Vk}{hp:List MO}{L:Loc}{t t2 nm E l w:List Nat}{i j c p q few g k:Nat}{l0 r0 r:Int}{rows cA:List Nat}{W W2:List (List Nat)}
theorem y6{i:Nat}{L:Loc}(h:d2 L i=some (.dat (sD t)))(hl:t.length < lim)(hc:∀c∈t,c < 0x110000):uo i ⟨L,hp⟩=some (.dat (.list (ce (d3 t []))),hp) :=
 mE (hO h) (HT hl hc)
theorem Bp(l):(ce l).length=l.length:=by unfold ce;rw[bI]
theorem FG{F:EF}{w:List Nat}(h:F ⟨L,hp⟩=some (.dat (.list (ce (w::W))),hp))(hl:W.length+1≤lim):aB (lY F gm (ik (iC 1)) gm) ⟨L,hp⟩=some (.dat (.list (ce [w])),hp):=by
 refine vt (lo:=gm) (hi:=ik (iC 1)) (st:=gm) h rfl rfl rfl ?_
 refine(if_pos (show(ce (w::W)).length≤lim by rw[Bp,List.length_cons];exact hl)).trans ?_
 congr 2
 show((ce (w::W)).take (clip (ce (w::W)).length (some ((1:Nat):Int)) (ce (w::W)).length)).drop 0=_
 rw[z5 (show 1≤(ce (w::W)).length by rw[Bp,List.length_cons];exact aS (bZ _))]
 rfl
theorem PO(h0:v 0=some (.dat (sD t)))(h1:v 1=some (.dat (sD t2)))(hl:t.length < lim)(hc:∀c∈t,c < 0x110000)(lN:t2.length < lim)(GS:∀c∈t2,c < 0x110000)
  (hW:d3 t []=nm::W) (Jt:d3 t2 []=w::W2) (hn:nm.length≤100) (hw:w.length≤100) (te:∀c∈nm,c < 0x110000) (hwc:∀c∈w,c < 0x110000):C9 ⟨v.loc,hp⟩=some (.next,⟨(v.u 2 (some (.dat (sD (nm++w))))).loc,hp⟩):=by
 have a1:=y6 (hp:=hp) (L:=v.loc) (i:=0) (ef rfl h0) hl hc
 have a2:=y6 (hp:=hp) (L:=v.loc) (i:=1) (ef rfl h1) lN GS
 have b1:=congrArg List.length hW
 have b2:=congrArg List.length Jt
 have c1:=x7 t []
 have c2:=x7 t2 []
 rw[hW]at a1
 rw[Jt]at a2
 rw[List.length_cons]at b1 b2
 have e:nQ ⟨⟨[]⟩⟩ (ce [nm]++ce [w])=some (sD (nm++w)):=by
  have h1:ce [nm]++ce [w]=ce [nm,w]:=rfl
  rw[h1,join_eq (g:=[]) (ws:=[nm,w]) (by exact Nat.le_trans (Nat.add_le_add hn hw) b9) (λ_ h=>bT h) (λx hx=>by
   rcases aI hx with hx|hx
   ·rw[hx];exact te
   ·rw[ak hx];exact hwc),uu]
  show some (sD (nm++(w++[])))=_
  rw[bM]
 exact dR (vF (m:=.join) (F1:=sC []) (x:=sD []) rfl rfl (bS (op:=.Add) (FG a1 (b1▸aa c1 hl)) (FG a2 (b2▸aa c2 lN)) (add_list (x:=ce [nm]) (y:=ce [w]) (av rfl))) e)
noncomputable def qP(w:List Nat):Bool:=w.head?==some 46
noncomputable def ju(W:List (List Nat)):List Nat:=(W.filter qP).map List.length
theorem YV{w:List Nat}(h:w≠[]):∃c,w.head?=some c∧l7 (sD w) (.int 0)=some (sD [c]):=by
 cases w with
|nil=>exact absurd rfl h
|cons c w=>exact⟨c,rfl,rfl⟩
theorem abl(a b):fq .Eq (sD [a]) (sD [b])=some (a==b):=by
 show some ((a==b)&&true)=_
 rw[Bool.and_true]
theorem Lr{F:EF}{w:List Nat}(hF:F ⟨L,hp⟩=some (.dat (sD w),hp))(hw:w≠[]):cb .Eq (eM F (iC 0)) (sC [46]) ⟨L,hp⟩=some (qP w,hp):=by
 obtain⟨c,hc,e⟩:=YV hw
 refine gK (op:=.Eq) (F2:=sC [46]) (jo (F2:=iC 0) hF rfl e) rfl rfl rfl ((abl c 46).trans ?_)
 unfold qP
 refine hc.symm▸?_
 rfl
theorem len_str{F:EF}{w:List Nat}(hF:F ⟨L,hp⟩=some (.dat (sD w),hp))(hw:w.length≤lim):aB (fk F) ⟨L,hp⟩=some (.dat (.int (w.length:Nat)),hp) :=
 mE hF (if_pos hw)
theorem IA{i c j:Nat}(hi:uo i ⟨v.loc,hp⟩=some (.dat (.list (ce W)),hp))(eU:∀w∈W,w≠[]∧w.length≤1000)(hl:W.length≤10000)(hc:∀a,(v.loc.set c a)[c]?=some a)(zt:v.loc.set c none=v.loc) :
  x8 i c j ⟨v.loc,hp⟩=some (.next,⟨v.loc.set j (some (.dat (.list (aY (ju W))))),hp⟩):=by
 have e:=comp_map (λw:List Nat=>sD w) (λloc=>∃a,loc=v.loc.set c a) (S:=ej (uo i)) (T:=cr c) (tests:=cb .Eq (eM (aj c) (iC 0)) (sC [46])) (F:=aB (fk (aj c))) (t:=qP) (r:=λw=>.int (w.length:Nat)) (hp:=hp) (l:=W) (loc:=v.loc) (ts:=[c]) (n:=W.length+1)
  (by
   unfold ej
   refine hi.symm▸?_
   show some ((IS.rem (ce W),(ce W).length+1),hp)=_
   rw[Bp]
   rfl) (am _) (λw hm loc ⟨a,eQ⟩=>by
   subst eQ
   have hq:=eU w hm
   refine⟨_,⟨some (.dat (sD w)),rfl⟩,by show some ((v.loc.set c a).set c _)=_;rw[List.set_set],Lr (aV (hc _) rfl) hq.1,λ_=>len_str (aV (hc _) rfl) (aa hq.2 b9)⟩) ⟨none,rfl⟩ (aa hl b9)
 refine(dR e).trans ?_
 unfold ju aY
 refine List.map_map.symm▸?_
 rfl
end
theorem AS{b:BM}{G:LF}{L:Loc}{hp:List MO}{ps:List PV}{ds:List PyData}{d:PyData}(h:G ⟨L,hp⟩=some (ps,hp))(h2:fV ps=some ds)(h3:b.f ds=some d):aB (oC b G) ⟨L,hp⟩=some (.dat d,hp):=by
 unfold aB oC
 rw[h]
 dsimp only
 rw[h2]
 dsimp only
 exact h3.symm▸rfl
theorem pF{r:Int}(h:r.natAbs≤100000):Builtin.Range.rangeFitsLong r=true:=by
 unfold Builtin.Range.rangeFitsLong
 rw[decide_eq_true (Int.le_trans (by decide) (td h)),decide_eq_true (Int.lt_of_le_of_lt (rU h) (by decide))]
 rfl
theorem LW(r):Builtin.Range.rangeSize 0 r 1=(r.toNat:Int):=by
 rw[EI]
 by_cases h:0 < r
 ·rw[if_pos h];exact(Int.sub_zero r).trans (Int.toNat_of_nonneg (Int.le_of_lt h)).symm
 ·rw[if_neg h];exact(congrArg Int.ofNat (Int.toNat_eq_zero.mpr (bY h))).symm
theorem aa9{hp:List MO}{r:Int}{loc:Loc}{F:EF}(hr:r.natAbs≤4000)(h:F ⟨loc,hp⟩=some (.dat (.int r),hp)):fE (aM F bA) ⟨loc,hp⟩=some ((.rem (ew 0 1 r.toNat),r.toNat+1),hp):=by
 have hs:Builtin.Range.small 0 r 1=true:=by
  show(Builtin.Range.rangeFitsLong 0&&Builtin.Range.rangeFitsLong r&&Builtin.Range.rangeFitsLong 1&&Builtin.Range.rangeFitsLong (Builtin.Range.rangeSize 0 r 1)&&(Builtin.Range.rangeSize 0 r 1==0||Builtin.Range.rangeFitsLong (r+(1 - 1))))=true
  rw[LW,pF (r:=r) (Nat.le_trans hr b9),pF (r:=(r.toNat:Int)) (Nat.le_trans (i5 r) (Nat.le_trans hr b9)),show(r+(1 - 1))=r from Int.add_zero _,pF (r:=r) (Nat.le_trans hr b9),Bool.or_true]
  rfl
 unfold fE
 rw[show aM F bA ⟨loc,hp⟩=some ([.dat (.int r)],hp)by unfold aM aN;rw[h];rfl]
 show(if(1:Int)≠0∧Builtin.Range.small 0 r 1=true∧(1:Int).natAbs < 2 ^ 60 then some ((IS.rem (ew 0 1 (Builtin.Range.rangeSize 0 r 1).toNat),(Builtin.Range.rangeSize 0 r 1).toNat+1),hp)else none)=_
 rw[if_pos ⟨by decide,hs,by decide⟩,LW,Int.toNat_natCast]
noncomputable def ni:Nat->List Nat
|0=>[]
|k+1=>(k+1)::ni k
theorem Oa:∀k:Nat,ew (k:Int) (-1) k=(ni k).map λ(x:Nat)=>PyData.int (x:Int)
|0=>rfl
|k+1=>by
  show PyData.int ((k+1:Nat):Int)::ew (((k+1:Nat):Int)+-1) (-1) k=_
  refine(show(((k+1:Nat):Int)+-1)=(k:Int)from Int.add_sub_cancel (k:Int) 1).symm▸(Oa k).symm▸?_
  rfl
theorem Cn(r):Builtin.Range.rangeSize r 0 (-1)=(r.toNat:Int):=by
 unfold Builtin.Range.rangeSize
 rw[if_neg (by decide)]
 by_cases h:r > 0
 ·rw[if_pos h,show(-(-1):Int)=1 from rfl,Int.ediv_one];exact((Int.sub_add_cancel (r - 0) 1).trans (Int.sub_zero r)).trans (Int.toNat_of_nonneg (Int.le_of_lt h)).symm
 ·rw[if_neg h];exact(congrArg Int.ofNat (Int.toNat_eq_zero.mpr (bY h))).symm
theorem aax{hp:List MO}{r:Int}{loc:Loc}{F:EF}(hr:r.natAbs≤4000)(h:F ⟨loc,hp⟩=some (.dat (.int r),hp)):nu (aM F (aM (iC 0) (aM (iC (-1)) bA))) ⟨loc,hp⟩=some ((.rem ((ni r.toNat).map λ(x:Nat)=>PyData.int (x:Int)),r.toNat+1),hp):=by
 have hs:Builtin.Range.small r 0 (-1)=true:=by
  show(Builtin.Range.rangeFitsLong r&&Builtin.Range.rangeFitsLong 0&&Builtin.Range.rangeFitsLong (-1)&&Builtin.Range.rangeFitsLong (Builtin.Range.rangeSize r 0 (-1))&&(Builtin.Range.rangeSize r 0 (-1)==0||Builtin.Range.rangeFitsLong (0+(-1+1))))=true
  rw[Cn,pF (r:=r) (Nat.le_trans hr b9),pF (r:=(r.toNat:Int)) (Nat.le_trans (i5 r) (Nat.le_trans hr b9))]
  exact Bool.or_true _
 unfold nu
 rw[show aM F (aM (iC 0) (aM (iC (-1)) bA)) ⟨loc,hp⟩=some ([.dat (.int r),.dat (.int 0),.dat (.int (-1))],hp)from jK h rfl]
 show(if(-1:Int)≠0∧Builtin.Range.small r 0 (-1)=true∧(-1:Int).natAbs < 2 ^ 60∧0≤Builtin.Range.rangeSize r 0 (-1)then some ((IS.rem (ew r (-1) (Builtin.Range.rangeSize r 0 (-1)).toNat),(Builtin.Range.rangeSize r 0 (-1)).toNat+1),hp)else none)=_
 rw[if_pos ⟨by decide,hs,by decide,by rw[Cn];exact bf _⟩,Cn,Int.toNat_natCast]
 congr 4
 by_cases h0:0≤r
 ·have e:=Oa r.toNat
  rwa [Int.toNat_of_nonneg h0]at e
 ·rw[Int.toNat_of_nonpos (Int.le_of_lt (Int.not_le.mp h0))];rfl
theorem Sf{ls:List Ln}(h:∀x∈ls,(∀c∈x.1,c < 200)∧∀c∈x.2,c < 200):∀c∈gW ls,c < 200:=λc hc=>by
 unfold gW at hc
 obtain⟨w,hw,qX⟩:=List.mem_flatten.mp hc
 obtain⟨x,hx,q⟩:=bo hw
 replace qX:=q.symm▸qX
 exact(ae qX).elim ((h x hx).1 c) ((h x hx).2 c)
section
variable {v:Vk}{hp:List MO}{L:Loc}{nm E l w:List Nat}{p q few g k l0 r0:Nat}{r:Int}{rows cA:List Nat}
noncomputable def nS(l0 r0 p q:Nat):Int:=min (2*(p:Int) - l0) (2*(q:Int) - r0) - 1
theorem MV(hF:F ⟨L,hp⟩=some (.dat (.list (aY rows)),hp))(h:rows[0]?=some l0):eM F (iC 0) ⟨L,hp⟩=some (.dat (.int (l0:Nat)),hp):=jo (F2:=iC 0) hF rfl (n9 (p:=0) (rn h) (by decide))
theorem Yj(h3:v 3=some (.dat (.list (aY rows))))(h4:v 4=some (.dat (.list (aY cA))))(h6:v 6=some (.dat (.int (p:Nat))))(h7:v 7=some (.dat (.int (q:Nat))))(hl:rows[0]?=some l0)(hr:cA[0]?=some r0)(hp9:p≤100)(QL:q≤100) :
  KO ⟨v.loc,hp⟩=some (.next,⟨(v.u 8 (some (.dat (.int (nS l0 r0 p q))))).loc,hp⟩):=by
 have tw:∀{i x:Nat},aj i ⟨v.loc,hp⟩=some (.dat (.int (x:Nat)),hp)->x≤100->aB (aZ .Mult (iC 2) (aj i)) ⟨v.loc,hp⟩=some (.dat (.int (2*(x:Int))),hp):=λ{i x} h hx =>
  bS (op:=.Mult) (F1:=iC 2) rfl h (if_pos (show((x:Nat):Int).natAbs < 2 ^ 60 by rw[Int.natAbs_natCast];exact ah hx b9))
 exact dR (bS (op:=.Sub) (F2:=iC 1) (AS (b:=.mn) (ds:=[.int (2*(p:Int) - l0),.int (2*(q:Int) - r0)]) (d:=.int (min (2*(p:Int) - l0) (2*(q:Int) - r0)))
  (sY (bS (op:=.Sub) (tw (aV rfl h6) hp9) (MV (aV rfl h3) hl) rfl) (bS (op:=.Sub) (tw (aV rfl h7) QL) (MV (aV rfl h4) hr) rfl)) rfl rfl) rfl rfl)
theorem V1(h6:v 6=some (.dat (.int (p:Nat))))(h7:v 7=some (.dat (.int (q:Nat))))(h8:v 8=some (.dat (.int r)))(hf:(p:Int)+q - 1 - r=(few:Nat)):Hk ⟨v.loc,hp⟩=some (.next,⟨(v.u 9 (some (.dat (.int (few:Nat))))).loc,hp⟩) :=
 dR (bS (op:=.Sub) (bS (op:=.Sub) (F2:=iC 1) (bS (op:=.Add) (aV rfl h6) (aV rfl h7) rfl) rfl rfl) (aV rfl h8) (by rw[← hf];rfl))
theorem WX(h9:v 9=some (.dat (.int (few:Nat))))(hf:few≤100):Dw ⟨v.loc,hp⟩=some (.next,⟨(v.u 10 (some (.dat (sD (dD few++eS (few % 3)))))).loc,hp⟩):=by
 have e2:∀e,e < 3->([sD [10],sD [13],sD [13,10]]:List PyData)[e]?=some (sD (eS e)):=λe he=>by
  exact mU e he rfl rfl rfl
 have hm:=bD few (show 0 < 3 by decide)
 have hE:=Cg (few % 3)
 exact dR (bS (op:=.Add) (bS (op:=.Mult) (F1:=sC [46]) rfl (aV rfl h9) (AG (i:=((few:Nat):Int)) (by unfold lim;exact aa hf b9))) (jo (F1:=aB (gZ (aM (sC [10]) (aM (sC [13]) (aM (sC [13,10]) bA))))) rfl (bS (op:=.Mod) (F2:=iC 3) (aV rfl h9) rfl (Ae (k:=3) (by decide))) (n9 (e2 _ hm) (aa (aG hm) b9)))
  (add_str (x:=dD few) (by rw[bL];unfold lim;exact aa (ay hf hE) b9)))
theorem P5(h2:v 2=some (.dat (sD nm)))(ko:v 10=some (.dat (sD (dD few++E))))(hn:nm.length≤10)(hf:few≤100)(hE:E.length≤2):F9 ⟨v.loc,hp⟩=some (.next,⟨(v.u 11 (some (.dat (sD (fK nm few E 0))))).loc,hp⟩):=by
 have e:nm++[13]++(dD few++E)=fK nm few E 0:=by
  unfold fK
  rw[pD,Az]
  rfl
 refine e▸?_
 exact dR (bS (op:=.Add) (bS (op:=.Add) (F2:=sC [13]) (aV rfl h2) rfl (add_str (y:=[13]) (by rw[List.length_singleton];unfold lim;exact aa (az hn 1) b9))) (aV rfl ko) (add_str (x:=nm++[13]) (by simp only[bH,bL,List.length_singleton];unfold lim;exact aa (ay (az hn 1) (ay hf hE)) b9)))
theorem Un{j:Nat}(hn:iH nm)(hl:nm.length≤10)(hE:hU E)(hf:g+1≤40)(hj:j≤19)(ko:v 10=some (.dat (sD (dD (g+1)++E))))(nq:v 11=some (.dat (sD (fK nm (g+1) E j)))) :
  D8 ⟨v.loc,hp⟩=some (.next,⟨(v.u 11 (some (.dat (sD (fK nm (g+1) E (j+1)))))).loc,hp⟩):=by
 have e:=W8 (g:=g) hn hE j
 have hlen:=Ch (few:=g+1) (k:=j) hl hE hf (aa hj b9)
 have BR:=Ch (few:=g+1) (k:=j+1) hl hE hf (aS hj)
 have h2:=wP (fK nm (g+1) E j)
 have c2:∀c∈dP (fK nm (g+1) E j),c < 0x110000:=λc hc=>by
  rw[Id hn hE]at hc
  refine a9 (Sf (λx hx=>?_) c hc) b9
  obtain⟨y,hy,q⟩:=bo hx
  refine q▸?_
  refine⟨?_,vX (.inr (.inr rfl))⟩
  rcases aI hy with hy|hy
  ·rw[hy];exact hn.c
  ·exact(u9 hE j y hy).2.2.1
 have c1:∀c∈dB true (dP (fK nm (g+1) E j)),c < 0x110000:=λc hc=>a9 (Jn (few:=g+1) (k:=j+1) hn.c hE c (e▸au _ hc)) b9
 rw[← e]at BR ⊢
 replace BR:=bH▸BR
 exact dR (bS (op:=.Add) (xq (aV rfl nq) (PM (by unfold lim;exact aa (bc 4 hlen) b9) (by unfold lim;exact aa (bc 4 (aa h2 (bc 2 hlen))) b9) c2 c1)) (aV rfl ko) (add_str (by unfold lim;exact aa BR b9)))
theorem S3(hn:iH nm)(hl:nm.length≤10)(hE:hU E)(hf:g+1≤40)(hr:r.natAbs≤20)(h8:v 8=some (.dat (.int r)))(ko:v 10=some (.dat (sD (dD (g+1)++E))))(nq:v 11=some (.dat (sD (fK nm (g+1) E 0)))) :
  ∃a,Fw ⟨v.loc,hp⟩=some (.next,⟨((v.u 11 (some (.dat (sD (fK nm (g+1) E r.toNat))))).u 12 a).loc,hp⟩):=by
 refine cps λ_ KK=>?_
 obtain⟨σ',e,hI⟩:=wx (T:=cr 12) (B:=aH D8 bh) (its:=ew 0 1 r.toNat) (λj σ=>j≤r.toNat->∃a,σ=⟨((v.u 11 (some (.dat (sD (fK nm (g+1) E j))))).u 12 a).loc,hp⟩) (λj d σ hd hI=>by
  have hj:j < r.toNat:=by
   have:=(List.getElem?_eq_some_iff.mp hd).1
   rwa [iz]at this
  obtain⟨a,ig⟩:=hI (aG hj)
  let v1:Vk:=(v.u 11 (some (.dat (sD (fK nm (g+1) E j))))).u 12 (some (.dat d))
  have e0:=Un (v:=v1) (hp:=hp) (j:=j) hn hl hE hf (aC (bu hj (aa (i5 r) hr))) ko rfl
  refine⟨v1.loc,⟨(v1.u 11 (some (.dat (sD (fK nm (g+1) E (j+1)))))).loc,hp⟩,by rw[ig];rfl,?_,λ_=>⟨some (.dat d),rfl⟩⟩
  rw[ig]
  exact(bm e0).trans rfl) (ew 0 1 r.toNat) 0 (r.toNat+1) ⟨v.loc,hp⟩ rfl (by rw[iz];exact a7 _) (λ_=>⟨v 12,congrArg (λm=>St.mk (Vk.loc (v.u 11 m)) hp) nq⟩)
 rw[iz,Nat.zero_add]at hI
 obtain⟨a,hI⟩:=hI (am _)
 refine KK ⟨a,?_⟩
 unfold Fw fu
 rw[aa9 (r:=r) (Nat.le_trans hr b9) (aV rfl h8)]
 exact e.trans (congrArg (λσ=>some (Fl.next,σ)) hI)
theorem IF(few):∀k,((ni k).map λx=>dD (few+x)++gj).flatten=mM few k
|0=>rfl
|k+1=>by
  show dD (few+(k+1))++gj++((ni k).map λx=>dD (few+x)++gj).flatten=_
  refine(IF few k).symm▸?_
  rfl
theorem Fu:∀k,∀x∈ni k,x≤k
|0,x,h=>bT h
|k+1,x,h=>(aI h).elim (λe=>aU e) λh=>Nat.le_succ_of_le (Fu k x h)
theorem BC:∀k,(ni k).length=k
|0=>rfl
|k+1=>congrArg (·+1) (BC k)
theorem Yb(h8:v 8=some (.dat (.int r)))(h9:v 9=some (.dat (.int (few:Nat))))(hr:r.natAbs≤20)(hf:few≤100):EJ ⟨v.loc,hp⟩=some (.next,⟨(v.u 13 (some (.dat (sD (mM few r.toNat))))).loc,hp⟩):=by
 have e:=comp_map (λx:Nat=>PyData.int (x:Int)) (λloc=>∃a,loc=v.loc.set 14 a) (S:=nu (aM (aj 8) (aM (iC 0) (aM (iC (-1)) bA)))) (T:=cr 14) (tests:=λσ=>some (true,σ.hp)) (F:=aB (aZ .Add (aB (aZ .Mult (sC [46]) (aB (aZ .Add (aj 9) (aj 14))))) (sC [13,10]))) (t:=λ_=>true) (r:=λx=>sD (dD (few+x)++gj)) (hp:=hp) (l:=ni r.toNat) (loc:=v.loc) (ts:=[14]) (n:=r.toNat+1)
  (aax (aa hr b9) (aV rfl h8)) (by rw[BC];exact a7 _) (λx hx loc ⟨a,eQ⟩=>by
   subst eQ
   have rQ:=Fu _ x hx
   refine⟨_,⟨some (.dat (.int (x:Nat))),rfl⟩,by show some ((v.loc.set 14 a).set 14 _)=_;rw[List.set_set],rfl,λ_=>?_⟩
   exact bS (op:=.Add) (F2:=sC [13,10]) (bS (op:=.Mult) (F1:=sC [46]) (b:=.int ((few+x:Nat):Int)) rfl (bS (op:=.Add) (hO (ef rfl h9)) (aV rfl rfl) rfl) (AG (i:=((few+x:Nat):Int)) (by unfold lim;exact aa (ay hf (aa rQ (aa (i5 r) hr))) b9))) rfl (add_str (x:=dD (few+x)) (y:=[13,10]) (by rw[bL];show few+x+2≤lim;unfold lim;exact aa (az (ay hf (aa rQ (aa (i5 r) hr))) 2) b9))) ⟨none,rfl⟩ (by rw[BC];unfold lim;exact aa (aa (i5 r) hr) b9)
 replace e:=(List.filter_eq_self.mpr (λ_ _=>rfl))▸e
 have hj:nQ ⟨⟨[]⟩⟩ ((ni r.toNat).map λx=>sD (dD (few+x)++gj))=some (sD (mM few r.toNat)):=by
  have h1:((ni r.toNat).map λx=>sD (dD (few+x)++gj))=ce ((ni r.toNat).map λx=>dD (few+x)++gj):=by unfold ce;rw[List.map_map];rfl
  have hq:∀w∈(ni r.toNat).map λx=>dD (few+x)++gj,w.length≤122∧∀c∈w,c < 0x110000:=λw hw=>(bo hw).elim λx q=>by
   have rQ:=Fu _ x q.1
   refine q.2▸?_
   refine⟨by rw[bH,bL];show few+x+2≤122;exact az (ay hf (aa rQ (aa (i5 r) hr))) 2,λc hc=>?_⟩
   rcases ae hc with h|h
   ·rw[(b4 h).2];decide
   ·exact a9 (vX (.inr (.inr rfl)) c h) b9
  rw[h1,join_eq (by
   refine Nat.le_trans (Af (M:=122) (k:=0) _ λw hw=>(hq w hw).1) ?_
   rw[bI,BC]
   unfold lim
   exact aa (ba _ (aa (i5 r) hr)) b9) (λ_ h=>bT h) (λw hw=>(hq w hw).2),uu,IF]
 exact dR (vF (m:=.join) (F1:=sC []) (x:=sD []) rfl rfl e hj)
theorem X9{few k:Nat}(hf:few≤40)(hk:k≤20)(hn:nm.length≤10)(hE:hU E):nm.length+2+(mM few k).length+(few+E.length)≤3000:=by
 have:=JR (M:=60) (jC few E k) λx hx=>⟨aa (u9 hE k x hx).1 (ay hf hk),(u9 hE k x hx).2.1⟩
 rw[Az,FF,bH,bH,bL]at this
 exact Nat.add_assoc (nm.length+2) _ _▸aa (ay (az hn 2) (aa this (ba _ (aS hk)))) b9
theorem cp6(h2:v 2=some (.dat (sD nm)))(h8:v 8=some (.dat (.int r)))(ko:v 10=some (.dat (sD (dD few++E))))(nq:v 11=some (.dat (sD (fK nm few E r.toNat))))(lR:v 13=some (.dat (sD (mM few r.toNat))))(hn:nm.length≤10)(hE:hU E)(hf:few≤40)(hr:r.natAbs≤20) :
  Gv ⟨v.loc,hp⟩=some (.next,⟨v.loc,hp⟩):=by
 have c1:cb .Gt (aj 8) (iC 0) ⟨v.loc,hp⟩=some (decide (0 < r),hp):=gK (op:=.Gt) (F2:=iC 0) (aV rfl h8) rfl rfl rfl rfl
 refine wm ?_
 unfold bindB
 refine c1.symm▸?_
 dsimp only
 by_cases h:0 < r
 ·refine(decide_eq_true h).symm▸?_
  have hL:=X9 (nm:=nm) (E:=E) (few:=few) (k:=r.toNat) hf (aa (i5 r) hr) hn hE
  have e:nm++gj++mM few r.toNat++(dD few++E)=fK nm few E r.toNat:=by
   unfold fK
   rw[pD,Az,if_neg (show ¬ r.toNat=0 from Nat.ne_of_gt (Int.lt_toNat.mpr h)),bJ _ (mM few r.toNat)]
  have c2:Gs ⟨v.loc,hp⟩=some (false,hp):=by
   refine gK (op:=.NotEq) (aV rfl nq) (bS (op:=.Add) (bS (op:=.Add) (bS (op:=.Add) (F2:=sC [13,10]) (aV rfl h2) rfl (add_str (y:=[13,10]) ?_)) (aV rfl lR) (add_str ?_)) (aV rfl ko) (add_str ?_)) rfl rfl (e▸ne_str _)
   ·show nm.length+2≤lim;unfold lim;exact aa (aa (ax _ _) (ax _ _)) (aa hL b9)
   ·rw[bH];show nm.length+2+_≤lim;unfold lim;exact aa (ax _ _) (aa hL b9)
   ·simp only[bH,bL];show nm.length+2+_+_≤lim;unfold lim;exact aa hL b9
  show(match Gs ⟨v.loc,hp⟩with|some (b,hp)=>(if b then ia true else ia false:BF) ⟨v.loc,hp⟩|none=>none)=_
  refine c2.symm▸?_
  rfl
 ·refine(decide_eq_false h).symm▸?_
  rfl
theorem Uc{w:List Nat}(h5:v 5=some (.dat (sD w)))(nq:v 11=some (.dat (sD l)))(hw:w.length+l.length≤lim):Kv ⟨v.loc,hp⟩=some (.next,⟨(v.u 5 (some (.dat (sD (w++l))))).loc,hp⟩) :=
 dR (bS (op:=.Add) (aV rfl h5) (aV rfl nq) (add_str hw))
end
structure oM(rows:List Nat)(l0:Nat):Prop where
 f:rows[0]?=some l0
 a:∀p∈rows,1≤p∧p≤l0
 m:l0≤10
 l:rows.length≤10
noncomputable def nG(l0 r0 p q:Nat):Nat:=((p:Int)+q - 1 - nS l0 r0 p q).toNat
noncomputable def pR(nm:List Nat)(l0 r0 p q:Nat):List Nat:=fK nm (nG l0 r0 p q) (eS (nG l0 r0 p q % 3)) (nS l0 r0 p q).toNat
theorem nA{r:Int}{n:Nat}(h1:r≤n)(h2:-(n:Int)≤r):r.natAbs≤n:=match r with
|.ofNat _=>Int.ofNat_le.mp h1
|.negSucc _=>Int.ofNat_le.mp (Int.neg_neg (n:Int)▸Int.neg_le_neg h2)
theorem Oy{p l:Nat}(h:1≤p∧p≤l)(hl:l≤10):2*(p:Int) - l≤p∧-8≤2*(p:Int) - l:=⟨Int.sub_right_le_of_le_add (Int.two_mul p▸Int.add_le_add_left (bk h.2) _),Int.sub_le_sub (Int.mul_le_mul_of_nonneg_left (bk h.1) (by decide)) (bk hl)⟩
theorem vP{l0 r0 p q:Nat}(hp:1≤p∧p≤l0)(hq:1≤q∧q≤r0)(hl:l0≤10)(hr:r0≤10):(nS l0 r0 p q).natAbs≤20∧(p:Int)+q - 1 - nS l0 r0 p q=(nG l0 r0 p q:Nat)∧nG l0 r0 p q≤40∧∃g,nG l0 r0 p q=g+1:=by
 have A:=Oy hp hl
 have B:=Oy hq hr
 have m1:=bd (Int.min_le_left _ (2*(q:Int) - r0)) A.1
 have m2:=Int.le_min.mpr ⟨A.2,B.2⟩
 have P:=bk (aa hp.2 hl)
 unfold nG nS
 generalize min (2*(p:Int) - l0) (2*(q:Int) - r0)=m at *
 have e:(p:Int)+q - 1 - (m - 1)=p - m+q:=by omega
 have D:=Int.sub_nonneg.mpr m1
 rw[e]
 exact⟨nA (bd (Int.sub_le_self m (by decide)) (bd (bd m1 P) (by decide))) (bd (by decide) (Int.sub_le_sub_right m2 1)),(Int.toNat_of_nonneg (Int.add_nonneg D (bf q))).symm,Int.toNat_le.mpr (bd (Int.add_le_add (Int.sub_le_sub P m2) (bk (aa hq.2 hr))) (by decide)),Nat.exists_eq_succ_of_ne_zero (bB (Int.lt_toNat.mpr (show(0:Int)+1≤_ from bd (bk hq.1) (Int.le_add_of_nonneg_left D))))⟩
section
variable {v:Vk}{hp:List MO}{nm w:List Nat}{p q l0 r0:Nat}{rows cA:List Nat}
structure CS(v:Vk)(nm rows cA w:List Nat):Prop where
 a:v 2=some (.dat (sD nm))
 b:v 3=some (.dat (.list (aY rows)))
 c:v 4=some (.dat (.list (aY cA)))
 d:v 5=some (.dat (sD w))
theorem VB(hn:iH nm)(iv:nm.length≤10)(o1:oM rows l0)(o2:oM cA r0)(ai:p∈rows)(yR:q∈cA)(S:CS v nm rows cA w)(h6:v 6=some (.dat (.int (p:Nat))))(h7:v 7=some (.dat (.int (q:Nat))))(hw:w.length≤900000) :
  ∃v':Vk,FV ⟨v.loc,hp⟩=some (.next,⟨v'.loc,hp⟩)∧CS v' nm rows cA (w++pR nm l0 r0 p q)∧v' 6=v 6:=by
 have hp1:=o1.a p ai
 have pG:=o2.a q yR
 refine cps λ_ KK=>?_
 obtain⟨k1,k2,k3,g,k4⟩:=vP hp1 pG o1.m o2.m
 refine KK ?_
 have iQ:=Ch (nm:=nm) (few:=nG l0 r0 p q) (k:=(nS l0 r0 p q).toNat) iv (w8 (nG l0 r0 p q % 3)) k3 (aa (i5 _) k1)
 unfold pR
 generalize nG l0 r0 p q=few at *
 subst k4
 have hE:=w8 ((g+1) % 3)
 have hEl:=Cg ((g+1) % 3)
 let E:=eS ((g+1) % 3)
 have e0:=Yj (v:=v) (hp:=hp) S.b S.c h6 h7 o1.f o2.f (aa hp1.2 (aa o1.m b9)) (aa pG.2 (aa o2.m b9))
 generalize nS l0 r0 p q=r at *
 let v1:Vk:=v.u 8 (some (.dat (.int r)))
 let v2:Vk:=v1.u 9 (some (.dat (.int ((g+1:Nat):Int))))
 let v3:Vk:=v2.u 10 (some (.dat (sD (dD (g+1)++E))))
 let v4:Vk:=v3.u 11 (some (.dat (sD (fK nm (g+1) E 0))))
 have e1:Hk ⟨v1.loc,hp⟩=some (.next,⟨v2.loc,hp⟩):=V1 (v:=v1) h6 h7 rfl k2
 have e2:Dw ⟨v2.loc,hp⟩=some (.next,⟨v3.loc,hp⟩):=WX (v:=v2) rfl (aa k3 b9)
 have e3:F9 ⟨v3.loc,hp⟩=some (.next,⟨v4.loc,hp⟩):=P5 (v:=v3) S.a rfl iv (aa k3 b9) hEl
 refine cps λ_ KK=>?_
 obtain⟨a,e4⟩:=S3 (v:=v4) (hp:=hp) (nm:=nm) (E:=E) (g:=g) hn iv hE k3 k1 rfl rfl rfl
 refine KK ?_
 let v5:Vk:=(v4.u 11 (some (.dat (sD (fK nm (g+1) E r.toNat))))).u 12 a
 let v6:Vk:=v5.u 13 (some (.dat (sD (mM (g+1) r.toNat))))
 have e5:EJ ⟨v5.loc,hp⟩=some (.next,⟨v6.loc,hp⟩):=Yb (v:=v5) rfl rfl k1 (aa k3 b9)
 have e6:Gv ⟨v6.loc,hp⟩=some (.next,⟨v6.loc,hp⟩):=cp6 (v:=v6) S.a rfl rfl rfl rfl iv hE k3 k1
 have e7:=Uc (v:=v6) (hp:=hp) (w:=w) (l:=fK nm (g+1) E r.toNat) S.d rfl (aa (ay hw iQ) b9)
 exact⟨_,(bm e0).trans <| (bm e1).trans <| (bm e2).trans <| (bm e3).trans <| (bm e4).trans <| (bm e5).trans <| (bm e6).trans <| (bm e7).trans rfl,⟨S.a,S.b,S.c,rfl⟩,rfl⟩
noncomputable def l5(nm:List Nat)(l0 r0 p:Nat)(cA:List Nat):List Nat:=(cA.map (pR nm l0 r0 p)).flatten
theorem QD(iv:nm.length≤10)(hp1:1≤p∧p≤l0)(pG:1≤q∧q≤r0)(hl:l0≤10)(hr:r0≤10):(pR nm l0 r0 p q).length≤2000:=by
 obtain⟨k1,k2,k3,g,k4⟩:=vP hp1 pG hl hr
 exact Ch iv (w8 _) k3 (aa (i5 _) k1)
theorem NK(iv:nm.length≤10)(hp1:1≤p∧p≤l0)(hl:l0≤10)(hr:r0≤10)(l)(h:∀q∈l,1≤q∧q≤r0)(Cz:l.length≤10):(l5 nm l0 r0 p l).length≤20000:=by
 refine aa (xT 2000 _ λw hw=>(bo hw).elim λq e=>e.2▸QD iv hp1 (h q e.1) hl hr) ?_
 rw[bI]
 exact ba 2000 Cz
theorem Hp{l:List Nat}{j:Nat}{d:PyData}(h:(aY l)[j]?=some d):∃x,l[j]?=some x∧d=.int (x:Nat):=by
 unfold aY at h
 replace h:=(List.getElem?_map)▸h
 cases hg:l[j]? with
|none=>rw[hg]at h;exact ar h
|some x=>rw[hg]at h;exact⟨x,rfl,(bX h).symm⟩
theorem YU(hn:iH nm)(iv:nm.length≤10)(o1:oM rows l0)(o2:oM cA r0)(ai:p∈rows)(S:CS v nm rows cA w)(h6:v 6=some (.dat (.int (p:Nat))))(hw:w.length≤800000) :
  ∃v':Vk,BD ⟨v.loc,hp⟩=some (.next,⟨v'.loc,hp⟩)∧CS v' nm rows cA (w++l5 nm l0 r0 p cA):=by
 refine cps λ_ KK=>?_
 obtain⟨σ',e,v',ig,S',_⟩:=BJ (T:=cr 7) (B:=FV) (its:=aY cA) (λj σ=>∃v':Vk,σ=⟨v'.loc,hp⟩∧CS v' nm rows cA (w++l5 nm l0 r0 p (cA.take j))∧v' 6=some (.dat (.int (p:Nat)))) (λj x σ hx ⟨v',ig,S,h6⟩=>by
  subst ig
  obtain⟨q,hq,hxq⟩:=Hp hx
  subst hxq
  have hpre:=NK (nm:=nm) iv (o1.a p ai) o1.m o2.m (cA.take j) (λy hy=>o2.a y (bE hy)) (aa (List.length_take_le' ..) o2.l)
  obtain⟨v2,e1,S2,h⟩:=VB (v:=v'.u 7 (some (.dat (.int (q:Nat))))) (hp:=hp) hn iv o1 o2 ai (aT hq) ⟨S.a,S.b,S.c,S.d⟩ h6 rfl (List.length_append.symm▸aa (ay hw hpre) b9)
  refine⟨_,_,rfl,e1,v2,rfl,?_,h.trans h6⟩
  unfold l5 at S2 ⊢
  rw[bJ]at S2
  rwa [List.take_add_one,hq,List.map_append,List.flatten_append,show(List.map (pR nm l0 r0 p) (some q).toList).flatten=pR nm l0 r0 p q from bM _]) ⟨v.loc,hp⟩ ⟨v,rfl,(bM w).symm▸S,h6⟩
 subst ig
 rw[qs,List.take_length]at S'
 refine KK ⟨v',?_,S'⟩
 unfold BD fu ej
 rw[aV rfl S.c]
 exact e
noncomputable def jB(nm:List Nat)(l0 r0:Nat)(rows cA:List Nat):List Nat:=(rows.map λp=>l5 nm l0 r0 p cA).flatten
theorem Jf(iv:nm.length≤10)(o2:oM cA r0)(hl:l0≤10)(l)(h:∀p∈l,1≤p∧p≤l0)(Cz:l.length≤10):(jB nm l0 r0 l cA).length≤200000:=by
 refine aa (xT 20000 _ λw hw=>(bo hw).elim λq e=>e.2▸NK iv (h q e.1) hl o2.m cA o2.a o2.l) ?_
 rw[bI]
 exact ba 20000 Cz
theorem Q5(hn:iH nm)(iv:nm.length≤10)(o1:oM rows l0)(o2:oM cA r0)(S:CS v nm rows cA []) :
  ∃v':Vk,CN ⟨v.loc,hp⟩=some (.next,⟨v'.loc,hp⟩)∧CS v' nm rows cA (jB nm l0 r0 rows cA):=by
 refine cps λ_ KK=>?_
 obtain⟨σ',e,v',ig,S'⟩:=BJ (T:=cr 6) (B:=aH BD bh) (its:=aY rows) (λj σ=>∃v':Vk,σ=⟨v'.loc,hp⟩∧CS v' nm rows cA (jB nm l0 r0 (rows.take j) cA)) (λj x σ hx ⟨v',ig,S⟩=>by
  subst ig
  obtain⟨p,ai,P8⟩:=Hp hx
  subst P8
  have hpre:=Jf (nm:=nm) iv o2 o1.m (rows.take j) (λy hy=>o1.a y (bE hy)) (aa (List.length_take_le' ..) o1.l)
  obtain⟨v2,e1,S2⟩:=YU (v:=v'.u 6 (some (.dat (.int (p:Nat))))) (hp:=hp) hn iv o1 o2 (aT ai) ⟨S.a,S.b,S.c,S.d⟩ rfl (aa hpre b9)
  refine⟨_,_,rfl,(bm e1).trans rfl,v2,rfl,?_⟩
  unfold jB at S2 ⊢
  rwa [List.take_add_one,ai,List.map_append,List.flatten_append,show(List.map (λp=>l5 nm l0 r0 p cA) (some p).toList).flatten=l5 nm l0 r0 p cA from bM _]) ⟨v.loc,hp⟩ ⟨v,rfl,S⟩
 subst ig
 rw[qs,List.take_length]at S'
 refine KK ⟨v',?_,S'⟩
 unfold CN fu ej
 rw[aV rfl S.b]
 exact e
end
structure Iu(t nm:List Nat)(rows:List Nat):Prop where
 len:t.length≤300000
 c:∀c∈t,c < 200
 w:∃W,d3 t []=nm::W∧(∀w∈nm::W,w≠[]∧w.length≤1000)∧ju (nm::W)=rows∧W.length≤9000
 n:iH nm
structure mF(t nm:List Nat)(rows:List Nat)(l0:Nat):Prop where
 b:Iu t nm rows
 r:oM rows l0
theorem iH.app(h1:iH a)(h2:iH b):iH (a++b):=by
 refine⟨⟨λe=>h1.p.1 (List.append_eq_nil_iff.mp e).1,λc hc=>(ae hc).elim (h1.p.2 c) (h2.p.2 c)⟩,?_,λc hc=>(ae hc).elim (h1.s c) (h2.s c),λc hc=>(ae hc).elim (h1.c c) (h2.c c)⟩
 have hd:=h1.d
 have eU:=h1.p.1
 cases a with
|nil=>exact absurd rfl eU
|cons c a =>
  by_cases hc:c=46
  ·subst hc
   have:(46::46::a).length=(46::a).length:=congrArg List.length hd
   exact absurd this (by simp)
  ·show nO (c::(a++b))=c::(a++b)
   unfold nO
   split
   ·rename_i e;cases e;exact absurd rfl hc
   ·rfl
theorem TQ{t1 t2 jX jW jw cA:List Nat}{l0 r0:Nat}{hp:List MO}(h1:mF t1 jX jw l0)(h2:mF t2 jW cA r0)(hn:(jX++jW).length≤10):AV [.dat (sD t1),.dat (sD t2)] hp=some (.dat (sD (jB (jX++jW) l0 r0 jw cA)),hp):=by
 refine cps λ_ KK=>?_
 obtain⟨W1,w1,RU,Qm,w1c⟩:=h1.b.w
 obtain⟨W2,w2,XS,XT,w2c⟩:=h2.b.w
 refine KK ?_
 replace hn:=bH▸hn
 let v0:Vk:=((Vk.e.u 0 (some (.dat (sD t1)))).u 1 (some (.dat (sD t2))))
 let v1:Vk:=v0.u 2 (some (.dat (sD (jX++jW))))
 let v2:Vk:=v1.u 3 (some (.dat (.list (aY jw))))
 let v3:Vk:=v2.u 4 (some (.dat (.list (aY cA))))
 let v4:Vk:=v3.u 5 (some (.dat (sD [])))
 have l1:t1.length < lim:=ah h1.b.len b9
 have l2:t2.length < lim:=ah h2.b.len b9
 have c1:∀c∈t1,c < 0x110000:=λc hc=>a9 (h1.b.c c hc) b9
 have c2:∀c∈t2,c < 0x110000:=λc hc=>a9 (h2.b.c c hc) b9
 have e0:C9 ⟨v0.loc,[]⟩=some (.next,⟨v1.loc,[]⟩):=PO (v:=v0) rfl rfl l1 c1 l2 c2 w1 w2 (aa (aa (ax _ _) hn) b9) (aa (aa (Nat.le_add_left _ _) hn) b9) (λc hc=>a9 (h1.b.n.c c hc) b9) (λc hc=>a9 (h2.b.n.c c hc) b9)
 have e1:x8 0 16 3 ⟨v1.loc,[]⟩=some (.next,⟨v2.loc,[]⟩):=(IA (v:=v1) (i:=0) (c:=16) (j:=3) (W:=jX::W1) (w1▸y6 (t:=t1) rfl l1 c1) RU (by rw[List.length_cons];(exact ah (by assumption) b9)) (λa=>rfl) rfl).trans (by rw[Qm];rfl)
 have e2:x8 1 15 4 ⟨v2.loc,[]⟩=some (.next,⟨v3.loc,[]⟩):=(IA (v:=v2) (i:=1) (c:=15) (j:=4) (W:=jW::W2) (w2▸y6 (t:=t2) rfl l2 c2) XS (by rw[List.length_cons];(exact ah (by assumption) b9)) (λa=>rfl) rfl).trans (by rw[XT];rfl)
 have e3:Ni ⟨v3.loc,[]⟩=some (.next,⟨v4.loc,[]⟩):=rfl
 refine cps λ_ KK=>?_
 obtain⟨v5,e4,S⟩:=Q5 (v:=v4) (hp:=[]) (h1.b.n.app h2.b.n) (List.length_append.symm▸hn) h1.r h2.r ⟨rfl,rfl,rfl,rfl⟩
 refine KK ?_
 have e5:aH (gr (aj 5)) bh ⟨v5.loc,[]⟩=some (.ret (.dat (sD (jB (jX++jW) l0 r0 jw cA))),⟨v5.loc,[]⟩):=vK (aV rfl S.d)
 have eX:Bb.1 ⟨dI [.dat (sD t1),.dat (sD t2)] 15,[]⟩=some (.ret (.dat (sD (jB (jX++jW) l0 r0 jw cA))),⟨v5.loc,[]⟩) :=
  (congrFun VW _).trans <| (bm e0).trans <| (bm e1).trans <| (bm e2).trans <| (bm e3).trans <| (bm e4).trans e5
 exact NA (ds:=[sD t1,sD t2]) rfl rfl eX
noncomputable def mr(nm:List Nat)(l0 r0 p q:Nat):List (List Nat):=nm::(q7 (nG l0 r0 p q) (nS l0 r0 p q).toNat).map dD
theorem abf{nm r:List Nat}{l0 r0 p q:Nat}(hn:iH nm)(hp1:1≤p∧p≤l0)(pG:1≤q∧q≤r0)(hl:l0≤10)(hr:r0≤10):d3 (pR nm l0 r0 p q++r) []=mr nm l0 r0 p q++d3 r []:=by
 obtain⟨k1,k2,k3,g,k4⟩:=vP hp1 pG hl hr
 unfold pR mr
 refine k4.symm▸?_
 exact QU hn (w8 _)
theorem Lc{nm r:List Nat}{l0 r0 p:Nat}(hn:iH nm)(hp1:1≤p∧p≤l0)(hl:l0≤10)(hr:r0≤10):∀cA:List Nat,(∀q∈cA,1≤q∧q≤r0)->d3 (l5 nm l0 r0 p cA++r) []=cA.flatMap (mr nm l0 r0 p)++d3 r []
|[],_=>rfl
|q::l,h=>by
  have e:l5 nm l0 r0 p (q::l)++r=pR nm l0 r0 p q++(l5 nm l0 r0 p l++r):=by
   unfold l5
   rw[bP,List.flatten_cons,bJ]
  rw[e,abf hn hp1 (h q (List.mem_cons_self ..)) hl hr,Lc hn hp1 hl hr l λx hx=>h x (List.mem_cons_of_mem _ hx),List.flatMap_cons,bJ]
theorem Jz{nm:List Nat}{l0 r0:Nat}(hn:iH nm)(hl:l0≤10)(hr:r0≤10){cA:List Nat}(h2:∀q∈cA,1≤q∧q≤r0):∀rows:List Nat,(∀p∈rows,1≤p∧p≤l0)->d3 (jB nm l0 r0 rows cA) []=rows.flatMap λp=>cA.flatMap (mr nm l0 r0 p)
|[],_=>rfl
|p::l,h=>by
  have e:jB nm l0 r0 (p::l) cA=l5 nm l0 r0 p cA++jB nm l0 r0 l cA:=rfl
  rw[e,Lc hn (h p (List.mem_cons_self ..)) hl hr cA h2,Jz hn hl hr h2 l λx hx=>h x (List.mem_cons_of_mem _ hx),List.flatMap_cons]
noncomputable def Dg(l0 r0 p q:Nat):List Nat:=q7 (nG l0 r0 p q) (nS l0 r0 p q).toNat
noncomputable def gB(l r:List Nat):List Nat:=l.flatMap λp=>r.flatMap λq=>Dg ((l[0]?).getD 0) ((r[0]?).getD 0) p q
theorem Ag(g):∀k,∀x∈q7 (g+1) k,1≤x∧x≤g+1+k
|0,x,h=>(ak h).symm▸⟨aS (bZ _),am _⟩
|k+1,x,h=>(aI h).elim (λe=>e.symm▸⟨aS (bZ _),am _⟩) λh=>⟨(Ag g k x h).1,Nat.le_succ_of_le (Ag g k x h).2⟩
theorem La(few):∀k,(q7 few k).length=k+1
|0=>rfl
|k+1=>congrArg (·+1) (La few k)
theorem PR(a b):ju (a++b)=ju a++ju b:=by unfold ju;rw[List.filter_append,List.map_append]
theorem LN:∀l:List Nat,(∀x∈l,1≤x)->ju (l.map dD)=l
|[],_=>rfl
|x::l,h=>by
  have ih:=LN l λy hy=>h y (al _ hy)
  have hx:=h x (aq ..)
  obtain⟨n,rfl⟩:∃n,x=n+1:=⟨x - 1,by (exact(Nat.sub_add_cancel (by assumption)).symm)⟩
  unfold ju at ih ⊢
  rw[bP,List.filter_cons_of_pos (show qP (dD (n+1))=true from rfl),bP,ih,bL]
theorem Nj{nm:List Nat}(hn:iH nm):qP nm=false:=by
 have hd:=hn.d
 have eU:=hn.p.1
 cases nm with
|nil=>exact absurd rfl eU
|cons c a =>
  by_cases hc:c=46
  ·subst hc
   have:(46::46::a).length=(46::a).length:=congrArg List.length hd
   exact absurd this (by simp)
  ·show(some c==some 46)=false
   exact beq_eq_false_iff_ne.mpr λe=>hc (bX e)
theorem aaG{nm:List Nat}{l0 r0 p q:Nat}(hn:iH nm)(hp1:1≤p∧p≤l0)(pG:1≤q∧q≤r0)(hl:l0≤10)(hr:r0≤10):ju (mr nm l0 r0 p q)=Dg l0 r0 p q:=by
 obtain⟨k1,k2,k3,g,k4⟩:=vP hp1 pG hl hr
 unfold mr Dg
 rw[k4]
 have:=LN (q7 (g+1) (nS l0 r0 p q).toNat) λx hx=>(Ag g _ x hx).1
 unfold ju at this ⊢
 rw[List.filter_cons_of_neg (by rw[Nj hn];exact aw)]
 exact this
theorem DI(f:α->List (List Nat))(g:α->List Nat):∀l:List α,(∀x∈l,ju (f x)=g x)->ju (l.flatMap f)=l.flatMap g
|[],_=>rfl
|x::l,h=>by rw[List.flatMap_cons,List.flatMap_cons,PR,h x (List.mem_cons_self ..),DI f g l λy hy=>h y (List.mem_cons_of_mem _ hy)]
theorem OB{nm:List Nat}{l0 r0 p q:Nat}(hn:iH nm)(iv:nm.length≤10)(hp1:1≤p∧p≤l0)(pG:1≤q∧q≤r0)(hl:l0≤10)(hr:r0≤10):(∀w∈mr nm l0 r0 p q,w≠[]∧w.length≤1000)∧(mr nm l0 r0 p q).length≤30:=by
 obtain⟨k1,k2,k3,g,k4⟩:=vP hp1 pG hl hr
 unfold mr
 refine⟨λw hw=>?_,by rw[List.length_cons,bI,La];exact aa (az (az (aa (i5 _) k1) 1) 1) b9⟩
 rcases aI hw with hw|hw
 ·rw[hw];exact⟨hn.p.1,aa iv b9⟩
 ·obtain⟨x,hx,e⟩:=bo hw
  rw[k4]at hx
  have h1:=Ag g _ x hx
  rw[← e]
  refine⟨λq=>?_,by rw[bL];exact aa h1.2 (aa (ay (aa (aU k4.symm) k3) (aa (i5 _) k1)) b9)⟩
  have h2:=congrArg List.length q
  rw[bL,List.length_nil]at h2
  rw[h2]at h1
  exact Nat.not_succ_le_zero 0 h1.1
theorem sH(M)(f:α->List β):∀l:List α,(∀x∈l,(f x).length≤M)->(l.flatMap f).length≤l.length*M
|[],_=>List.flatMap_nil.symm▸bZ _
|x::l,h=>by
  rw[List.flatMap_cons,bH,List.length_cons,Nat.succ_mul,Nat.add_comm]
  exact ay (sH M f l λy hy=>h y (al _ hy)) (h x (aq ..))
theorem KH(h1:mF t1 jX jw l0)(h2:mF t2 jW cA r0)(iv:(jX++jW).length≤10):Iu (jB (jX++jW) l0 r0 jw cA) (jX++jW) (gB jw cA):=by
 have hn:=h1.b.n.app h2.b.n
 have o1:=h1.r
 have o2:=h2.r
 have hW:=Jz hn o1.m o2.m o2.a jw o1.a
 have yT:∀w∈(jw.flatMap λp=>cA.flatMap (mr (jX++jW) l0 r0 p)),w≠[]∧w.length≤1000:=λw hw=>by
  obtain⟨p,hp,hw⟩:=List.mem_flatMap.mp hw
  obtain⟨q,hq,hw⟩:=List.mem_flatMap.mp hw
  exact(OB hn iv (o1.a p hp) (o2.a q hq) o1.m o2.m).1 w hw
 have hlen:(jw.flatMap λp=>cA.flatMap (mr (jX++jW) l0 r0 p)).length≤9000:=by
  refine aa (sH 300 _ jw λp hp=>aa (sH 30 _ cA λq hq=>(OB hn iv (o1.a p hp) (o2.a q hq) o1.m o2.m).2) (ba 30 o2.l)) (aa (ba 300 o1.l) b9)
 have HF:ju (jw.flatMap λp=>cA.flatMap (mr (jX++jW) l0 r0 p))=gB jw cA:=by
  unfold gB
  refine o1.f.symm▸o2.f.symm▸?_
  exact DI _ _ jw λp hp=>DI _ _ cA λq hq=>aaG hn (o1.a p hp) (o2.a q hq) o1.m o2.m
 have Sm:∃W,(jw.flatMap λp=>cA.flatMap (mr (jX++jW) l0 r0 p))=(jX++jW)::W:=by
  have f1:=o1.f
  have f2:=o2.f
  cases jw with
 |nil=>exact ar f1
 |cons p l=>cases cA with
  |nil=>exact ar f2
  |cons q l2=>exact⟨_,rfl⟩
 obtain⟨W,hh⟩:=Sm
 rw[hh]at hW yT hlen HF
 refine⟨aa (Jf iv o2 o1.m jw o1.a o1.l) b9,λc hc=>?_,⟨W,hW,yT,HF,aa (bx _) hlen⟩,hn⟩
 unfold jB at hc
 obtain⟨w,hw,hc⟩:=List.mem_flatten.mp hc
 obtain⟨p,hp,e⟩:=bo hw
 replace hc:=e.symm▸hc
 unfold l5 at hc
 obtain⟨w,hw,hc⟩:=List.mem_flatten.mp hc
 obtain⟨q,hq,e⟩:=bo hw
 replace hc:=e.symm▸hc
 exact Jn hn.c (w8 _) c hc
noncomputable def xB(k:Nat):List Nat:=[97+k,46]
theorem Mp(hk:k < 3):iH (xB k):=by
 refine⟨⟨b8 _ _,λc hc=>?_⟩,?_,λc hc=>?_,λc hc=>?_⟩
 ·rcases aI hc with h|h
  ·rw[h];exact⟨bB (bu b9 (ax 97 k)),bB (bu b9 (ax 97 k))⟩
  ·rw[ak h];decide
 ·exact mU k hk rfl rfl rfl
 ·rcases aI hc with h|h
  ·rw[h];exact Ok hk
  ·rw[ak h];exact D1
 ·rcases aI hc with h|h
  ·rw[h];exact bu (Nat.add_lt_add_left hk 97) b9
  ·rw[ak h];decide
theorem DZ(hk:k < 3)(hz:z < 4):mF (kO k z e) (xB k) [z+1] (z+1):=by
 have hl:=MN (k:=k) (e:=e) hz
 refine⟨⟨aa hl b9,LX hk,⟨[dD (z+1)],WG hk,λw hw=>?_,?_,(show 1≤9000 by decide)⟩,Mp hk⟩,⟨rfl,λp hp=>?_,by (exact aa (by assumption) b9),(show 1≤10 by decide)⟩⟩
 ·rcases aI hw with h|h
  ·rw[h];exact⟨b8 _ _,(show 2≤1000 by decide)⟩
  ·rw[ak h];exact⟨b8 46 (dD z),by rw[bL];(exact aa (by assumption) b9)⟩
 ·have h1:=Nj (Mp hk)
  unfold ju
  rw[List.filter_cons_of_neg (by rw[h1];exact aw)]
  show[(dD (z+1)).length]=_
  rw[bL]
 ·rw[ak hp];exact⟨aS (bZ _),am _⟩
theorem KB(h1:F ⟨L,hp1⟩=some (p,bU))(h2:G ⟨L,bU⟩=some (ps,vr)):aM F G ⟨L,hp1⟩=some (p::ps,vr):=by
 unfold aM aN
 rw[h1]
 dsimp only
 exact h2.symm▸rfl
theorem J2(h:G ⟨L,hp1⟩=some (ps,bU))(k:H ps bU=q):j9 G H ⟨L,hp1⟩=q:=by
 unfold j9
 refine h.symm▸?_
 exact k
theorem pI{F1 F2:EF}{L:Loc}{hp1 bU:List MO}{x y:List Nat}(h1:F1 ⟨L,hp1⟩=some (.dat (sD x),bU))(h2:F2 ⟨L,bU⟩=some (.dat (sD y),bU))(h:x.length+y.length≤lim):aB (aZ .Add F1 F2) ⟨L,hp1⟩=some (.dat (sD (x++y)),bU):=bS (op:=.Add) h1 h2 (add_str h)
section
variable {v:Vs}{P:Addr}{fl f:Bool}{wl pb:List PyData}{s:List Nat}{n:Int}{hp:List MO}{x y z nx ny nz rx ry rz t nm:List Nat}{lx ly lz Pk:Nat}{W:List (List Nat)}
noncomputable abbrev G0:XF:=aH DH.1 bh
theorem Pt(h:v 9=some (.obj 3))(A:mF x nx rx lx)(B:mF y ny ry ly)(hn:(nx++ny).length≤10)(hl:pb.length≤100) :
  G0 ⟨v.loc,hN P fl wl s f n (sD x::sD y::pb)⟩=some (.next,⟨v.loc,hN P fl wl s f n (pb++[sD (jB (nx++ny) lx ly rx ry)])⟩):=by
 have hg:=ef (L:=v.loc) (i:=9) rfl h
 have e1:getM ⟨v.loc,hN P fl wl s f n (sD x::sD y::pb)⟩=some (.dat (sD x),hN P fl wl s f n (sD y::pb)):=Ad hg (ah (aS hl) b9)
 have e2:getM ⟨v.loc,hN P fl wl s f n (sD y::pb)⟩=some (.dat (sD y),hN P fl wl s f n pb):=Ad hg (by unfold lim;(exact ah (by assumption) b9))
 have e3:j9 (aM getM (aM getM bA)) AV ⟨v.loc,hN P fl wl s f n (sD x::sD y::pb)⟩=some (.dat (sD (jB (nx++ny) lx ly rx ry)),hN P fl wl s f n pb) :=
  J2 (KB e1 (KB e2 rfl)) (TQ A B hn)
 have e4:DH.1 ⟨v.loc,hN P fl wl s f n (sD x::sD y::pb)⟩=some (.next,⟨v.loc,hN P fl wl s f n (pb++[sD (jB (nx++ny) lx ly rx ry)])⟩):=by
  show pq (ub (j9 (aM getM (aM getM bA)) AV)) _=_
  exact pA (Iq hg e3 (aa hl b9))
 exact(bm e4).trans rfl
theorem Uu(h:v 9=some (.obj 3))(A:mF x nx rx lx)(B:mF y ny ry ly)(C:mF z nz rz lz)(AB:mF (jB (nx++ny) lx ly rx ry) (nx++ny) (gB rx ry) Pk)(hn:(nx++ny).length≤10)(Ak:(nz++(nx++ny)).length≤10) :
  ∃a,E1.1 ⟨v.loc,hN P fl wl s f n [sD x,sD y,sD z]⟩=some (.next,⟨(v.u 5 a).loc,hN P fl wl s f n [sD (jB (nz++(nx++ny)) lz Pk rz (gB rx ry))]⟩):=by
 let v1:Vs:=v.u 5 (some (.dat (.int 0)))
 let v2:Vs:=v.u 5 (some (.dat (.int (0+1))))
 have e1:=Pt (v:=v1) (P:=P) (fl:=fl) (wl:=wl) (s:=s) (f:=f) (n:=n) (pb:=[sD z]) h A B hn (av rfl)
 have e2:=Pt (v:=v2) (P:=P) (fl:=fl) (wl:=wl) (s:=s) (f:=f) (n:=n) (pb:=[]) h C AB Ak (av rfl)
 refine⟨some (.dat (.int (0+1))),?_⟩
 show fu (fE (aM (iC 2) bA)) (λis n=>cx stepI (cr 5) G0 n is) _=_
 unfold fu
 rw[sr (N:=2) (by decide) (show iC 2 ⟨v.loc,hN P fl wl s f n [sD x,sD y,sD z]⟩=some (.dat (.int ((2:Nat):Int)),_)from rfl)]
 show cx stepI (cr 5) G0 3 (.rem [.int 0,.int (0+1)]) ⟨v.loc,hN P fl wl s f n [sD x,sD y,sD z]⟩=_
 rw[iM (is':=.rem [.int (0+1)]) (d:=.int 0) (loc:=v1.loc) rfl rfl e1]
 rw[iM (is':=.rem []) (d:=.int (0+1)) (loc:=v2.loc) rfl rfl e2]
 rfl
theorem Up(h:v 9=some (.obj 3))(ht:t.length≤300000)(hc:∀c∈t,c < 200)(hW:d3 t []=W):Cl.1 ⟨v.loc,hN P fl wl s f n [sD t]⟩=some (.next,⟨(v.u 12 (some (.dat (.list (ce W))))).loc,hN P fl wl s f n []⟩):=by
 have e1:getM ⟨v.loc,hN P fl wl s f n [sD t]⟩=some (.dat (sD t),hN P fl wl s f n []):=Ad (ef rfl h) (by decide)
 refine hW▸?_
 exact dR (mE e1 (HT (ah ht b9) λc on=>a9 (hc c on) b9))
noncomputable def iJ(t i:Nat):Nat:=(t+i) % 3
noncomputable def w9(t:Nat):List Nat:=[97+iJ t 0,97+iJ t 1,97+iJ t 2]
theorem PD{t:Nat}(nq:v 11=some (.dat (.int (t:Nat))))(ht:t < 3):zf.1 ⟨v.loc,hp⟩=some (.next,⟨(v.u 13 (some (.dat (sD (w9 t))))).loc,hp⟩):=by
 have e:lr (some ((t:Nat):Int)) (some ((t+3:Nat):Int)) none (sD [97,98,99,97,98,99])=some (sD (w9 t)):=by
  exact mU t ht (by kernel_rfl) (by kernel_rfl) (by kernel_rfl)
 exact dR (vt (F:=sC [97,98,99,97,98,99]) (st:=gm) rfl (vf (aV rfl nq)) (vf (bS (op:=.Add) (F2:=iC 3) (d:=.int ((t+3:Nat):Int)) (aV rfl nq) rfl rfl)) rfl e)
noncomputable def yb(t:Nat):List Nat:=xB (iJ t 2)++(xB (iJ t 0)++xB (iJ t 1))
theorem UY{t:Nat}(wQ:v 12=some (.dat (.list (ce (yb t::W)))))(lR:v 13=some (.dat (sD (w9 t))))(hl:W.length≤10000):BS.1 ⟨v.loc,hp⟩=some (.next,⟨v.loc,hp⟩):=by
 have n13:aj 13 ⟨v.loc,hp⟩=some (.dat (sD (w9 t)),hp):=aV rfl lR
 have it:∀i:Nat,i < 3->eM (aj 13) (iC i) ⟨v.loc,hp⟩=some (.dat (sD [97+iJ t i]),hp):=λi hi=>jo (F2:=iC i) n13 rfl (by
  exact mU i hi rfl rfl rfl)
 have dot:∀{F:EF} {l:List Nat},F ⟨v.loc,hp⟩=some (.dat (sD l),hp)->l.length≤100->aB (aZ .Add F (sC [46])) ⟨v.loc,hp⟩=some (.dat (sD (l++[46])),hp):=λ{F l} hF hl=>bS (op:=.Add) (F2:=sC [46]) hF rfl (add_str (y:=[46]) (by rw[List.length_singleton];unfold lim;(exact ah (by assumption) b9)))
 have a1:=dot (it 2 (by decide)) (av rfl)
 have a2:=dot (l:=[97+iJ t 2]++[46]++[97+iJ t 0]) (pI a1 (it 0 (by decide)) (av rfl)) (av rfl)
 have a3:=dot (l:=[97+iJ t 2]++[46]++[97+iJ t 0]++[46]++[97+iJ t 1]) (pI a2 (it 1 (by decide)) (av rfl)) (av rfl)
 have e2:=GP (ds:=[sD (yb t)]) (jK a3 (show bA ⟨v.loc,hp⟩=some ([],hp)from rfl)) rfl (av rfl)
 exact wm (C:=cb .NotEq _ _) (gK (op:=.NotEq) (FG (aV rfl wQ) (aa (aS hl) b9)) e2 rfl rfl (Me [yb t]))
end
theorem KU:∀(m:Nat) (r:List Nat) (o:Nat),par (List.replicate m 40++r) false o=par r false (o+m)
|0,_,_=>rfl
|m+1,r,o=>by
  rw[List.replicate_succ]
  show par (List.replicate m 40++r) false (o+1)=_
  rw[KU m r (o+1),Nat.add_assoc,Nat.add_comm 1]
theorem He:∀(m:Nat) (r:List Nat) (o:Nat),par (List.replicate m 41++r) false o=if m≤o then par r false (o - m)else false
|0,_,o=>(if_pos (bZ o)).symm
|m+1,r,0=>(if_neg (Nat.not_succ_le_zero m)).symm
|m+1,r,o+1=>by
  rw[List.replicate_succ]
  show par (List.replicate m 41++r) false o=_
  rw[He m r o]
  by_cases h:m≤o
  ·rw[if_pos h,if_pos (Nat.succ_le_succ h),Nat.add_sub_add_right]
  ·rw[if_neg h,if_neg λq=>h (Nat.le_of_succ_le_succ q)]
noncomputable def ru(i:Nat):List Nat:=if i=0 then[]else if i=1 then[92,40]else if i=2 then[92,41]else[92,92]
theorem abJ(i)(r)(o):par (ru i++r) false o=par r false o:=by
 unfold ru
 by_cases h:i=0
 ·rw[if_pos h];rfl
 ·rw[if_neg h]
  by_cases h:i=1
  ·rw[if_pos h];rfl
  ·rw[if_neg h]
   by_cases h:i=2
   ·rw[if_pos h];rfl
   ·rw[if_neg h];rfl
theorem Fv(i):(ru i).length≤2∧∀c∈ru i,c=40∨c=41∨c=92:=by
 unfold ru
 by_cases h:i=0
 ·rw[if_pos h];exact⟨bZ _,λ_ h=>bT h⟩
 ·rw[if_neg h]
  by_cases h:i=1
  ·rw[if_pos h];decide
  ·rw[if_neg h]
   by_cases h:i=2
   ·rw[if_pos h];decide
   ·rw[if_neg h];decide
abbrev Fr:=List Nat×Nat×Nat
noncomputable def fX(x:Fr):PyData:=.tuple [sD x.1,.int (x.2.1:Nat),.int (x.2.2:Nat)]
noncomputable def nP(i z s:Nat)(t:List Nat):List Nat:=t++List.replicate s 41++List.replicate (z - s) 40++ru i
noncomputable def tx(i z:Nat)(x:Fr)(s:Nat):Fr:=(nP i z s x.1,x.2.1+(z - s),x.2.2+s)
noncomputable def nc(x:Fr)(s:Nat):Bool:=Nat.ble (x.2.2+s) x.2.1
noncomputable def jn(i z:Nat)(x:Fr):List Fr:=((List.range (z+1)).filter (nc x)).map (tx i z x)
structure mB(k:Nat)(x:Fr):Prop where
 ud:x.2.2≤x.2.1
 p:∀r,par (x.1++r) false 0=par r false (x.2.1 - x.2.2)
 l:x.1.length≤6*k
 c:∀c∈x.1,c=40∨c=41∨c=92
 b:x.2.1≤4*k
theorem Kr(h:mB k x)(r):par (nP i z s x.1++r) false 0=if s≤x.2.1 - x.2.2 then par r false (x.2.1 - x.2.2 - s+(z - s))else false:=by
 unfold nP
 rw[bJ,bJ,bJ,h.p,He]
 by_cases hs:s≤x.2.1 - x.2.2
 ·rw[if_pos hs,if_pos hs,KU,abJ]
 ·rw[if_neg hs,if_neg hs]
theorem Ku(h:∀c∈t,c=40∨c=41∨c=92):∀c∈nP i z s t,c=40∨c=41∨c=92:=λc hc=>by
 unfold nP at hc
 rcases ae hc with hc|hc
 ·rcases ae hc with hc|hc
  ·rcases ae hc with hc|hc
   ·exact h c hc
   ·exact .inr (.inl (b4 hc).2)
  ·exact .inl (b4 hc).2
 ·exact(Fv i).2 c hc
theorem HU(hs:s≤z):(nP i z s t).length≤t.length+z+2:=by
 have:=(Fv i).1
 unfold nP
 simp only[bH,bL]
 rw[Nat.add_assoc t.length,Nat.add_sub_of_le hs]
 exact aQ this _
theorem mB.step(h:mB k x)(hz:z≤4)(hs:s≤z)(ha:nc x s=true):mB (k+1) (tx i z x s):=by
 have Du:x.2.2+s≤x.2.1:=av ha
 refine⟨?_,λr=>?_,?_,Ku h.c,?_⟩
 ·show x.2.2+s≤x.2.1+(z - s)
  exact aa Du (ax ..)
 ·show par (nP i z s x.1++r) false 0=par r false (x.2.1+(z - s) - (x.2.2+s))
  rw[Kr h,if_pos (Nat.le_sub_of_add_le' Du),Nat.sub_sub,Nat.sub_add_comm Du]
 ·exact aa (HU hs) (az (ay h.l hz) 2)
 ·exact ay h.b (aa (b5 z s) hz)
theorem Yk:mB 0 ([],0,0):=⟨am _,λr=>rfl,am _,λ_ h=>bT h,am _⟩
theorem W9{t:List Nat}(h:∀c∈t,c=40∨c=41∨c=92):t.contains 34=false:=by
 rw[Bool.eq_false_iff]
 intro q
 have:=List.contains_iff_mem.mp q
 rcases h 34 this with h|h|h<;>exact absurd h (by decide)
theorem Ju{t:List Nat}(h:∀c∈t,c=40∨c=41∨c=92)(hl:t.length≤400)(hp:List MO):vT [.dat (sD t)] hp=some (.dat (.bool (par t false 0)),hp):=by
 have e:=wi t false (W9 h)
 rw[Tw hl (λc hc=>by rcases h c hc with h|h|h<;>rw[h]<;>decide) hp,e]
theorem vI{A B z s:Nat}(h1:B+s≤A)(h2:s≤z):((A:Int)+z - s - B - s).toNat=A - B - s+(z - s):=by
 obtain⟨c,rfl⟩:=Nat.le.dest h1
 obtain⟨d,rfl⟩:=Nat.le.dest h2
 rw[Nat.sub_sub,Nat.add_sub_cancel_left,Nat.add_sub_cancel_left,show((B+s+c:Nat):Int)+(s+d:Nat) - s - B - s=(c+d:Nat)by omega]
 rfl
theorem Qb{k i z s:Nat}{x:Fr}(h:mB k x)(hz:z≤4)(hs:s≤z):par (nP i z s x.1++List.replicate ((x.2.1:Int)+z - s - x.2.2 - s).toNat 41) false 0=nc x s:=by
 rw[Kr h]
 unfold nc
 by_cases lC:s≤x.2.1 - x.2.2
 ·have h1:=Nat.add_le_of_le_sub' h.ud lC
  rw[if_pos lC,← bM (List.replicate _ 41),He,vI h1 hs,if_pos (Nat.le_refl _),Nat.ble_eq_true_of_le h1,Nat.sub_self]
  rfl
 ·rw[if_neg lC]
  exact(Bool.eq_false_iff.mpr λq=>lC (Nat.le_sub_of_add_le' (av q))).symm
noncomputable def d7(ns:List Nat):Nat->List Fr
|0=>[([],0,0)]
|k+1=>(d7 ns k).flatMap (jn (cC ns k / 108 % 4) (((mO ns)[k]?).getD 0))
theorem CU(ns)(hk:k < 3):((mO ns)[k]?).getD 0 < 4:=by
 obtain⟨z,hz,h⟩:=yU ns hk
 rw[hz];exact h
theorem BY(ns):∀k,k≤3->∀x∈d7 ns k,mB k x
|0,_,x,hx=>by rw[ak hx];exact Yk
|k+1,h,x,hx=>by
  obtain⟨y,hy,hx⟩:=List.mem_flatMap.mp hx
  obtain⟨s,hs,e⟩:=bo hx
  have lC:=List.mem_filter.mp hs
  rw[← e]
  exact(BY ns k (bR h) y hy).step (aG (CU ns h)) (aC (List.mem_range.mp lC.1)) lC.2
theorem Pe(i z)(x):(jn i z x).length≤z+1:=by
 unfold jn
 rw[bI]
 exact aa (List.length_filter_le ..) (by rw[List.length_range];exact am _)
theorem CX(ns):∀k,k≤3->(d7 ns k).length≤4 ^ k
|0,_=>am 1
|k+1,h=>by
  refine aa (sH 4 _ (d7 ns k) λx _=>aa (Pe _ _ x) (CU ns h)) ?_
  rw[Nat.pow_succ]
  exact ba 4 (CX ns k (bR h))
theorem NV(ns):∀k,k≤3->d7 ns k≠[]
|0,_=>b8 _ _
|k+1,h=>λe=>by
  have ih:=NV ns k (bR h)
  cases hf:d7 ns k with
 |nil=>exact ih hf
 |cons x l =>
   have hx:x∈d7 ns k:=by rw[hf];exact aq ..
   have sy:=(BY ns k (bR h) x hx).ud
   have hm:tx (cC ns k / 108 % 4) (((mO ns)[k]?).getD 0) x 0∈d7 ns (k+1):=List.mem_flatMap.mpr ⟨x,hx,List.mem_map.mpr ⟨0,List.mem_filter.mpr ⟨List.mem_range.mpr (Nat.succ_pos _),Nat.ble_eq_true_of_le sy⟩,rfl⟩⟩
   rw[e]at hm
   exact bT hm
noncomputable def fF(bs:List MO)(T:List Fr):List MO:=bs++[.lst (T.map fX)]
theorem VE(bs)(T):(fF bs T)[bs.length]?=some (.lst (T.map fX)):=by unfold fF;exact List.getElem?_concat_length ..
theorem P1(bs)(T)(x):(fF bs T).set bs.length (.lst (T.map fX++[fX x]))=fF bs (T++[x]):=by
 unfold fF
 rw[List.set_append_right _ _ (Nat.le_refl _),Nat.sub_self,List.map_append]
 rfl
theorem vn{A B C:EF}{L:Loc}{hp:List MO}{a b c:PyData}(h1:A ⟨L,hp⟩=some (.dat a,hp))(h2:B ⟨L,hp⟩=some (.dat b,hp))(h3:C ⟨L,hp⟩=some (.dat c,hp)):aB (lH (aM A (aM B (aM C bA)))) ⟨L,hp⟩=some (.dat (.tuple [a,b,c]),hp):=by
 unfold aB lH
 refine(show aM A (aM B (aM C bA)) ⟨L,hp⟩=some ([.dat a,.dat b,.dat c],hp)from jK h1 (jK h2 (jK h3 rfl))).symm▸?_
 rfl
section
variable {v:Vs}{bs hp:List MO}{ns zs:List Nat}{T:List Fr}{x:Fr}{k s z m n i j:Nat}{t:List Nat}{h:Int}
theorem Ao(h2:d2 L 2=some (.dat (.list (aY zs))))(h5:d2 L 5=some (.dat (.int (k:Nat))))(hz:zs[k]?=some z)(hk:k < 3):eM (aj 2) (aj 5) ⟨L,hp⟩=some (.dat (.int (z:Nat)),hp) :=
 jo (hO h2) (hO h5) (n9 (rn hz) (aa (aG hk) b9))
theorem xb{F:EF}{L:Loc}{c:Nat}{i:Int}(h:F ⟨L,hp⟩=some (.dat (.int i),hp))(hi:i.natAbs≤1000):aB (aZ .Mult (sC [c]) F) ⟨L,hp⟩=some (.dat (sD (List.replicate i.toNat c)),hp) :=
 bS (op:=.Mult) (F1:=sC [c]) rfl h (AG (aa hi b9))
theorem a0(wA:v 16=some (.dat (sD t)))(pT:v 19=some (.dat (.int (s:Nat))))(h2:v 2=some (.dat (.list (aY zs))))(h5:v 5=some (.dat (.int (k:Nat))))(hz:zs[k]?=some z)(hk:k < 3)(hs:s≤z)(gN:z≤4)(ht:t.length≤100) :
  zQ.1 ⟨v.loc,hp⟩=some (.next,⟨(v.u 20 (some (.dat (sD (t++List.replicate s 41++List.replicate (z - s) 40))))).loc,hp⟩):=by
 have rJ:aj 19 ⟨v.loc,hp⟩=some (.dat (.int (s:Nat)),hp):=aV rfl pT
 have e1:=xb (c:=41) (i:=((s:Nat):Int)) rJ (by (exact aa (by assumption) (aa (by assumption) b9)))
 have e2:=xb (c:=40) (i:=((z - s:Nat):Int)) (bS (op:=.Sub) (Ao (hp:=hp) (L:=v.loc) (ef rfl h2) (ef rfl h5) hz hk) rJ (d:=.int ((z - s:Nat):Int)) (by show some (PyData.int ((z:Int) - (s:Int)))=_;rw[Int.natCast_sub hs])) (by (exact aa (b5 _ _) (aa (by assumption) b9)))
 rw[Int.toNat_natCast]at e1 e2
 exact dR (pI (pI (aV rfl wA) e1 (by rw[bL];unfold lim;exact aa (ay ht (aa hs gN)) b9)) e2 (by simp only[bH,bL];unfold lim;exact aa (ay (ay ht (aa hs gN)) (aa (b5 z s) gN)) b9))
theorem a1(h1:v 1=some (.dat (.list (aY ns))))(h5:v 5=some (.dat (.int (k:Nat))))(wu:v 20=some (.dat (sD u)))(hn:ns[k]?=some n)(hk:k < 3)(hu:u.length≤200) :
  yL.1 ⟨v.loc,hp⟩=some (.next,⟨(v.u 20 (some (.dat (sD (u++ru (n / 108 % 4)))))).loc,hp⟩):=by
 have e2:∀e,e < 4->([sD [],sD [92,40],sD [92,41],sD [92,92]]:List PyData)[e]?=some (sD (ru e)):=λe he=>by
  exact za e he rfl rfl rfl rfl
 have hm:=bD (n / 108) (show 0 < 4 by decide)
 have ht:=(Fv (n / 108 % 4)).1
 exact dR (pI (aV rfl wu) (jo (F1:=aB (gZ (aM (sC []) (aM (sC [92,40]) (aM (sC [92,41]) (aM (sC [92,92]) bA)))))) rfl (vm (q:=108) (m:=4) (aV rfl h1) (aV rfl h5) hn (a9 hk b9) (by decide) (by decide) (by decide)) (n9 (e2 _ hm) (aa (aG hm) b9))) (by unfold lim;exact aa (ay hu ht) b9))
theorem a2(rD:v 17=some (.dat (.int (i:Nat))))(rW:v 18=some (.dat (.int (j:Nat))))(pT:v 19=some (.dat (.int (s:Nat))))(h2:v 2=some (.dat (.list (aY zs))))(h5:v 5=some (.dat (.int (k:Nat))))(hz:zs[k]?=some z)(hk:k < 3) :
  Bw.1 ⟨v.loc,hp⟩=some (.next,⟨(v.u 21 (some (.dat (.int ((i:Int)+z - s - j - s))))).loc,hp⟩):=by
 have rJ:aj 19 ⟨v.loc,hp⟩=some (.dat (.int (s:Nat)),hp):=aV rfl pT
 exact dR (bS (op:=.Sub) (bS (op:=.Sub) (bS (op:=.Sub) (bS (op:=.Add) (aV rfl rD) (Ao (hp:=hp) (L:=v.loc) (ef rfl h2) (ef rfl h5) hz hk) rfl) rJ rfl) (aV rfl rW) rfl) rJ rfl)
theorem a3{u:List Nat}{b:Bool}(wu:v 20=some (.dat (sD u)))(SS:v 21=some (.dat (.int h)))(hu:∀c∈u,c=40∨c=41∨c=92)(hl:u.length≤200)(hh:h.natAbs≤100)(hb:par (u++List.replicate h.toNat 41) false 0=b) :
  BV.1 ⟨v.loc,hp⟩=some (.next,⟨(v.u 22 (some (.dat (.bool b)))).loc,hp⟩):=by
 have ek:=Ju (t:=u++List.replicate h.toNat 41) (λc hc=>(ae hc).elim (hu c) λhc=>.inr (.inl (b4 hc).2)) (by rw[bH,bL];exact aa (ay hl (aa (i5 h) hh)) b9) hp
 rw[hb]at ek
 exact dR (xq (pI (aV rfl wu) (xb (c:=41) (aV rfl SS) (aa hh b9)) (by rw[bL];unfold lim;exact aa (ay hl (aa (i5 h) hh)) b9)) ek)
theorem a4(Kz:v 22=some (.dat (.bool b)))(qo:v 15=some (.obj bs.length))(wu:v 20=some (.dat (sD t)))(rD:v 17=some (.dat (.int (i:Nat))))(rW:v 18=some (.dat (.int (j:Nat))))(pT:v 19=some (.dat (.int (s:Nat))))(h2:v 2=some (.dat (.list (aY zs))))(h5:v 5=some (.dat (.int (k:Nat))))(hz:zs[k]?=some z)(hk:k < 3)(hs:s≤z)(hT:T.length≤1000) :
  CP.1 ⟨v.loc,fF bs T⟩=some (.next,⟨v.loc,fF bs (if b then T++[(t,i+(z - s),j+s)]else T)⟩):=by
 have rJ:aj 19 ⟨v.loc,fF bs T⟩=some (.dat (.int (s:Nat)),fF bs T):=aV rfl pT
 have e1:aB (lH (aM (aj 20) (aM (aB (aZ .Sub (aB (aZ .Add (aj 17) (eM (aj 2) (aj 5)))) (aj 19))) (aM (aB (aZ .Add (aj 18) (aj 19))) bA)))) ⟨v.loc,fF bs T⟩=some (.dat (fX (t,i+(z - s),j+s)),fF bs T) :=
  vn (aV rfl wu) (bS (op:=.Sub) (bS (op:=.Add) (aV rfl rD) (Ao (L:=v.loc) (ef rfl h2) (ef rfl h5) hz hk) rfl) rJ (by
   show some (PyData.int ((i:Int)+z - s))=some (PyData.int ((i+(z - s):Nat):Int))
   rw[Int.natCast_add,Int.natCast_sub hs,Int.add_sub_assoc])) (bS (op:=.Add) (aV rfl rW) rJ rfl)
 have e2:=pA (append_eq (F1:=aj 15) (aV rfl qo) (VE bs T) (by rw[bI];exact aa hT b9) e1)
 rw[P1]at e2
 have c1:cb .Is (aj 22) (λσ=>some (.dat (.bool true),σ.hp)) ⟨v.loc,fF bs T⟩=some (b,fF bs T):=gK (op:=.Is) (aV rfl Kz) rfl rfl rfl (by cases b<;>rfl)
 have c2:cb .IsNot (aj 22) (λσ=>some (.dat (.bool false),σ.hp)) ⟨v.loc,fF bs T⟩=some (b,fF bs T):=gK (op:=.IsNot) (aV rfl Kz) rfl rfl rfl (by cases b<;>rfl)
 show cZ (cb .Is (aj 22) (λσ=>some (.dat (.bool true),σ.hp))) (aH (pq (mT (aj 15) (aB (lH (aM (aj 20) (aM (aB (aZ .Sub (aB (aZ .Add (aj 17) (eM (aj 2) (aj 5)))) (aj 19))) (aM (aB (aZ .Add (aj 18) (aj 19))) bA))))))) bh) (aH (cZ (cb .IsNot (aj 22) (λσ=>some (.dat (.bool false),σ.hp))) _ bh) bh) _=_
 cases b with
|true =>
  rw[sA c1]
  exact(bm e2).trans rfl
|false =>
  rw[oQ c1]
  exact(bm (wm c2)).trans rfl
noncomputable def C6:XF:=aH zQ.1 (aH yL.1 (aH Bw.1 (aH BV.1 (aH CP.1 bh))))
theorem RR(hx:mB k x)(h1:v 1=some (.dat (.list (aY ns))))(h2:v 2=some (.dat (.list (aY zs))))(h5:v 5=some (.dat (.int (k:Nat))))(qo:v 15=some (.obj bs.length))(wA:v 16=some (.dat (sD x.1)))(rD:v 17=some (.dat (.int (x.2.1:Nat))))(rW:v 18=some (.dat (.int (x.2.2:Nat))))(pT:v 19=some (.dat (.int (s:Nat))))
  (hn:ns[k]?=some n) (hz:zs[k]?=some z) (hk:k < 3) (hs:s≤z) (gN:z≤4) (hT:T.length≤1000) :
  ∃σ,C6 ⟨v.loc,fF bs T⟩=some (.next,σ)∧Lp [20,21,22] 5 (some (.dat (.int (k:Nat)))) v (fF bs (if nc x s then T++[tx (n / 108 % 4) z x s]else T)) σ:=by
 let H:=fF bs T
 let i:=n / 108 % 4
 let v1:Vs:=v.u 20 (some (.dat (sD (x.1++List.replicate s 41++List.replicate (z - s) 40))))
 let v2:Vs:=v1.u 20 (some (.dat (sD (nP i z s x.1))))
 let v3:Vs:=v2.u 21 (some (.dat (.int ((x.2.1:Int)+z - s - x.2.2 - s))))
 let v4:Vs:=v3.u 22 (some (.dat (.bool (nc x s))))
 have Am:=hx.l
 have Mi:=hx.b
 have sy:=hx.ud
 have hrl:=HU (i:=i) (t:=x.1) hs
 have e0:zQ.1 ⟨v.loc,H⟩=some (.next,⟨v1.loc,H⟩):=a0 wA pT h2 h5 hz hk hs gN (aa Am (aa (bc 6 (aC hk)) b9))
 have e1:yL.1 ⟨v1.loc,H⟩=some (.next,⟨v2.loc,H⟩):=a1 (v:=v1) h1 h5 rfl hn hk (by simp only[bH,bL];exact aa (ay (ay (aa Am (bc 6 (aC hk))) (aa hs gN)) (aa (b5 z s) gN)) b9)
 have e2:Bw.1 ⟨v2.loc,H⟩=some (.next,⟨v3.loc,H⟩):=a2 (v:=v2) rD rW pT h2 h5 hz hk
 have e3:BV.1 ⟨v3.loc,H⟩=some (.next,⟨v4.loc,H⟩):=a3 (v:=v3) rfl rfl (Ku hx.c) (aa hrl (aa (az (ay (aa Am (bc 6 (aC hk))) gN) 2) b9)) (aa (Int.natAbs_sub_le _ _) (aa (ay (aa (Int.natAbs_sub_le _ _) (ay (aa (Int.natAbs_sub_le _ _) (ay (ay (aa Mi (bc 4 (aC hk))) gN) (aa hs gN))) (aa sy (aa Mi (bc 4 (aC hk)))))) (aa hs gN)) b9)) (Qb hx gN hs)
 have e4:=a4 (v:=v4) (bs:=bs) (T:=T) (t:=nP i z s x.1) (b:=nc x s) (i:=x.2.1) (j:=x.2.2) rfl qo rfl rD rW pT h2 h5 hz hk hs hT
 exact⟨_,(bm e0).trans <| (bm e1).trans <| (bm e2).trans <| (bm e3).trans <| (bm e4).trans rfl,.mk v4 ((((Kp.rf.u rfl).u rfl).u rfl).u rfl) h5⟩
theorem Uf(p:Nat->Bool)(g:Nat->α)(T:List α)(j):(if p j then T++((List.range j).filter p).map g++[g j]else T++((List.range j).filter p).map g)=T++((List.range (j+1)).filter p).map g:=by
 rw[List.range_succ,List.filter_append,List.map_append]
 cases h:p j with
|true=>rw[if_pos rfl,List.filter_cons_of_pos h,bJ];rfl
|false=>rw[if_neg aw,List.filter_cons_of_neg (h.symm▸aw)];exact congrArg (T++·) (bM _).symm
theorem zg(hx:mB k x)(h1:v 1=some (.dat (.list (aY ns))))(h2:v 2=some (.dat (.list (aY zs))))(h5:v 5=some (.dat (.int (k:Nat))))(qo:v 15=some (.obj bs.length))(wA:v 16=some (.dat (sD x.1)))(rD:v 17=some (.dat (.int (x.2.1:Nat))))(rW:v 18=some (.dat (.int (x.2.2:Nat))))
  (hn:ns[k]?=some n) (hz:zs[k]?=some z) (hk:k < 3) (gN:z≤4) (hT:T.length≤900) :
  ∃σ,FC.1 ⟨v.loc,fF bs T⟩=some (.next,σ)∧Lp [19,20,21,22] 5 (some (.dat (.int (k:Nat)))) v (fF bs (T++jn (n / 108 % 4) z x)) σ:=by
 have q:=vL (B:=C6) (t:=19) (l:=[19,20,21,22]) (H:=λj=>fF bs (T++((List.range j).filter (nc x)).map (tx (n / 108 % 4) z x))) (x:=λ_=>some (.dat (.int (k:Nat)))) (v:=v) (λk=>.int (k:Nat)) (iz (z+1) 0 1) (λ_ _=>B0) rfl (λ_ _=>rfl) (λ_ _=>rfl) h5 λj hj w K p q=>by
  have hl:(T++((List.range j).filter (nc x)).map (tx (n / 108 % 4) z x)).length≤1000:=by
   rw[bH,bI]
   have:=List.length_filter_le (nc x) (List.range j)
   rw[List.length_range]at this
   exact aa (ay hT (aa this (aa (aC hj) gN))) b9
  obtain⟨σ,e,r⟩:=RR (v:=w) (bs:=bs) (s:=j) hx ((K 1 rfl).trans h1) ((K 2 rfl).trans h2) p ((K 15 rfl).trans qo) ((K 16 rfl).trans wA) ((K 17 rfl).trans rD) ((K 18 rfl).trans rW) q hn hz hk (aC hj) gN hl
  exact⟨σ,e,Uf (nc x) _ T j▸r.to K rfl⟩
 rw[show T++((List.range 0).filter (nc x)).map (tx (n / 108 % 4) z x)=T from bM T]at q
 exact q.imp λ_ q=>⟨(show fu (fE (aM (aB (aZ .Add (eM (aj 2) (aj 5)) (iC 1))) bA)) (λis n=>cx stepI (cr 19) C6 n is) _=_ from pW (sr (N:=z+1) (aa (aS gN) b9) (bS (op:=.Add) (F2:=iC 1) (Ao (L:=v.loc) (ef rfl h2) (ef rfl h5) hz hk) rfl rfl)) q.1),q.2⟩
end
section
variable {v:Vs}{bs hp H0:List MO}{ns zs:List Nat}{T fr:List Fr}{x:Fr}{k s z m n i j:Nat}{t:List Nat}
noncomputable abbrev KG:XF:=aH FC.1 bh
noncomputable abbrev jk:List Nat:=[16,17,18,19,20,21,22]
noncomputable def uN(v:Vs)(k:Nat)(bs:List MO)(i z:Nat)(fr:List Fr)(j:Nat):St->Prop:=Lp jk 5 (some (.dat (.int (k:Nat)))) v (fF bs ((fr.take j).flatMap (jn i z)))
theorem Sg(gy:∀x∈fr,mB k x)(tF:fr.length≤100)(h1:v 1=some (.dat (.list (aY ns))))(h2:v 2=some (.dat (.list (aY zs))))(qo:v 15=some (.obj bs.length))(hn:ns[k]?=some n)(hz:zs[k]?=some z)(hk:k < 3)(gN:z≤4)
  (j) (d) (σ) (hd:(fr.map fX)[j]?=some d) (hI:uN v k bs (n / 108 % 4) z fr j σ):∃loc σ',mz 16 17 18 d σ.loc=some loc∧KG ⟨loc,σ.hp⟩=some (.next,σ')∧uN v k bs (n / 108 % 4) z fr (j+1) σ':=by
 rw[List.getElem?_map]at hd
 cases hg:fr[j]? with
|none=>rw[hg]at hd;exact ar hd
|some x =>
  rw[hg]at hd
  cases hd
  cases hI with|mk w K p =>
  have hl:((fr.take j).flatMap (jn (n / 108 % 4) z)).length≤900:=aa (sH 5 _ _ λy _=>aa (Pe _ _ y) (aS gN)) (aa (ba 5 (aa (List.length_take_le' j fr) tF)) b9)
  obtain⟨σ,e1,q⟩:=zg (v:=((w.u 16 (some (.dat (sD x.1)))).u 17 (some (.dat (.int (x.2.1:Nat))))).u 18 (some (.dat (.int (x.2.2:Nat))))) (bs:=bs) (gy x (aT hg)) ((K 1 rfl).trans h1) ((K 2 rfl).trans h2) p ((K 15 rfl).trans qo) rfl rfl rfl hn hz hk gN hl
  refine⟨_,σ,rfl,(bm e1).trans rfl,?_⟩
  unfold uN
  rw[List.take_add_one,hg,List.flatMap_append,show(some x).toList.flatMap (jn (n / 108 % 4) z)=jn (n / 108 % 4) z x from bM _]
  exact q.to (((K.u rfl).u rfl).u rfl) rfl
theorem p1(gy:∀x∈fr,mB k x)(tF:fr.length≤100)(h1:v 1=some (.dat (.list (aY ns))))(h2:v 2=some (.dat (.list (aY zs))))(h5:v 5=some (.dat (.int (k:Nat))))(qo:v 15=some (.obj bs.length))(hn:ns[k]?=some n)(hz:zs[k]?=some z)(hk:k < 3)(gN:z≤4)
  (Zk:v 14=some (.dat (.list (fr.map fX)))∨∃i,v 14=some (.obj i)∧bs[i]?=some (.lst (fr.map fX))) :
  ∃σ,Dd.1 ⟨v.loc,fF bs []⟩=some (.next,σ)∧Lp jk 5 (some (.dat (.int (k:Nat)))) v (fF bs (fr.flatMap (jn (n / 108 % 4) z))) σ:=by
 have dN:=Sg (v:=v) (bs:=bs) gy tF h1 h2 qo hn hz hk gN
 have h0:uN v k bs (n / 108 % 4) z fr 0 ⟨v.loc,fF bs []⟩:=.mk v .rf h5
 have hT:uN v k bs (n / 108 % 4) z fr (fr.map fX).length=Lp jk 5 (some (.dat (.int (k:Nat)))) v (fF bs (fr.flatMap (jn (n / 108 % 4) z))):=by unfold uN;rw[bI,List.take_length]
 show ∃σ,fu (ej (aj 14)) (λis n=>cx stepI (mz 16 17 18) KG n is) _=_∧_
 rcases Zk with hf|⟨i,hf,hb⟩
 ·exact(BJ _ dN _ h0).imp λσ q=>⟨pW (S:=ej (aj 14)) (by unfold ej;rw[aV rfl hf];rfl) q.1,hT▸q.2⟩
 ·have dJ:=(List.getElem?_eq_some_iff.mp hb).1
  have hat:∀T,(fF bs T)[i]?=some (.lst (fr.map fX)):=λT=>by unfold fF;rw[List.getElem?_append_left dJ];exact hb
  exact(CB (i:=i) (l:=fr.map fX) _ (λk σ q=>by cases q;exact hat _) dN _ 0 _ _ (Nat.zero_add _) (a7 _) h0).imp λσ q=>⟨pW (Ax (F:=aj 14) (aV rfl hf) (hat [])) q.1,hT▸q.2⟩
theorem YZ:B5.1 ⟨v.loc,hp⟩=some (.next,⟨(v.u 14 (some (.dat (.list [fX ([],0,0)])))).loc,hp⟩):=rfl
noncomputable def fJ(ns:List Nat)(k:Nat):List MO:=(List.range k).map λj=>MO.lst ((d7 ns (j+1)).map fX)
noncomputable def Pn(n k:Nat):PV:=if k=0 then .dat (.list [fX ([],0,0)])else .obj (n+(k - 1))
theorem yr(ns)(k):(fJ ns k).length=k:=by unfold fJ;rw[bI,List.length_range]
theorem M8(ns)(k):fJ ns (k+1)=fJ ns k++[.lst ((d7 ns (k+1)).map fX)]:=by unfold fJ;rw[List.range_succ,List.map_append];rfl
theorem f18:An.1=bN (aj 15) (dg 14):=rfl
noncomputable abbrev MG:XF:=aH Fd.1 (aH Dd.1 (aH An.1 bh))
theorem YK(H0)(ns)(k)(h:v 14=some (Pn H0.length k)):v 14=some (.dat (.list ((d7 ns k).map fX)))∨∃i,v 14=some (.obj i)∧(H0++fJ ns k)[i]?=some (.lst ((d7 ns k).map fX)):=by
 cases k with
|zero=>exact .inl h
|succ k =>
  refine .inr ⟨H0.length+k,h,?_⟩
  rw[List.getElem?_append_right (Nat.le_add_right ..),Nat.add_sub_cancel_left,M8,List.getElem?_append_right (by rw[yr];exact am _),yr,Nat.sub_self]
  rfl
theorem Qa(h1:v 1=some (.dat (.list (aY ns))))(h2:v 2=some (.dat (.list (aY (mO ns)))))(kH:v 14=some (.dat (.list [fX ([],0,0)])))(hl:ns.length=3) :
  ∃σ,GV.1 ⟨v.loc,H0⟩=some (.next,σ)∧Lp (5::15::14::jk) 14 (some (.obj (H0.length+2))) v (H0++fJ ns 3) σ:=by
 have q:=vL (B:=MG) (t:=5) (l:=5::15::14::jk) (H:=λk=>H0++fJ ns k) (x:=λk=>some (Pn H0.length k)) (v:=v) (λk=>.int (k:Nat)) (iz 3 0 1) (λ_ _=>B0) rfl (λ_ _=>rfl) (λ_ _=>rfl) kH λk hk w K p q=>by
  obtain⟨z,hz,gN⟩:=yU ns hk
  have tF:(d7 ns k).length≤100:=aa (CX ns k (aG hk)) (aa (Nat.pow_le_pow_right (by decide) (aG hk)) b9)
  have hH:fF (H0++fJ ns k) ((d7 ns k).flatMap (jn (cC ns k / 108 % 4) z))=H0++fJ ns (k+1):=by
   show(H0++fJ ns k)++[.lst _]=_
   rw[M8,bJ]
   show _=H0++(fJ ns k++[.lst (((d7 ns k).flatMap (jn (cC ns k / 108 % 4) (((mO ns)[k]?).getD 0))).map fX)])
   refine hz.symm▸?_
   rfl
  obtain⟨_,e2,r⟩:=p1 (v:=w.u 15 (some (.obj (H0++fJ ns k).length))) (bs:=H0++fJ ns k) (fr:=d7 ns k) (k:=k) (BY ns k (aG hk)) tF ((K 1 rfl).trans h1) ((K 2 rfl).trans h2) q rfl (xi hl hk) hz hk (aG gN) (YK (v:=w) H0 ns k p)
  rw[hH]at r
  cases r with|mk u R _ =>
  have Rs:(H0++fJ ns k).length=H0.length+k:=by rw[bH,yr]
  have e3:An.1 ⟨u.loc,H0++fJ ns (k+1)⟩=some (.next,⟨(u.u 14 (some (.obj (H0.length+k)))).loc,H0++fJ ns (k+1)⟩):=f18.symm▸dR (F:=aj 15) (i:=14) (aV rfl ((R 15 rfl).trans (congrArg (λn=>some (PV.obj n)) Rs)))
  exact⟨_,(bm (show Fd.1 ⟨w.loc,H0++fJ ns k⟩=some (.next,⟨(w.u 15 (some (.obj (H0++fJ ns k).length))).loc,fF (H0++fJ ns k) []⟩)from rfl)).trans <| (bm e2).trans <| (bm e3).trans rfl,.mk _ (((K.u rfl).to R rfl).u rfl) rfl⟩
 rw[show H0++fJ ns 0=H0 from bM H0]at q
 exact q.imp λ_ q=>⟨(show fu (fE (aM (iC 3) bA)) (λis n=>cx stepI (cr 5) MG n is) _=_ from pW (sr (N:=3) (by decide) rfl) q.1),q.2⟩
theorem PL(kH:v 14=some (.obj i))(hi:hp[i]?=some (.lst (fr.map fX)))(eU:fr≠[])(gy:∀x∈fr,mB 3 x):zo.1 ⟨v.loc,hp⟩=some (.next,⟨v.loc,hp⟩):=by
 cases fr with
|nil=>exact absurd rfl eU
|cons x l =>
  have hx:=gy x (aq ..)
  have Nc:aj 14 ⟨v.loc,hp⟩=some (.obj i,hp):=aV rfl kH
  have My:=Dx hi
  have c1:cb .Eq (aj 14) (aB (gZ bA)) ⟨v.loc,hp⟩=some (false,hp):=gK (op:=.Eq) Nc rfl My rfl (by
   show(if(((fX x::l.map fX).all (gV 2))||true)=true then some false else none)=_
   rw[Bool.or_true];rfl)
  have i1:eM (aj 14) (iC 0) ⟨v.loc,hp⟩=some (.dat (fX x),hp):=XJ (F2:=iC 0) Nc rfl My rfl rfl
  have i2:eM (eM (aj 14) (iC 0)) (iC 0) ⟨v.loc,hp⟩=some (.dat (sD x.1),hp):=jo (F2:=iC 0) i1 rfl rfl
  have Am:=hx.l
  have ek:=Ju (t:=x.1++[40]) (λc hc=>(ae hc).elim (hx.c c) λhc=>.inl (ak hc)) (by rw[bH,List.length_singleton];(exact ah (by assumption) b9)) hp
  have XG:par (x.1++[40]) false 0=false:=by
   rw[hx.p]
   show(x.2.1 - x.2.2+1==0)=false
   rfl
  rw[XG]at ek
  have c2:cb .IsNot (j9 (aM (aB (aZ .Add (eM (eM (aj 14) (iC 0)) (iC 0)) (sC [40]))) bA) vT) (λσ=>some (.dat (.bool false),σ.hp)) ⟨v.loc,hp⟩=some (false,hp) :=
   gK (op:=.IsNot) (xq (pI (F2:=sC [40]) (y:=[40]) i2 rfl (by rw[List.length_singleton];unfold lim;(exact ah (by assumption) b9))) ek) rfl rfl rfl rfl
  show cZ (bindB (cb .Eq (aj 14) (aB (gZ bA))) λb=>if b then ia true else bindB (cb .IsNot (j9 (aM (aB (aZ .Add (eM (eM (aj 14) (iC 0)) (iC 0)) (sC [40]))) bA) vT) (λσ=>some (.dat (.bool false),σ.hp))) λb=>if b then ia true else ia false) _ bh _=_
  unfold cZ bindB
  refine c1.symm▸?_
  dsimp only
  refine(if_neg aw).symm▸c2.symm▸?_
  rfl
end
noncomputable def B2(t:List Nat)(c:List Nat)(len nt b:Int):List (Nat×PV):=[(8,.dat (.bool (decide ((c.length:Int)≤1)))),(7,.dat (.tuple [.tuple (aY c),.int b])),(6,.dat (.int nt)),(5,.dat (.int len)),(4,.dat (sD t))]
noncomputable def p9(rest:Nat):List Nat:=List.replicate rest 32++[120,32,9]
noncomputable def xV:Option PV:=some (.dat (sD [120]))
theorem acq{i j:Nat}{s:List Nat}{nt:Int}{hp:List MO}(rest:Nat)(n:Int)(ch:Option PV):cx stepI (cr 8) mv (rest+4) (.rem (chars (p9 rest))) ⟨ck i s j 0 n nt ch,hp⟩=some (.next,⟨ck i s j rest (n+rest) nt xV,hp⟩):=by
 obtain⟨Ir,e⟩:=FQ (m:=4) (l:=[120,32,9]) (i:=i) (s:=s) (j:=j) (nt:=nt) (hp:=hp) rest 0 n ch
 rw[Nat.add_comm]at e
 unfold p9
 rw[Nat.add_comm rest 4]
 rw[Nat.add_comm]at e
 rw[e,Int.zero_add]
 rfl
section
variable {base:List MO}{i j:Nat}{t c:List Nat}{b n nt:Int}{ch:Option PV}{hp:List MO}
theorem aah(h:iL base i hp j c [(4,.dat (sD t))])(hc:c.length≤lim):∃ai,Cp ⟨ck i t j b n nt ch,hp⟩=some (.next,⟨ck i t j b n nt ch,ai⟩)∧iL base i ai j c (B2 t c n nt b):=by
 have e1:=yq (Fe:=aj 6) (j:=5) (pv:=.dat (.int n)) (xK (i:=i) (j:=j) (s:=t) (b:=b) (n:=n) (nt:=nt) (ch:=ch)) rfl h.self (by (exact Nat.le_add_left _ _)) (av rfl) (by rfl)
 have h1:=h.At (gn [(4,.dat (sD t))] 5 (.dat (.int n)))
 have e2:=yq (Fe:=aj 7) (j:=6) (pv:=.dat (.int nt)) (xK (i:=i) (j:=j) (s:=t) (b:=b) (n:=n) (nt:=nt) (ch:=ch)) rfl h1.self (by (exact Nat.le_add_left _ _)) (av rfl) (by rfl)
 have h2:=h1.At (gn (gn [(4,.dat (sD t))] 5 (.dat (.int n))) 6 (.dat (.int nt)))
 have v3:aB (lH (aM (aB (aN (aj 4) (im B1.tuple.f))) (aM (aj 5) bA))) ⟨ck i t j b n nt ch,(hp.set i (.ins 100 (gn [(4,.dat (sD t))] 5 (.dat (.int n))))).set i (.ins 100 (gn (gn [(4,.dat (sD t))] 5 (.dat (.int n))) 6 (.dat (.int nt))))⟩
   = some (.dat (.tuple [.tuple (aY c),PyData.int b]),(hp.set i (.ins 100 (gn [(4,.dat (sD t))] 5 (.dat (.int n))))).set i (.ins 100 (gn (gn [(4,.dat (sD t))] 5 (.dat (.int n))) 6 (.dat (.int nt))))):=by
  have a1:aB (aN (aj 4) (im B1.tuple.f)) ⟨ck i t j b n nt ch,(hp.set i (.ins 100 (gn [(4,.dat (sD t))] 5 (.dat (.int n))))).set i (.ins 100 (gn (gn [(4,.dat (sD t))] 5 (.dat (.int n))) 6 (.dat (.int nt))))⟩
    = some (.dat (.tuple (aY c)),(hp.set i (.ins 100 (gn [(4,.dat (sD t))] 5 (.dat (.int n))))).set i (.ins 100 (gn (gn [(4,.dat (sD t))] 5 (.dat (.int n))) 6 (.dat (.int nt))))):=by
   unfold aB aN
   refine(hO (show d2 (ck i t j b n nt ch) 4=some (.obj j)from rfl)).symm▸?_
   skip
   unfold im
   dsimp only
   refine(yy h2.at_).symm▸?_
   dsimp only
   exact(show B1.tuple.f (.list (aY c))=some (.tuple (aY c))from if_pos (by rw[ED];exact hc)).symm▸rfl
  exact abo a1 rfl
 have e3:=yq (j:=7) (xK (i:=i) (j:=j) (s:=t) (b:=b) (n:=n) (nt:=nt) (ch:=ch)) v3 h2.self (by (exact Nat.le_add_left _ _)) (av rfl) (by rfl)
 have h3:=h2.At (gn (gn (gn [(4,.dat (sD t))] 5 (.dat (.int n))) 6 (.dat (.int nt))) 7 (.dat (.tuple [.tuple (aY c),PyData.int b])))
 have v4:∀hp:List MO,hp[j]?=some (.lst (aY c))->aB (aN (aB (fk (aj 4))) λa=>aN (iC 1) λb=>ev (λx y=>(fq .LtE x y).map .bool) a b) ⟨ck i t j b n nt ch,hp⟩=some (.dat (.bool (decide ((c.length:Int)≤1))),hp):=by
  intro hp hj
  have a1:aB (fk (aj 4)) ⟨ck i t j b n nt ch,hp⟩=some (.dat (.int c.length),hp):=by
   unfold aB;rw[CK hj hc]
  unfold aB at a1 ⊢
  unfold aN
  dsimp only
  refine a1.symm▸?_
  rfl
 have e4:=yq (j:=8) (xK (i:=i) (j:=j) (s:=t) (b:=b) (n:=n) (nt:=nt) (ch:=ch)) (v4 _ h3.at_) h3.self (by (exact Nat.le_add_left _ _)) (av rfl) (by rfl)
 have h4:=h3.At (gn (gn (gn (gn [(4,.dat (sD t))] 5 (.dat (.int n))) 6 (.dat (.int nt))) 7 (.dat (.tuple [.tuple (aY c),PyData.int b]))) 8 (.dat (.bool (decide ((c.length:Int)≤1)))))
 refine⟨_,?_,h4⟩
 unfold Cp
 rw[bm e1,bm e2,bm e3,gJ]
 exact e4
theorem Sn(uV:rest≤1000)(GN:base.all (MO.closed (base.length+1))=true)(hr:∀r∈runs,r+1≤1000)(hn:runs.length≤1000)(hlen:(fU runs).length≤100000)(fN:(gP runs []).length≤lim) :
  zc [.obj base.length,.dat (sD (fU runs++p9 rest))] (base++[.ins 100 []])=some (.dat .none,base++[.ins 100 (B2 (fU runs++p9 rest) (gP runs []) ((fU runs).length+rest) runs.length rest)]):=by
 let t:=fU runs++p9 rest
 let i:=base.length
 let L0:Loc:=[some (.obj i),some (.dat (sD t)),none,none,none,none,none,none,none]
 let L1:Loc:=[some (.obj i),some (.dat (sD t)),some (.dat (sD [32])),some (.dat (sD [9])),none,none,none,none,none]
 let L2:Loc:=[some (.obj i),some (.dat (sD t)),some (.dat (sD [32])),some (.dat (sD [9])),some (.obj (i+1)),none,none,none,none]
 let hp1:List MO:=base++[.ins 100 [(4,.dat (sD t))]]
 let bU:List MO:=hp1++[.lst (aY [])]
 have X0:(base++[MO.ins 100 []])[i]?=some (.ins 100 []):=by simp[i]
 have e1:nI (aj 0) (aj 1) 100 4 ⟨L0,base++[.ins 100 []]⟩=some (.next,⟨L0,hp1⟩):=by
  rw[yq (i:=i) (pv:=.dat (sD t)) (L:=L0) rfl rfl X0 (by (exact Nat.le_add_left _ _)) (Nat.le_of_ble_eq_true rfl) (by rfl),List.set_append_right _ _ (Nat.le_refl _),Nat.sub_self]
  rfl
 have e2:wN [2,3] (aM (sC [32]) (aM (sC [9]) bA)) ⟨L0,hp1⟩=some (.next,⟨L1,hp1⟩):=rfl
 have e3:bN (lp (gZ bA)) (dg 4) ⟨L1,hp1⟩=some (.next,⟨L2,bU⟩):=by
  show some (Fl.next,(⟨L1.set 4 (some (.obj hp1.length)),hp1++[.lst []]⟩:St))=_
  have:hp1.length=i+1:=by simp[hp1,i]
  refine this.symm▸?_
  rfl
 have e4:FY 5 6 7 (iC 0) ⟨L2,bU⟩=some (.next,⟨ck i t (i+1) 0 0 0 none,bU⟩):=rfl
 have og:hp1.length=i+1:=by simp[hp1,i]
 have h0:iL base i bU (i+1) [] [(4,.dat (sD t))]:=⟨by
  skip
  rw[List.take_append_of_le_length (by (exact Nat.le_of_eq (Eq.symm (by assumption)))),List.take_of_length_le (by (exact Nat.le_of_eq (by assumption)))],rfl,by (exact am _),by
  show(hp1++[MO.lst (aY [])])[i+1]?=_
  rw[← og];simp⟩
 refine cps λ_ KK=>?_
 obtain⟨j',vr,kn,h3,q⟩:=OF (m:=rest+4) (l:=p9 rest) (s:=t) runs (i+1) [] 0 0 none bU h0 (λr hm=>by have:=hr r hm;unfold lim;(exact aa (by assumption) b9)) (by decide)
 have q0:=acq (i:=i) (s:=t) (j:=j') (nt:=0+runs.length) (hp:=vr) rest (0+(fU runs).length) kn
 rw[q0]at q
 have e5:fu (ej (aN (aj 0) (dS 100 4))) (λis n=>cx stepI (cr 8) mv n is) ⟨ck i t (i+1) 0 0 0 none,bU⟩=some (.next,⟨ck i t j' rest (0+(fU runs).length+rest) (0+runs.length) xV,vr⟩):=by
  have a1:aN (aj 0) (dS 100 4) ⟨ck i t (i+1) 0 0 0 none,bU⟩=some (.dat (sD t),bU):=by
   unfold aN
   refine(hO (xK (i:=i))).symm▸?_
   skip
   unfold dS
   dsimp only
   refine h0.self.symm▸?_
   rfl
  unfold fu ej
  refine a1.symm▸?_
  dsimp only[uk]
  have:(chars t).length+1=rest+4+(fU runs).length:=by simp[chars,t,p9];exact Nat.add_comm (fU runs).length (rest+4)
  skip
  refine this.symm▸?_
  exact q
 obtain⟨H9,e6,h4⟩:=aah (b:=rest) (n:=0+(fU runs).length+rest) (nt:=0+runs.length) (ch:=xV) h3 fN
 refine KK ?_
 refine ZM.symm▸?_
 skip
 have hB:AL ⟨dI [.obj i,.dat (sD t)] 7,base++[.ins 100 []]⟩=some (.next,⟨ck i t j' rest (0+(fU runs).length+rest) (0+runs.length) xV,H9⟩):=by
  skip
  unfold AL
  refine(bm e1).symm▸(bm e2).symm▸(bm e3).symm▸(bm e4).symm▸(bm e5).symm▸?_
  exact e6
 show(match AL ⟨dI [.obj i,.dat (sD t)] 7,base++[.ins 100 []]⟩with
 |some (.ret pv,σ)=>if false then some (pv,σ.hp)else trunc (base++[MO.ins 100 []]).length pv σ.hp
 |some (.next,σ)=>if false then some (PV.dat .none,σ.hp)else trunc (base++[MO.ins 100 []]).length (.dat .none) σ.hp
 |_=>none)=_
 refine hB.symm▸?_
 dsimp only
 refine(if_neg aw).symm▸?_
 have WC:(base++[MO.ins 100 []]).length=i+1:=by simp[i]
 refine WC.symm▸?_
 unfold trunc
 refine h4.pre.symm▸?_
 have hle:i+1≤H9.length:=by have:=h4.F6;have:=h4.lt;(exact a9 (by assumption) (by assumption))
 have mq:(base++[MO.ins 100 (B2 t (gP runs []) (0+(fU runs).length+rest) (0+runs.length) rest)]).all (MO.closed (i+1))=true:=by
  refine List.all_append.symm▸GN.symm▸?_
  rfl
 rw[if_pos (by rw[mq];simpa[PV.closed]using hle)]
 rw[Int.zero_add,Int.zero_add]
end
noncomputable abbrev wB(runs:List Nat)(rest:Nat):MO:=.ins 100 (B2 (fU runs++p9 rest) (gP runs []) ((fU runs).length+rest) runs.length rest)
noncomputable def Nh:XF:=gr (u0 100 (aM (aB (aZ .Add (aB (aZ .Add (aB (Mine.jx .join (sC []) (ix (ej (aj 0)) stepI (cr 2) (λσ=>some (true,σ.hp)) (gM (aB (aZ .Add (aB (aZ .Mult (sC [32]) (aj 2))) (sC [9])))) [2]))) (aB (aZ .Mult (sC [32]) (aj 1))))) (sC [120,32,9]))) bA) zc)
theorem acf:C0.1=aH Nh bh:=rfl
noncomputable def ja(c:List Nat)(size m:Nat):Nat:=((List.range m).map λi=>(i / size)*c.getD i 0).sum
theorem Ci(c)(size m):ja c size (m+1)=ja c size m+(m / size)*c.getD m 0:=by
 unfold ja
 rw[List.range_succ,List.map_append,List.sum_append]
 simp
theorem J6(c)(size):∀m,m≤size->ja c size m=0
|0,_=>rfl
|m+1,h=>by
  rw[Ci,J6 c size m (by (exact Nat.le_of_lt (by assumption))),Nat.div_eq_of_lt (by assumption)]
  simp
theorem Ja(c)(size):∀d,ja c size (c.length+d)=ja c size c.length
|0=>rfl
|d+1=>by
  rw[← Nat.add_assoc,Ci,Ja c size d]
  have:c.getD (c.length+d) 0=0:=by simp[List.getD]
  rw[this];simp
noncomputable def Pb(c:List Nat)(size:Nat)(nt:Nat)(tr:Int):Int:=tr+size*((ja c size c.length:Nat)+(nt:Nat))
noncomputable def o6(i:Nat)(size:Nat)(c:List Nat)(tr:Int)(il:Int)(x:Option PV):Loc:=[some (.obj i),some (.dat (.int (size:Int))),some (.dat (.tuple (aY c))),some (.dat (.int tr)),some (.dat (.int il)),x]
noncomputable def zk:XF:=bN (aB (aZ .Add (aj 4) (aB (aZ .Mult (aB (aZ .FloorDiv (aj 5) (aj 1))) (aN (aj 2) λa=>aN (aj 5) λb=>itemF a b))))) (dg 4)
noncomputable def XV:XF:=aH (th (aN (aj 0) (dS 100 7)) (jp 2 3)) (aH (bN (iC 0) (dg 4)) (aH (fu (fE (aM (aj 1) (aM (aB (fk (aj 2))) bA))) λis n=>cx stepI (cr 5) (aH zk bh) n is)
 (aH (gr (aB (aZ .Add (aj 3) (aB (aZ .Mult (aj 1) (aB (aZ .Add (aj 4) (aN (aj 0) (dS 100 6))))))))) bh)))
theorem ab5:uh=dX 2 4 false XV:=rfl
section
variable {i size nt:Nat}{c:List Nat}{tr:Int}{hp:List MO}{bK:List (Nat×PV)}
theorem Gh(h1:hp[i]?=some (.ins 100 bK))(hL:d2 L 0=some (.obj i))(hk:bK.lookup k=some pv):aN (aj 0) (dS 100 k) ⟨L,hp⟩=some (pv,hp):=by
 unfold aN
 rw[hO hL]
 dsimp only
 unfold dS
 dsimp only
 rw[h1]
 dsimp only
 rw[if_pos rfl,hk]
theorem CZ{x y:Nat}(h:y≤100000000000):xZ (.int (x:Int)) (.int (y:Int))=some (.int ((x*y:Nat):Int)):=by
 show(if(y:Int).natAbs < 2 ^ 60 then some (PyData.int ((x:Int)*(y:Int)))else none)=_
 rw[if_pos (show(y:Int).natAbs < 2 ^ 60 from Nat.lt_of_le_of_lt h b9),← Int.natCast_mul]
theorem SQ{m:Nat}(hm:m < c.length)(hs:0 < size)(eR:size≤100000)(hc:c.length≤100000)(xM:∀x∈c,x≤100000) :
  zk ⟨o6 i size c tr (ja c size m:Nat) (some (.dat (.int (m:Int)))),hp⟩=some (.next,⟨o6 i size c tr (ja c size (m+1):Nat) (some (.dat (.int (m:Int)))),hp⟩):=by
 have hg:c[m]?=some (c.getD m 0):=by simp[List.getD,hm]
 have VD:c.getD m 0≤100000:=xM _ (aT hg)
 have f1:Bs (.int (m:Int)) (.int (size:Int))=some (.int ((m / size:Nat):Int)):=by
  show(if(size:Int)≠0∧(size:Int).natAbs < 2 ^ 60 then some (PyData.int ((m:Int).fdiv (size:Int)))else none)=_
  rw[if_pos ⟨Int.natCast_ne_zero.mpr (Nat.ne_of_gt hs),show(size:Int).natAbs < 2 ^ 60 from Nat.lt_of_le_of_lt eR b9⟩,Int.fdiv_eq_ediv_of_nonneg _ (Int.natCast_nonneg _)]
  rfl
 have f2:l7 (.tuple (aY c)) (.int (m:Int))=some (.int (c.getD m 0:Nat)):=by
  show(if(m:Int).natAbs≤lim then idx (aY c) (m:Int)else none)=_
  rw[if_pos (show(m:Int).natAbs≤lim from Nat.le_trans (Nat.le_of_lt hm) (Nat.le_trans hc b9)),Iz,aY,List.getElem?_map,hg]
  rfl
 have f4:wk (.int (ja c size m:Nat)) (.int ((m / size*c.getD m 0:Nat):Int))=some (.int (ja c size (m+1):Nat)):=by
  rw[Ci];rfl
 exact dR (i:=4) (bS (op:=.Add) (aV rfl rfl) (bS (op:=.Mult) (bS (op:=.FloorDiv) (aV rfl rfl) (aV rfl rfl) f1) (jo (aV rfl rfl) (aV rfl rfl) f2) (CZ (aa VD b9))) f4)
theorem RF(hs:0 < size)(eR:size≤100000)(hc:c.length≤100000)(xM:∀x∈c,x≤100000):∃x,cx stepI (cr 5) (aH zk bh) (c.length - size+1) (.rem (ew (size:Int) 1 (c.length - size))) ⟨o6 i size c tr 0 none,hp⟩=some (.next,⟨o6 i size c tr (ja c size c.length:Nat) x,hp⟩):=by
 obtain⟨σ',e3,x,hI⟩:=wx (T:=cr 5) (B:=aH zk bh) (its:=ew (size:Int) 1 (c.length - size)) (λj σ=>∃x,σ=⟨o6 i size c tr (ja c size (size+j):Nat) x,hp⟩) (λj d σ hd q=>by
  obtain⟨x,ig⟩:=q
  have Qv:j < c.length - size:=by
   have:=(List.getElem?_eq_some_iff.mp hd).1
   rwa [iz]at this
  rw[ig,tv _ _ _ _ hd,Int.mul_one,← Int.natCast_add]
  exact⟨_,_,rfl,(gJ _ _).trans (SQ (Nat.add_comm _ _▸Nat.add_lt_of_lt_sub Qv) hs eR hc xM),_,rfl⟩) (ew (size:Int) 1 (c.length - size)) 0 (c.length - size+1) ⟨o6 i size c tr 0 none,hp⟩ rfl (by rw[iz];exact a7 _) ⟨none,by rw[Nat.add_zero,J6 c size size (Nat.le_refl _)];rfl⟩
 refine⟨x,?_⟩
 rw[e3,hI,iz,Nat.zero_add]
 rcases Nat.le_total size c.length with h|h
 ·rw[Nat.add_sub_cancel' h]
 ·rw[Nat.sub_eq_zero_of_le h,Nat.add_zero,show size=c.length+(size - c.length)from(Nat.add_sub_cancel' h).symm,← show size=c.length+(size - c.length)from(Nat.add_sub_cancel' h).symm]
  have:=Ja c size (size - c.length)
  rw[Nat.add_sub_cancel' h]at this
  exact this.symm▸rfl
theorem GQ(h1:F1 ⟨L,hp⟩=some (.dat (.int a),hp))(h2:F2 ⟨L,hp⟩=some (.dat (.int b),hp))(hs:Builtin.Range.small a b 1=true)(hn:(Builtin.Range.rangeSize a b 1).toNat=n):fE (aM F1 (aM F2 bA)) ⟨L,hp⟩=some ((.rem (ew a 1 n),n+1),hp):=by
 unfold fE
 rw[sY h1 h2]
 show(if(1:Int)≠0∧Builtin.Range.small a b 1=true∧(1:Int).natAbs < 2 ^ 60 then some ((IS.rem (ew a 1 (Builtin.Range.rangeSize a b 1).toNat),(Builtin.Range.rangeSize a b 1).toNat+1),hp)else none)=_
 rw[if_pos ⟨by decide,hs,by decide⟩,hn]
theorem XM(eR:size≤100000)(hc:c.length≤100000)(k:G (.rem (ew (size:Int) 1 (c.length - size))) (c.length - size+1) ⟨o6 i size c tr 0 none,hp⟩=q):fu (fE (aM (aj 1) (aM (aB (fk (aj 2))) bA))) G ⟨o6 i size c tr 0 none,hp⟩=q:=by
 have rA:=zT eR hc
 have a1:aB (fk (aj 2)) ⟨o6 i size c tr 0 none,hp⟩=some (.dat (.int (c.length:Nat)),hp):=mE (f:=B1.len.f) (a:=.tuple (aY c)) (aV rfl rfl) (by
  show(if(aY c).length≤lim then some (PyData.int (aY c).length)else none)=_
  rw[ED,if_pos (Nat.le_trans hc b9)])
 unfold fu
 refine(GQ (aV (i:=1) rfl rfl) a1 rA.1 rA.2).symm▸?_
 exact k
theorem K3(hl:ps.length=np)(fN:hp.all (MO.closed hp.length)=true)(h:B ⟨dI ps N,hp⟩=some (.ret (.dat d),⟨L',hp⟩)):dX np N false B ps hp=some (.dat d,hp):=by
 unfold dX
 refine(if_pos (beq_iff_eq.mpr hl)).symm▸h.symm▸?_
 show trunc hp.length (.dat d) hp=_
 unfold trunc
 refine List.take_length.symm▸fN.symm▸?_
 exact if_pos (decide_eq_true (am _))
theorem Rn(h1:hp[i]?=some (.ins 100 bK))(h7:bK.lookup 7=some (.dat (.tuple [.tuple (aY c),.int tr])))(h6:bK.lookup 6=some (.dat (.int (nt:Int))))(hs:0 < size)(eR:size≤100000)(hc:c.length≤100000)(xM:∀x∈c,x≤100000)(Tc:nt≤100000)(fN:hp.all (MO.closed hp.length)=true)(Wh:ja c size c.length≤10000000000) :
  uh [.obj i,.dat (.int (size:Int))] hp=some (.dat (.int (Pb c size nt tr)),hp):=by
 have Y0:(ja c size c.length+nt)≤100000000000:=aa (ay Wh Tc) b9
 obtain⟨x,e3⟩:=RF (i:=i) (tr:=tr) (hp:=hp) hs eR hc xM
 have r2:aB (aZ .Mult (aj 1) (aB (aZ .Add (aj 4) (aN (aj 0) (dS 100 6))))) ⟨o6 i size c tr (ja c size c.length:Nat) x,hp⟩=some (.dat (.int ((size*(ja c size c.length+nt):Nat):Int)),hp) :=
  bS (op:=.Mult) (aV rfl rfl) (bS (op:=.Add) (d:=.int ((ja c size c.length+nt:Nat):Int)) (aV rfl rfl) (Gh h1 rfl h6) rfl) (CZ Y0)
 refine ab5.symm▸?_
 have e1:th (aN (aj 0) (dS 100 7)) (jp 2 3) ⟨[some (.obj i),some (.dat (.int (size:Int))),none,none,none,none],hp⟩=some (.next,⟨[some (.obj i),some (.dat (.int (size:Int))),some (.dat (.tuple (aY c))),some (.dat (.int tr)),none,none],hp⟩):=by
  unfold th bN
  rw[Gh h1 rfl h7]
  rfl
 exact K3 rfl fN ((bm e1).trans ((bm (dR (F:=iC 0) rfl)).trans ((bm (XM eR hc e3)).trans (vK (bS (op:=.Add) (aV rfl rfl) r2 rfl)))))
end
theorem QM(c)(b i):(iV c b).getD i 0=c.getD i 0:=by
 unfold iV
 split
 ·rfl
 ·simp only[List.getD]
  by_cases h:i < c.length
  ·exact(List.getElem?_append_left h).symm▸rfl
  ·have hn:c[i]?=none:=List.getElem?_eq_none (by (exact Nat.le_of_not_lt (by assumption)))
   refine(List.getElem?_append_right (by (exact Nat.le_of_not_lt (by assumption)))).symm▸hn.symm▸(List.getElem?_replicate).symm▸?_
   split<;>rfl
theorem YT(c)(b):b < (iV c b).length:=by
 unfold iV
 split
 ·assumption
 ·rw[bH,bL];exact bQ (aU (Nat.add_sub_of_le (Nat.le_of_not_lt ‹_›)).symm)
theorem Sp(c)(b i):(j1 c b).getD i 0=c.getD i 0+(if i=b then 1 else 0):=by
 refine(QM c b i)▸?_
 skip
 simp only[List.getD]
 refine(List.getElem?_set).symm▸?_
 by_cases h:b=i
 ·subst h
  refine(if_pos rfl).symm▸(if_pos (YT c b)).symm▸(if_pos rfl).symm▸?_
  rfl
 ·rw[if_neg h,if_neg (λq=>h q.symm)]
  rfl
theorem abN(h:∀x∈c,x≤M):∀x∈j1 c b,x≤M+1:=by
 intro x hx
 obtain⟨i,hi⟩:=List.getElem?_of_mem hx
 have h1:(j1 c b).getD i 0=x:=by simp[List.getD,hi]
 have h2:c.getD i 0≤M:=by
  simp only[List.getD]
  cases hq:c[i]? with
 |none=>exact bZ _
 |some y=>exact h y (aT hq)
 rw[Sp]at h1
 rw[← h1];exact ay h2 (by split<;>decide)
theorem Mk:∀(runs c:List Nat) (M:Nat),(∀x∈c,x≤M)->∀x∈gP runs c,x≤M+runs.length
|[],c,M,h,x,hx=>h x hx
|r::runs,c,M,h,x,hx=>by
  have:=Mk runs (j1 c r) (M+1) (abN h) x hx
  exact aa this (aU (bg M 1 _))
theorem T3{c:List Nat}{M m:Nat}(h:∀x∈c,x≤M):c.getD m 0≤M:=by
 simp only[List.getD]
 cases hq:c[m]? with
|none=>exact bZ _
|some y=>exact h y (aT hq)
theorem Ip{c:List Nat}{M size:Nat}(h:∀x∈c,x≤M):∀m,ja c size m≤m*(m*M)
|0=>bZ _
|m+1=>by
  have ih:=Ip (size:=size) h m
  have h1:=T3 (m:=m) h
  have h2:m / size≤m:=Nat.div_le_self ..
  rw[Ci]
  have h3:m / size*c.getD m 0≤m*M:=Nat.mul_le_mul h2 h1
  exact Nat.succ_mul m _▸ay (aa ih (bc m (ba M (bx m)))) (aa h3 (ba M (bx m)))
structure gC(runs:List Nat)(rest:Nat):Prop where
 r:∀r∈runs,r≤50
 l:runs.length≤100
 t:rest≤100
theorem gC.c{runs:List Nat}{rest:Nat}(h:gC runs rest):(gP runs []).length≤51∧∀x∈gP runs [],x≤100 :=
 ⟨Gw runs [] 51 (λr hr=>bQ (h.r r hr)) (bZ _),λx hx=>aa (Mk runs [] 0 (λ_ h=>bT h) x hx) (by have:=h.l;(exact aQ (by assumption) _))⟩
noncomputable def kG(runs:List Nat)(rest size:Nat):Int:=Pb (gP runs []) size runs.length rest
noncomputable def jR(runs:List Nat)(rest:Nat):Int:=max (((gP runs []).length:Int) - 1) rest
section
variable {hp:List MO}{i j rest adc size:Nat}{runs acY:List Nat}{L:Loc}{A:List PyData}
theorem Xg(hi:hp[i]?=some (wB runs rest))(h:gC runs rest)(fN:hp.all (MO.closed hp.length)=true)(hs:0 < size)(eR:size≤1000):uh [.obj i,.dat (.int (size:Nat))] hp=some (.dat (.int (kG runs rest size)),hp):=by
 obtain⟨c1,c2⟩:=h.c
 refine Rn (c:=gP runs []) (tr:=(rest:Int)) (nt:=runs.length) hi rfl rfl hs (aa eR b9) (aa c1 b9) (λx hx=>aa (c2 x hx) b9) (aa h.l b9) fN ?_
 refine aa (Ip c2 _) (aa (Nat.mul_le_mul c1 (ba 100 c1)) b9)
noncomputable def Xp:XF:=aH (th (aN (aj 0) (dS 100 7)) (jp 1 2)) (aH (gr (aB (oC .mx (aM (aB (aZ .Sub (aB (fk (aj 1))) (iC 1))) (aM (aj 2) bA))))) bh)
theorem aay:wV=dX 1 2 false Xp:=rfl
theorem Vg(hi:hp[i]?=some (wB runs rest))(h:gC runs rest)(fN:hp.all (MO.closed hp.length)=true):wV [.obj i] hp=some (.dat (.int (jR runs rest)),hp):=by
 obtain⟨c1,c2⟩:=h.c
 let L1:Loc:=[some (.obj i),some (.dat (.tuple (aY (gP runs [])))),some (.dat (.int (rest:Nat)))]
 have e1:th (aN (aj 0) (dS 100 7)) (jp 1 2) ⟨[some (.obj i),none,none],hp⟩=some (.next,⟨L1,hp⟩):=by
  unfold th bN
  rw[Gh (k:=7) (pv:=.dat (.tuple [.tuple (aY (gP runs [])),.int (rest:Nat)])) hi rfl rfl]
  rfl
 have a1:aB (fk (aj 1)) ⟨L1,hp⟩=some (.dat (.int ((gP runs []).length:Nat)),hp):=mE (f:=B1.len.f) (a:=.tuple (aY (gP runs []))) (aV rfl rfl) (by
  show(if(aY (gP runs [])).length≤lim then some (PyData.int (aY (gP runs [])).length)else none)=_
  rw[ED,if_pos (Nat.le_trans c1 b9)])
 have e2:aH (gr (aB (oC .mx (aM (aB (aZ .Sub (aB (fk (aj 1))) (iC 1))) (aM (aj 2) bA))))) bh ⟨L1,hp⟩=some (.ret (.dat (.int (jR runs rest))),⟨L1,hp⟩) :=
  vK (AS (b:=.mx) (ds:=[.int (((gP runs []).length:Int) - 1),.int (rest:Nat)]) (sY (bS (op:=.Sub) (F2:=iC 1) a1 rfl rfl) (aV rfl rfl)) rfl rfl)
 refine aay.symm▸?_
 exact K3 rfl fN ((bm e1).trans e2)
theorem Hm(hi:hp[i]?=some (wB runs rest))(hn:(decide (name≠an 8)&&(decide (name≠an 7)&&(decide (name≠an 6)&&(decide (name≠an 5)&&(decide (name≠an 4)&&true)))))=true):gz 100 name i hp=true:=by
 unfold gz
 refine hi.symm▸?_
 show(decide ((100:Nat)=100)&&_)=true
 exact hn
theorem N8(hL:d2 L k=some (.obj i))(hi:hp[i]?=some (wB runs rest))(h:gC runs rest)(fN:hp.all (MO.closed hp.length)=true):kX (aj k) 100 "longest_run_of_spaces" wV ⟨L,hp⟩=some (.dat (.int (jR runs rest)),hp):=by
 unfold kX aN
 refine(hO hL).symm▸?_
 dsimp only
 refine(if_pos (Hm hi (by kernel_rfl))).symm▸?_
 exact Vg hi h fN
theorem Mm(hL:d2 L k=some (.obj i))(h4:d2 L 4=some (.dat (.int (size:Nat))))(hi:hp[i]?=some (wB runs rest))(h:gC runs rest)(fN:hp.all (MO.closed hp.length)=true)(hs:0 < size)(eR:size≤1000):lS (aj k) 100 "indent_level" (aM (aj 4) bA) uh ⟨L,hp⟩=some (.dat (.int (kG runs rest size)),hp):=by
 unfold lS aN
 rw[hO hL]
 dsimp only
 rw[if_pos (Hm hi (by kernel_rfl)),show aM (aj 4) bA ⟨L,hp⟩=some ([.dat (.int (size:Nat))],hp)from jK (hO h4) rfl]
 exact Xg hi h fN hs eR
end
noncomputable def nB(r1:List Nat)(t1:Nat)(r2:List Nat)(t2:Nat):Nat:=(max (jR r1 t1) (jR r2 t2)+1).toNat
noncomputable def zh(r1:List Nat)(t1:Nat)(r2:List Nat)(t2:Nat)(s:Nat):PyData:=.tuple [.int (s:Nat),.int (kG r1 t1 s),.int (kG r2 t2 s)]
noncomputable def rq(r1:List Nat)(t1:Nat)(r2:List Nat)(t2:Nat)(s:Nat):Bool:=!(kG r1 t1 s==kG r2 t2 s)
noncomputable def kN(r1:List Nat)(t1:Nat)(r2:List Nat)(t2:Nat)(m:Nat):List PyData:=((List.range' 1 m).filter (rq r1 t1 r2 t2)).map (zh r1 t1 r2 t2)
noncomputable def zb(r1:List Nat)(t1:Nat)(r2:List Nat)(t2:Nat):List PyData:=kN r1 t1 r2 t2 (nB r1 t1 r2 t2)
noncomputable def q6(k:Nat):EF:=lS (aj k) 100 "indent_level" (aM (aj 4) bA) uh
noncomputable def AW(k:Nat):EF:=kX (aj k) 100 "longest_run_of_spaces" wV
noncomputable def xc:XF:=cZ (cb .NotEq (q6 0) (q6 1)) (aH (pq (mT (aj 3) (aB (lH (aM (aj 4) (aM (q6 0) (aM (q6 1) bA))))))) bh) bh
noncomputable def G9:XF:=aH (bN (aB (aZ .Add (aB (oC .mx (aM (AW 0) (aM (AW 1) bA)))) (iC 1))) (dg 2)) (aH (bN (lp (gZ bA)) (dg 3))
 (aH (fu (fE (aM (iC 1) (aM (aB (aZ .Add (aj 2) (iC 1))) bA))) λis n=>cx stepI (cr 4) (aH xc bh) n is) (aH (gr (aj 3)) bh)))
theorem Rq:xF=ta (dX 2 3 true G9):=rfl
theorem Wm{G:cV}{ps:List PV}{hp ai:List MO}{i:Nat}{d:List PyData}(h:G ps hp=some (.obj i,ai))(h1:ai[i]?=some (.lst d))(h2:hp.length≤i∧(ai.take hp.length).all (MO.closed hp.length)=true∧hp.length≤ai.length):ta G ps hp=some (.dat (.list d),ai.take hp.length):=by
 unfold ta
 rw[h]
 dsimp only
 rw[h1]
 dsimp only
 rw[if_pos h2]
section
variable {hp:List MO}{i j t1 t2:Nat}{r1 r2:List Nat}{A:List PyData}
theorem gC.Ly(h:gC runs rest):0≤jR runs rest∧jR runs rest≤100:=by
 have h1:=h.c.1
 have h2:=h.t
 unfold jR
 exact⟨bd (bf rest) (Int.le_max_right _ _),Int.max_le.mpr ⟨bd (Int.sub_le_self _ (by decide)) (bd (bk h1) (by decide)),bk h2⟩⟩
theorem LG:∀(N a:Nat),ew a 1 N=(List.range' a N).map λ(x:Nat)=>PyData.int (x:Int)
|0,a=>rfl
|N+1,a=>by
  show PyData.int (a:Int)::ew ((a:Int)+1) 1 N=_
  rw[List.range'_succ,bP,← LG N (a+1)]
  rfl
noncomputable def lj(i j:Nat)(n:Option PV)(a ts:Option PV):Loc:=[some (.obj i),some (.obj j),n,a,ts]
theorem PU(hi:hp[i]?=some (wB r1 t1))(hj:hp[j]?=some (wB r2 t2))(h1:gC r1 t1)(h2:gC r2 t2)(fN:∀k,hp.length≤k->hp.all (MO.closed k)=true)(hs:0 < s)(eR:s≤1000)(hA:A.length≤1000) :
  xc ⟨lj i j n (some (.obj hp.length)) (some (.dat (.int (s:Nat)))),hp++[.lst A]⟩=some (.next,⟨lj i j n (some (.obj hp.length)) (some (.dat (.int (s:Nat)))),hp++[.lst (if rq r1 t1 r2 t2 s then A++[zh r1 t1 r2 t2 s]else A)]⟩):=by
 let L:=lj i j n (some (.obj hp.length)) (some (.dat (.int (s:Nat))))
 let H:=hp++[MO.lst A]
 have hli:=(List.getElem?_eq_some_iff.mp hi).1
 have Yd:=(List.getElem?_eq_some_iff.mp hj).1
 have mC:H[i]?=some (wB r1 t1):=(List.getElem?_append_left hli).trans hi
 have i8:H[j]?=some (wB r2 t2):=(List.getElem?_append_left Yd).trans hj
 have hc:H.all (MO.closed H.length)=true:=by
  show(hp++[MO.lst A]).all (MO.closed (hp++[MO.lst A]).length)=true
  rw[List.all_append,bH,fN _ (Nat.le_add_right ..)]
  rfl
 have e0:q6 0 ⟨L,H⟩=some (.dat (.int (kG r1 t1 s)),H):=Mm (L:=L) (k:=0) rfl rfl mC h1 hc hs eR
 have e1:q6 1 ⟨L,H⟩=some (.dat (.int (kG r2 t2 s)),H):=Mm (L:=L) (k:=1) rfl rfl i8 h2 hc hs eR
 have c:cb .NotEq (q6 0) (q6 1) ⟨L,H⟩=some (rq r1 t1 r2 t2 s,H):=gK (op:=.NotEq) e0 e1 rfl rfl rfl
 have ha:=pA (append_eq (F1:=aj 3) (L:=L) (hp1:=H) (i:=hp.length) (l:=A) rfl (List.getElem?_concat_length ..) (aa hA b9) (vn (A:=aj 4) rfl e0 e1))
 have zt:H.set hp.length (.lst (A++[PyData.tuple [.int (s:Nat),.int (kG r1 t1 s),.int (kG r2 t2 s)]]))=hp++[.lst (A++[zh r1 t1 r2 t2 s])]:=by
  show(hp++[MO.lst A]).set hp.length _=_
  rw[List.set_append_right _ _ (Nat.le_refl _),Nat.sub_self]
  rfl
 rw[zt]at ha
 unfold xc
 cases hq:rq r1 t1 r2 t2 s with
|true =>
  rw[hq]at c
  rw[sA c]
  exact(bm ha).trans rfl
|false =>
  rw[hq]at c
  exact wm c
theorem Wo(m):(if rq r1 t1 r2 t2 (1+m)then kN r1 t1 r2 t2 m++[zh r1 t1 r2 t2 (1+m)]else kN r1 t1 r2 t2 m)=kN r1 t1 r2 t2 (m+1):=by
 unfold kN
 rw[List.range'_1_concat,List.filter_append,List.map_append]
 cases h:rq r1 t1 r2 t2 (1+m)with
|true=>rw[if_pos rfl,List.filter_cons_of_pos h];rfl
|false=>rw[if_neg aw,List.filter_cons_of_neg (h.symm▸aw)];exact(bM _).symm
theorem Sl(m):(kN r1 t1 r2 t2 m).length≤m:=by
 unfold kN
 rw[bI]
 exact aa (List.length_filter_le ..) (by rw[List.length_range'];exact am _)
theorem P3(hi:hp[i]?=some (wB r1 t1))(hj:hp[j]?=some (wB r2 t2))(h1:gC r1 t1)(h2:gC r2 t2)(fN:∀k,hp.length≤k->hp.all (MO.closed k)=true):xF [.obj i,.obj j] hp=some (.dat (.list (zb r1 t1 r2 t2)),hp):=by
 have b1:=h1.Ly
 have b2:=h2.Ly
 have hN:((nB r1 t1 r2 t2:Nat):Int)=max (jR r1 t1) (jR r2 t2)+1:=Int.toNat_of_nonneg (bd b1.1 (bd (Int.le_max_left _ _) (Int.le_add_of_nonneg_right (by decide))))
 have K2:nB r1 t1 r2 t2≤101:=Int.toNat_le.mpr (Int.add_le_add_right (Int.max_le.mpr ⟨b1.2,b2.2⟩) 1)
 unfold zb
 generalize nB r1 t1 r2 t2=N at *
 let nV:Option PV:=some (.dat (.int (N:Nat)))
 have GO:=fN hp.length (am _)
 let L0:Loc:=[some (.obj i),some (.obj j),none,none,none]
 have e0:bN (aB (aZ .Add (aB (oC .mx (aM (AW 0) (aM (AW 1) bA)))) (iC 1))) (dg 2) ⟨L0,hp⟩=some (.next,⟨lj i j nV none none,hp⟩) :=
  (dR (bS (op:=.Add) (F2:=iC 1) (d:=.int (max (jR r1 t1) (jR r2 t2)+1)) (AS (b:=.mx) (ds:=[.int (jR r1 t1),.int (jR r2 t2)]) (d:=.int (max (jR r1 t1) (jR r2 t2))) (sY (N8 (L:=L0) (k:=0) rfl hi h1 GO) (N8 (L:=L0) (k:=1) rfl hj h2 GO)) rfl rfl) rfl rfl)).trans (by rw[← hN];rfl)
 have e1:bN (lp (gZ bA)) (dg 3) ⟨lj i j nV none none,hp⟩=some (.next,⟨lj i j nV (some (.obj hp.length)) none,hp++[.lst []]⟩):=rfl
 refine cps λ_ KK=>?_
 obtain⟨σ',e2,hI⟩:=wx (T:=cr 4) (B:=aH xc bh) (its:=ew ((1:Nat):Int) 1 N) (λm σ=>m≤N->∃a,σ=⟨lj i j nV (some (.obj hp.length)) a,hp++[.lst (kN r1 t1 r2 t2 m)]⟩) (λm d σ hd hI=>by
  have hm:m < N:=by
   have:=(List.getElem?_eq_some_iff.mp hd).1
   rwa [iz]at this
  have UN:d=.int ((1+m:Nat):Int):=(tv _ _ _ _ hd).trans (by rw[Int.mul_one,Int.natCast_add])
  obtain⟨a,ig⟩:=hI (aG hm)
  have e:=PU (n:=nV) (s:=1+m) (A:=kN r1 t1 r2 t2 m) hi hj h1 h2 fN (ax _ _) (aa (aQ (aa (aG hm) K2) 1) b9) (aa (Sl m) (aa (aG hm) (aa K2 b9)))
  rw[Wo]at e
  exact⟨_,_,by rw[ig,UN];rfl,by rw[ig];exact(bm e).trans rfl,λ_=>⟨_,rfl⟩⟩) (ew ((1:Nat):Int) 1 N) 0 (N+1) ⟨lj i j nV (some (.obj hp.length)) none,hp++[.lst []]⟩ rfl (by rw[iz];exact a7 _) (λ_=>⟨none,rfl⟩)
 rw[iz,Nat.zero_add]at hI
 obtain⟨a,hI⟩:=hI (am _)
 refine KK ?_
 have rA:=zT (a:=1) (b:=N+1) (by decide) (by (exact ah (by assumption) b9))
 have e3:fu (fE (aM (iC 1) (aM (aB (aZ .Add (aj 2) (iC 1))) bA))) (λis n=>cx stepI (cr 4) (aH xc bh) n is) ⟨lj i j nV (some (.obj hp.length)) none,hp++[.lst []]⟩=some (.next,⟨lj i j nV (some (.obj hp.length)) a,hp++[.lst (kN r1 t1 r2 t2 N)]⟩):=by
  have a1:aB (aZ .Add (aj 2) (iC 1)) ⟨lj i j nV (some (.obj hp.length)) none,hp++[.lst []]⟩=some (.dat (.int ((N+1:Nat):Int)),hp++[.lst []]):=bS (op:=.Add) (F2:=iC 1) (a:=.int (N:Nat)) rfl rfl rfl
  have a2:=GQ (a:=((1:Nat):Int)) (b:=((N+1:Nat):Int)) (n:=N) (F1:=iC 1) (L:=lj i j nV (some (.obj hp.length)) none) (hp:=hp++[.lst []]) rfl a1 rA.1 (rA.2.trans (Nat.add_sub_cancel N 1))
  exact pW a2 (e2.trans (congrArg (λσ=>some (Fl.next,σ)) hI))
 let Fj:St:=⟨lj i j nV (some (.obj hp.length)) a,hp++[.lst (kN r1 t1 r2 t2 N)]⟩
 have e4:aH (gr (aj 3)) bh Fj=some (.ret (.obj hp.length),Fj):=vK (L:=lj i j nV (some (.obj hp.length)) a) (F:=aj 3) rfl
 have eB:G9 ⟨dI [.obj i,.obj j] 3,hp⟩=some (.ret (.obj hp.length),Fj):=(bm e0).trans ((bm e1).trans ((bm e3).trans e4))
 have eX:dX 2 3 true G9 [.obj i,.obj j] hp=some (.obj hp.length,hp++[.lst (kN r1 t1 r2 t2 N)]):=OU (np:=2) rfl eB
 have htk:(hp++[MO.lst (kN r1 t1 r2 t2 N)]).take hp.length=hp:=List.take_left' rfl
 have q:=Wm eX (List.getElem?_concat_length ..) ⟨am _,by rw[htk];exact GO,by rw[bH];exact ax ..⟩
 rw[htk]at q
 exact(congrFun (congrFun Rq _) _).trans q
end
theorem HA:∀l:List Nat,jt (aY l)=some ((l.sum:Nat):Int)
|[]=>rfl
|x::l=>by
  show(jt (aY l)).map ((x:Int)+·)=_
  rw[HA l,List.sum_cons,Int.natCast_add];rfl
theorem GX:∀l:List Int,jt (l.map .int)=some l.sum
|[]=>rfl
|x::l=>by
  show(jt (l.map .int)).map (x+·)=_
  rw[GX l,List.sum_cons];rfl
theorem I2:∀l:List Nat,qh (aY l)=some (l.map λ(x:Nat)=>(x:Int))
|[]=>rfl
|x::l=>by
  show(some (x:Int)).bind (λx=>(qh (aY l)).map (x::·))=_
  rw[I2 l];rfl
theorem MS(k:Nat):∀l:List Nat,(l.map λ(x:Nat)=>(x:Int)).count (k:Int)=l.count k
|[]=>rfl
|x::l=>by
  rw[bP,List.count_cons,List.count_cons,MS k l]
  congr 1
  by_cases h:x=k
  ·rw[if_pos (by rw[h];exact beq_self_eq_true _),if_pos (by rw[h];exact beq_self_eq_true _)]
  ·rw[if_neg (λq=>h (Int.ofNat_inj.mp (eq_of_beq q))),if_neg λq=>h (eq_of_beq q)]
noncomputable def pP(a b c:Nat):List Nat:=(List.range (a+1)).flatMap λi=>(List.range (b+1)).flatMap λj=>(List.range (c+1)).map λk=>i+j+k
noncomputable def manyN(a b c:Nat):List Nat:=(List.range (a+b+c+1)).map λk=>(pP a b c).count k
theorem Nl{S:SF}{step:g0}{T:PyData->Loc->Option Loc}{tests:BF}{inner:CF}{ts:List Nat}{loc loc':Loc}{hp ai:List MO}{is:IS}{n:Nat}{ds:List PyData}(hS:S ⟨loc,hp⟩=some ((is,n),hp))(e:gx step T tests inner n is ⟨unset ts loc,hp⟩=some (ds,⟨loc',ai⟩))(hl:ds.length≤lim):ix S step T tests inner ts ⟨loc,hp⟩=some (.dat (.list ds),ai):=by
 unfold ix
 rw[hS]
 dsimp only
 rw[e]
 dsimp only
 rw[if_pos hl]
section
variable {v:Vs}{hp:List MO}{ns zs:List Nat}{a b c r l:Nat}
theorem ZA(h2:v 2=some (.dat (.list (aY [a,b,c])))):Ac.1 ⟨v.loc,hp⟩=some (.next,⟨(v.u 23 (some (.dat (.int ((a+b+c:Nat):Int))))).loc,hp⟩):=by
 refine dR (mE (aV rfl h2) (show(jt (aY [a,b,c])).map PyData.int=some (.int ((a+b+c:Nat):Int))from ?_))
 rw[HA]
 show some (PyData.int ((a+(b+(c+0)):Nat):Int))=_
 rw[Nat.add_zero,← Nat.add_assoc]
theorem Vp(h1:v 1=some (.dat (.list (aY ns))))(hl:ns.length=3):Bq.1 ⟨v.loc,hp⟩=some (.next,⟨((v.u 24 (some (.dat (.int ((cC ns 1 / 36 % 3*4:Nat):Int))))).u 25 (some (.dat (.int ((cC ns 2 / 36 % 3*4:Nat):Int))))).loc,hp⟩):=by
 have e:∀k:Nat,k < 3->aB (aZ .Mult (aB (aZ .Mod (aB (aZ .FloorDiv (eM (aj 1) (iC k)) (iC 36))) (iC 3))) (iC 4)) ⟨v.loc,hp⟩=some (.dat (.int ((cC ns k / 36 % 3*4:Nat):Int)),hp):=λk hk =>
  bS (op:=.Mult) (F2:=iC 4) (vm (G:=iC k) (k:=k) (q:=36) (m:=3) (aV rfl h1) rfl (xi hl hk) (a9 hk b9) (by decide) (by decide) (by decide)) rfl (CZ (y:=4) (by decide))
 show wN [24,25] (aM (aB (aZ .Mult (aB (aZ .Mod (aB (aZ .FloorDiv (eM (aj 1) (iC (1:Nat))) (iC 36))) (iC 3))) (iC 4))) (aM (aB (aZ .Mult (aB (aZ .Mod (aB (aZ .FloorDiv (eM (aj 1) (iC (2:Nat))) (iC 36))) (iC 3))) (iC 4))) bA)) _=_
 unfold wN
 rw[jK (e 1 (by decide)) (jK (e 2 (by decide)) rfl)]
 rfl
theorem Hq{S:SF}{L:Nat->IS->CF}{loc:Loc}{hp ai:List MO}{is:IS}{n:Nat}(h:S ⟨loc,hp⟩=some ((is,n),ai)):tQ S L ⟨loc,hp⟩=L n is ⟨loc,ai⟩:=by
 unfold tQ
 exact h.symm▸rfl
theorem acv(N):ew 0 1 N=(List.range N).map λ(x:Nat)=>PyData.int (x:Int):=(LG N 0).trans (List.range_eq_range'.symm▸rfl)
theorem vY(hN:N≤4000)(h:F ⟨loc,hp⟩=some (.dat (.int (N:Nat)),hp)):fE (aM F bA) ⟨loc,hp⟩=some ((.rem ((List.range N).map λ(x:Nat)=>PyData.int (x:Int)),N+1),hp):=by
 rw[sr hN h,acv]
noncomputable abbrev kB(v:Vs)(x y z:Option PV):Loc:=((v.loc.set 41 x).set 42 y).set 43 z
noncomputable def tt:BF:=λσ=>some (true,σ.hp)
noncomputable def Hf:CF:=gM (aB (aZ .Add (aB (aZ .Add (aj 41) (aj 42))) (aj 43)))
noncomputable def A5(k:Int):EF:=aB (aZ .Add (eM (aj 2) (iC k)) (iC 1))
noncomputable def ne2:CF:=tQ (fE (aM (A5 2) bA)) λn is=>gx stepI (cr 43) tt Hf n is
noncomputable def ne1:CF:=tQ (fE (aM (A5 1) bA)) λn is=>gx stepI (cr 42) tt ne2 n is
theorem f22:wK.1=bN (ix (fE (aM (A5 0) bA)) stepI (cr 41) tt ne1 [41,42,43]) (dg 26):=rfl
theorem Gd{k:Nat}{x:Nat}{L:Loc}(h2:d2 L 2=some (.dat (.list (aY zs))))(hk:zs[k]?=some x)(hk3:k < 3):A5 (k:Int) ⟨L,hp⟩=some (.dat (.int ((x+1:Nat):Int)),hp) :=
 bS (op:=.Add) (F2:=iC 1) (jo (F2:=iC (k:Int)) (hO h2) rfl (n9 (rn hk) (aa (aG hk3) b9))) rfl rfl
theorem aaP(h2:v 2=some (.dat (.list (aY [a,b,c]))))(hc:c≤10)(i j:Nat)(z:Option PV):∃z',ne2 ⟨kB v (some (.dat (.int (i:Nat)))) (some (.dat (.int (j:Nat)))) z,hp⟩=some (((List.range (c+1)).map λk=>PyData.int ((i+j+k:Nat):Int)),⟨kB v (some (.dat (.int (i:Nat)))) (some (.dat (.int (j:Nat)))) z',hp⟩):=by
 refine cps λ_ KK=>?_
 obtain⟨loc',⟨z',hz⟩,e⟩:=xm (λx:Nat=>PyData.int (x:Int)) (λloc=>∃z,loc=kB v (some (.dat (.int (i:Nat)))) (some (.dat (.int (j:Nat)))) z) (T:=cr 43) (tests:=tt) (inner:=Hf) (t:=λ_=>true) (ds:=λk=>[PyData.int ((i+j+k:Nat):Int)]) (hp:=hp) (List.range (c+1)) (λk hk loc ⟨z,eQ⟩=>by
  subst eQ
  refine⟨kB v (some (.dat (.int (i:Nat)))) (some (.dat (.int (j:Nat)))) (some (.dat (.int (k:Nat)))),⟨some (.dat (.int (k:Nat))),rfl⟩,by show some ((((v.loc.set 41 _).set 42 _).set 43 _).set 43 _)=_;rw[List.set_set],rfl,λ_=>⟨kB v (some (.dat (.int (i:Nat)))) (some (.dat (.int (j:Nat)))) (some (.dat (.int (k:Nat)))),⟨some (.dat (.int (k:Nat))),rfl⟩,?_⟩⟩
  unfold Hf gM
  rw[show aB (aZ .Add (aB (aZ .Add (aj 41) (aj 42))) (aj 43)) ⟨kB v (some (.dat (.int (i:Nat)))) (some (.dat (.int (j:Nat)))) (some (.dat (.int (k:Nat)))),hp⟩=some (.dat (.int ((i+j+k:Nat):Int)),hp)from bS (op:=.Add) (bS (op:=.Add) (aV rfl rfl) (aV rfl rfl) rfl) (aV rfl rfl) rfl]) (kB v (some (.dat (.int (i:Nat)))) (some (.dat (.int (j:Nat)))) z) (c+1+1) ⟨z,rfl⟩ (by rw[List.length_range];exact a7 _)
 refine KK ⟨z',?_⟩
 rw[List.filter_eq_self.mpr (λ_ _=>rfl),← List.map_eq_flatMap,hz]at e
 exact(Hq (vY (N:=c+1) (by (exact ah (by assumption) b9)) (Gd (k:=2) (x:=c) (zs:=[a,b,c]) (ef rfl h2) rfl (by decide)))).trans e
theorem UR(h2:v 2=some (.dat (.list (aY [a,b,c]))))(hb:b≤10)(hc:c≤10)(i:Nat)(y z:Option PV):∃y' z',ne1 ⟨kB v (some (.dat (.int (i:Nat)))) y z,hp⟩=some (((List.range (b+1)).flatMap λj=>(List.range (c+1)).map λk=>PyData.int ((i+j+k:Nat):Int)),⟨kB v (some (.dat (.int (i:Nat)))) y' z',hp⟩):=by
 refine cps λ_ KK=>?_
 obtain⟨loc',⟨y',z',hz⟩,e⟩:=xm (λx:Nat=>PyData.int (x:Int)) (λloc=>∃y z,loc=kB v (some (.dat (.int (i:Nat)))) y z) (T:=cr 42) (tests:=tt) (inner:=ne2) (t:=λ_=>true) (ds:=λj=>(List.range (c+1)).map λk=>PyData.int ((i+j+k:Nat):Int)) (hp:=hp) (List.range (b+1)) (λj hj loc ⟨y,z,eQ⟩=>by
  subst eQ
  refine cps λ_ KK=>?_
  obtain⟨z',e⟩:=aaP (hp:=hp) h2 hc i j z
  refine KK ⟨kB v (some (.dat (.int (i:Nat)))) (some (.dat (.int (j:Nat)))) z,⟨_,_,rfl⟩,?_,rfl,λ_=>⟨_,⟨_,_,rfl⟩,e⟩⟩
  show some ((((v.loc.set 41 _).set 42 _).set 43 _).set 42 _)=_
  rw[List.set_comm _ _ (show 43≠42 by decide),List.set_set]) (kB v (some (.dat (.int (i:Nat)))) y z) (b+1+1) ⟨y,z,rfl⟩ (by rw[List.length_range];exact a7 _)
 refine KK ⟨y',z',?_⟩
 rw[List.filter_eq_self.mpr (λ_ _=>rfl),hz]at e
 exact(Hq (vY (N:=b+1) (by (exact ah (by assumption) b9)) (Gd (k:=1) (x:=b) (zs:=[a,b,c]) (ef rfl h2) rfl (by decide)))).trans e
theorem WS:(pP a b c).length≤(a+1)*((b+1)*(c+1)):=by
 unfold pP
 refine aa (sH ((b+1)*(c+1)) _ _ λi _=>aa (sH (c+1) _ _ λj _=>by rw[bI,List.length_range];exact am _) (List.length_range.symm▸am _)) (List.length_range.symm▸am _)
theorem WH(h2:v 2=some (.dat (.list (aY [a,b,c]))))(ha:a≤10)(hb:b≤10)(hc:c≤10):wK.1 ⟨v.loc,hp⟩=some (.next,⟨(v.u 26 (some (.dat (.list (aY (pP a b c)))))).loc,hp⟩):=by
 refine cps λ_ KK=>?_
 obtain⟨loc',_,e⟩:=xm (λx:Nat=>PyData.int (x:Int)) (λloc=>∃x y z,loc=kB v x y z) (T:=cr 41) (tests:=tt) (inner:=ne1) (t:=λ_=>true) (ds:=λi=>(List.range (b+1)).flatMap λj=>(List.range (c+1)).map λk=>PyData.int ((i+j+k:Nat):Int)) (hp:=hp) (List.range (a+1)) (λi hi loc ⟨x,y,z,eQ⟩=>by
  subst eQ
  refine cps λ_ KK=>?_
  obtain⟨y',z',e⟩:=UR (hp:=hp) h2 hb hc i y z
  refine KK ⟨kB v (some (.dat (.int (i:Nat)))) y z,⟨_,_,_,rfl⟩,?_,rfl,λ_=>⟨_,⟨_,_,_,rfl⟩,e⟩⟩
  show some ((((v.loc.set 41 _).set 42 _).set 43 _).set 41 _)=_
  rw[List.set_comm _ _ (show 43≠41 by decide),List.set_comm _ _ (show 42≠41 by decide),List.set_set]) (kB v none none none) (a+1+1) ⟨none,none,none,rfl⟩ (List.length_range.symm▸a7 _)
 refine KK ?_
 replace e:=(List.filter_eq_self.mpr (λ_ _=>rfl))▸e
 have Zn:((List.range (a+1)).flatMap λi=>(List.range (b+1)).flatMap λj=>(List.range (c+1)).map λk=>PyData.int ((i+j+k:Nat):Int))=aY (pP a b c):=by
  unfold pP aY
  refine List.map_flatMap.symm▸?_
  congr 1
  funext i
  refine List.map_flatMap.symm▸?_
  congr 1
  funext j
  refine List.map_map.symm▸?_
  rfl
 replace e:=Zn▸e
 have hlen:=WS (a:=a) (b:=b) (c:=c)
 have hb2:(a+1)*((b+1)*(c+1))≤11*(11*11):=Nat.mul_le_mul (by (exact bQ (by assumption))) (Nat.mul_le_mul (by (exact bQ (by assumption))) (by (exact bQ (by assumption))))
 refine f22.symm▸?_
 exact dR (Nl (vY (N:=a+1) (by (exact ah (by assumption) b9)) (Gd (k:=0) (x:=a) (zs:=[a,b,c]) (L:=v.loc) (ef rfl h2) rfl (by decide))) e (by rw[qs];unfold lim;exact aa hlen (aa hb2 b9)))
theorem SG{F1 F2:EF}{L:Loc}{l:List Nat}{k:Nat}(h1:F1 ⟨L,hp⟩=some (.dat (.list (aY l)),hp))(h2:F2 ⟨L,hp⟩=some (.dat (.int (k:Nat)),hp)):aB (Br F1 F2) ⟨L,hp⟩=some (.dat (.int (l.count k:Nat)),hp):=by
 have e:uY (.list (aY l)) (.int (k:Nat))=some (.int (l.count k:Nat)):=by
  show(qh (aY l)).map (λis=>PyData.int (is.count (k:Int):Nat))=_
  rw[I2]
  show some (PyData.int _)=_
  rw[MS]
 unfold aB Br aN
 rw[h1]
 show(match(aN F2 λb=>ev uY (.dat (.list (aY l))) b:NF) ⟨L,hp⟩with|some (d,hp)=>some (PV.dat d,hp)|none=>none)=_
 unfold aN
 rw[h2]
 unfold ev
 dsimp only[rd]
 exact e.symm▸rfl
theorem QQ(jz:v 23=some (.dat (.int ((a+b+c:Nat):Int))))(TM:v 26=some (.dat (.list (aY (pP a b c)))))(ht:a+b+c≤30):AK.1 ⟨v.loc,hp⟩=some (.next,⟨(v.u 27 (some (.dat (.list (aY (manyN a b c)))))).loc,hp⟩):=by
 have e:=comp_map (λx:Nat=>PyData.int (x:Int)) (λloc=>∃y,loc=v.loc.set 44 y) (S:=fE (aM (aB (aZ .Add (aj 23) (iC 1))) bA)) (T:=cr 44) (tests:=tt) (F:=aB (Br (aj 26) (aj 44))) (t:=λ_=>true) (r:=λk=>.int ((pP a b c).count k:Nat)) (hp:=hp) (l:=List.range (a+b+c+1)) (loc:=v.loc) (ts:=[44]) (n:=a+b+c+1+1)
  (vY (N:=a+b+c+1) (by (exact ah (by assumption) b9)) (bS (op:=.Add) (F2:=iC 1) (aV rfl jz) rfl rfl)) (by rw[List.length_range];exact a7 _) (λk hk loc ⟨y,eQ⟩=>by
   subst eQ
   exact⟨_,⟨some (.dat (.int (k:Nat))),rfl⟩,by show some ((v.loc.set 44 y).set 44 _)=_;rw[List.set_set],rfl,λ_=>SG (hO (ef rfl TM)) (aV rfl rfl)⟩) ⟨none,rfl⟩ (by rw[List.length_range];unfold lim;(exact ah (by assumption) b9))
 rw[List.filter_eq_self.mpr (λ_ _=>rfl)]at e
 refine(dR e).trans ?_
 unfold manyN aY
 rw[List.map_map]
 rfl
theorem PI:yD.1 ⟨v.loc,hp⟩=some (.next,⟨(v.u 28 (some (.obj hp.length))).loc,hp++[.lst []]⟩):=rfl
end
abbrev jD:=Nat×Int×Int
noncomputable def df(x:jD):PyData:=.tuple [.int (x.1:Nat),.int x.2.1,.int x.2.2]
noncomputable def mK(ms:List Nat)(k:Nat):Nat:=(ms[k]?).getD 0
noncomputable def stI(ms:List Nat)(tot s k:Nat):Int:=((mK ms k:Int) - (if k=0 then 0 else(mK ms (k - 1):Int)))*(((tot - k) / s+1:Nat):Int)
noncomputable def kx(ms:List Nat)(tot s:Nat):Int:=((List.range (tot / 2+1)).map (stI ms tot s)).sum
noncomputable def t6(ms:List Nat)(tot s:Nat):Int:=((List.range (tot / s+1)).map λi=>(mK ms (i*s):Int)).sum
noncomputable def DG(ms:List Nat)(tot rest late s:Nat):jD:=(s,(s:Int)*kx ms tot s+rest,(s:Int)*(kx ms tot s - t6 ms tot s)+late)
noncomputable def lQ(ms:List Nat)(tot rest late m:Nat):List jD:=(List.range' 1 m).map (DG ms tot rest late)
theorem Ls(s:Nat):∀(n a:Nat),ew (a:Int) (s:Int) n=(List.range n).map λ(i:Nat)=>PyData.int ((a+i*s:Nat):Int)
|0,a=>rfl
|n+1,a=>by
  show PyData.int (a:Int)::ew ((a:Int)+(s:Int)) (s:Int) n=_
  rw[List.range_succ_eq_map,bP,List.map_map,show((a:Int)+(s:Int))=((a+s:Nat):Int)from rfl,Ls s n (a+s),Nat.zero_mul,Nat.add_zero]
  congr 1
  refine List.map_congr_left λi _=>?_
  show PyData.int ((a+s+i*s:Nat):Int)=PyData.int ((a+(i+1)*s:Nat):Int)
  rw[Nat.add_mul,Nat.one_mul,Nat.add_assoc,Nat.add_comm s]
theorem Es(t s:Nat)(hs:0 < s):Builtin.Range.rangeSize 0 ((t+1:Nat):Int) (s:Int)=((t / s+1:Nat):Int):=by
 unfold Builtin.Range.rangeSize
 rw[if_pos (show(s:Int) > 0 from Int.ofNat_lt.mpr hs),if_pos (show(0:Int) < ((t+1:Nat):Int)from Int.ofNat_lt.mpr (Nat.succ_pos t)),show(((t+1:Nat):Int) - 0 - 1)=((t:Nat):Int)from(congrArg (· - 1) (Int.sub_zero _)).trans (Int.add_sub_cancel (t:Int) 1)]
 rfl
section
variable {v:Vs}{hp bs:List MO}{ms:List Nat}{tot rest late s k:Nat}
theorem Y1{L:Loc}{F1 F2:EF}(h1:F1 ⟨L,hp⟩=some (.dat (.int ((tot+1:Nat):Int)),hp))(h2:F2 ⟨L,hp⟩=some (.dat (.int (s:Nat)),hp))(hs:0 < s)(eR:s≤1000)(ht:tot≤1000) :
  nu (aM (iC 0) (aM F1 (aM F2 bA))) ⟨L,hp⟩=some ((.rem ((List.range (tot / s+1)).map λ(i:Nat)=>PyData.int ((i*s:Nat):Int)),tot / s+1+1),hp):=by
 have hd:tot / s≤tot:=Nat.div_le_self ..
 have xO:Builtin.Range.small 0 ((tot+1:Nat):Int) (s:Int)=true:=by
  unfold Builtin.Range.small
  rw[Es tot s hs,pF (r:=((tot+1:Nat):Int)) (by (exact Nat.lt_of_le_of_lt (by assumption) b9)),pF (r:=(s:Int)) (by (exact Nat.le_trans (by assumption) b9)),pF (r:=((tot / s+1:Nat):Int)) (Nat.le_trans (Nat.succ_le_succ (Nat.le_trans hd ht)) b9),pF (r:=0) (by decide),if_pos (show(s:Int) > 0 from Int.ofNat_lt.mpr hs),pF (r:=(((tot+1:Nat):Int)+((s:Int) - 1))) (Nat.le_trans (Int.natAbs_add_le _ _) (Nat.le_trans (Nat.add_le_add (Nat.succ_le_succ ht) (Nat.le_trans (Int.natAbs_sub_le _ _) (Nat.add_le_add_right eR 1))) b9)),Bool.or_true]
  rfl
 unfold nu
 rw[show aM (iC 0) (aM F1 (aM F2 bA)) ⟨L,hp⟩=some ([.dat (.int 0),.dat (.int ((tot+1:Nat):Int)),.dat (.int (s:Nat))],hp)from jK rfl (sY h1 h2)]
 show(if(s:Int)≠0∧Builtin.Range.small 0 ((tot+1:Nat):Int) (s:Int)=true∧(s:Int).natAbs < 2 ^ 60∧0≤Builtin.Range.rangeSize 0 ((tot+1:Nat):Int) (s:Int)then some ((IS.rem (ew 0 (s:Int) (Builtin.Range.rangeSize 0 ((tot+1:Nat):Int) (s:Int)).toNat),(Builtin.Range.rangeSize 0 ((tot+1:Nat):Int) (s:Int)).toNat+1),hp)else none)=_
 rw[if_pos ⟨λe=>Nat.ne_of_gt hs (Int.ofNat.inj e),xO,Nat.lt_of_le_of_lt (show(s:Int).natAbs≤1000 from eR) b9,by rw[Es tot s hs];exact bf _⟩,Es tot s hs,Int.toNat_natCast]
 have e:=Ls s (tot / s+1) 0
 simp only[Nat.zero_add]at e
 exact congrArg (λl=>some ((IS.rem l,tot / s+1+1),hp)) e
theorem GZ(md:d2 L 27=some (.dat (.list (aY ms))))(hF:F ⟨L,hp⟩=some (.dat (.int (k:Nat)),hp))(hk:k < ms.length)(hl:ms.length≤1000):eM (aj 27) F ⟨L,hp⟩=some (.dat (.int (mK ms k:Nat)),hp) :=
 jo (hO md) hF (n9 (rn (by unfold mK;rw[List.getElem?_eq_getElem hk];rfl)) (aa (aG hk) (aa hl b9)))
noncomputable def KN:EF:=aB (aN (aB (aN (aj 45) λa=>aN (iC 0) λb=>ev (λx y=>(fq .Gt x y).map .bool) a b)) (im B1.int.f))
noncomputable def Ed:EF:=aB (aZ .Mult (aB (aZ .Sub (eM (aj 27) (aj 45)) (aB (aZ .Mult (eM (aj 27) (aB (aZ .Sub (aj 45) (iC 1)))) KN)))) (aB (aZ .Add (aB (aZ .FloorDiv (aB (aZ .Sub (aj 23) (aj 45))) (aj 29))) (iC 1))))
theorem Yq(yW:d2 L 45=some (.dat (.int (k:Nat)))):KN ⟨L,hp⟩=some (.dat (.int (if k=0 then 0 else 1)),hp):=by
 refine mE (a:=.bool (decide (0 < k))) (Cf (op:=.Gt) (F2:=iC 0) (hO yW) rfl (show some (decide ((0:Int) < (k:Nat)))=some (decide (0 < k))from congrArg some (decide_eq_decide.mpr Int.natCast_pos))) ?_
 by_cases h:k=0
 ·rw[if_pos h,h];rfl
 ·rw[if_neg h,decide_eq_true (Nat.pos_of_ne_zero h)];rfl
theorem VL(md:d2 L 27=some (.dat (.list (aY ms))))(jz:d2 L 23=some (.dat (.int (tot:Nat))))(ro:d2 L 29=some (.dat (.int (s:Nat))))(yW:d2 L 45=some (.dat (.int (k:Nat))))(hk:k≤tot)(iQ:ms.length=tot+1)(ht:tot≤100)(hs:0 < s)(eR:s≤1000):Ed ⟨L,hp⟩=some (.dat (.int (stI ms tot s k)),hp):=by
 have hd:(tot - k) / s≤tot:=aa (Nat.div_le_self ..) (b5 ..)
 have AD:aj 45 ⟨L,hp⟩=some (.dat (.int (k:Nat)),hp):=hO yW
 have e1:=GZ (hp:=hp) md AD (Nat.lt_of_lt_of_eq (bQ hk) iQ.symm) (aa (aU iQ) (aa (aS ht) b9))
 have e2:∃x:Int,eM (aj 27) (aB (aZ .Sub (aj 45) (iC 1))) ⟨L,hp⟩=some (.dat (.int x),hp)∧x*(if k=0 then 0 else 1)=(if k=0 then 0 else(mK ms (k - 1):Int)):=by
  by_cases h:k=0
  ·have PX:idx (aY ms) (-1)=some (.int (mK ms tot:Nat)):=by
    have eU:(aY ms)[tot]?=some (.int (mK ms tot:Nat)):=rn (by unfold mK;rw[List.getElem?_eq_getElem (by (exact Nat.le_of_eq (Eq.symm (by assumption))))];rfl)
    unfold idx
    rw[if_pos (by decide),qs,iQ,show(-1+((tot+1:Nat):Int))=(tot:Int)from(Int.add_comm _ _).trans (Int.add_sub_cancel (tot:Int) 1),if_pos (Int.natCast_nonneg _)]
    exact eU
   refine⟨(mK ms tot:Nat),jo (hO md) (bS (op:=.Sub) (F2:=iC 1) (d:=.int (-1)) AD rfl (by rw[h];rfl)) ?_,by rw[if_pos h,if_pos h,Int.mul_zero]⟩
   show(if(-1:Int).natAbs≤lim then idx (aY ms) (-1)else none)=_
   rw[if_pos (by decide),PX]
  ·refine⟨(mK ms (k - 1):Nat),GZ (hp:=hp) md (bS (op:=.Sub) (F2:=iC 1) (d:=.int ((k - 1:Nat):Int)) AD rfl (congrArg (λx=>some (PyData.int x)) (Int.natCast_sub (Nat.one_le_iff_ne_zero.mpr h)).symm)) (ah (b5 k 1) (Nat.lt_of_lt_of_eq (bQ hk) iQ.symm)) (aa (aU iQ) (aa (aS ht) b9)),by rw[if_neg h,if_neg h,Int.mul_one]⟩
 obtain⟨x,e2,hx⟩:=e2
 have e3:=Yq (hp:=hp) yW
 have e4:aB (aZ .Add (aB (aZ .FloorDiv (aB (aZ .Sub (aj 23) (aj 45))) (aj 29))) (iC 1)) ⟨L,hp⟩=some (.dat (.int (((tot - k) / s+1:Nat):Int)),hp) :=
  bS (op:=.Add) (F2:=iC 1) (bS (op:=.FloorDiv) (a:=.int ((tot - k:Nat):Int)) (bS (op:=.Sub) (hO jz) AD (by show some (PyData.int ((tot:Int) - (k:Int)))=_;rw[Int.natCast_sub hk])) (hO ro) (G8 hs (ah eR b9))) rfl rfl
 unfold Ed
 refine bS (op:=.Mult) (bS (op:=.Sub) (b:=.int (if k=0 then 0 else(mK ms (k - 1):Int))) e1 (bS (op:=.Mult) e2 e3 ?_) rfl) e4 ?_
 ·refine hx▸?_
  exact if_pos (show(if k=0 then(0:Int)else 1).natAbs < 2 ^ 60 by by_cases h:k=0<;>simp[h])
 ·exact if_pos (show(((tot - k) / s+1:Nat):Int).natAbs < 2 ^ 60 by rw[Int.natAbs_natCast];exact ah (show _≤101 by (exact ah (by assumption) (ah (by assumption) b9))) b9)
theorem d0(md:v 27=some (.dat (.list (aY ms))))(jz:v 23=some (.dat (.int (tot:Nat))))(ro:v 29=some (.dat (.int (s:Nat))))(iQ:ms.length=tot+1)(ht:tot≤100)(hs:0 < s)(eR:s≤1000):CQ.1 ⟨v.loc,hp⟩=some (.next,⟨(v.u 30 (some (.dat (.int (kx ms tot s))))).loc,hp⟩):=by
 have e:=comp_map (λx:Nat=>PyData.int (x:Int)) (λloc=>∃y,loc=v.loc.set 45 y) (S:=fE (aM (aB (aZ .Add (aB (aZ .FloorDiv (aj 23) (iC 2))) (iC 1))) bA)) (T:=cr 45) (tests:=tt) (F:=Ed) (t:=λ_=>true) (r:=λk=>.int (stI ms tot s k)) (hp:=hp) (l:=List.range (tot / 2+1)) (loc:=v.loc) (ts:=[45]) (n:=tot / 2+1+1)
  (vY (N:=tot / 2+1) (aa (aS (aa (Nat.div_le_self _ _) ht)) b9) (bS (op:=.Add) (F2:=iC 1) (bS (op:=.FloorDiv) (F2:=iC 2) (aV rfl jz) rfl (G8 (k:=2) (by decide) (by decide))) rfl rfl)) (by rw[List.length_range];exact a7 _) (λk hk loc ⟨y,eQ⟩=>by
   subst eQ
   have pr:=List.mem_range.mp hk
   exact⟨_,⟨some (.dat (.int (k:Nat))),rfl⟩,by show some ((v.loc.set 45 y).set 45 _)=_;rw[List.set_set],rfl,λ_=>VL (ef rfl md) (ef rfl jz) (ef rfl ro) (ef rfl rfl) (aa (aC pr) (Nat.div_le_self _ _)) iQ ht hs eR⟩) ⟨none,rfl⟩ (by rw[List.length_range];exact aa (aS (aa (Nat.div_le_self _ _) ht)) b9)
 rw[List.filter_eq_self.mpr (λ_ _=>rfl)]at e
 refine dR (mE e (show(jt ((List.range (tot / 2+1)).map λk=>PyData.int (stI ms tot s k))).map PyData.int=some (.int (kx ms tot s))from ?_))
 have:=GX ((List.range (tot / 2+1)).map (stI ms tot s))
 rw[List.map_map]at this
 rw[show((List.range (tot / 2+1)).map λk=>PyData.int (stI ms tot s k))=(List.range (tot / 2+1)).map (PyData.int ∘ stI ms tot s)from rfl,this]
 rfl
noncomputable def YL:EF:=aB (aN (ix (nu (aM (iC 0) (aM (aB (aZ .Add (aj 23) (iC 1))) (aM (aj 29) bA)))) stepI (cr 46) tt (gM (eM (aj 27) (aj 46))) [46]) (im B1.sum.f))
theorem abC(md:v 27=some (.dat (.list (aY ms))))(jz:v 23=some (.dat (.int (tot:Nat))))(ro:v 29=some (.dat (.int (s:Nat))))(iQ:ms.length=tot+1)(ht:tot≤100)(hs:0 < s)(eR:s≤1000):YL ⟨v.loc,hp⟩=some (.dat (.int (t6 ms tot s)),hp):=by
 have hd:tot / s≤tot:=Nat.div_le_self ..
 have e:=comp_map (λi:Nat=>PyData.int ((i*s:Nat):Int)) (λloc=>∃y,loc=v.loc.set 46 y) (S:=nu (aM (iC 0) (aM (aB (aZ .Add (aj 23) (iC 1))) (aM (aj 29) bA)))) (T:=cr 46) (tests:=tt) (F:=eM (aj 27) (aj 46)) (t:=λ_=>true) (r:=λi=>.int (mK ms (i*s):Nat)) (hp:=hp) (l:=List.range (tot / s+1)) (loc:=v.loc) (ts:=[46]) (n:=tot / s+1+1)
  (Y1 (L:=v.loc) (bS (op:=.Add) (F2:=iC 1) (aV rfl jz) rfl rfl) (aV rfl ro) hs eR (by (exact aa (by assumption) b9))) (by rw[List.length_range];exact a7 _) (λi hi loc ⟨y,eQ⟩=>by
   subst eQ
   have mC:=aC (List.mem_range.mp hi)
   have hm:i*s≤tot:=aa (ba s mC) (Nat.div_mul_le_self ..)
   exact⟨_,⟨some (.dat (.int ((i*s:Nat):Int))),rfl⟩,by show some ((v.loc.set 46 y).set 46 _)=_;rw[List.set_set],rfl,λ_=>GZ (hp:=hp) (ef rfl md) (aV rfl rfl) (Nat.lt_of_lt_of_eq (bQ hm) iQ.symm) (aa (aU iQ) (aa (aS ht) b9))⟩) ⟨none,rfl⟩ (by rw[List.length_range];exact aa (aS (aa hd ht)) b9)
 rw[List.filter_eq_self.mpr (λ_ _=>rfl)]at e
 refine mE e (show(jt ((List.range (tot / s+1)).map λi=>PyData.int (mK ms (i*s):Nat))).map PyData.int=some (.int (t6 ms tot s))from ?_)
 have:=GX ((List.range (tot / s+1)).map λi=>(mK ms (i*s):Int))
 rw[List.map_map]at this
 rw[show((List.range (tot / s+1)).map λi=>PyData.int (mK ms (i*s):Nat))=(List.range (tot / s+1)).map (PyData.int ∘ λi=>(mK ms (i*s):Int))from rfl,this]
 rfl
theorem d1(md:v 27=some (.dat (.list (aY ms))))(jz:v 23=some (.dat (.int (tot:Nat))))(ro:v 29=some (.dat (.int (s:Nat))))(X6:v 30=some (.dat (.int (kx ms tot s))))(o7:v 24=some (.dat (.int (rest:Nat))))(u8:v 25=some (.dat (.int (late:Nat))))(pM:v 28=some (.obj bs.length))
  (iQ:ms.length=tot+1) (ht:tot≤100) (hs:0 < s) (eR:s≤1000) (dN:(kx ms tot s).natAbs≤100000∧(kx ms tot s - t6 ms tot s).natAbs≤100000) (hD:D.length≤1000) :
  EK.1 ⟨v.loc,bs++[.lst (D.map df)]⟩=some (.next,⟨v.loc,bs++[.lst ((D++[DG ms tot rest late s]).map df)]⟩):=by
 let H:=bs++[MO.lst (D.map df)]
 have ep:=abC (hp:=H) md jz ro iQ ht hs eR
 have ml:∀{x:Int},x.natAbs≤100000->xZ (.int (s:Nat)) (.int x)=some (.int ((s:Int)*x)):=λ{x} hx=>if_pos (ah hx b9)
 have Fs:aj 29 ⟨v.loc,H⟩=some (.dat (.int (s:Nat)),H):=aV rfl ro
 have Iw:aj 30 ⟨v.loc,H⟩=some (.dat (.int (kx ms tot s)),H):=aV rfl X6
 have et:=vn Fs (bS (op:=.Add) (bS (op:=.Mult) Fs Iw (ml dN.1)) (aV (i:=24) rfl o7) rfl) (bS (op:=.Add) (bS (op:=.Mult) Fs (bS (op:=.Sub) Iw ep rfl) (ml dN.2)) (aV (i:=25) rfl u8) rfl)
 have ea:=pA (append_eq (F1:=aj 28) (i:=bs.length) (aV rfl pM) (List.getElem?_concat_length ..) (by rw[bI];exact aa hD b9) et)
 refine Eq.trans ea ?_
 show some (Fl.next,St.mk v.loc ((bs++[MO.lst (D.map df)]).set bs.length _))=_
 rw[List.set_append_right _ _ (Nat.le_refl _),Nat.sub_self,List.map_append]
 rfl
noncomputable abbrev Ii:XF:=aH CQ.1 (aH EK.1 bh)
theorem imax(a b):((max a b:Nat):Int)=max (a:Int) b:=(Nat.le_total a b).elim (λh=>by rw[Nat.max_eq_right h,Int.max_eq_right (bk h)]) λh=>by rw[Nat.max_eq_left h,Int.max_eq_left (bk h)]
theorem WM(md:v 27=some (.dat (.list (aY ms))))(jz:v 23=some (.dat (.int (tot:Nat))))(o7:v 24=some (.dat (.int (rest:Nat))))(u8:v 25=some (.dat (.int (late:Nat))))(pM:v 28=some (.obj bs.length))(iQ:ms.length=tot+1)(ht:tot≤100)(hr:rest≤100)(Aj:late≤100)
  (dN:∀s,0 < s->s≤max (max tot rest) late+1->(kx ms tot s).natAbs≤100000∧(kx ms tot s - t6 ms tot s).natAbs≤100000) :
  ∃σ,Cc.1 ⟨v.loc,bs++[.lst []]⟩=some (.next,σ)∧Lp [29,30] 28 (some (.obj bs.length)) v (bs++[.lst ((lQ ms tot rest late (max (max tot rest) late+1)).map df)]) σ:=by
 generalize hM:max (max tot rest) late=M at *
 have Jj:M≤100:=hM▸Nat.max_le.mpr ⟨Nat.max_le.mpr ⟨ht,hr⟩,Aj⟩
 have q:=vL (B:=Ii) (t:=29) (l:=[29,30]) (H:=λm=>bs++[.lst ((lQ ms tot rest late m).map df)]) (x:=λ_=>some (.obj bs.length)) (v:=v) (λm=>.int ((1+m:Nat):Int)) (iz (M+1) ((1:Nat):Int) 1) (λm d hd=>⟨iz (M+1) _ _▸(List.getElem?_eq_some_iff.mp hd).1,(tv _ _ _ _ hd).trans (by rw[Int.mul_one,Int.natCast_add])⟩) rfl (λ_ _=>rfl) (λ_ _=>rfl) pM λm hm w K p q=>by
  have y1:=aa (aC hm) Jj
  have Nu:1+m≤1000:=aa (aQ y1 1) b9
  have xY:(lQ ms tot rest late m).length≤1000:=by
   unfold lQ
   rw[bI,List.length_range']
   exact aa y1 b9
  have N1:=(K 27 rfl).trans md
  have LH:=(K 23 rfl).trans jz
  let v2:Vs:=w.u 30 (some (.dat (.int (kx ms tot (1+m)))))
  have e1:=d1 (v:=v2) (bs:=bs) (D:=lQ ms tot rest late m) (s:=1+m) (rest:=rest) (late:=late) N1 LH q rfl ((K 24 rfl).trans o7) ((K 25 rfl).trans u8) p iQ ht (ax _ _) Nu (dN (1+m) (ax _ _) (aa (aU (Nat.add_comm 1 m)) hm)) xY
  rw[show lQ ms tot rest late m++[DG ms tot rest late (1+m)]=lQ ms tot rest late (m+1)by unfold lQ;rw[List.range'_1_concat,List.map_append];rfl]at e1
  exact⟨_,(bm (d0 N1 LH q iQ ht (ax _ _) Nu)).trans ((bm e1).trans rfl),.mk v2 (K.u rfl) p⟩
 have rA:=zT (a:=1) (b:=M+2) (by decide) (aa (az Jj 2) b9)
 have Uz:max (max (tot:Int) rest) late=(M:Int):=by rw[← hM,imax,imax]
 have a1:aB (aZ .Add (aB (oC .mx (aM (aj 23) (aM (aj 24) (aM (aj 25) bA))))) (iC 2)) ⟨v.loc,bs++[.lst []]⟩=some (.dat (.int ((M+2:Nat):Int)),bs++[.lst []]) :=
  bS (op:=.Add) (F2:=iC 2) (a:=.int (M:Nat)) (AS (b:=.mx) (ds:=[.int (tot:Nat),.int (rest:Nat),.int (late:Nat)]) (jK (aV rfl jz) (sY (aV rfl o7) (aV rfl u8))) rfl (show some (PyData.int (max (max (tot:Int) rest) late))=_ by rw[Uz])) rfl rfl
 have a2:=GQ (a:=((1:Nat):Int)) (b:=((M+2:Nat):Int)) (n:=M+1) (F1:=iC 1) (L:=v.loc) (hp:=bs++[.lst []]) rfl a1 rA.1 (rA.2.trans (by rfl))
 exact q.imp λ_ q=>⟨(show fu (fE (aM (iC 1) (aM (aB (aZ .Add (aB (oC .mx (aM (aj 23) (aM (aj 24) (aM (aj 25) bA))))) (iC 2))) bA))) (λis n=>cx stepI (cr 29) Ii n is) _=_ from pW a2 q.1),q.2⟩
end
noncomputable def tN(r:List Int):List Nat:=r.map Int.toNat
theorem Wc(uV:rest≤100)(GN:base.all (MO.closed (base.length+1))=true)(hr:∀r∈ri,r.natAbs≤50)(hl:ri.length≤100):Cs [.dat (.list (ri.map .int)),.dat (.int (rest:Nat))] base=some (.obj base.length,base++[wB (tN ri) rest]):=by
 let L0:=dI [.dat (.list (ri.map .int)),.dat (.int (rest:Nat))] 1
 have n0:aj 0 ⟨L0,base⟩=some (.dat (.list (ri.map .int)),base):=rfl
 have gL:∀r∈tN ri,r≤50:=λr hm=>(bo hm).elim λx q=>q.2▸aa (i5 x) (hr x q.1)
 have eZ:(tN ri).length≤100:=by unfold tN;rw[bI];exact hl
 have e:=comp_map (λr:Int=>PyData.int r) (λloc=>∃a,loc=[some (.dat (.list (ri.map .int))),some (.dat (.int (rest:Nat))),a]) (S:=ej (aj 0)) (T:=cr 2) (tests:=λσ=>some (true,σ.hp))
  (F:=aB (aZ .Add (aB (aZ .Mult (sC [32]) (aj 2))) (sC [9]))) (t:=λ_=>true) (r:=λr=>sD (rV r.toNat)) (hp:=base) (l:=ri) (loc:=L0) (ts:=[2]) (n:=ri.length+1)
  (by
   unfold ej
   rw[n0]
   show some ((IS.rem (ri.map .int),(ri.map PyData.int).length+1),base)=_
   rw[bI]) (am _) (λr hm loc ⟨a,eQ⟩=>by
   subst eQ
   refine⟨_,⟨some (.dat (.int r)),rfl⟩,rfl,rfl,λ_=>?_⟩
   have hk:=hr r hm
   have e3:=xb (hp:=base) (c:=32) (F:=aj 2) (L:=[some (.dat (.list (ri.map .int))),some (.dat (.int (rest:Nat))),some (.dat (.int r))]) (i:=r) rfl (by (exact aa (by assumption) b9))
   exact pI (F2:=sC [9]) (y:=[9]) e3 rfl (by rw[bL];exact aa (aS (aa (i5 r) hk)) b9)) ⟨none,rfl⟩ (aa hl b9)
 rw[List.filter_eq_self.mpr (λ_ _=>rfl)]at e
 have hj:nQ ⟨⟨[]⟩⟩ (ri.map λr=>sD (rV r.toNat))=some (sD (fU (tN ri))):=by
  have h1:(ri.map λr=>sD (rV r.toNat))=ce ((tN ri).map rV):=by unfold ce tN;rw[List.map_map,List.map_map];rfl
  have hw:∀w∈(tN ri).map rV,w.length≤51:=λw hw=>(bo hw).elim λr q=>q.2▸JX (gL r q.1)
  rw[h1,join_eq (by
   refine Nat.le_trans (Af (M:=51) (k:=0) _ hw) ?_
   rw[bI]
   exact aa (ba 51 eZ) b9) (λ_ h=>bT h) (λw hw c hc=>(bo hw).elim λr q=>by
    rw[← q.2]at hc
    refine(ae hc).elim (λh=>?_) λh=>?_
    ·rw[(b4 h).2];decide
    ·rw[ak h];decide),uu]
  rfl
 have hlen:=XN gL eZ
 have e1:=vF (m:=.join) (F1:=sC []) (x:=sD []) (L:=L0) rfl rfl e hj
 have e2:=xb (hp:=base) (c:=32) (F:=aj 1) (L:=L0) (i:=((rest:Nat):Int)) rfl (by (exact aa (by assumption) b9))
 rw[Int.toNat_natCast]at e2
 have e3:=pI (F2:=sC [120,32,9]) (y:=[120,32,9]) (pI e1 e2 (by rw[bL];exact aa (ay hlen uV) b9)) rfl (by rw[bH,bL];exact aa (az (ay hlen uV) 3) b9)
 rw[bJ,show List.replicate rest 32++[120,32,9]=p9 rest from rfl]at e3
 have lW:=Sn (base:=base) (runs:=tN ri) (rest:=rest) (aa uV b9) GN (λr hm=>aa (az (gL r hm) 1) b9) (aa eZ b9) hlen (aa (Gw (tN ri) [] 51 (λr hm=>bQ (gL r hm)) (bZ _)) b9)
 have e5:Nh ⟨L0,base⟩=some (.ret (.obj base.length),⟨L0,base++[wB (tN ri) rest]⟩):=by
  refine IM ?_
  unfold u0 aM aN
  rw[e3]
  dsimp only[bA]
  rw[lW]
 exact OU rfl ((congrFun acf _).trans (oU e5))
theorem JQ{α:Type}(g:α->PyData)(Φ:Loc->Prop){T:PyData->Loc->Option Loc}{tests:BF}{inner:CF}{t:α->Bool}{ds:α->List PyData}{hp:List MO}{i:Nat}{l:List α}(hi:hp[i]?=some (.lst (l.map g)))
  (h:∀x∈l,∀loc,Φ loc->∃dL,Φ dL∧T (g x) loc=some dL∧tests ⟨dL,hp⟩=some (t x,hp)∧(t x=true->∃lq,Φ lq∧inner ⟨dL,hp⟩=some (ds x,⟨lq,hp⟩))) :
  ∀(m k:Nat) (loc:Loc) (n:Nat),k+m=l.length->Φ loc->m < n->∃loc',Φ loc'∧gx stepI T tests inner n (.cf i k) ⟨loc,hp⟩=some (((l.drop k).filter t).flatMap ds,⟨loc',hp⟩)
|_,_,_,0=>λ_ _ h=>absurd h (bw _)
|0,k,loc,n+1=>λhk hl _=>by
  have qU:l.length≤k:=aU hk.symm
  have e:stepI (.cf i k) hp=some (none,hp):=by
   rw[xL,hi]
   show(match(l.map g)[k]? with|some d=>some (some (d,IS.cf i (k+1)),hp)|none=>some (none,hp))=_
   rw[List.getElem?_eq_none (by rw[bI];exact qU)]
  refine⟨loc,hl,?_⟩
  rw[gx]
  dsimp only
  refine e.symm▸(List.drop_eq_nil_of_le qU).symm▸?_
  rfl
|m+1,k,loc,n+1=>λhk hl hn=>by
  have dJ:k < l.length:=hk▸Nat.lt_add_of_pos_right (Nat.succ_pos m)
  have e:stepI (.cf i k) hp=some (some (g l[k],.cf i (k+1)),hp):=by
   rw[xL,hi]
   show(match(l.map g)[k]? with|some d=>some (some (d,IS.cf i (k+1)),hp)|none=>some (none,hp))=_
   refine(List.getElem?_map).symm▸(List.getElem?_eq_getElem dJ).symm▸?_
   rfl
  refine cps λ_ KK=>?_
  obtain⟨dL,h1,h2,h3,h4⟩:=h l[k] (List.getElem_mem dJ) loc hl
  refine KK ?_
  have hd:=List.drop_eq_getElem_cons dJ
  have ih:=JQ g Φ hi h m (k+1)
  rw[gx]
  dsimp only
  refine e.symm▸?_
  dsimp only
  refine h2.symm▸?_
  dsimp only
  refine h3.symm▸hd.symm▸?_
  cases ht:t l[k]with
 |false =>
   obtain⟨loc',q,e⟩:=ih dL n (hk▸(Nat.succ_add_eq_add_succ k m)) h1 (bG hn)
   refine⟨loc',q,?_⟩
   dsimp only
   rw[e,List.filter_cons_of_neg (by rw[ht];exact aw)]
 |true =>
   refine cps λ_ KK=>?_
   obtain⟨lq,h5,h6⟩:=h4 ht
   obtain⟨loc',q,e⟩:=ih lq n (hk▸Nat.succ_add_eq_add_succ k m) h5 (bG hn)
   refine KK ⟨loc',q,?_⟩
   dsimp only
   refine h6.symm▸?_
   dsimp only
   refine e.symm▸(List.filter_cons_of_pos ht).symm▸?_
   rfl
theorem vW{α:Type}(g:α->PyData)(Φ:Loc->Prop){S:SF}{T:PyData->Loc->Option Loc}{tests:BF}{F:EF}{t:α->Bool}{r:α->PyData}{hp:List MO}{i:Nat}{l:List α}{loc:Loc}{ts:List Nat}(hS:S ⟨loc,hp⟩=some ((.cf i 0,(l.map g).length+1),hp))(hi:hp[i]?=some (.lst (l.map g)))
  (h:∀k∈l,∀loc,Φ loc->∃dL,Φ dL∧T (g k) loc=some dL∧tests ⟨dL,hp⟩=some (t k,hp)∧(t k=true->F ⟨dL,hp⟩=some (.dat (r k),hp))) (h0:Φ (unset ts loc)) (hl:l.length≤lim) :
  ix S stepI T tests (gM F) ts ⟨loc,hp⟩=some (.dat (.list ((l.filter t).map r)),hp):=by
 obtain⟨loc',_,e⟩:=JQ g Φ (T:=T) (tests:=tests) (inner:=gM F) (t:=t) (ds:=λd=>[r d]) (hp:=hp) (l:=l) hi (λd hd loc ai=>by
  refine cps λ_ KK=>?_
  obtain⟨dL,h1,h2,h3,h4⟩:=h d hd loc ai
  refine KK ?_
  refine⟨dL,h1,h2,h3,λht=>⟨dL,h1,?_⟩⟩
  unfold gM
  rw[h4 ht]) l.length 0 (unset ts loc) ((l.map g).length+1) (Nat.zero_add _) h0 (by rw[bI];exact a7 _)
 have e2:(l.filter t).flatMap (λd=>[r d])=(l.filter t).map r:=(List.map_eq_flatMap ..).symm
 rw[List.drop_zero,e2]at e
 exact Nl hS e (by rw[bI];exact aa (List.length_filter_le ..) hl)
noncomputable abbrev jy(L:Loc)(i j k:Nat)(a b c:Option PV):Loc:=((L.set i a).set j b).set k c
theorem acr(g8:i≠j)(Fc:i≠k)(El:j≠k):jy (jy L i j k a b c) i j k x y z=jy L i j k x y z:=by
 show(((((L.set i a).set j b).set k c).set i x).set j y).set k z=((L.set i x).set j y).set k z
 rw[List.set_comm c x (Ne.symm Fc),List.set_comm b x (Ne.symm g8),List.set_set,List.set_comm c y (Ne.symm El),List.set_set,List.set_set]
theorem uv(g8:i≠j)(Fc:i≠k)(El:j≠k):mz i j k (.tuple [x,y,z]) (jy L i j k a b c)=some (jy L i j k (some (.dat x)) (some (.dat y)) (some (.dat z))):=congrArg some (acr g8 Fc El)
theorem OQ(l:List jD)(k):(l.map df).all (gV (k+2))=true:=by
 rw[List.all_map]
 refine List.all_eq_true.mpr λx _=>?_
 rfl
theorem Ft:∀l:List jD,mt (l.map df) (l.map df)=true
|[]=>rfl
|x::l=>by
  show(((((x.1:Int)==(x.1:Int))&&((x.2.1==x.2.1)&&((x.2.2==x.2.2)&&true))))&&mt (l.map df) (l.map df))=true
  rw[Ft l,beq_self_eq_true,beq_self_eq_true,beq_self_eq_true]
  rfl
theorem LA(l:List jD):fq .NotEq (.list (l.map df)) (.list (l.map df))=some false:=by
 show(if((l.map df).all (gV 2)||gV 3 (.list (l.map df)))=true then some (!(mt (l.map df) (l.map df)))else none)=_
 rw[OQ l 0,if_pos (by rfl),Ft]
 rfl
theorem Xs(l:List jD):fq .Eq (.list (l.map df)) (.list (l.map df))=some true:=by
 show(if((l.map df).all (gV 2)||gV 3 (.list (l.map df)))=true then some (mt (l.map df) (l.map df))else none)=_
 rw[OQ l 0,if_pos (by rfl),Ft]
noncomputable def ki(r1:List Nat)(t1:Nat)(r2:List Nat)(t2:Nat):List jD:=((List.range' 1 (nB r1 t1 r2 t2)).filter (rq r1 t1 r2 t2)).map λs=>(s,kG r1 t1 s,kG r2 t2 s)
theorem Vj(r1)(t1)(r2)(t2):zb r1 t1 r2 t2=(ki r1 t1 r2 t2).map df:=by
 unfold zb kN ki
 rw[List.map_map]
 rfl
noncomputable abbrev hB(f:Bool)(n:Int)(wl:List PyData)(ns:List Nat)(D:List jD)(rs:List (List Nat×Nat)):List MO:=hN 186 false wl [] f n []++fJ ns 3++[.lst (D.map df)]++rs.map λx=>wB x.1 x.2
section
variable {v:Vs}{f:Bool}{n:Int}{wl:List PyData}{ns:List Nat}{D:List jD}{rs:List (List Nat×Nat)}{hp:List MO}{W:List (List Nat)}{rest late tot:Nat}
theorem DC:(hB f n wl ns D rs).length=9+rs.length:=by
 unfold hB
 rw[bH,bH,bH,yr,bI]
 rfl
theorem Mt(h:5≤k):(hB f n wl ns D rs).all (MO.closed k)=true:=by
 obtain⟨m,rfl⟩:=Nat.exists_eq_add_of_le' h
 have h1:(hN 186 false wl [] f n []).all (MO.closed (m+5))=true:=by
  have e2:decide (2 < m+5)=true:=decide_eq_true (by (exact Nat.le_add_left _ _))
  have e4:decide (4 < m+5)=true:=decide_eq_true (by assumption)
  cases f
  ·show(true&&(true&&(true&&((decide (4 < m+5)&&(true&&(decide (2 < m+5)&&(true&&true))))&&(true&&true)))))=true
   rw[e2,e4];rfl
  ·show(true&&(true&&(true&&((true&&(decide (4 < m+5)&&(true&&(decide (2 < m+5)&&true))))&&(true&&true)))))=true
   rw[e2,e4];rfl
 have h2:(fJ ns 3).all (MO.closed (m+5))=true:=by
  unfold fJ
  refine List.all_map.symm▸?_
  exact List.all_eq_true.mpr λ_ _=>rfl
 have h3:(rs.map λx=>wB x.1 x.2).all (MO.closed (m+5))=true:=by
  refine List.all_map.symm▸?_
  exact List.all_eq_true.mpr λ_ _=>rfl
 unfold hB
 refine List.all_append.symm▸List.all_append.symm▸List.all_append.symm▸h1.symm▸h2.symm▸h3.symm▸?_
 rfl
theorem zu:(hB f n wl ns D rs)[7]?=some (.lst ((d7 ns 3).map fX)):=rfl
theorem Gf:(hB f n wl ns D rs)[8]?=some (.lst (D.map df)):=rfl
theorem DF(h:rs[i]?=some x):(hB f n wl ns D rs)[9+i]?=some (wB x.1 x.2):=by
 unfold hB
 have hl:(hN 186 false wl [] f n []++fJ ns 3++[MO.lst (D.map df)]).length=9:=rfl
 rw[List.getElem?_append_right (by rw[hl];exact ax 9 i),hl,Nat.add_sub_cancel_left,List.getElem?_map,h]
 rfl
theorem By(hF:F ⟨L,hB f n wl ns D rs⟩=some (.dat (.list (ri.map .int)),hB f n wl ns D rs))(hG:G ⟨L,hB f n wl ns D rs⟩=some (.dat (.int (t:Nat)),hB f n wl ns D rs))(hr:∀r∈ri,r.natAbs≤50)(hl:ri.length≤100)(ht:t≤100) :
  j9 (aM F (aM G bA)) Cs ⟨L,hB f n wl ns D rs⟩=some (.obj (9+rs.length),hB f n wl ns D (rs++[(tN ri,t)])):=by
 rw[J2 (sY hF hG) (Wc ht (Mt (by rw[DC];exact aa (aa (show 5≤9 by decide) (ax 9 rs.length)) (bx _))) hr hl),DC]
 unfold hB
 rw[List.map_append,← bJ (_++_++_)]
 rfl
noncomputable def xo(W:List (List Nat)):List Int:=(ju W).map λ(x:Nat)=>(x:Int) - 1
noncomputable def tM(fr:List Fr):List Int:=fr.map λx=>(x.2.1:Int)
noncomputable def tE(tot:Nat)(fr:List Fr):List Int:=fr.map λx=>(x.2.1:Int) - (if x.2.1=tot then 1 else 0)
noncomputable def sw(fr:List Fr):List Int:=(fr.filter λx=>decide (0 < x.2.2)).map λx=>(x.2.2:Int) - 1
structure oG(ri:List Int):Prop where
 r:∀r∈ri,r.natAbs≤50
 l:ri.length≤100
theorem s26(wQ:v 12=some (.dat (.list (ce W))))(o7:v 24=some (.dat (.int (rest:Nat))))(eU:∀w∈W,w≠[]∧w.length≤1000)(hl:W.length≤10000)(hr:rest≤100)(ok:oG (xo W)) :
  Av.1 ⟨v.loc,hB f n wl ns D rs⟩=some (.next,⟨(v.u 31 (some (.obj (9+rs.length)))).loc,hB f n wl ns D (rs++[(tN (xo W),rest)])⟩):=by
 have e:=comp_map (λw:List Nat=>sD w) (λloc=>∃a,loc=v.loc.set 47 a) (S:=ej (aj 12)) (T:=cr 47) (tests:=cb .Eq (eM (aj 47) (iC 0)) (sC [46])) (F:=aB (aZ .Sub (aB (fk (aj 47))) (iC 1))) (t:=qP) (r:=λw=>.int ((w.length:Int) - 1)) (hp:=hB f n wl ns D rs) (l:=W) (loc:=v.loc) (ts:=[47]) (n:=W.length+1)
  (by
   unfold ej
   rw[aV rfl wQ]
   show some ((IS.rem (ce W),(ce W).length+1),hB f n wl ns D rs)=_
   rw[Bp]
   rfl) (am _) (λw hm loc ⟨a,eQ⟩=>by
   subst eQ
   have hq:=eU w hm
   exact⟨_,⟨some (.dat (sD w)),rfl⟩,by show some ((v.loc.set 47 a).set 47 _)=_;rw[List.set_set],Lr (aV rfl rfl) hq.1,λ_=>bS (op:=.Sub) (F2:=iC 1) (len_str (aV rfl rfl) (aa hq.2 b9)) rfl rfl⟩) ⟨none,rfl⟩ (aa hl b9)
 have hm:((W.filter qP).map λw=>PyData.int ((w.length:Int) - 1))=(xo W).map .int:=by
  unfold xo ju
  rw[List.map_map,List.map_map]
  rfl
 rw[hm]at e
 exact dR (By e (aV rfl o7) ok.r ok.l hr)
theorem Dh(kH:v 14=some (.obj 7)):ej (aj 14) ⟨v.loc,hB f n wl ns D rs⟩=some ((.cf 7 0,((d7 ns 3).map fX).length+1),hB f n wl ns D rs):=Ax (F:=aj 14) (i:=7) (aV rfl kH) zu
theorem F7(ns):(d7 ns 3).length≤lim:=aa (CX ns 3 (am 3)) b9
theorem s27(kH:v 14=some (.obj 7))(o7:v 24=some (.dat (.int (rest:Nat))))(hr:rest≤100)(ok:oG (tM (d7 ns 3))) :
  z6.1 ⟨v.loc,hB f n wl ns D rs⟩=some (.next,⟨(v.u 32 (some (.obj (9+rs.length)))).loc,hB f n wl ns D (rs++[(tN (tM (d7 ns 3)),rest)])⟩):=by
 have e:=vW fX (λloc=>∃a b c,loc=jy v.loc 48 49 50 a b c) (S:=ej (aj 14)) (T:=mz 48 49 50) (tests:=tt) (F:=aj 49) (t:=λ_=>true) (r:=λx=>.int (x.2.1:Int)) (hp:=hB f n wl ns D rs) (i:=7) (l:=d7 ns 3) (loc:=v.loc) (ts:=[48,49,50])
  (Dh kH) zu (λx hx loc ⟨a,b,c,eQ⟩=>by
   subst eQ
   exact⟨_,⟨_,_,_,rfl⟩,uv (by decide) (by decide) (by decide),rfl,λ_=>aV rfl rfl⟩) ⟨none,none,none,rfl⟩ (F7 ns)
 rw[List.filter_eq_self.mpr (λ_ _=>rfl),show((d7 ns 3).map λx=>PyData.int (x.2.1:Int))=(tM (d7 ns 3)).map .int by unfold tM;rw[List.map_map];rfl]at e
 exact dR (By e (aV rfl o7) ok.r ok.l hr)
theorem Vn(kH:v 14=some (.obj 7))(jz:v 23=some (.dat (.int (tot:Nat))))(o7:v 24=some (.dat (.int (rest:Nat))))(hr:rest≤100)(ok:oG (tE tot (d7 ns 3))) :
  B4.1 ⟨v.loc,hB f n wl ns D rs⟩=some (.next,⟨(v.u 33 (some (.obj (9+rs.length)))).loc,hB f n wl ns D (rs++[(tN (tE tot (d7 ns 3)),rest)])⟩):=by
 have e:=vW fX (λloc=>∃a b c,loc=jy v.loc 51 52 53 a b c) (S:=ej (aj 14)) (T:=mz 51 52 53) (tests:=tt) (F:=aB (aZ .Sub (aj 52) (aB (aN (aB (aN (aj 52) λa=>aN (aj 23) λb=>ev (λx y=>(fq .Eq x y).map .bool) a b)) (im B1.int.f))))) (t:=λ_=>true) (r:=λx=>.int ((x.2.1:Int) - (if x.2.1=tot then 1 else 0))) (hp:=hB f n wl ns D rs) (i:=7) (l:=d7 ns 3) (loc:=v.loc) (ts:=[51,52,53])
  (Dh kH) zu (λx hx loc ⟨a,b,c,eQ⟩=>by
   subst eQ
   refine⟨jy v.loc 51 52 53 (some (.dat (sD x.1))) (some (.dat (.int (x.2.1:Nat)))) (some (.dat (.int (x.2.2:Nat)))),⟨_,_,_,rfl⟩,uv (by decide) (by decide) (by decide),rfl,λ_=>?_⟩
   have Hv:aj 52 ⟨jy v.loc 51 52 53 (some (.dat (sD x.1))) (some (.dat (.int (x.2.1:Nat)))) (some (.dat (.int (x.2.2:Nat)))),hB f n wl ns D rs⟩=some (.dat (.int (x.2.1:Nat)),hB f n wl ns D rs):=aV rfl rfl
   refine bS (op:=.Sub) (b:=.int (if x.2.1=tot then 1 else 0)) Hv (mE (a:=.bool (decide (x.2.1=tot))) (Cf (op:=.Eq) Hv (hO (ef rfl jz)) ?_) ?_) rfl
   ·show some (((x.2.1:Nat):Int)==((tot:Nat):Int))=_
    congr 1
    rw[Bool.eq_iff_iff,beq_iff_eq,decide_eq_true_iff]
    exact Int.ofNat_inj
   ·by_cases h:x.2.1=tot
    ·rw[if_pos h,decide_eq_true h];rfl
    ·rw[if_neg h,decide_eq_false h];rfl) ⟨none,none,none,rfl⟩ (F7 ns)
 rw[List.filter_eq_self.mpr (λ_ _=>rfl),show((d7 ns 3).map λx=>PyData.int ((x.2.1:Int) - (if x.2.1=tot then 1 else 0)))=(tE tot (d7 ns 3)).map .int by unfold tE;rw[List.map_map];rfl]at e
 exact dR (By e (aV rfl o7) ok.r ok.l hr)
theorem RG(kH:v 14=some (.obj 7))(u8:v 25=some (.dat (.int (late:Nat))))(hr:late≤100)(ok:oG (sw (d7 ns 3))) :
  B9.1 ⟨v.loc,hB f n wl ns D rs⟩=some (.next,⟨(v.u 34 (some (.obj (9+rs.length)))).loc,hB f n wl ns D (rs++[(tN (sw (d7 ns 3)),late)])⟩):=by
 have e:=vW fX (λloc=>∃a b c,loc=jy v.loc 54 55 56 a b c) (S:=ej (aj 14)) (T:=mz 54 55 56) (tests:=cb .Gt (aj 56) (iC 0)) (F:=aB (aZ .Sub (aj 56) (iC 1))) (t:=λx=>decide (0 < x.2.2)) (r:=λx=>.int ((x.2.2:Int) - 1)) (hp:=hB f n wl ns D rs) (i:=7) (l:=d7 ns 3) (loc:=v.loc) (ts:=[54,55,56])
  (Dh kH) zu (λx hx loc ⟨a,b,c,eQ⟩=>by
   subst eQ
   refine⟨jy v.loc 54 55 56 (some (.dat (sD x.1))) (some (.dat (.int (x.2.1:Nat)))) (some (.dat (.int (x.2.2:Nat)))),⟨_,_,_,rfl⟩,uv (by decide) (by decide) (by decide),?_,λ_=>bS (op:=.Sub) (F2:=iC 1) (aV rfl rfl) rfl rfl⟩
   exact gK (op:=.Gt) (F2:=iC 0) (a:=.int (x.2.2:Nat)) (aV rfl rfl) rfl rfl rfl (show some (decide ((0:Int) < (x.2.2:Nat)))=some (decide (0 < x.2.2))from congrArg some (decide_eq_decide.mpr Int.natCast_pos))) ⟨none,none,none,rfl⟩ (F7 ns)
 rw[show(((d7 ns 3).filter λx=>decide (0 < x.2.2)).map λx=>PyData.int ((x.2.2:Int) - 1))=(sw (d7 ns 3)).map .int by unfold sw;rw[List.map_map];rfl]at e
 exact dR (By e (aV rfl u8) ok.r ok.l hr)
theorem I7(pM:v 28=some (.obj 8)):ej (aj 28) ⟨v.loc,hB f n wl ns D rs⟩=some ((.cf 8 0,(D.map df).length+1),hB f n wl ns D rs):=Ax (F:=aj 28) (i:=8) (aV rfl pM) Gf
noncomputable def rP(tot:Nat)(D:List jD):List jD:=(D.filter λx=>decide (0 < tot)&&(tot % x.1==0)).map λx=>(x.1,x.2.1,x.2.1 - x.1)
noncomputable def iW(D:List jD):List jD:=(D.filter λx=>!(x.2.1==x.2.2)).map λx=>(x.1,x.2.1,x.2.2)
noncomputable def wf(D:List jD):List jD:=D.map λx=>(x.1,x.2.2,x.2.1)
theorem s30(pM:v 28=some (.obj 8))(jz:v 23=some (.dat (.int (tot:Nat))))(hD:∀x∈D,0 < x.1)(hl:D.length≤1000):A1.1 ⟨v.loc,hB f n wl ns D rs⟩=some (.next,⟨(v.u 35 (some (.dat (.list ((rP tot D).map df))))).loc,hB f n wl ns D rs⟩):=by
 have e:=vW df (λloc=>∃a b c,loc=jy v.loc 57 58 59 a b c) (S:=ej (aj 28)) (T:=mz 57 58 59) (tests:=bindB (cb .Gt (aj 23) (iC 0)) λb=>if b then bindB (cb .Eq (aB (aZ .Mod (aj 23) (aj 57))) (iC 0)) λb=>if b then ia true else ia false else ia false) (F:=aB (lH (aM (aj 57) (aM (aj 58) (aM (aB (aZ .Sub (aj 58) (aj 57))) bA))))) (t:=λx=>decide (0 < tot)&&(tot % x.1==0)) (r:=λx=>df (x.1,x.2.1,x.2.1 - x.1)) (hp:=hB f n wl ns D rs) (i:=8) (l:=D) (loc:=v.loc) (ts:=[57,58,59])
  (I7 pM) Gf (λx hx loc ⟨a,b,c,eQ⟩=>by
   subst eQ
   let L:=jy v.loc 57 58 59 (some (.dat (.int (x.1:Nat)))) (some (.dat (.int x.2.1))) (some (.dat (.int x.2.2)))
   have Ge:aj 57 ⟨L,hB f n wl ns D rs⟩=some (.dat (.int (x.1:Nat)),hB f n wl ns D rs):=aV rfl rfl
   have PB:aj 58 ⟨L,hB f n wl ns D rs⟩=some (.dat (.int x.2.1),hB f n wl ns D rs):=aV rfl rfl
   have Oo:aj 23 ⟨L,hB f n wl ns D rs⟩=some (.dat (.int (tot:Nat)),hB f n wl ns D rs):=hO (ef rfl jz)
   have c1:cb .Gt (aj 23) (iC 0) ⟨L,hB f n wl ns D rs⟩=some (decide (0 < tot),hB f n wl ns D rs):=gK (op:=.Gt) (F2:=iC 0) Oo rfl rfl rfl (show some (decide ((0:Int) < (tot:Nat)))=some (decide (0 < tot))from congrArg some (decide_eq_decide.mpr Int.natCast_pos))
   have c2:cb .Eq (aB (aZ .Mod (aj 23) (aj 57))) (iC 0) ⟨L,hB f n wl ns D rs⟩=some (tot % x.1==0,hB f n wl ns D rs):=gK (op:=.Eq) (F2:=iC 0) (bS (op:=.Mod) Oo Ge (Ae (hD x hx))) rfl rfl rfl (by
    show some (((tot % x.1:Nat):Int)==0)=some (tot % x.1==0)
    congr 1
    rw[Bool.eq_iff_iff,beq_iff_eq,beq_iff_eq]
    exact Int.natCast_eq_zero)
   refine⟨L,⟨_,_,_,rfl⟩,uv (by decide) (by decide) (by decide),?_,λ_=>vn Ge PB (bS (op:=.Sub) PB Ge rfl)⟩
   unfold bindB
   refine c1.symm▸?_
   dsimp only
   cases decide (0 < tot)with
  |false=>rfl
  |true =>
    show(match cb .Eq (aB (aZ .Mod (aj 23) (aj 57))) (iC 0) ⟨L,hB f n wl ns D rs⟩with|some (b,hp)=>(if b then ia true else ia false:BF) ⟨L,hp⟩|none=>none)=_
    refine c2.symm▸?_
    cases tot % x.1==0<;>rfl) ⟨none,none,none,rfl⟩ (aa hl b9)
 rw[show((D.filter λx=>decide (0 < tot)&&(tot % x.1==0)).map λx=>df (x.1,x.2.1,x.2.1 - x.1))=(rP tot D).map df by unfold rP;rw[List.map_map];rfl]at e
 exact dR e
theorem Tu(pM:v 28=some (.obj 8))(hl:D.length≤1000):BB.1 ⟨v.loc,hB f n wl ns D rs⟩=some (.next,⟨(v.u 36 (some (.dat (.list ((iW D).map df))))).loc,hB f n wl ns D rs⟩):=by
 have e:=vW df (λloc=>∃a b c,loc=jy v.loc 60 61 62 a b c) (S:=ej (aj 28)) (T:=mz 60 61 62) (tests:=cb .NotEq (aj 61) (aj 62)) (F:=aB (lH (aM (aj 60) (aM (aj 61) (aM (aj 62) bA))))) (t:=λx=>!(x.2.1==x.2.2)) (r:=λx=>df (x.1,x.2.1,x.2.2)) (hp:=hB f n wl ns D rs) (i:=8) (l:=D) (loc:=v.loc) (ts:=[60,61,62])
  (I7 pM) Gf (λx hx loc ⟨a,b,c,eQ⟩=>by
   subst eQ
   exact⟨jy v.loc 60 61 62 (some (.dat (.int (x.1:Nat)))) (some (.dat (.int x.2.1))) (some (.dat (.int x.2.2))),⟨_,_,_,rfl⟩,uv (by decide) (by decide) (by decide),gK (op:=.NotEq) (a:=.int x.2.1) (b:=.int x.2.2) (aV rfl rfl) (aV rfl rfl) rfl rfl rfl,λ_=>vn (aV rfl rfl) (aV rfl rfl) (aV rfl rfl)⟩) ⟨none,none,none,rfl⟩ (aa hl b9)
 rw[show((D.filter λx=>!(x.2.1==x.2.2)).map λx=>df (x.1,x.2.1,x.2.2))=(iW D).map df by unfold iW;rw[List.map_map];rfl]at e
 exact dR e
noncomputable def ug(k l:Nat):EF:=lS (aj k) 100 "not_equal_witness" (aM (aj l) bA) xF
theorem B6(hk:d2 L k=some (.obj (9+i)))(hl:d2 L l=some (.obj (9+j)))(hi:rs[i]?=some x)(hj:rs[j]?=some y)(ox:gC x.1 x.2)(oy:gC y.1 y.2):ug k l ⟨L,hB f n wl ns D rs⟩=some (.dat (.list ((ki x.1 x.2 y.1 y.2).map df)),hB f n wl ns D rs):=by
 unfold ug lS aN
 rw[hO hk]
 dsimp only
 rw[if_pos (Hm (DF hi) (by kernel_rfl)),show aM (aj l) bA ⟨L,hB f n wl ns D rs⟩=some ([.obj (9+j)],hB f n wl ns D rs)from jK (hO hl) rfl]
 dsimp only
 rw[P3 (DF hi) (DF hj) ox oy (λk hk=>Mt (Nat.le_trans (by rw[DC];exact aa (show 5≤9 by decide) (ax 9 _)) hk)),Vj]
theorem Vo(Y8:v 31=some (.obj 9))(uR:v 32=some (.obj (9+1)))(Zi:v 33=some (.obj (9+2)))(h35:v 35=some (.dat (.list ((rP tot D).map df))))(hx:rs[0]?=some x)(hy:rs[1]?=some y)(hz:rs[2]?=some z)(ox:gC x.1 x.2)(oy:gC y.1 y.2)(oz:gC z.1 z.2)(w1:ki x.1 x.2 y.1 y.2=[])(w2:ki y.1 y.2 z.1 z.2=rP tot D) :
  Bo.1 ⟨v.loc,hB f n wl ns D rs⟩=some (.next,⟨v.loc,hB f n wl ns D rs⟩):=by
 have e1:=B6 (f:=f) (n:=n) (wl:=wl) (ns:=ns) (D:=D) (k:=31) (l:=32) (i:=0) (j:=1) (L:=v.loc) (ef rfl Y8) (ef rfl uR) hx hy ox oy
 have e2:=B6 (f:=f) (n:=n) (wl:=wl) (ns:=ns) (D:=D) (k:=32) (l:=33) (i:=1) (j:=2) (L:=v.loc) (ef rfl uR) (ef rfl Zi) hy hz oy oz
 rw[w1]at e1
 rw[w2]at e2
 have c1:cb .NotEq (ug 31 32) (aB (gZ bA)) ⟨v.loc,hB f n wl ns D rs⟩=some (false,hB f n wl ns D rs):=gK (op:=.NotEq) e1 rfl rfl rfl rfl
 have c2:cb .NotEq (ug 32 33) (aj 35) ⟨v.loc,hB f n wl ns D rs⟩=some (false,hB f n wl ns D rs):=gK (op:=.NotEq) e2 (aV rfl h35) rfl rfl (LA _)
 show cZ (bindB (cb .NotEq (ug 31 32) (aB (gZ bA))) λb=>if b then ia true else bindB (cb .NotEq (ug 32 33) (aj 35)) λb=>if b then ia true else ia false) _ bh _=_
 unfold cZ bindB
 refine c1.symm▸?_
 dsimp only
 refine(if_neg aw).symm▸c2.symm▸?_
 rfl
theorem Tf(uR:v 32=some (.obj (9+1)))(eJ:v 34=some (.obj (9+3)))(Fk:v 36=some (.dat (.list ((iW D).map df))))(hy:rs[1]?=some y)(hz:rs[3]?=some z)(oy:gC y.1 y.2)(oz:gC z.1 z.2)(w3:ki y.1 y.2 z.1 z.2=iW D) :
  y5.1 ⟨v.loc,hB f n wl ns D rs⟩=some (.next,⟨v.loc,hB f n wl ns D rs⟩):=by
 have e1:=B6 (f:=f) (n:=n) (wl:=wl) (ns:=ns) (D:=D) (k:=32) (l:=34) (i:=1) (j:=3) (L:=v.loc) (ef rfl uR) (ef rfl eJ) hy hz oy oz
 replace e1:=w3▸e1
 exact wm (C:=cb .NotEq (ug 32 34) (aj 36)) (gK (op:=.NotEq) e1 (aV rfl Fk) rfl rfl (LA _))
theorem Vw(uR:v 32=some (.obj (9+1)))(eJ:v 34=some (.obj (9+3)))(Fk:v 36=some (.dat (.list ((iW D).map df))))(hy:rs[1]?=some y)(hz:rs[3]?=some z)(oy:gC y.1 y.2)(oz:gC z.1 z.2)(w4:ki z.1 z.2 y.1 y.2=wf (iW D))(hl:D.length≤1000) :
  y9.1 ⟨v.loc,hB f n wl ns D rs⟩=some (.ret (.dat (.bool true)),⟨v.loc,hB f n wl ns D rs⟩):=by
 have e1:=B6 (f:=f) (n:=n) (wl:=wl) (ns:=ns) (D:=D) (k:=34) (l:=32) (i:=3) (j:=1) (L:=v.loc) (ef rfl eJ) (ef rfl uR) hz hy oz oy
 rw[w4]at e1
 have hal:(iW D).length≤1000:=by
  unfold iW
  rw[bI]
  exact aa (List.length_filter_le ..) hl
 have e:=comp_map df (λloc=>∃a b c,loc=jy v.loc 63 64 65 a b c) (S:=ej (aj 36)) (T:=mz 63 64 65) (tests:=tt) (F:=aB (lH (aM (aj 63) (aM (aj 65) (aM (aj 64) bA))))) (t:=λ_=>true) (r:=λx=>df (x.1,x.2.2,x.2.1)) (hp:=hB f n wl ns D rs) (l:=iW D) (loc:=v.loc) (ts:=[63,64,65]) (n:=(iW D).length+1)
  (by
   unfold ej
   rw[aV rfl Fk]
   show some ((IS.rem ((iW D).map df),((iW D).map df).length+1),hB f n wl ns D rs)=_
   rw[bI]) (am _) (λx hx loc ⟨a,b,c,eQ⟩=>by
   subst eQ
   exact⟨jy v.loc 63 64 65 (some (.dat (.int (x.1:Nat)))) (some (.dat (.int x.2.1))) (some (.dat (.int x.2.2))),⟨_,_,_,rfl⟩,uv (by decide) (by decide) (by decide),rfl,λ_=>vn (aV rfl rfl) (aV rfl rfl) (aV rfl rfl)⟩) ⟨none,none,none,rfl⟩ (aa hal b9)
 rw[List.filter_eq_self.mpr (λ_ _=>rfl),show((iW D).map λx=>df (x.1,x.2.2,x.2.1))=(wf (iW D)).map df by unfold wf;rw[List.map_map];rfl]at e
 exact IM (Cf (op:=.Eq) e1 e (Xs _))
end
noncomputable def uB(z:Nat)(x:Nat×Nat):List (Nat×Nat):=((List.range (z+1)).filter λs=>Nat.ble (x.2+s) x.1).map λs=>(x.1+(z - s),x.2+s)
noncomputable def fP(a b c:Nat):List (Nat×Nat):=((([(0,0)]:List (Nat×Nat)).flatMap (uB a)).flatMap (uB b)).flatMap (uB c)
noncomputable def j5(ps:List (Nat×Nat)):List Int:=ps.map λx=>(x.1:Int)
noncomputable def qN(tot:Nat)(ps:List (Nat×Nat)):List Int:=ps.map λx=>(x.1:Int) - (if x.1=tot then 1 else 0)
noncomputable def po(ps:List (Nat×Nat)):List Int:=(ps.filter λx=>decide (0 < x.2)).map λx=>(x.2:Int) - 1
noncomputable def sj(rows:List Nat):List Int:=rows.map λ(x:Nat)=>(x:Int) - 1
noncomputable def wX(ri:List Int):Bool:=(ri.all λr=>Nat.ble r.natAbs 50)&&Nat.ble ri.length 100
noncomputable def IK(a b c:Nat):Bool:=wX (j5 (fP a b c))&&wX (qN (a+b+c) (fP a b c))&&wX (po (fP a b c)) &&
 ((List.range' 1 9).all λs=>Nat.ble (kx (manyN a b c) (a+b+c) s).natAbs 1000&&Nat.ble (kx (manyN a b c) (a+b+c) s - t6 (manyN a b c) (a+b+c) s).natAbs 1000)
noncomputable def tl(a b c rest late:Nat):List jD:=lQ (manyN a b c) (a+b+c) rest late (max (max (a+b+c) rest) late+1)
noncomputable def z0(a b c rest late:Nat):Bool :=
 (ki (tN (j5 (fP a b c))) rest (tN (qN (a+b+c) (fP a b c))) rest==rP (a+b+c) (tl a b c rest late)) &&
 (ki (tN (j5 (fP a b c))) rest (tN (po (fP a b c))) late==iW (tl a b c rest late)) &&
 (ki (tN (po (fP a b c))) late (tN (j5 (fP a b c))) rest==wf (iW (tl a b c rest late)))
noncomputable def Oj(rows:List Nat):Bool:=(match rows with
|[]=>false
|l0::_=>(rows.all λp=>Nat.ble 1 p&&Nat.ble p l0)&&Nat.ble l0 10)&&Nat.ble rows.length 10
noncomputable def xI(a b c x y z:Nat):Bool:=Oj (gB [x+1] [y+1])&&wX (sj (gB [z+1] (gB [x+1] [y+1]))) &&
 (gP (tN (sj (gB [z+1] (gB [x+1] [y+1])))) []==gP (tN (j5 (fP a b c))) [])&&Nat.beq (gB [z+1] (gB [x+1] [y+1])).length (fP a b c).length
noncomputable def yH(P:Nat->Nat->Nat->Bool):Bool:=(List.range 4).all λa=>(List.range 3).all λb=>(List.range 3).all λc=>P a b c
theorem XU:yH IK=true:=by decide +kernel
theorem QC:yH (λa b c=>xI a b c a b c&&xI a b c b c a&&xI a b c c a b)=true:=by decide +kernel
noncomputable def sT(a:Nat):Bool:=(List.range 3).all λb=>(List.range 3).all λc=>(List.range 3).all λr=>(List.range 3).all λl=>z0 a b c (r*4) (l*4)
theorem acJ:sT 0=true:=by decide +kernel
theorem Wi:sT 1=true:=by decide +kernel
theorem VJ:sT 2=true:=by decide +kernel
theorem UH:sT 3=true:=by decide +kernel
theorem sp(h:((List.range n).all P)=true)(hk:k < n):P k=true:=bj h k (List.mem_range.mpr hk)
theorem Mg(h:yH P=true)(ha:a < 4)(hb:b < 3)(hc:c < 3):P a b c=true:=by
 unfold yH at h
 have h1:=sp h ha
 have h2:=sp h1 hb
 have h3:=sp h2 hc
 exact h3
theorem TR(h:sT a=true)(hb:b < 3)(hc:c < 3)(hr:r < 3)(hl:l < 3):z0 a b c (r*4) (l*4)=true:=by
 unfold sT at h
 have h1:=sp h hb
 have h2:=sp h1 hc
 have h3:=sp h2 hr
 have h4:=sp h3 hl
 exact h4
theorem abU(ha:a < 4):sT a=true:=by
 exact za a ha acJ Wi VJ UH
theorem YW(ha:a < 4)(hb:b < 3)(hc:c < 3)(hr:r < 3)(hl:l < 3):z0 a b c (r*4) (l*4)=true:=TR (abU ha) hb hc hr hl
theorem yG(h:wX ri=true):oG ri:=by
 obtain⟨h1,h2⟩:=Bool.and_eq_true_iff.mp h
 exact⟨λr hr=>av (bj h1 r hr),av h2⟩
theorem oG.b(h:oG ri)(ht:t≤100):gC (tN ri) t:=⟨λr hr=>(bo hr).elim λx q=>by have:=h.r x q.1;rw[← q.2];exact aa (i5 x) this,by unfold tN;rw[bI];exact h.l,ht⟩
theorem XZ(h:Oj rows=true):oM rows ((rows[0]?).getD 0):=by
 obtain⟨h1,h2⟩:=Bool.and_eq_true_iff.mp h
 cases rows with
|nil=>exact absurd h1 aw
|cons l0 r =>
  obtain⟨h3,h4⟩:=Bool.and_eq_true_iff.mp h1
  refine⟨rfl,λp hp=>?_,av h4,av h2⟩
  have:=Bool.and_eq_true_iff.mp (bj h3 p hp)
  exact⟨av this.1,av this.2⟩
theorem Sw(i z)(x):(jn i z x).map (·.2)=uB z x.2:=by
 unfold jn uB
 refine List.map_map.symm▸?_
 rfl
theorem Hb(i z:Nat)(l:List Fr):(l.flatMap (jn i z)).map (·.2)=(l.map (·.2)).flatMap (uB z):=by
 rw[List.map_flatMap,List.flatMap_map]
 congr 1
 funext x
 exact Sw i z x
noncomputable def zA(ns:List Nat):Nat:=cC ns 0 % 4
noncomputable def zB(ns:List Nat):Nat:=cC ns 1 % 3
noncomputable def zC(ns:List Nat):Nat:=cC ns 2 % 3
theorem ZI(ns:List Nat):(d7 ns 3).map (·.2)=fP (zA ns) (zB ns) (zC ns):=by
 show(((([([],0,0)]:List Fr).flatMap (jn (cC ns 0 / 108 % 4) (zA ns))).flatMap (jn (cC ns 1 / 108 % 4) (zB ns))).flatMap (jn (cC ns 2 / 108 % 4) (zC ns))).map (·.2)=_
 rw[Hb,Hb,Hb]
 rfl
theorem abX(fr):tM fr=j5 (fr.map (·.2)):=by unfold tM j5;rw[List.map_map];rfl
theorem ack(tot)(fr):tE tot fr=qN tot (fr.map (·.2)):=by unfold tE qN;rw[List.map_map];rfl
theorem Y6(fr):sw fr=po (fr.map (·.2)):=by
 unfold sw po
 refine List.filter_map.symm▸List.map_map.symm▸?_
 rfl
theorem QY(h1:gP r1 []=gP r2 [])(h2:r1.length=r2.length):ki r1 t r2 t=[]:=by
 unfold ki
 rw[List.filter_eq_nil_iff.mpr λs _=>?_]
 ·rfl
 ·have:kG r1 t s=kG r2 t s:=by unfold kG;rw[h1,h2]
  unfold rq
  rw[this,beq_self_eq_true]
  exact aw
structure YS(a b c rest late:Nat):Prop where
 up:oG (j5 (fP a b c))
 sh:oG (qN (a+b+c) (fP a b c))
 dn:oG (po (fP a b c))
 st:∀s,0 < s->s≤max (max (a+b+c) rest) late+1->(kx (manyN a b c) (a+b+c) s).natAbs≤100000∧(kx (manyN a b c) (a+b+c) s - t6 (manyN a b c) (a+b+c) s).natAbs≤100000
 w2:ki (tN (j5 (fP a b c))) rest (tN (qN (a+b+c) (fP a b c))) rest=rP (a+b+c) (tl a b c rest late)
 w3:ki (tN (j5 (fP a b c))) rest (tN (po (fP a b c))) late=iW (tl a b c rest late)
 w4:ki (tN (po (fP a b c))) late (tN (j5 (fP a b c))) rest=wf (iW (tl a b c rest late))
theorem TK(ha:a < 4)(hb:b < 3)(hc:c < 3)(hr:r < 3)(hl:l < 3):YS a b c (r*4) (l*4):=by
 have h1:=Mg XU ha hb hc
 unfold IK at h1
 obtain⟨h1,q4⟩:=Bool.and_eq_true_iff.mp h1
 obtain⟨h1,q3⟩:=Bool.and_eq_true_iff.mp h1
 obtain⟨q1,q2⟩:=Bool.and_eq_true_iff.mp h1
 have h2:=YW ha hb hc hr hl
 unfold z0 at h2
 obtain⟨h2,p3⟩:=Bool.and_eq_true_iff.mp h2
 obtain⟨p1,p2⟩:=Bool.and_eq_true_iff.mp h2
 refine⟨yG q1,yG q2,yG q3,λs hs eR=>?_,eq_of_beq p1,eq_of_beq p2,eq_of_beq p3⟩
 have:=Bool.and_eq_true_iff.mp (bj q4 s (List.mem_range'_1.mpr ⟨hs,(bQ (aa eR (aS (Nat.max_le.mpr ⟨Nat.max_le.mpr ⟨aa (ay (ay (aC ha) (aC hb)) (aC hc)) b9,ba 4 (aC hr)⟩,ba 4 (aC hl)⟩))))⟩))
 exact⟨aa (av this.1) b9,aa (av this.2) b9⟩
structure K8(a b c x y z:Nat):Prop where
 fr:oM (gB [x+1] [y+1]) (((gB [x+1] [y+1])[0]?).getD 0)
 fi:oG (sj (gB [z+1] (gB [x+1] [y+1])))
 fc:gP (tN (sj (gB [z+1] (gB [x+1] [y+1])))) []=gP (tN (j5 (fP a b c))) []
 fl:(tN (sj (gB [z+1] (gB [x+1] [y+1])))).length=(tN (j5 (fP a b c))).length
theorem DW(h:xI a b c x y z=true):K8 a b c x y z:=by
 unfold xI at h
 obtain⟨h,q4⟩:=Bool.and_eq_true_iff.mp h
 obtain⟨h,q3⟩:=Bool.and_eq_true_iff.mp h
 obtain⟨q1,q2⟩:=Bool.and_eq_true_iff.mp h
 refine⟨XZ q1,yG q2,eq_of_beq q3,?_⟩
 unfold tN sj j5
 rw[bI,bI,bI,bI]
 exact Nat.eq_of_beq_eq_true q4
noncomputable def zR(ns:List Nat)(t i:Nat):Nat:=((mO ns)[iJ t i]?).getD 0
theorem Kj(ns)(ht:t < 3):K8 (zA ns) (zB ns) (zC ns) (zR ns t 0) (zR ns t 1) (zR ns t 2):=by
 have h:=Mg QC (a:=zA ns) (b:=zB ns) (c:=zC ns) (bD _ (by decide)) (bD _ (by decide)) (bD _ (by decide))
 obtain⟨h,q3⟩:=Bool.and_eq_true_iff.mp h
 obtain⟨q1,q2⟩:=Bool.and_eq_true_iff.mp h
 exact mU t ht (DW q1) (DW q2) (DW q3)
noncomputable def OX:XF:=aH Ac.1 (aH Bq.1 (aH wK.1 (aH AK.1 (aH yD.1 (aH Cc.1 (aH Av.1 (aH z6.1 (aH B4.1 (aH B9.1 (aH A1.1 (aH Bo.1 (aH BB.1 (aH y5.1 (aH y9.1 bh))))))))))))))
theorem acw:∀x∈lQ ms tot rest late m,0 < x.1:=λx hx=>(bo hx).elim λs q=>q.2▸(List.mem_range'_1.mp q.1).1
theorem W3:(lQ ms tot rest late m).length=m:=by unfold lQ;rw[bI,List.length_range']
theorem PJ{v:Vs}{wl:List PyData}{f:Bool}{n:Int}{ns:List Nat}{W:List (List Nat)}{t:Nat}(hl:ns.length=3)(ht:t < 3)(h1:v 1=some (.dat (.list (aY ns))))(h2:v 2=some (.dat (.list (aY (mO ns)))))(wQ:v 12=some (.dat (.list (ce W))))(kH:v 14=some (.obj 7))
  (eU:∀w∈W,w≠[]∧w.length≤1000) (RM:W.length≤10000) (hW:ju W=gB [zR ns t 2+1] (gB [zR ns t 0+1] [zR ns t 1+1])) :
  ∃L ai,OX ⟨v.loc,hN 186 false wl [] f n []++fJ ns 3⟩=some (.ret (.dat (.bool true)),⟨L,.tab 186 false::ai⟩):=by
 have hM:=Kj ns ht
 have sy:=ZI ns
 have ha:zA ns < 4:=bD _ (by decide)
 have hb:zB ns < 3:=bD _ (by decide)
 have hc:zC ns < 3:=bD _ (by decide)
 have hr:cC ns 1 / 36 % 3 < 3:=bD _ (by decide)
 have Aj:cC ns 2 / 36 % 3 < 3:=bD _ (by decide)
 have hF:=TK ha hb hc hr Aj
 have IV:v 2=some (.dat (.list (aY [zA ns,zB ns,zC ns]))):=h2
 have iQ:xo W=sj (gB [zR ns t 2+1] (gB [zR ns t 0+1] [zR ns t 1+1])):=by rw[← hW];rfl
 have OY:tM (d7 ns 3)=j5 (fP (zA ns) (zB ns) (zC ns)):=by rw[abX,sy]
 have Lq:tE (zA ns+zB ns+zC ns) (d7 ns 3)=qN (zA ns+zB ns+zC ns) (fP (zA ns) (zB ns) (zC ns)):=by rw[ack,sy]
 have Be:sw (d7 ns 3)=po (fP (zA ns) (zB ns) (zC ns)):=by rw[Y6,sy]
 generalize hA:zA ns=a at *
 generalize hB':zB ns=b at *
 generalize hC:zC ns=c at *
 have rC:cC ns 1 / 36 % 3*4≤100:=aa (ba 4 (aC hr)) b9
 have A9:cC ns 2 / 36 % 3*4≤100:=aa (ba 4 (aC Aj)) b9
 let H0:List MO:=hN 186 false wl [] f n []++fJ ns 3
 let v1:Vs:=v.u 23 (some (.dat (.int ((a+b+c:Nat):Int))))
 have Er:=Vp (v:=v1) (hp:=H0) (ns:=ns) h1 hl
 generalize cC ns 1 / 36 % 3*4=rest at *
 generalize cC ns 2 / 36 % 3*4=late at *
 let ms:=manyN a b c
 let D:=tl a b c rest late
 let v2:Vs:=(v1.u 24 (some (.dat (.int (rest:Nat))))).u 25 (some (.dat (.int (late:Nat))))
 let v3:Vs:=v2.u 26 (some (.dat (.list (aY (pP a b c)))))
 let v4:Vs:=v3.u 27 (some (.dat (.list (aY ms))))
 let v5:Vs:=v4.u 28 (some (.obj H0.length))
 have abm:ms.length=a+b+c+1:=by
  show(manyN a b c).length=_
  unfold manyN
  rw[bI,List.length_range]
 have xY:D.length≤1000:=by
  show(lQ (manyN a b c) (a+b+c) rest late (max (max (a+b+c) rest) late+1)).length≤1000
  refine W3.symm▸?_
  exact aa (aS (Nat.max_le.mpr ⟨Nat.max_le.mpr ⟨aa (ay (ay (aC ha) (aC hb)) (aC hc)) b9,rC⟩,A9⟩)) b9
 have YX:∀x∈D,0 < x.1:=acw
 have e20:Ac.1 ⟨v.loc,H0⟩=some (.next,⟨v1.loc,H0⟩):=ZA IV
 replace Er:Bq.1 ⟨v1.loc,H0⟩=some (.next,⟨v2.loc,H0⟩):=Er
 have e22:wK.1 ⟨v2.loc,H0⟩=some (.next,⟨v3.loc,H0⟩):=WH (v:=v2) IV (aa (aG ha) b9) (aa (aG hb) b9) (aa (aG hc) b9)
 have Vq:AK.1 ⟨v3.loc,H0⟩=some (.next,⟨v4.loc,H0⟩):=QQ (v:=v3) rfl rfl (aa (ay (ay (aC ha) (aC hb)) (aC hc)) b9)
 have TU:yD.1 ⟨v4.loc,H0⟩=some (.next,⟨v5.loc,H0++[.lst []]⟩):=PI (v:=v4)
 refine xD (WM (v:=v5) (bs:=H0) (ms:=ms) (tot:=a+b+c) (rest:=rest) (late:=late) rfl rfl rfl rfl rfl abm (aa (ay (ay (aC ha) (aC hb)) (aC hc)) b9) rC A9 hF.st) λv6 GC R p=>?_
 let r1:List Nat×Nat:=(tN (sj (gB [zR ns t 2+1] (gB [zR ns t 0+1] [zR ns t 1+1]))),rest)
 let r2:List Nat×Nat:=(tN (j5 (fP a b c)),rest)
 let r3:List Nat×Nat:=(tN (qN (a+b+c) (fP a b c)),rest)
 let r4:List Nat×Nat:=(tN (po (fP a b c)),late)
 let v7:Vs:=v6.u 31 (some (.obj 9))
 let v8:Vs:=v7.u 32 (some (.obj (9+1)))
 let v9:Vs:=v8.u 33 (some (.obj (9+2)))
 let v10:Vs:=v9.u 34 (some (.obj (9+3)))
 let v11:Vs:=v10.u 35 (some (.dat (.list ((rP (a+b+c) D).map df))))
 let l8:Vs:=v11.u 36 (some (.dat (.list ((iW D).map df))))
 replace GC:Cc.1 ⟨v5.loc,H0++[.lst []]⟩=some (.next,⟨v6.loc,hB f n wl ns D []⟩):=GC
 have Wz:Av.1 ⟨v6.loc,hB f n wl ns D []⟩=some (.next,⟨v7.loc,hB f n wl ns D [r1]⟩):=by
  have q:=s26 (v:=v6) (f:=f) (n:=n) (wl:=wl) (ns:=ns) (D:=D) (rs:=[]) (W:=W) (rest:=rest) ((R 12 rfl).trans wQ) (R 24 rfl) eU RM rC (iQ▸hM.fi)
  replace q:=iQ▸q
  exact q
 have e27:z6.1 ⟨v7.loc,hB f n wl ns D [r1]⟩=some (.next,⟨v8.loc,hB f n wl ns D [r1,r2]⟩):=by
  have q:=s27 (v:=v7) (f:=f) (n:=n) (wl:=wl) (ns:=ns) (D:=D) (rs:=[r1]) (rest:=rest) ((R 14 rfl).trans kH) (R 24 rfl) rC (OY▸hF.up)
  replace q:=OY▸q
  exact q
 have Ww:B4.1 ⟨v8.loc,hB f n wl ns D [r1,r2]⟩=some (.next,⟨v9.loc,hB f n wl ns D [r1,r2,r3]⟩):=by
  have q:=Vn (v:=v8) (f:=f) (n:=n) (wl:=wl) (ns:=ns) (D:=D) (rs:=[r1,r2]) (tot:=a+b+c) (rest:=rest) ((R 14 rfl).trans kH) (R 23 rfl) (R 24 rfl) rC (Lq▸hF.sh)
  replace q:=Lq▸q
  exact q
 have Qe:B9.1 ⟨v9.loc,hB f n wl ns D [r1,r2,r3]⟩=some (.next,⟨v10.loc,hB f n wl ns D [r1,r2,r3,r4]⟩):=by
  have q:=RG (v:=v9) (f:=f) (n:=n) (wl:=wl) (ns:=ns) (D:=D) (rs:=[r1,r2,r3]) (late:=late) ((R 14 rfl).trans kH) (R 25 rfl) A9 (Be▸hF.dn)
  replace q:=Be▸q
  exact q
 have o1:gC r1.1 r1.2:=hM.fi.b rC
 have o2:gC r2.1 r2.2:=hF.up.b rC
 have o3:gC r3.1 r3.2:=hF.sh.b rC
 have o4:gC r4.1 r4.2:=hF.dn.b A9
 have w1:ki r1.1 r1.2 r2.1 r2.2=[]:=QY hM.fc hM.fl
 let H:=hB f n wl ns D [r1,r2,r3,r4]
 have e30:A1.1 ⟨v10.loc,H⟩=some (.next,⟨v11.loc,H⟩):=s30 (v:=v10) p (R 23 rfl) YX xY
 have e31:Bo.1 ⟨v11.loc,H⟩=some (.next,⟨v11.loc,H⟩):=Vo (v:=v11) (tot:=a+b+c) (x:=r1) (y:=r2) (z:=r3) rfl rfl rfl rfl rfl rfl rfl o1 o2 o3 w1 hF.w2
 have Qh:BB.1 ⟨v11.loc,H⟩=some (.next,⟨l8.loc,H⟩):=Tu (v:=v11) p xY
 have UG:y5.1 ⟨l8.loc,H⟩=some (.next,⟨l8.loc,H⟩):=Tf (v:=l8) (y:=r2) (z:=r4) rfl rfl rfl rfl rfl o2 o4 hF.w3
 have Uj:y9.1 ⟨l8.loc,H⟩=some (.ret (.dat (.bool true)),⟨l8.loc,H⟩):=Vw (v:=l8) (y:=r2) (z:=r4) rfl rfl rfl rfl rfl o2 o4 hF.w4 xY
 refine⟨l8.loc,H.tail,?_⟩
 exact(bm e20).trans <| (bm Er).trans <| (bm e22).trans <| (bm Vq).trans <| (bm TU).trans <| (bm GC).trans <| (bm Wz).trans <| (bm e27).trans <| (bm Ww).trans <| (bm Qe).trans <| (bm e30).trans <| (bm e31).trans <| (bm Qh).trans <| (bm UG).trans <| oU Uj
noncomputable def BL:XF:=aH zr.1 (aH AA.1 (aH BH.1 (aH GB.1 (aH AM.1 (aH Aa.1 (aH Bg.1 (aH yF.1 (aH A6.1 (aH Ay.1 (aH Ee.1 (aH A4.1 (aH F5.1 (aH E1.1 (aH Cl.1 (aH zf.1 (aH BS.1 (aH B5.1 (aH GV.1 (aH zo.1 OX)))))))))))))))))))
theorem VM:Bx=dX 1 65 false BL:=rfl
theorem S7(ns)(ht:t < 3):(ce (mH ns 3)).drop t++(ce (mH ns 3)).take t=[sD (fO ns (iJ t 0)),sD (fO ns (iJ t 1)),sD (fO ns (iJ t 2))]:=by
 exact mU t ht rfl rfl rfl
theorem y0(t i):iJ t i < 3:=bD _ (by decide)
theorem V6(dh:List Int)(hs:dh.length≤63):∃L ai,BL ⟨Vs.loc (Vs.e.u 0 (some (.dat (.list (dh.map .int))))),[.tab 186 true]⟩=some (.ret (.dat (.bool true)),⟨L,.tab 186 false::ai⟩):=by
 obtain⟨ns,oR⟩:∃ns,ns=nums dh:=⟨_,rfl⟩
 have hl:ns.length=3:=oR.symm▸rfl
 let wl:=ce (mH ns 3)
 let H1:List MO:=[.tab 186 true,.lst wl]
 let v0:Vs:=(Vs.e.u 0 (some (.dat (.list (dh.map .int)))))
 let v1:Vs:=v0.u 1 (some (.dat (.list (aY ns))))
 let v2:Vs:=v1.u 2 (some (.dat (.list (aY (mO ns)))))
 let v3:Vs:=(v2.u 3 (some (.obj 1))).u 4 (some (.dat (sD [])))
 have e0:zr.1 ⟨v0.loc,[.tab 186 true]⟩=some (.next,⟨v1.loc,[.tab 186 true]⟩):=by
  have:=s0 (v:=v0) (hp:=[.tab 186 true]) rfl hs
  rw[← oR]at this
  exact this
 have e1:AA.1 ⟨v1.loc,[.tab 186 true]⟩=some (.next,⟨v2.loc,[.tab 186 true]⟩):=s1 (v:=v1) rfl hl
 have e2:BH.1 ⟨v2.loc,[.tab 186 true]⟩=some (.next,⟨v3.loc,[.tab 186 true,.lst []]⟩):=s2 (v:=v2)
 refine xD (s3 (v:=v3) (ns:=ns) (P:=186) (f:=true) rfl rfl rfl rfl hl) λv4 e3 R3 p4=>?_
 let v5:Vs:=v4.u 4 (some (.dat (sD (nM ns))))
 let v6:Vs:=v5.u 9 (some (.obj 3))
 have vQ:(nM ns).length≤100:=by rw[Od];exact aa (FR ns 2 0 (am _)) b9
 have e4:AM.1 ⟨v4.loc,H1⟩=some (.next,⟨v5.loc,H1⟩):=s4 (v:=v4) p4
 have e5:Aa.1 ⟨v5.loc,H1⟩=some (.next,⟨v6.loc,hN 186 false wl (nM ns) false 1 []⟩):=s5 (v:=v5) rfl (aa vQ b9)
 refine cps λ_ KK=>?_
 obtain⟨f1,n1,g1,z1⟩:=z7 (P:=186) (fl:=false) (wl:=wl) (s:=nM ns) (f:=false) (n:=1) (by unfold lim;exact ah (az vQ 2) b9)
 have hg:ft (nM ns)=_:=(congrArg ft (Od ns)).trans (IG ns 1 0)
 have vR:ft (if cC ns 0 / 432 % 3=1 then gO ns 1 (0+1)else lP (cC ns 0 / 1296 % 4)::gO ns 1 (0+1))=ft (gO ns 1 1):=JB ns 1 1 _ (Ga _ (bD _ (by decide)))
 have sU:(if cC ns 0 / 432 % 3=1 then gO ns 1 (0+1)else lP (cC ns 0 / 1296 % 4)::gO ns 1 (0+1)).length≤200:=L8 ns 1 1 _ (am _)
 generalize (if cC ns 0 / 432 % 3=1 then gO ns 1 (0+1)else lP (cC ns 0 / 1296 % 4)::gO ns 1 (0+1))=r at *
 refine KK ?_
 rw[hg]at g1 z1
 dsimp only[Option.getD]at g1 z1
 let d:PyData:=sD (fO ns 0)
 let v7:Vs:=v6.u 10 (some (.dat d))
 have e6:Bg.1 ⟨v6.loc,hN 186 false wl (nM ns) false 1 []⟩=some (.next,⟨v7.loc,hN 186 false wl r f1 n1 []⟩):=s6 (v:=v6) rfl vx g1
 have e7:yF.1 ⟨v7.loc,hN 186 false wl r f1 n1 []⟩=some (.next,⟨v7.loc,hN 186 false wl r f1 n1 [d]⟩):=s7 (v:=v7) rfl rfl (by decide)
 have e8:A6.1 ⟨v7.loc,hN 186 false wl r f1 n1 [d]⟩=some (.next,⟨v7.loc,hN 186 false wl r f1 n1 [d,d]⟩):=s8 (v:=v7) rfl rfl (av rfl)
 refine cps λ_ KK=>?_
 obtain⟨f2,n2,G,z2⟩:=HL (ns:=ns) (P:=186) (fl:=false) (wl:=wl) 1 1 r f1 n1 rfl vR sU
 refine KK ?_
 have e9:Ay.1 ⟨v7.loc,hN 186 false wl r f1 n1 [d,d]⟩=some (.next,⟨v7.loc,hN 186 false wl [] f2 n2 []⟩):=s9 (v:=v7) (t:=nM ns) (w0:=fO ns 0) (w1:=fO ns 1) (w2:=fO ns 2) rfl (R3 3 rfl) rfl rfl (mY.append (a:=[d,d]) (On [d,d] (rest:=[]) (av rfl)) G) (by (exact Eq.trans (by assumption) (by assumption)))
 refine xD (TF (v:=v7) (P:=186) (fl:=false) (wl:=wl) (s:=[]) (f:=f2) (n:=n2) rfl (R3 3 rfl) (av rfl)) λv8 To Ey p8=>?_
 obtain⟨t,NM⟩:∃t,t=cC ns 0 / 36 % 3:=⟨_,rfl⟩
 have ht:t < 3:=NM▸bD _ (by decide)
 have n8:=(Ey 1 rfl).trans (R3 1 rfl)
 let v9:Vs:=v8.u 11 (some (.dat (.int (t:Nat))))
 have VZ:A4.1 ⟨v8.loc,hN 186 false wl [] f2 n2 wl⟩=some (.next,⟨v9.loc,hN 186 false wl [] f2 n2 wl⟩):=by
  have q:=X4 (v:=v8) (hp:=hN 186 false wl [] f2 n2 wl) (ns:=ns) n8 hl
  rw[← NM]at q
  exact q
 refine xD (VO (v:=v9) (P:=186) (fl:=false) (wl:=wl) (s:=[]) (f:=f2) (n:=n2) (t:=t) p8 rfl (aG ht) (av rfl)) λv10 Ho yd zg=>?_
 rw[S7 ns ht]at Ho
 have z4:∀i,zR ns t i < 4:=λi=>CU ns (y0 t i)
 have A:=DZ (e:=cC ns (iJ t 0) / 12 % 3) (y0 t 0) (z4 0)
 have B:=DZ (e:=cC ns (iJ t 1) / 12 % 3) (y0 t 1) (z4 1)
 have C:=DZ (e:=cC ns (iJ t 2) / 12 % 3) (y0 t 2) (z4 2)
 have hM:=Kj ns ht
 have AB:mF _ _ _ _:=⟨KH A B (av rfl),hM.fr⟩
 have Hl:=KH C AB (av rfl)
 refine cps λ_ KK=>?_
 obtain⟨a3,Vz⟩:=Uu (v:=v10) (P:=186) (fl:=false) (wl:=wl) (s:=[]) (f:=f2) (n:=n2) zg A B C AB (av rfl) (av rfl)
 obtain⟨W,w1,w2,w3,w4⟩:=Hl.w
 refine KK ?_
 let v11:Vs:=v10.u 5 a3
 let l8:Vs:=v11.u 12 (some (.dat (.list (ce (yb t::W)))))
 let sX:Vs:=l8.u 13 (some (.dat (sD (w9 t))))
 let MP:Vs:=sX.u 14 (some (.dat (.list [fX ([],0,0)])))
 let H2:=hN 186 false wl [] f2 n2 []
 have e14:Cl.1 ⟨v11.loc,_⟩=some (.next,⟨l8.loc,H2⟩):=Up (v:=v11) zg Hl.len Hl.c w1
 have e15:zf.1 ⟨l8.loc,H2⟩=some (.next,⟨sX.loc,H2⟩):=PD (v:=l8) (yd 11 rfl) ht
 have e16:BS.1 ⟨sX.loc,H2⟩=some (.next,⟨sX.loc,H2⟩):=UY (v:=sX) (W:=W) rfl rfl (aa w4 b9)
 have RO:B5.1 ⟨sX.loc,H2⟩=some (.next,⟨MP.loc,H2⟩):=YZ (v:=sX)
 refine xD (Qa (v:=MP) (H0:=H2) (ns:=ns) ((yd 1 rfl).trans n8) ((yd 2 rfl).trans ((Ey 2 rfl).trans (R3 2 rfl))) rfl hl) λzN e18 Hc JD=>?_
 have Vl:zo.1 ⟨zN.loc,H2++fJ ns 3⟩=some (.next,⟨zN.loc,H2++fJ ns 3⟩):=PL (v:=zN) (i:=7) (fr:=d7 ns 3) JD rfl (NV ns 3 (am 3)) (BY ns 3 (am 3))
 obtain⟨L,ai,e⟩:=PJ (v:=zN) (wl:=wl) (f:=f2) (n:=n2) (ns:=ns) (W:=yb t::W) (t:=t) hl ht ((Hc 1 rfl).trans ((yd 1 rfl).trans n8)) ((Hc 2 rfl).trans ((yd 2 rfl).trans ((Ey 2 rfl).trans (R3 2 rfl)))) (Hc 12 rfl) JD w2 (by rw[List.length_cons];(exact ah (by assumption) b9)) w3
 refine⟨L,ai,?_⟩
 exact(bm e0).trans <| (bm e1).trans <| (bm e2).trans <| (bm e3).trans <| (bm e4).trans <| (bm e5).trans <| (bm e6).trans <| (bm e7).trans <| (bm e8).trans <| (bm e9).trans <| (bm To).trans <| (bm VZ).trans <| (bm Ho).trans <| (bm Vz).trans <| (bm e14).trans <| (bm e15).trans <| (bm e16).trans <| (bm RO).trans <| (bm e18).trans <| (bm Vl).trans e
theorem UW(dh:List Int)(hs:dh.length≤63):Bx [.dat (.list (dh.map .int))] [.tab 186 true]=some (.dat (.bool true),[.tab 186 false]):=by
 obtain⟨L,ai,e⟩:=V6 dh hs
 refine VM.symm▸?_
 skip
 show(match BL ⟨Vs.loc (Vs.e.u 0 (some (.dat (.list (dh.map .int))))),[.tab 186 true]⟩with
 |some (.ret pv,σ)=>if false=true then some (pv,σ.hp)else trunc 1 pv σ.hp
 |some (.next,σ)=>if false=true then some (.dat .none,σ.hp)else trunc 1 (.dat .none) σ.hp
 |_=>none)=_
 refine e.symm▸?_
 rfl
end Mine
end
theorem PySem.Challenge.cw_uc0022_01_holds : PySem.Challenge.rw_uc0022_01.Holds :=
  Mine.Ts ⟨Mine.Bx, fun T => (Mine.UJ T).ok, Mine.UW⟩
