import PyProof.Rows.All
import Wide.All
import OpenK.AllK
import Wide.FinOn
import Lean
import PySem.Challenge.RW_uc0022_03
set_option Elab.async false
set_option maxRecDepth 100000
set_option linter.all false
section
open PySem PySem.Calls PySem.W PyProof.Rows
namespace Mine
theorem cps {P:Prop} (h:∀G:Prop,(P->G)->G):P:=h P id
theorem nft {C:Prop} (h:false=true):C:=nomatch h
theorem nin {α:Type} {a:α} {C:Prop} (h:a∈[]):C:=nomatch h
theorem nos {α:Type} {x:α} {C:Prop} (h:none=some x):C:=nomatch h
mutual
inductive RD (h:Heap):Value->PyData->List Addr->Prop
 | none:RD h .none .none []
 | bool (b:Bool):RD h (.bool b) (.bool b) []
 | int (i:Int) (t:Tok):RD h (.int i t) (.int i) []
 | str (x:Str) (t:Tok):PyData.strOk x=true->RD h (.str x t) (.str x) []
 | list {a o vs n xs as}:h.get? a=some o->o.cls=.type "list"->o.dict=none->o.slots=#[]->o.data=.seq vs n->RDs h vs.toList xs as->RD h (.ref a) (.list xs) (a::as)
 | tuple {a o vs n xs as}:h.get? a=some o->o.cls=.type "tuple"->o.data=.seq vs n->RDs h vs.toList xs as->RD h (.ref a) (.tuple xs) (a::as)
inductive RDs (h:Heap):List Value->List PyData->List Addr->Prop
 | nil:RDs h [] [] []
 | cons {v vs d ds as bs}:RD h v d as->RDs h vs ds bs->RDs h (v::vs) (d::ds) (as++bs)
end
inductive PV where
 | dat (d:PyData)
 | obj (i:Nat)
 | strm (i:Nat)
inductive MO where
 | lst (l:List PyData)
 | ins (C:Addr) (at_:List (Nat×PV))
 | cit (self:Nat) (f:Addr) (done:Bool)
 | tab (a:Addr) (fresh:Bool)
abbrev Rho:=List (Addr×Addr)
abbrev muts (ρ:Rho):List Addr:=ρ.map (·.2)
noncomputable def an:Nat->Str
 | 0=>"instream" | 1=>"lineno" | 2=>"whitespace" | 3=>"pushback"
 | 4=>"raw" | 5=>"n" | 6=>"nt" | 7=>"norm" | 8=>"is_simple" | _=>"read"
noncomputable def readBody (P:Nat->Pos):List Stmt:=[.Return (some (.IfExp (.Name "signs" (P 0)) (.Call (.Attribute (.Name "signs" (P 1)) "pop" (P 2)) [.Constant (.int 0) 0 (P 3)] [] (P 4)) (.Constant (.str "") 0 (P 5)) (P 6))) (P 7)]
noncomputable def readScope:Scope:={ kind:=.function,names:=[("size",.local),("signs",.free)],isGenerator:=false,isCoroutine:=false,more:=[] }
noncomputable def ReadFd (fd:FuncData) (c cc:Addr):Prop:=fd.closure=[(("signs":Str),c)]∧fd.globals=mainGlobals∧fd.builtins=builtinsNs∧fd.scope=readScope∧(∃P,fd.body=.stmts (readBody P)∧((P 2).endLine==(P 4).line)=true) ∧
 (∃p,fd.params=⟨[],[⟨"size",none,p⟩],none,[],[],none,[]⟩)∧fd.defaults=.none∧fd.kwdefaults=.none∧fd.code=.ref cc
inductive StrmX (h:Heap) (a g:Addr) (fs:List Addr):Prop
 | mk (o o_1:Obj) (d r c cc:Addr) (fd:FuncData):fs=[a,d,r,c,cc]->h.get? a=some o->o.cls=.type "function"->(∃f,o.data=.func f)->o.dict=some d->h.Ns d (λx=>if x="read" then some (.ref r) else none) ->
  h.get? r=some o_1->o_1.cls=.type "function"->o_1.data=.func fd->ReadFd fd c cc->h.IsCell c (some (.ref g))->h.CodeRec (.ref cc) fd.qualname->StrmX h a g fs
structure Strm (h:Heap) (a g:Addr) (fs:List Addr):Prop where
 ex:StrmX h a g fs
noncomputable def VR (ρ:Rho) (Z:List Addr) (h:Heap):PV->Value->Prop
 | .dat d,v=>∃as,RD h v d as∧∀a∈as,a∉muts ρ∧a∉Z
 | .obj i,v=>∃r b,ρ[i]?=some (r,b)∧v=.ref r
 | .strm i,v=>∃r b a fs,ρ[i]?=some (r,b)∧v=.ref a∧Strm h a r fs∧∀a∈fs,a∉muts ρ∧a∉Z
structure Ext (X:List Addr) (ρ:Rho) (s:Shared) (ρ':Rho) (s':Shared):Prop where
 more:∃e,ρ'=ρ++e∧∀p∈e,s.heap.get? p.2=none
 heap:∀b o,b∉muts ρ->b∉X->s.heap.get? b=some o->s'.heap.get? b=some o
 live:∀b o,s.heap.get? b=some o->∃o',s'.heap.get? b=some o'
 drawn:s'.drawn=s.drawn
 os:s'.os=s.os
 gens:∀(g:Nat) (st:GenState),s.gens[g]?=some st->s'.gens[g]?=some st
 bare:AllBare s.gens->AllBare s'.gens
noncomputable def citObj (m:Addr) (t:Tok) (done:Bool):Obj:={ cls:=.type "callable_iterator",data:=.fields (if done then #[.none,.none,.bool true] else #[.ref m,.str ⟨⟨[]⟩⟩ t,.bool false]) }
noncomputable def methObj (f r:Addr):Obj:={ cls:=.type "method",data:=.fields #[.ref f,.ref r] }
inductive MRl (ρ:Rho) (Z:List Addr) (h:Heap) (r b:Addr) (l:List PyData):Prop
 | mk:r=b->∀(o:Obj) (vs:Array Value) (n:Nat) (as:List Addr),h.get? b=some o->o.cls=.type "list"->o.dict=none->o.slots=#[]->o.data=.seq vs n->RDs h vs.toList l as->(∀a∈as,a∉muts ρ∧a∉Z)->MRl ρ Z h r b l
inductive MRi (ρ:Rho) (Z:List Addr) (h:Heap) (r b C:Addr) (ats:List (Nat×PV)):Prop
 | mk:r∉muts ρ->r∉Z->∀(o:Obj) (mA:Str->Option Value),h.get? r=some o->o.cls=.ref C->(∀c,o.data≠.cls c)->o.dict=some b->b≠r->h.Ns1 b mA->(∀p∈ats,∃v,mA (an p.1)=some v∧VR ρ Z h p.2 v)->(∀x,(∀p∈ats,x≠an p.1)->mA x=none)->MRi ρ Z h r b C ats
inductive MRc (ρ:Rho) (Z:List Addr) (h:Heap) (r b:Addr) (i:Nat) (f:Addr) (done:Bool):Prop
 | mk:r=b->∀(m:Addr) (t:Tok) (x y:Addr),ρ[i]?=some (x,y)->m∉muts ρ->m∉Z->h.get? m=some (methObj f x)->h.get? b=some (citObj m t done)->MRc ρ Z h r b i f done
noncomputable def MR (ρ:Rho) (Z:List Addr) (h:Heap) (r b:Addr):MO->Prop
 | .lst l=>MRl ρ Z h r b l
 | .ins C ats=>MRi ρ Z h r b C ats
 | .cit i f done=>MRc ρ Z h r b i f done
 | .tab a fr=>r=b∧b=a∧∃vs,h.get? b=some (PySem.W.X.tableObj vs)∧(fr=true->vs=#[])
inductive AtR (ρ:Rho) (Z:List Addr) (h:Heap) (i:Nat) (mo:MO):Prop
 | mk (r b:Addr):ρ[i]?=some (r,b)->MR ρ Z h r b mo->AtR ρ Z h i mo
structure HR (ρ:Rho) (Z:List Addr) (hp:List MO) (h:Heap):Prop where
 len:ρ.length=hp.length
 nodup:(muts ρ).Nodup
 offZ:∀b∈muts ρ,b∉Z
 liveZ:∀a∈Z,∃o,h.get? a=some o
 at_:∀(i:Nat) (mo:MO),hp[i]?=some mo->AtR ρ Z h i mo
noncomputable def TopOK (K:Addr->Option Obj) (h:Heap):Prop:=∀a o,K a=some o->h.get? a=some o
structure Room (A:Around) (k:Nat):Prop where
 handled:A.handled=none
 depth:A.depth+k < 900
 units:A.units+40*k < 9000
section
variable (prog:Program) (w:World) (K:Addr->Option Obj)
noncomputable def Post (ρ:Rho) (Z:List Addr) (s:Shared) (pv:PV) (hp':List MO) (v:Value) (s':Shared):Prop :=
 ∃ρ',Ext [] ρ s ρ' s'∧VR ρ' Z s'.heap pv v∧HR ρ' Z hp' s'.heap
abbrev noE:Value->Shared->Prop:=λ_ _=>False
end
inductive VRs (ρ:Rho) (Z:List Addr) (h:Heap):List PV->List Value->Prop
 | nil:VRs ρ Z h [] []
 | cons {p v ps vs}:VR ρ Z h p v->VRs ρ Z h ps vs->VRs ρ Z h (p::ps) (v::vs)
structure Gl (K:Addr->Option Obj) (mg mb:Str->Option Value):Prop where
 g:∀h,TopOK K h->h.Ns mainGlobals mg
 b:∀h,TopOK K h->h.Ns builtinsNs mb
 lim:∀h,TopOK K h->h.NoLimit
abbrev FnF:=List PV->List MO->Option (PV×List MO)
noncomputable def OffK (K:Addr->Option Obj) (ρ:Rho) (Z:List Addr):Prop:=∀a,K a≠none->a∉muts ρ∧a∉Z
structure FnOK (prog:Program) (w:World) (K:Addr->Option Obj) (a:Addr) (k:Nat) (G:FnF):Prop where
 run:∀(A:Around) (ρ:Rho) (Z:List Addr) (hp:List MO) (s:Shared) (ps:List PV) (vs:List Value) (pv:PV) (hp':List MO),Room A k->HR ρ Z hp s.heap->TopOK K s.heap->OffK K ρ Z->VRs ρ Z s.heap ps vs->G ps hp=some (pv,hp') ->
  wpAny (model prog w) A (call (.ref a) vs) (Post ρ Z s pv hp') noE s
section
variable {prog:Program} {w:World} {K:Addr->Option Obj} {fx:Fx} {mg mb:Str->Option Value} {A:Around}
inductive ClsX (K:Addr->Option Obj) (C:Addr) (mN:Str->Option Value):Prop
 | mk (nm q:Str) (N:Addr) (bs:List Value) (sn:List Str) (sub:List Value) (col:Option Bool) (dd:Option Addr) (k0 k1 k2 k3 k5:Option Value) :
  K C=some (excClassObj nm q C N bs [.type "object"] true sn sub false col dd k0 k1 k2 k3 k5 "object.__new__")->(∀h,TopOK K h->h.Ns N mN)->ClsX K C mN
structure ClsOK (K:Addr->Option Obj) (C:Addr) (mN:Str->Option Value):Prop where
 ex:ClsX K C mN
 ga:mN "__getattribute__"=none
 gh:mN "__getattr__"=none
 sa:mN "__setattr__"=none
end
end Mine
end
section
open PySem PySem.Sre
namespace Mine
noncomputable def code2:Array Nat:=#[14,9,4,1,2,16,10,16,13,0,7,7,16,13,16,10,15,18,5,16,10,15,13,11,16,13,5,5,0,16,10,1,15,2,0,1]
noncomputable def code1:Array Nat:=#[14,4,0,1,1,6,1,16,46,1]
end Mine
end
section
open PySem PySem.Sre PySem.Builtin.Re PySem.Calls PyProof.Rows open Builtin Builtin.Str
namespace Mine
inductive PatX (h:Heap) (pa ca:Addr) (code:Array Nat):Prop
 | mk (o oc:Obj) (x:PySem.Str) (t t1 t2 t3:Tok) (fl:Int) (vs:Array Value) (n:Nat):h.get? pa=some o->o.cls=.type "re.Pattern"->o.dict=none->o.data=.fields #[.str x t,.int fl t1,.int 0 t2,.none,.none,.ref ca,.int 0 t3] ->
  h.get? ca=some oc->oc.data=.seq vs n->(vs.map reRawOf).map (·.toNat)=code->PatX h pa ca code
structure Pat (h:Heap) (pa ca:Addr) (code:Array Nat):Prop where
 ex:PatX h pa ca code
end Mine
end
section
open PySem PySem.Calls PySem.W PyProof.Rows
namespace Mine
noncomputable def Stmt.params:Stmt->Arguments
 | .FunctionDef _ args ..=>args
 | _=>⟨[],[],none,[],[],none,[]⟩
noncomputable def Stmt.bodyOf:Stmt->List Stmt
 | .FunctionDef _ _ body ..=>body
 | .ClassDef _ _ _ body ..=>body
 | _=>[]
noncomputable def Stmt.scopeOf:Stmt->Scope
 | .FunctionDef _ _ _ _ _ _ scope ..=>scope
 | _=>readScope
noncomputable def Stmt.nameOf:Stmt->Str
 | .FunctionDef n ..=>n
 | _=>""
noncomputable def fdOf (st:Stmt) (q:Str) (pm code doc:Value):FuncData :=
 { name:=Stmt.nameOf st,qualname:=q,params:=Stmt.params st,body:=.stmts (Stmt.bodyOf st),scope:=Stmt.scopeOf st,globals:=mainGlobals,closure:=[],defaults:=.none,kwdefaults:=.none,doc,pyModule:=pm,code,builtins:=builtinsNs }
inductive FnAt (K:Addr->Option Obj) (a:Addr) (st:Stmt):Prop
 | mk (o:Obj) (q:Str) (pm:Value) (c:Addr) (doc:Value):K a=some o->o.cls=.type "function"->o.data=.func (fdOf st q pm (.ref c) doc)->(∀h,TopOK K h->h.CodeRec (.ref c) q)->FnAt K a st
noncomputable def stT (i:Nat):Stmt:=(PySem.Challenge.pw_uc0022_03.main.body)[i]?.getD (.Pass ⟨0,0,0,0⟩)
noncomputable def stM (c m:Nat):Stmt:=(Stmt.bodyOf (stT c))[m]?.getD (.Pass ⟨0,0,0,0⟩)
set_option genInjectivity false in
set_option genSizeOf false in
structure Tab (K:Addr->Option Obj) (mg mb:Str->Option Value) where
 mL:Str->Option Value
 mW:Str->Option Value
 Kf:Frag
 mc:Value
 tC:Tok
 tS:Tok
 tT:Tok
 gl:Gl K mg mb
 n_len:mg "len"=none
 b_len:mb "len"=some (.builtin "len")
 n_sum:mg "sum"=none
 b_sum:mb "sum"=some (.builtin "sum")
 n_int:mg "int"=none
 b_int:mb "int"=some (.type "int")
 n_tuple:mg "tuple"=none
 b_tuple:mb "tuple"=some (.type "tuple")
 n_list:mg "list"=none
 b_list:mb "list"=some (.type "list")
 n_max:mg "max"=none
 b_max:mb "max"=some (.builtin "max")
 n_min:mg "min"=none
 b_min:mb "min"=some (.builtin "min")
 n_sorted:mg "sorted"=none
 b_sorted:mb "sorted"=some (.builtin "sorted")
 n_iter:mg "iter"=none
 b_iter:mb "iter"=some (.builtin "iter")
 n_enumerate:mg "enumerate"=none
 b_enumerate:mb "enumerate"=some (.type "enumerate")
 n_zip:mg "zip"=none
 b_zip:mb "zip"=some (.type "zip")
 n_range:mg "range"=none
 b_range:mb "range"=some (.type "range")
 f_iter_escaped_chars:FnAt K 45 (stT 3)
 g_iter_escaped_chars:mg "_iter_escaped_chars"=some (.ref 45)
 f_strip_quoted_realnames:FnAt K 52 (stT 4)
 g_strip_quoted_realnames:mg "_strip_quoted_realnames"=some (.ref 52)
 f_check_parenthesis:FnAt K 59 (stT 5)
 g_check_parenthesis:mg "_check_parenthesis"=some (.ref 59)
 f_quotedata:FnAt K 118 (stT 12)
 g_quotedata:mg "quotedata"=some (.ref 118)
 f_law_lexer:FnAt K 191 (stT 16)
 g_law_lexer:mg "_law_lexer"=some (.ref 191)
 f_law_match:FnAt K 198 (stT 17)
 g_law_match:mg "_law_match"=some (.ref 198)
 f_law:FnAt K 203 (stT 18)
 g_law:mg "law"=some (.ref 203)
 fL_init:FnAt K 73 (stM 7 0)
 mL_init:mL "__init__"=some (.ref 73)
 fL_read_char:FnAt K 80 (stM 7 1)
 mL_read_char:mL "_read_char"=some (.ref 80)
 fL_get_token:FnAt K 87 (stM 7 2)
 mL_get_token:mL "get_token"=some (.ref 87)
 fL_push_token:FnAt K 94 (stM 7 3)
 mL_push_token:mL "push_token"=some (.ref 94)
 fW_init:FnAt K 135 (stM 14 1)
 mW_init:mW "__init__"=some (.ref 135)
 fW_indent_level:FnAt K 149 (stM 14 3)
 mW_indent_level:mW "indent_level"=some (.ref 149)
 cL:ClsOK K 97 mL
 aL:∀j,j≤9->mL (an j)=none
 g_netrclex:mg "_netrclex"=some (.ref 97)
 cW:ClsOK K 180 mW
 aW:∀j,j≤9->mW (an j)=none
 g_Whitespace:mg "Whitespace"=some (.ref 180)
 p_re1:∀h,TopOK K h->Pat h 106 105 code1
 p_re2:∀h,TopOK K h->Pat h 111 110 code2
 g_re1:mg "_twin_re_1"=some (.ref 106)
 g_re2:mg "_twin_re_2"=some (.ref 111)
 g_CRLF:mg "CRLF"=some (.str "\r\n" tC)
 cX:∀h,TopOK K h->Kf.In h
 cR:readsIn Kf 180 mc=true
 c_S:findCls Kf (.ref 180) mc "S"=some (.val (.str " " tS))
 c_T:findCls Kf (.ref 180) mc "T"=some (.val (.str "\t" tT))
 fc_law_lexer:∃o q pm doc,K 191=some o∧o.cls=.type "function"∧o.data=.func (fdOf (stT 16) q pm (.ref 190) doc)∧∀h,TopOK K h->h.CodeRec (.ref 190) q
 hC:∀h,TopOK K h->CodeHd h 190 186
 hB:∀h,TopOK K h->h.BuiltinsAt mg 186
theorem le0 {P:Nat->Prop} (h:P 0):∀j,j≤0->P j:=λ_ q=>Nat.le_zero.mp q▸h
theorem le9s {P:Nat->Prop} {n:Nat} (h:∀j,j≤n->P j) (k:P (n+1)):∀j,j≤n+1->P j:=λj q=>(Nat.lt_or_eq_of_le q).elim (λq=>h j (Nat.le_of_lt_succ q)) λe=>e▸k
theorem le9 {P:Nat->Prop} (h0:P 0) (h1:P 1) (h2:P 2) (h3:P 3) (h4:P 4) (h5:P 5) (h6:P 6) (h7:P 7) (h8:P 8) (h9:P 9):∀j,j≤9->P j:=le9s (le9s (le9s (le9s (le9s (le9s (le9s (le9s (le9s (le0 h0) h1) h2) h3) h4) h5) h6) h7) h8) h9
noncomputable def kOk (P N a:Addr):Bool:=!(a==P)&&decide (a < N)
noncomputable def K0 (P N:Addr) (h:Heap):Addr->Option Obj:=λa=>if kOk P N a then h.get? a else none
noncomputable def esO (o:Option Obj):Array DictEntry:=match o with
 | some ⟨_,_,.dict es _,_⟩=>es
 | _=>#[]
noncomputable def tokO:Option Value->Tok
 | some (.str _ t)=>t
 | _=>0
noncomputable def nsT {h:Heap} {t:PySem.W.X.KT} (_:PySem.W.X.KT.Holds h 1 0 t) (a:Addr):Str->Option Value:=nsFind (esO (t.get a))
section
variable {h h':Heap} {P N:Addr}
noncomputable def fragT {Kf:Frag} (_:Kf.In h) (P N:Addr):Frag:=Kf.filter λq=>kOk P N q.1
theorem K0_eq {a:Addr} (e:kOk P N a=true):K0 P N h a=h.get? a:=if_pos e
theorem top_get {a:Addr} {o:Obj} (x:TopOK (K0 P N h) h') (e:h.get? a=some o) (ha:kOk P N a=true):h'.get? a=some o:=x a o ((K0_eq ha).symm▸e)
theorem K0_top:TopOK (K0 P N h) h:=λa o e=>by
 unfold K0 at e
 split at e
 ·exact e
 ·exact nos e
theorem Ns_top {a:Addr} {m:Str->Option Value} (n:h.Ns a m) (ha:kOk P N a=true) (x:TopOK (K0 P N h) h'):h'.Ns a m:=by
 obtain ⟨o,es,ep,ho,r⟩:=n
 exact ⟨o,es,ep,top_get x ho ha,r⟩
theorem Ns_at {a:Addr} {m:Str->Option Value} (n:h.Ns a m) {o:Obj} {es:Array DictEntry} {ep:Nat} (e:h.get? a=some o) (hd:o.data=.dict es ep) (x:Str):m x=nsFind es x:=by
 refine cps λ_ KK=>?_
 obtain ⟨o',es',ep',ho,hd',_,r⟩:=n
 refine KK ?_
 replace ho:=e▸ho
 cases ho
 replace hd':=hd▸hd'
 cases hd'
 exact (r x).symm
noncomputable def strKeysB (es:Array DictEntry):Bool:=es.toList.all λe=>match e.key with
 | .str _ _=>true
 | _=>false
theorem Ns_of {a:Addr} {o:Obj} {es:Array DictEntry} {ep:Nat} (e:h.get? a=some o) (hd:o.data=.dict es ep) (hk:strKeysB es=true):h.Ns a (nsFind es):=by
 refine ⟨o,es,ep,e,hd,λx hx=>?_,λ_=>rfl⟩
 have:=List.all_eq_true.mp hk x (Array.mem_toList_iff.mpr hx)
 revert this
 cases x.key<;>intro q<;>first | exact ⟨_,_,rfl⟩ | cases q
theorem FnAt_of {a c:Addr} {o oc:Obj} {st:Stmt} {q:Str} {pm doc:Value} {vs:Array Value} {tq:Tok} (e:h.get? a=some o) (ha:kOk P N a=true) (hc:o.cls=.type "function") (hd:o.data=.func (fdOf st q pm (.ref c) doc)) (e2:h.get? c=some oc) (hc2:kOk P N c=true) (hv:oc.data=.fields vs) (hq:vs[1]?=some (.str q tq)):FnAt (K0 P N h) a st :=
 ⟨o,q,pm,c,doc,(K0_eq ha).trans e,hc,hd,λh' x=>⟨c,oc,vs,tq,rfl,top_get x e2 hc2,hv,hq⟩⟩
theorem lookup_filter {α:Type} (p:Nat->Bool):∀(l:List (Nat×α)) (a:Nat) (o:α),(l.filter λq=>p q.1).lookup a=some o->p a=true∧l.lookup a=some o
 | [],_,_,e=>nos e
 | (b,x)::l,a,o,e=>by
  cases hb:p b with
  | false =>
   rw [List.filter_cons_of_neg (p:=λq:Nat×α=>p q.1) (a:=(b,x)) (hb.symm▸(Bool.false_ne_true))] at e
   obtain ⟨h1,h2⟩:=lookup_filter p l a o e
   refine ⟨h1,?_⟩
   rw [List.lookup_cons]
   have:(a==b)=false:=by
    rw [beq_eq_false_iff_ne]
    intro q
    replace h1:=hb▸q▸h1
    exact nft h1
   refine this.symm▸?_
   exact h2
  | true =>
   rw [List.filter_cons_of_pos (p:=λq:Nat×α=>p q.1) (a:=(b,x)) hb,List.lookup_cons] at e
   rw [List.lookup_cons]
   cases hq:a==b with
   | true =>
    replace e:=hq▸e
    refine (eq_of_beq hq).symm▸?_
    exact ⟨hb,e⟩
   | false =>
    replace e:=hq▸e
    exact lookup_filter p l a o e
theorem Frag_of {Kf:Frag} (x:Kf.In h):∀h',TopOK (K0 P N h) h'->Frag.In (fragT x P N) h':=λh' t a o e=>by
 obtain ⟨h1,h2⟩:=lookup_filter (kOk P N) Kf a o e
 exact top_get t (x a o h2) h1
theorem RDs_ints:∀{vs:List Value} {xs:List Int},IntsAre vs xs->RDs h vs (xs.map .int) []
 | _,_,.nil=>.nil
 | _,_,.cons n t e=>.cons (.int n t) (RDs_ints e)
theorem join_end {p:Program} {w:World} {s_1:Shared} {f L:Addr} {c:ClaimW} {cl:Str->Option Addr} {mean:ExcName->Option Value} {args:List WData} {G:FnF} {script:List Int} {its:Array Value} {k:Nat} (hk:k≤100) (hf:FnOK p w (K0 P N s_1.heap) f k G)
  (hG:G [.dat (.list (script.map .int))] [.tab P true]=some (.dat (.bool true),[.tab P false])) (h1:s_1.heap.get? P=some (PySem.W.X.tableObj #[])) (hPL:P≠L) (hLN:N≤L) (ht:isCodeTable s_1.heap P)
  (h2:s_1.heap.get? L=some { cls:=.type "list",data:=.seq its }) (hi:IntsAre its.toList script) (hb:AllBare s_1.gens) (hr:∀cls,c.raises args cls=false) (hp:c.post args (.bool true) args=true) :
  wpAny (model p w) callerA (call (.ref f) [.ref L]) (λv s'=>GoodWG c cl mean args s_1 (.ok (.ret v)) s') (λe s'=>GoodWG c cl mean args s_1 (.error e) s') s_1:=by
 have H:HR [(P,P)] [] [.tab P true] s_1.heap:=⟨rfl,by simp,λ_ _ h=>(nomatch h),λ_ h=>(nin h),λi mo e=>by
  match i,e with
  | 0,e=>cases e; exact ⟨P,P,rfl,rfl,rfl,#[],h1,λ_=>rfl⟩⟩
 have V:VRs [(P,P)] [] s_1.heap [.dat (.list (script.map .int))] [.ref L]:=by
  refine .cons ⟨[L],.list h2 rfl rfl rfl rfl (RDs_ints hi),λa ha=>⟨λm=>?_,λm=>(nin m)⟩⟩ .nil
  simp at ha m
  exact hPL (m.symm.trans ha)
 have off:OffK (K0 P N s_1.heap) [(P,P)] []:=λa ha=>⟨λm=>by
  simp at m
  refine ha ?_
  unfold K0 kOk
  refine m.symm▸?_
  simp,λm=>(nin m)⟩
 refine wpAny_mono (hf.run callerA [(P,P)] [] _ s_1 _ _ _ _ ⟨rfl,?_,?_⟩ H K0_top off V hG) (λv s' q=>?_) λ_ _ q=>q.elim
 ·show 1+claimMargin+k < 900
  have:claimMargin≤700:=by decide
  lia
 ·show 4+40*k < 9000
  lia
 ·obtain ⟨ρ',x,⟨as,rv,_⟩,H'⟩:=q
  cases rv
  refine ⟨.inl ⟨_,_,[],rfl,hr,ReadsW.bool true,hp,λ_=>⟨List.nodup_nil,λ_ hm=>(nomatch hm)⟩⟩,⟨λb o e=>?_,λb o e=>x.live b o e⟩,x.os,x.bare hb⟩
  by_cases hbP:b=P
  ·subst hbP
   obtain ⟨e',rfl,_⟩:=x.more
   obtain ⟨r,b',hρ,hm⟩:=H'.at_ 0 _ rfl
   cases hρ
   obtain ⟨_,_,vs,hv,_⟩:=hm
   replace e:=h1▸e
   cases e
   exact .inr (.inl ⟨ht,rfl,#[],vs,rfl,by rw [hv]; simp [PySem.W.X.tableObj]⟩)
  ·exact .inl (x.heap b o (λm=>by simp at m; exact hbP m) (λm=>(nin m)) e)
end
end Mine
end
section
open PySem PySem.Calls PySem.W PyProof.Rows PySem.W.X PySem.W.ZRun
def Mine.Q3:Prop:=∃F:Mine.FnF,(∀{prog:Program} {w:World} {K:Addr->Option Obj} {mg mb:Str->Option Value},Mine.Tab K mg mb->Mine.FnOK prog w K 203 9 F)∧∀script:List Int,script.length≤63->F [.dat (.list (script.map .int))] [.tab 186 true]=some (.dat (.bool true),[.tab 186 false])
theorem Mine.useQ {A B:Prop} (q:A) (k:A->B):B:=k q
section
local macro_rules
 | `(tactic| refine $f:ident $args*) =>
  if f.getId.eraseMacroScopes==`PySem.W.holds_openX&&(args.back?.map λa=>a.raw.isOfKind `Lean.Parser.Term.syntheticHole).getD false then do
   let a:Lean.TSyntax `term:=⟨args.back!.raw⟩
   let b ← `(Mine.useQ $(Lean.mkIdent `hQ) $a)
   let as:=args.pop.push ⟨b.raw⟩
   `(tactic| refine $f $as*)
  else Lean.Macro.throwUnsupported
set_option maxRecDepth 100000 in
set_option maxHeartbeats 8000000 in
theorem Mine.head3 (hQ:Mine.Q3):PySem.Challenge.rw_uc0022_03.Holds:=by
 w_on
 o_law
 z_head
 (case hw=>w_witness2)
 intro hQ
 k_fill
 intro w s_0 s_1 mg mb G y fa o pm cd doc dV kV ho hd hcd hD hmg hg args vals as L hpre hlay hrd hwl hlo
 z_open y L KX ZH ZN ZT
 refine Ground.open G ?_
 intro T B D TE TW
 wrow_args hpre hlay hrd hwl hlo
 obtain ⟨hat,hsz⟩:=script_at L
 have htk:=script_toks L ZT
 rw [ZN] at hat hsz
 subst hat
 x_fa T KX hmg
 have Gm:∀x,mg x=Mine.nsT ZH 3 x:=Mine.Ns_at T.g (kt_at ZH (a:=3) (o:=_) rfl) rfl
 have Bn:∀x,mb x=Mine.nsT ZH 0 x:=Mine.Ns_at T.b (kt_at ZH (a:=0) (o:=_) rfl) rfl
 obtain ⟨ml,nl1,nl2⟩:=T.nolimit
 have ng:=T.g
 have nb:=T.b
 have Tb:Mine.Tab (Mine.K0 186 204 s_1.heap) mg mb:={
  mL:=Mine.nsT ZH 96
  mW:=Mine.nsT ZH 179
  Kf:=Mine.fragT KX 186 204
  mc:=.type "type"
  tC:=Mine.tokO (Mine.nsT ZH 3 "CRLF")
  tS:=Mine.tokO (Mine.nsT ZH 179 "S")
  tT:=Mine.tokO (Mine.nsT ZH 179 "T")
  gl:=⟨λ_ x=>Mine.Ns_top ng rfl x,λ_ x=>Mine.Ns_top nb rfl x,λ_ x=>⟨_,Mine.Ns_top nl1 rfl x,nl2⟩⟩
  n_len:=(Gm _).trans (by kernel_rfl)
  b_len:=(Bn _).trans (by kernel_rfl)
  n_sum:=(Gm _).trans (by kernel_rfl)
  b_sum:=(Bn _).trans (by kernel_rfl)
  n_int:=(Gm _).trans (by kernel_rfl)
  b_int:=(Bn _).trans (by kernel_rfl)
  n_tuple:=(Gm _).trans (by kernel_rfl)
  b_tuple:=(Bn _).trans (by kernel_rfl)
  n_list:=(Gm _).trans (by kernel_rfl)
  b_list:=(Bn _).trans (by kernel_rfl)
  n_max:=(Gm _).trans (by kernel_rfl)
  b_max:=(Bn _).trans (by kernel_rfl)
  n_min:=(Gm _).trans (by kernel_rfl)
  b_min:=(Bn _).trans (by kernel_rfl)
  n_sorted:=(Gm _).trans (by kernel_rfl)
  b_sorted:=(Bn _).trans (by kernel_rfl)
  n_iter:=(Gm _).trans (by kernel_rfl)
  b_iter:=(Bn _).trans (by kernel_rfl)
  n_enumerate:=(Gm _).trans (by kernel_rfl)
  b_enumerate:=(Bn _).trans (by kernel_rfl)
  n_zip:=(Gm _).trans (by kernel_rfl)
  b_zip:=(Bn _).trans (by kernel_rfl)
  n_range:=(Gm _).trans (by kernel_rfl)
  b_range:=(Bn _).trans (by kernel_rfl)
  f_iter_escaped_chars:=Mine.FnAt_of (kt_at ZH (a:=45) (o:=_) rfl) rfl rfl rfl (kt_at ZH (a:=44) (o:=_) rfl) rfl rfl rfl
  g_iter_escaped_chars:=(Gm _).trans (by kernel_rfl)
  f_strip_quoted_realnames:=Mine.FnAt_of (kt_at ZH (a:=52) (o:=_) rfl) rfl rfl rfl (kt_at ZH (a:=51) (o:=_) rfl) rfl rfl rfl
  g_strip_quoted_realnames:=(Gm _).trans (by kernel_rfl)
  f_check_parenthesis:=Mine.FnAt_of (kt_at ZH (a:=59) (o:=_) rfl) rfl rfl rfl (kt_at ZH (a:=58) (o:=_) rfl) rfl rfl rfl
  g_check_parenthesis:=(Gm _).trans (by kernel_rfl)
  f_quotedata:=Mine.FnAt_of (kt_at ZH (a:=118) (o:=_) rfl) rfl rfl rfl (kt_at ZH (a:=117) (o:=_) rfl) rfl rfl rfl
  g_quotedata:=(Gm _).trans (by kernel_rfl)
  f_law_lexer:=Mine.FnAt_of (kt_at ZH (a:=191) (o:=_) rfl) rfl rfl rfl (kt_at ZH (a:=190) (o:=_) rfl) rfl rfl rfl
  g_law_lexer:=(Gm _).trans (by kernel_rfl)
  f_law_match:=Mine.FnAt_of (kt_at ZH (a:=198) (o:=_) rfl) rfl rfl rfl (kt_at ZH (a:=197) (o:=_) rfl) rfl rfl rfl
  g_law_match:=(Gm _).trans (by kernel_rfl)
  f_law:=Mine.FnAt_of (kt_at ZH (a:=203) (o:=_) rfl) rfl rfl rfl (kt_at ZH (a:=202) (o:=_) rfl) rfl rfl rfl
  g_law:=(Gm _).trans (by kernel_rfl)
  fL_init:=Mine.FnAt_of (kt_at ZH (a:=73) (o:=_) rfl) rfl rfl rfl (kt_at ZH (a:=72) (o:=_) rfl) rfl rfl rfl
  mL_init:=by kernel_rfl
  fL_read_char:=Mine.FnAt_of (kt_at ZH (a:=80) (o:=_) rfl) rfl rfl rfl (kt_at ZH (a:=79) (o:=_) rfl) rfl rfl rfl
  mL_read_char:=by kernel_rfl
  fL_get_token:=Mine.FnAt_of (kt_at ZH (a:=87) (o:=_) rfl) rfl rfl rfl (kt_at ZH (a:=86) (o:=_) rfl) rfl rfl rfl
  mL_get_token:=by kernel_rfl
  fL_push_token:=Mine.FnAt_of (kt_at ZH (a:=94) (o:=_) rfl) rfl rfl rfl (kt_at ZH (a:=93) (o:=_) rfl) rfl rfl rfl
  mL_push_token:=by kernel_rfl
  fW_init:=Mine.FnAt_of (kt_at ZH (a:=135) (o:=_) rfl) rfl rfl rfl (kt_at ZH (a:=134) (o:=_) rfl) rfl rfl rfl
  mW_init:=by kernel_rfl
  fW_indent_level:=Mine.FnAt_of (kt_at ZH (a:=149) (o:=_) rfl) rfl rfl rfl (kt_at ZH (a:=148) (o:=_) rfl) rfl rfl rfl
  mW_indent_level:=by kernel_rfl
  cL:=⟨⟨_,_,96,_,_,_,_,_,_,_,_,_,_,(Mine.K0_eq rfl).trans (kt_at ZH (a:=97) (o:=_) rfl),λ_ x=>Mine.Ns_top (Mine.Ns_of (kt_at ZH (a:=96) (o:=_) rfl) rfl (by kernel_rfl)) rfl x⟩,by kernel_rfl,by kernel_rfl,by kernel_rfl⟩
  aL:=Mine.le9 (by kernel_rfl) (by kernel_rfl) (by kernel_rfl) (by kernel_rfl) (by kernel_rfl) (by kernel_rfl) (by kernel_rfl) (by kernel_rfl) (by kernel_rfl) (by kernel_rfl)
  g_netrclex:=(Gm _).trans (by kernel_rfl)
  cW:=⟨⟨_,_,179,_,_,_,_,_,_,_,_,_,_,(Mine.K0_eq rfl).trans (kt_at ZH (a:=180) (o:=_) rfl),λ_ x=>Mine.Ns_top (Mine.Ns_of (kt_at ZH (a:=179) (o:=_) rfl) rfl (by kernel_rfl)) rfl x⟩,by kernel_rfl,by kernel_rfl,by kernel_rfl⟩
  aW:=Mine.le9 (by kernel_rfl) (by kernel_rfl) (by kernel_rfl) (by kernel_rfl) (by kernel_rfl) (by kernel_rfl) (by kernel_rfl) (by kernel_rfl) (by kernel_rfl) (by kernel_rfl)
  g_Whitespace:=(Gm _).trans (by kernel_rfl)
  p_re1:=λ_ x=>⟨_,_,_,_,_,_,_,_,_,_,Mine.top_get x (kt_at ZH (a:=106) (o:=_) rfl) rfl,rfl,rfl,rfl,Mine.top_get x (kt_at ZH (a:=105) (o:=_) rfl) rfl,rfl,by kernel_rfl⟩
  g_re1:=(Gm _).trans (by kernel_rfl)
  p_re2:=λ_ x=>⟨_,_,_,_,_,_,_,_,_,_,Mine.top_get x (kt_at ZH (a:=111) (o:=_) rfl) rfl,rfl,rfl,rfl,Mine.top_get x (kt_at ZH (a:=110) (o:=_) rfl) rfl,rfl,by kernel_rfl⟩
  g_re2:=(Gm _).trans (by kernel_rfl)
  g_CRLF:=(Gm _).trans (by kernel_rfl)
  cX:=Mine.Frag_of KX
  cR:=by kernel_rfl
  c_S:=by kernel_rfl
  c_T:=by kernel_rfl
  fc_law_lexer:=⟨_,_,_,_,(Mine.K0_eq rfl).trans (kt_at ZH (a:=191) (o:=_) rfl),rfl,rfl,λ_ x=>⟨190,_,_,_,rfl,Mine.top_get x (kt_at ZH (a:=190) (o:=_) rfl) rfl,rfl,rfl⟩⟩
  hC:=λ_ x=>⟨_,_,_,_,_,_,_,_,_,Mine.top_get x (kt_at ZH (a:=190) (o:=_) rfl) rfl,rfl,rfl,rfl,rfl,rfl,rfl,rfl,rfl,by decide⟩
  hB:=λ_ x=>⟨4,_,(Gm _).trans (by kernel_rfl),by decide,by decide,by decide,Mine.top_get x (kt_at ZH (a:=4) (o:=_) rfl) rfl,rfl,rfl,rfl⟩
 }
 rename IntsAre _ _=>hI
 rename Heap.IsList _ _ _=>hLs
 refine hQ.elim λF hF=>?_
 refine Mine.join_end (P:=186) (N:=204) (k:=9) (by decide) (hF.1 Tb) (hF.2 _ (by omega)) (kt_at ZH (a:=186) (o:=_) rfl) (by decide) (by decide) ⟨190,_,_,kt_at ZH (a:=190) (o:=_) rfl,rfl,rfl,rfl⟩ (script_obj L hLs) hI (AllBare.of_eq hg) (λ_=>rfl) ?_
 first | rfl | wrow_post
end
end
section
open PySem PySem.Calls PySem.W PyProof.Rows
namespace Mine
theorem nso {α:Type} {x:α} {C:Prop} (h:some x=none):C:=nomatch h
theorem ntf {C:Prop} (h:true=false):C:=nomatch h
theorem ncn {α:Type} {a:α} {l:List α} {C:Prop} (h:a::l=[]):C:=nomatch h
theorem nnc {α:Type} {a:α} {l:List α} {C:Prop} (h:[]=a::l):C:=nomatch h
theorem ab_lo {i:Int} {n:Nat} (h:i.natAbs≤n):-(n:Int)≤i:=Int.neg_le_of_neg_le (Int.le_trans (Int.natAbs_neg i▸Int.le_natAbs (a:=-i)) (Int.ofNat_le.mpr h))
theorem ab_hi {i:Int} {n:Nat} (h:i.natAbs≤n):i≤(n:Int):=Int.le_trans Int.le_natAbs (Int.ofNat_le.mpr h)
theorem ar1 {a i n:Nat} (h:a - i=n+1):a - (i+1)=n:=congrArg Nat.pred h
theorem ar3 {a i:Nat} (h1:i≤a) (h:a - i=0):i=a:=Nat.le_antisymm h1 (Nat.le_of_sub_eq_zero h)
theorem ar5 {n p e f:Nat} (h:n - p < f+1) (h1:p < e) (h2:e≤n):n - e < f:=Nat.lt_of_lt_of_le (Nat.sub_lt_sub_left (Nat.lt_of_lt_of_le h1 h2) h1) (Nat.le_of_lt_succ h)
theorem ar6 {a b k c:Nat} (h:a+40*(k+1) < c) (hb:b≤40):a+b+40*k < c:=Nat.lt_of_le_of_lt (by rw [Nat.mul_succ,Nat.add_comm (40*k),← Nat.add_assoc]; exact Nat.add_le_add_right (Nat.add_le_add_left hb a) _) h
theorem ar7 {s b:Nat} (h:s+1≤b):b - s=b - (s+1)+1:=(Nat.succ_pred (Nat.sub_ne_zero_of_lt h)).symm
theorem ar8 {b c:Nat} (h:c≤b):c+(b - c+1)=b+1:=congrArg (·+1) (Nat.add_sub_of_le h)
theorem sos {α:Type} {x y:α} (h:some x=some y):x=y:=Option.some.inj h
theorem sop {α β:Type} {a c:α} {b d:β} (h:some (a,b)=some (c,d)):a=c∧b=d:=Prod.mk.inj (Option.some.inj h)
theorem all1 {a:Addr} {P:Addr->Prop} (h:P a):∀b∈[a],P b:=λ_ hb=>List.mem_singleton.mp hb▸h
theorem allc {a:Addr} {l:List Addr} {P:Addr->Prop} (h:P a) (k:∀b∈l,P b):∀c∈a::l,P c:=λc hc=>(List.mem_cons.mp hc).elim (λe=>e▸h) (k c)
theorem all2 {a b:Addr} {P:Addr->Prop} (h1:P a) (h2:P b):∀c∈[a,b],P c:=λc hc=>(List.mem_cons.mp hc).elim (λe=>e▸h1) (all1 h2 c)
theorem iteo {α:Type} {c:Prop} [Decidable c] {o:Option α} {y:α} {C:Prop} (e:(if c then o else none)=some y) (k:c->o=some y->C):C:=by
 by_cases h:c
 ·rw [if_pos h] at e; exact k h e
 ·rw [if_neg h] at e; exact nos e
theorem ite_inv {α:Type} {c:Prop} [Decidable c] {x:α} {y:α} {C:Prop} (e:(if c then some x else none)=some y) (k:c->x=y->C):C:=iteo e λh e=>k h (sos e)
theorem RD.ind {h:Heap} {P:Value->PyData->List Addr->Prop} {Q:List Value->List PyData->List Addr->Prop} (p0:P .none .none []) (p1:∀b,P (.bool b) (.bool b) []) (p2:∀i t,P (.int i t) (.int i) []) (p3:∀x t,PyData.strOk x=true->P (.str x t) (.str x) [])
  (p4:∀{a o vs n xs as},h.get? a=some o->o.cls=.type "list"->o.dict=Option.none->o.slots=#[]->o.data=.seq vs n->Q vs.toList xs as->P (.ref a) (.list xs) (a::as))
  (p5:∀{a o vs n xs as},h.get? a=some o->o.cls=.type "tuple"->o.data=.seq vs n->Q vs.toList xs as->P (.ref a) (.tuple xs) (a::as))
  (q0:Q [] [] []) (q1:∀{v vs d ds as bs},P v d as->Q vs ds bs->Q (v::vs) (d::ds) (as++bs)):(∀{v d as},RD h v d as->P v d as)∧∀{v d as},RDs h v d as->Q v d as :=
 ⟨λr=>RD.rec (motive_1:=λv d as _=>P v d as) (motive_2:=λv d as _=>Q v d as) p0 p1 p2 p3 (λe c d u q _ ih=>p4 e c d u q ih) (λe c q _ ih=>p5 e c q ih) q0 (λ_ _ a b=>q1 a b) r,
  λr=>RDs.rec (motive_1:=λv d as _=>P v d as) (motive_2:=λv d as _=>Q v d as) p0 p1 p2 p3 (λe c d u q _ ih=>p4 e c d u q ih) (λe c q _ ih=>p5 e c q ih) q0 (λ_ _ a b=>q1 a b) r⟩
noncomputable def Keeps (h h':Heap) (as:List Addr):Prop:=∀a∈as,∀o,h.get? a=some o->h'.get? a=some o
theorem RD.keep2 (h h':Heap):(∀{v d as},RD h v d as->Keeps h h' as->RD h' v d as)∧∀{v d as},RDs h v d as->Keeps h h' as->RDs h' v d as :=
 RD.ind (P:=λv d as=>Keeps h h' as->RD h' v d as) (Q:=λv d as=>Keeps h h' as->RDs h' v d as) (λ_=>.none) (λb _=>.bool b) (λi t _=>.int i t) (λx t q _=>.str x t q)
  (λe c d u q ih k=>.list (k _ (List.mem_cons_self ..) _ e) c d u q (ih λa ha=>k a (List.mem_cons_of_mem _ ha))) (λe c q ih k=>.tuple (k _ (List.mem_cons_self ..) _ e) c q (ih λa ha=>k a (List.mem_cons_of_mem _ ha)))
  (λ_=>.nil) λx r k=>.cons (x λa ha=>k a (List.mem_append_left _ ha)) (r λa ha=>k a (List.mem_append_right _ ha))
theorem RD.keep {h h':Heap} {v d as} (r:RD h v d as) (k:∀a∈as,∀o,h.get? a=some o->h'.get? a=some o):RD h' v d as:=(RD.keep2 h h').1 r k
theorem RDs.keep {h h':Heap} {v d as} (r:RDs h v d as) (k:∀a∈as,∀o,h.get? a=some o->h'.get? a=some o):RDs h' v d as:=(RD.keep2 h h').2 r k
noncomputable def Live (h:Heap) (as:List Addr):Prop:=∀a∈as,∃o,h.get? a=some o
theorem Live.nil {h:Heap}:Live h []:=λ_ h=>(nin h)
theorem Live.cons {h:Heap} {a:Addr} {o:Obj} {as:List Addr} (e:h.get? a=some o) (l:Live h as):Live h (a::as):=λb hb=>(List.mem_cons.mp hb).elim (λq=>⟨o,q▸e⟩) (l b)
theorem Live.append {h:Heap} {as bs:List Addr} (x:Live h as) (y:Live h bs):Live h (as++bs):=λb hb=>(List.mem_append.mp hb).elim (x b) (y b)
theorem RD.live2 (h:Heap):(∀{v d as},RD h v d as->Live h as)∧∀{v d as},RDs h v d as->Live h as :=
 RD.ind (P:=λ_ _ as=>Live h as) (Q:=λ_ _ as=>Live h as) .nil (λ_=>.nil) (λ_ _=>.nil) (λ_ _ _=>.nil) (λe _ _ _ _ ih=>.cons e ih) (λe _ _ ih=>.cons e ih) .nil λx r=>x.append r
theorem RD.live {h:Heap} {v d as} (r:RD h v d as):∀a∈as,∃o,h.get? a=some o:=(RD.live2 h).1 r
theorem RDs.live {h:Heap} {v d as} (r:RDs h v d as):∀a∈as,∃o,h.get? a=some o:=(RD.live2 h).2 r
theorem RD.reads2 (h:Heap):(∀{v d as},RD h v d as->∃bs,Reads h v d bs)∧∀{v d as},RDs h v d as->∃bs,ReadsAll h v d bs :=
 RD.ind (P:=λv d _=>∃bs,Reads h v d bs) (Q:=λv d _=>∃bs,ReadsAll h v d bs) ⟨_,.none⟩ (λb=>⟨_,.bool b⟩) (λi t=>⟨_,.int i t⟩) (λx t _=>⟨_,.str x t⟩) (λe c _ _ q ih=>ih.elim λ_ r=>⟨_,.list e c q r⟩) (λe c q ih=>ih.elim λ_ r=>⟨_,.tuple e c q r⟩)
  ⟨_,.nil⟩ λx r=>x.elim λ_ x=>r.elim λ_ r=>⟨_,.cons x r⟩
theorem RD.reads {h:Heap} {v d as} (r:RD h v d as):∃bs,Reads h v d bs:=(RD.reads2 h).1 r
theorem RDs.ind {h:Heap} {Q:List Value->List PyData->List Addr->Prop} (q0:Q [] [] []) (q1:∀{v vs d ds as bs},RD h v d as->RDs h vs ds bs->Q vs ds bs->Q (v::vs) (d::ds) (as++bs)) {v d as} (r:RDs h v d as):Q v d as :=
 RDs.rec (motive_1:=λ_ _ _ _=>True) (motive_2:=λv d as _=>Q v d as) trivial (λ_=>trivial) (λ_ _=>trivial) (λ_ _ _=>trivial) (λ_ _ _ _ _ _ _=>trivial) (λ_ _ _ _ _=>trivial) q0 (λx r _ ih=>q1 x r ih) r
theorem RDs.length {h:Heap} {v d as} (r:RDs h v d as):v.length=d.length:=RDs.ind (Q:=λv d _=>v.length=d.length) rfl (λ_ _ ih=>congrArg (·+1) ih) r
theorem RDs.append {h:Heap} {v d as w e bs} (r:RDs h v d as) (r2:RDs h w e bs):RDs h (v++w) (d++e) (as++bs) :=
 RDs.ind (Q:=λv d as=>RDs h (v++w) (d++e) (as++bs)) r2 (λx _ ih=>(List.append_assoc _ _ bs).symm▸.cons x ih) r
theorem RDs.get {h:Heap} {v d as} (r:RDs h v d as):∀(i:Nat) (x:PyData),d[i]?=some x->∃y bs,v[i]?=some y∧RD h y x bs∧∀a∈bs,a∈as :=
 RDs.ind (Q:=λv d as=>∀(i:Nat) (x:PyData),d[i]?=some x->∃y bs,v[i]?=some y∧RD h y x bs∧∀a∈bs,a∈as) (λ_ _ e=>nos e)
  (λ{v vs d ds as bs} y _ ih i x e=>match i,e with
   | 0,e=>⟨v,as,rfl,Option.some.inj e▸y,λa ha=>List.mem_append_left _ ha⟩
   | i+1,e=>(ih i x e).elim λz q=>q.elim λcs q=>⟨z,cs,q.1,q.2.1,λa ha=>List.mem_append_right _ (q.2.2 a ha)⟩) r
theorem Ext.refl (X:List Addr) (ρ:Rho) (s:Shared):Ext X ρ s ρ s:=⟨⟨[],by simp,λ_ h=>nin h⟩,λ_ _ _ _ e=>e,λ_ o e=>⟨o,e⟩,rfl,rfl,λ_ _ e=>e,λh=>h⟩
theorem Ext.of_keep {X:List Addr} {ρ:Rho} {s:Shared} {h:Heap} {t:Nat} (k:∀b o,s.heap.get? b=some o->h.get? b=some o):Ext X ρ s ρ { s with heap:=h,toks:=t } :=
 ⟨⟨[],by simp,λ_ h=>nin h⟩,λb o _ _ e=>k b o e,λb o e=>⟨o,k b o e⟩,rfl,rfl,λ_ _ e=>e,λh=>h⟩
section
variable {X:List Addr} {ρ ρ' ρ_0 ρ_1 ρ_2:Rho} {s s' s_0 s_1 s_2:Shared} {Z:List Addr}
theorem Ext.mem (x:Ext X ρ s ρ' s') {b:Addr} (h:b∈muts ρ'):b∈muts ρ∨s.heap.get? b=none:=by
 obtain ⟨e,rfl,he⟩:=x.more
 simp only [muts,List.map_append,List.mem_append] at h ⊢
 rcases h with q | q
 ·exact .inl q
 ·obtain ⟨p,hp,rfl⟩:=List.mem_map.mp q
  exact .inr (he p hp)
theorem Ext.notin (x:Ext X ρ s ρ' s') {b:Addr} {o:Obj} (hb:s.heap.get? b=some o) (h:b∉muts ρ):b∉muts ρ':=λq=>by
 rcases x.mem q with q | q
 ·exact h q
 ·rw [hb] at q; cases q
theorem Ext.old (x:Ext X ρ s ρ' s') {i:Nat} {p:Addr×Addr} (h:ρ[i]?=some p):ρ'[i]?=some p:=by
 obtain ⟨e,rfl,_⟩:=x.more
 rw [List.getElem?_append_left]
 ·exact h
 ·exact (List.getElem?_eq_some_iff.mp h).1
theorem Ext.weak {Y:List Addr} (x:Ext X ρ s ρ' s') (h:∀a∈X,a∈Y):Ext Y ρ s ρ' s':=⟨x.more,λb o hm hy e=>x.heap b o hm (λq=>hy (h b q)) e,x.live,x.drawn,x.os,x.gens,x.bare⟩
theorem Ext.trans (x:Ext X ρ_0 s_0 ρ_1 s_1) (y:Ext X ρ_1 s_1 ρ_2 s_2):Ext X ρ_0 s_0 ρ_2 s_2:=by
 refine ⟨?_,λb o h hX e=>y.heap b o (x.notin e h) hX (x.heap b o h hX e),λb o e=>?_,y.drawn.trans x.drawn,y.os.trans x.os,λg st e=>y.gens g st (x.gens g st e),λh=>y.bare (x.bare h)⟩
 ·obtain ⟨e,rfl,he⟩:=x.more
  obtain ⟨e',rfl,he'⟩:=y.more
  refine ⟨e++e',by rw [List.append_assoc],λp hp=>?_⟩
  rcases List.mem_append.mp hp with hp | hp
  ·exact he p hp
  ·cases q:s_0.heap.get? p.2 with
   | none=>rfl
   | some o =>
    obtain ⟨o',q'⟩:=x.live _ _ q
    rw [he' p hp] at q'
    exact nos q'
 ·obtain ⟨o',e'⟩:=x.live b o e
  exact y.live b o' e'
theorem Ext.shrink {Y:List Addr} (x:Ext X ρ s ρ' s') (h:∀a∈X,a∈Y∨s.heap.get? a=none):Ext Y ρ s ρ' s':=⟨x.more,λb o hm hy e=>x.heap b o hm (λq=>by
 rcases h b q with q | q
 ·exact hy q
 ·rw [e] at q; cases q) e,x.live,x.drawn,x.os,x.gens,x.bare⟩
theorem Ns.keep {h h':Heap} {a:Addr} {m:Str->Option Value} (x:h.Ns a m) (k:∀o,h.get? a=some o->h'.get? a=some o):h'.Ns a m:=x.elim λo q=>q.elim λes q=>q.elim λep q=>⟨o,es,ep,k o q.1,q.2⟩
theorem Ns.live {h:Heap} {a:Addr} {m:Str->Option Value} (x:h.Ns a m):∃o,h.get? a=some o:=x.elim λo q=>q.elim λ_ q=>q.elim λ_ q=>⟨o,q.1⟩
theorem CodeRec.keep {h h':Heap} {a:Addr} {q:Str} (x:h.CodeRec (.ref a) q) (k:∀o,h.get? a=some o->h'.get? a=some o):h'.CodeRec (.ref a) q:=by
 obtain ⟨c,o,vs,t,e,h1,h2⟩:=x
 have e:=Value.ref.inj e
 exact ⟨a,o,vs,t,rfl,k o (e▸h1),h2⟩
theorem CodeRec.live {h:Heap} {a:Addr} {q:Str} (x:h.CodeRec (.ref a) q):∃o,h.get? a=some o:=by
 refine cps λ_ KK=>?_
 obtain ⟨c,o,vs,t,e,h1,h2⟩:=x
 refine KK ?_
 have e:=Value.ref.inj e
 exact ⟨o,e▸h1⟩
theorem IsCell.keep {h h':Heap} {a:Addr} {v:Option Value} (x:h.IsCell a v) (k:∀o,h.get? a=some o->h'.get? a=some o):h'.IsCell a v:=x.elim λo q=>⟨o,k o q.1,q.2⟩
theorem Strm.live {h:Heap} {a g:Addr} {fs:List Addr} (x:Strm h a g fs):∀b∈fs,∃o,h.get? b=some o:=by
 refine cps λ_ KK=>?_
 obtain ⟨o,o_1,d,r,c,cc,fd,hfs,ho,_,_,_,hn,hr,_,_,_,hc,hcc⟩:=x.ex
 refine KK ?_
 rw [hfs]
 refine cps λ_ KK=>?_
 obtain ⟨_,hd⟩:=Ns.live hn
 obtain ⟨_,hc,_⟩:=hc
 obtain ⟨_,hcc⟩:=CodeRec.live hcc
 refine KK ?_
 exact Live.cons ho (.cons hd (.cons hr (.cons hc (.cons hcc .nil))))
theorem Strm.keep {h h':Heap} {a g:Addr} {fs:List Addr} (x:Strm h a g fs) (k:∀a∈fs,∀o,h.get? a=some o->h'.get? a=some o):Strm h' a g fs:=by
 obtain ⟨o,o_1,d,r,c,cc,fd,hfs,ho,ho1,ho2,ho3,hn,hr,hr1,hr2,hr3,hc,hcc⟩:=x.ex
 have k':Keeps h h' [a,d,r,c,cc]:=hfs▸k
 have m:∀(l:List Addr) (b:Addr),b∈b::l:=λl b=>List.mem_cons_self ..
 have m1:∀{l:List Addr} {b c:Addr},b∈l->b∈c::l:=λh=>List.mem_cons_of_mem _ h
 exact ⟨⟨o,o_1,d,r,c,cc,fd,hfs,k' _ (m _ _) _ ho,ho1,ho2,ho3,Ns.keep hn (k' _ (m1 (m _ _))),k' _ (m1 (m1 (m _ _))) _ hr,hr1,hr2,hr3,IsCell.keep hc (k' _ (m1 (m1 (m1 (m _ _))))),CodeRec.keep hcc (k' _ (m1 (m1 (m1 (m1 (m _ _))))))⟩⟩
noncomputable def Moves (ρ ρ':Rho) (Z Z':List Addr) (h h':Heap):Prop:=∀a o,a∉muts ρ->a∉Z->h.get? a=some o->h'.get? a=some o∧a∉muts ρ'∧a∉Z'
theorem Moves.foot {ρ ρ':Rho} {Z Z':List Addr} {h h':Heap} (k:Moves ρ ρ' Z Z' h h') {as:List Addr} (l:∀a∈as,∃o,h.get? a=some o) (q:∀a∈as,a∉muts ρ∧a∉Z):Keeps h h' as∧∀a∈as,a∉muts ρ'∧a∉Z' :=
 ⟨λa ha o e=>(k a o (q a ha).1 (q a ha).2 e).1,λa ha=>(l a ha).elim λo e=>(k a o (q a ha).1 (q a ha).2 e).2⟩
theorem VR.map {ρ ρ':Rho} {Z Z':List Addr} {h h':Heap} (hρ:∀(i:Nat) q,ρ[i]?=some q->ρ'[i]?=some q) (k:Moves ρ ρ' Z Z' h h') {p:PV} {v:Value} (x:VR ρ Z h p v):VR ρ' Z' h' p v:=by
 cases p with
 | dat d =>
  obtain ⟨as,r,q⟩:=x
  have f:=k.foot r.live q
  exact ⟨as,r.keep f.1,f.2⟩
 | obj i =>
  obtain ⟨r,b,e,hv⟩:=x
  exact ⟨r,b,hρ _ _ e,hv⟩
 | strm i =>
  obtain ⟨r,b,a,fs,e,hv,hs,q⟩:=x
  have f:=k.foot hs.live q
  exact ⟨r,b,a,fs,hρ _ _ e,hv,hs.keep f.1,f.2⟩
theorem Ext.moves (x:Ext X ρ s ρ' s') (hX:∀a∈X,a∈Z):Moves ρ ρ' Z Z s.heap s'.heap:=λa _ h1 h2 e=>⟨x.heap a _ h1 (λq=>h2 (hX a q)) e,x.notin e h1,h2⟩
theorem VR.ext (x:Ext X ρ s ρ' s') (hX:∀a∈X,a∈Z) {p:PV} {v:Value} (r:VR ρ Z s.heap p v):VR ρ' Z s'.heap p v:=VR.map (λ_ _ e=>x.old e) (x.moves hX) r
theorem VR.weak {Z':List Addr} {h:Heap} (hZ:∀a∈Z',a∈Z) {p:PV} {v:Value} (r:VR ρ Z h p v):VR ρ Z' h p v:=VR.map (λ_ _ e=>e) (λa _ h1 h2 e=>⟨e,h1,λq=>h2 (hZ a q)⟩) r
theorem VR.fresh {Z':List Addr} {h:Heap} (hZ:∀a∈Z',a∈Z∨h.get? a=none) {p:PV} {v:Value} (r:VR ρ Z h p v):VR ρ Z' h p v :=
 VR.map (λ_ _ e=>e) (λa _ h1 h2 e=>⟨e,h1,λq=>(hZ a q).elim h2 λn=>nos (n.symm.trans e)⟩) r
end
theorem Ns1.keep {h h':Heap} {a:Addr} {m:Str->Option Value} (x:h.Ns1 a m) (k:∀o,h.get? a=some o->h'.get? a=some o):h'.Ns1 a m:=x.elim λo q=>q.elim λes q=>q.elim λep q=>⟨o,es,ep,k o q.1,q.2⟩
theorem MR.map {ρ ρ':Rho} {Z Z':List Addr} {h h':Heap} (hρ:∀(i:Nat) q,ρ[i]?=some q->ρ'[i]?=some q) (k:Moves ρ ρ' Z Z' h h') {r b:Addr} (kb:∀o,h.get? b=some o->h'.get? b=some o) {mo:MO} (x:MR ρ Z h r b mo):MR ρ' Z' h' r b mo:=by
 cases mo with
 | lst l =>
  obtain ⟨hr,o,vs,n,as,ho,h1,h2,h3,h4,rs,q⟩:=x
  have f:=k.foot rs.live q
  exact ⟨hr,o,vs,n,as,kb o ho,h1,h2,h3,h4,rs.keep f.1,f.2⟩
 | ins c ats =>
  obtain ⟨hr,hz,o,mA,ho,h1,h2,h3,h4,h5,h6,h7⟩:=x
  have f:=k r o hr hz ho
  exact ⟨f.2.1,f.2.2,o,mA,f.1,h1,h2,h3,h4,Ns1.keep h5 kb,λp hp=>(h6 p hp).elim λv e=>⟨v,e.1,e.2.map hρ k⟩,h7⟩
 | cit i f dn =>
  obtain ⟨hr,m,t,x,y,h1,h2,h3,h4,h5⟩:=x
  have f:=k m _ h2 h3 h4
  exact ⟨hr,m,t,x,y,hρ _ _ h1,f.2.1,f.2.2,f.1,kb _ h5⟩
 | tab a f =>
  obtain ⟨hr,ha,vs,ho,hv⟩:=x
  exact ⟨hr,ha,vs,kb _ ho,hv⟩
structure Fx where
 env:Env
 sc:Scope
 vars:List (Nat×Str)
 own:List Addr
 k:Nat
abbrev Loc:=List (Option PV)
structure St where
 loc:Loc
 hp:List MO
noncomputable def slotV (env:Env) (m cm:Str->Option Value) (x:Str):Option Value :=
 match env.kindOf x with
 | some .local=>m x
 | some .cell=>(env.cells.lookup x).bind λ_=>cm x
 | some .free=>(env.cells.lookup x).bind λ_=>cm x
 | _=>none
inductive EnvX (fx:Fx) (ρ:Rho) (Z:List Addr) (loc:Loc) (h:Heap):Prop
 | mk (m cm:Str->Option Value):h.Ns fx.env.locals m->(∀n c,fx.env.cells.lookup n=some c->h.IsCell c (cm n)) ->
  (∀i x pv,fx.vars.lookup i=some x->loc[i]?=some (some pv)->∃v,slotV fx.env m cm x=some v∧VR ρ Z h pv v)->EnvX fx ρ Z loc h
structure EnvR (fx:Fx) (ρ:Rho) (Z:List Addr) (loc:Loc) (h:Heap):Prop where
 ex:EnvX fx ρ Z loc h
 fn:fx.env.scope.kind=.function
 sc:fx.env.scope=fx.sc
 vinj:∀i j x,fx.vars.lookup i=some x->fx.vars.lookup j=some x->i=j
 glob:fx.env.globals=mainGlobals
 bi:fx.env.builtins=builtinsNs
 lown:fx.env.locals∈fx.own
 ownZ:∀a∈fx.own,a∈Z
 lmut:fx.env.locals∉muts ρ
 cell:∀n c,fx.env.cells.lookup n=some c->c∉muts ρ∧c≠fx.env.locals
 inj:∀n n' c,fx.env.cells.lookup n=some c->fx.env.cells.lookup n'=some c->n=n'
structure SR (K:Addr->Option Obj) (fx:Fx) (ρ:Rho) (Z:List Addr) (σ:St) (s:Shared):Prop where
 hr:HR ρ Z σ.hp s.heap
 er:EnvR fx ρ Z σ.loc s.heap
 top:TopOK K s.heap
 off:∀a,K a≠none->a∉muts ρ∧a∉Z
theorem Room.mono {A:Around} {k k':Nat} (h:Room A k) (hk:k'≤k):Room A k':=⟨h.handled,by have:=h.depth; (exact Nat.lt_of_le_of_lt (Nat.add_le_add_left (by assumption) _) (by assumption)),by have:=h.units; (exact Nat.lt_of_le_of_lt (Nat.add_le_add_left (Nat.mul_le_mul_left _ (by assumption)) _) (by assumption))⟩
section
variable {h:Heap} {v:Value} {as:List Addr}
theorem RD.int_ {x:Int} (r:RD h v (.int x) as):∃t,v=.int x t∧as=[]:=match r with | .int _ t=>⟨t,rfl,rfl⟩
theorem RD.bool_ {x:Bool} (r:RD h v (.bool x) as):v=.bool x∧as=[]:=match r with | .bool _=>⟨rfl,rfl⟩
theorem RD.none_ (r:RD h v .none as):v=.none∧as=[]:=match r with | .none=>⟨rfl,rfl⟩
theorem RD.str_ {x:Str} (r:RD h v (.str x) as):∃t,v=.str x t∧as=[]∧PyData.strOk x=true:=match r with | .str _ t q=>⟨t,rfl,rfl,q⟩
inductive RDl (h:Heap) (v:Value) (xs:List PyData) (as:List Addr):Prop
 | mk (a:Addr) (vs:Array Value) (n:Nat) (bs:List Addr):v=.ref a->as=a::bs->h.get? a=some { cls:=.type "list",dict:=none,data:=.seq vs n,slots:=#[] }->vs.size=xs.length->RDs h vs.toList xs bs->RDl h v xs as
theorem obj_list:∀{o:Obj} {vs:Array Value} {n:Nat},o.cls=.type "list"->o.dict=none->o.slots=#[]->o.data=.seq vs n->o={ cls:=.type "list",dict:=none,data:=.seq vs n,slots:=#[] }
 | ⟨_,_,_,_⟩,_,_,rfl,rfl,rfl,rfl=>rfl
theorem RD.list_ {xs:List PyData} (r:RD h v (.list xs) as):RDl h v xs as:=match r with
 | .list (vs:=vs) h1 h2 h3 h4 h5 h6=>⟨_,vs,_,_,rfl,rfl,obj_list h2 h3 h4 h5▸h1,by have:=h6.length; rwa [Array.length_toList] at this,h6⟩
inductive RDt (h:Heap) (v:Value) (xs:List PyData) (as:List Addr):Prop
 | mk (a:Addr) (o:Obj) (vs:Array Value) (n:Nat) (bs:List Addr):v=.ref a->as=a::bs->h.get? a=some o->o.cls=.type "tuple"->o.data=.seq vs n->vs.size=xs.length->RDs h vs.toList xs bs->RDt h v xs as
theorem RD.tuple_ {xs:List PyData} (r:RD h v (.tuple xs) as):RDt h v xs as:=match r with
 | .tuple (vs:=vs) h1 h2 h3 h4=>⟨_,_,vs,_,_,rfl,rfl,h1,h2,h3,by have:=h4.length; rwa [Array.length_toList] at this,h4⟩
end
section
variable {ρ ρ':Rho} {Z C e:List Addr} {h h':Heap}
theorem muts_append (ρ e:Rho):muts (ρ++e)=muts ρ++muts e:=List.map_append
theorem get_append {ρ e:Rho} {i:Nat} {p:Addr×Addr} (h:ρ[i]?=some p):(ρ++e)[i]?=some p:=by
 rw [List.getElem?_append_left (List.getElem?_eq_some_iff.mp h).1]; exact h
theorem notin_append {ρ e:Rho} {b:Addr} {o:Obj} (he:∀p∈e,h.get? p.2=none) (hb:h.get? b=some o) (n:b∉muts ρ):b∉muts (ρ++e):=by
 rw [muts_append,List.mem_append]
 rintro (q | q)
 ·exact n q
 ·obtain ⟨p,hp,rfl⟩:=List.mem_map.mp q
  rw [he p hp] at hb; cases hb
theorem moves_step {e:Rho} (he:∀p∈e,h.get? p.2=none) (hC:∀a∈C,a∈muts ρ) (k:∀a o,a∉C->h.get? a=some o->h'.get? a=some o):Moves ρ (ρ++e) Z Z h h':=λa o h1 h2 x=>⟨k a o (λm=>h1 (hC a m)) x,notin_append he x h1,h2⟩
theorem MR.step {e:Rho} (he:∀p∈e,h.get? p.2=none) (hC:∀a∈C,a∈muts ρ) (k:∀a o,a∉C->h.get? a=some o->h'.get? a=some o) {r b:Addr} (hb:b∉C) {mo:MO} (x:MR ρ Z h r b mo):MR (ρ++e) Z h' r b mo:=MR.map (λ_ _ e=>get_append e) (moves_step he hC k) (λo=>k b o hb) x
theorem MR.live {r b:Addr} {mo:MO} (x:MR ρ Z h r b mo):∃o,h.get? b=some o:=by
 cases mo with
 | lst l=>cases x with | mk _ o _ _ _ ho=>exact ⟨o,ho⟩
 | ins c ats=>cases x with | mk _ _ _ _ _ _ _ _ _ h5=>exact h5.elim λo q=>q.elim λ_ q=>q.elim λ_ q=>⟨o,q.1⟩
 | cit i f dn=>cases x with | mk _ _ _ _ _ _ _ _ _ ho=>exact ⟨_,ho⟩
 | tab _ _=>exact x.2.2.elim λ_ q=>⟨_,q.1⟩
variable {hp:List MO}
theorem HR.live (H:HR ρ Z hp h):∀b∈muts ρ,∃o,h.get? b=some o:=λb hb=>by
 obtain ⟨p,hp',rfl⟩:=List.mem_map.mp hb
 obtain ⟨i,hi⟩:=List.mem_iff_getElem?.mp hp'
 have hlt:i < hp.length:=H.len▸(List.getElem?_eq_some_iff.mp hi).1
 obtain ⟨r,b,hr,hm⟩:=H.at_ i hp[i] (List.getElem?_eq_getElem hlt)
 replace hr:=hi▸hr
 cases hr
 exact hm.live
theorem HR.fresh (H:HR ρ Z hp h) {a:Addr} (ha:h.get? a=none):a∉muts ρ∧a∉Z :=
 ⟨λq=>(by obtain ⟨o,e⟩:=H.live a q; rw [ha] at e; cases e),λq=>(by obtain ⟨o,e⟩:=H.liveZ a q; rw [ha] at e; cases e)⟩
theorem HR.keep (H:HR ρ Z hp h) (k:∀b o,h.get? b=some o->h'.get? b=some o):HR ρ Z hp h' :=
 ⟨H.len,H.nodup,H.offZ,λa ha=>let ⟨o,e⟩:=H.liveZ a ha; ⟨o,k a o e⟩,λi mo e=>by
  obtain ⟨r,b,hr,hm⟩:=H.at_ i mo e
  exact ⟨r,b,hr,MR.map (λ_ _ e=>e) (λa o h1 h2 e=>⟨k a o e,h1,h2⟩) (k b) hm⟩⟩
theorem HR.set (H:HR ρ Z hp h) {i:Nat} {r b:Addr} {mo:MO} (hi:ρ[i]?=some (r,b)) (k:∀a o,a≠b->h.get? a=some o->h'.get? a=some o) (hm:MR ρ Z h' r b mo):HR ρ Z (hp.set i mo) h':=by
 have hbm:b∈muts ρ:=List.mem_map_of_mem (f:=Prod.snd) (List.mem_of_getElem? hi)
 refine ⟨List.length_set.symm▸H.len,H.nodup,H.offZ,λa ha=>?_,λj mo' e=>?_⟩
 ·obtain ⟨o,e⟩:=H.liveZ a ha
  exact ⟨o,k a o (λq=>H.offZ b hbm (q▸ha)) e⟩
 ·replace e:=(List.getElem?_set)▸e
  split at e
  ·rename_i hij
   subst hij
   split at e
   ·cases e; exact ⟨r,b,hi,hm⟩
   ·exact nos e
  ·rename_i hij
   refine cps λ_ KK=>?_
   obtain ⟨r',b',hr',hm'⟩:=H.at_ j mo' e
   refine KK ?_
   refine ⟨r',b',hr',?_⟩
   have hne:b'≠b:=λq=>by
    have nd:=H.nodup
    have e1:(muts ρ)[i]?=some b:=by rw [List.getElem?_map,hi]; rfl
    have e2:(muts ρ)[j]?=some b:=by rw [List.getElem?_map,hr',← q]; rfl
    exact hij ((List.getElem?_inj (List.getElem?_eq_some_iff.mp e1).1 nd).mp (e1.trans e2.symm))
   exact MR.map (λ_ _ e=>e) (λa o h1 h2 e=>⟨k a o (λq=>h1 (q▸hbm)) e,h1,h2⟩) (λo=>k b' o hne) hm'
theorem HR.push (H:HR ρ Z hp h) {r b:Addr} {mo:MO} (hb:h.get? b=none) (k:∀a o,h.get? a=some o->h'.get? a=some o) (hm:MR (ρ++[(r,b)]) Z h' r b mo):HR (ρ++[(r,b)]) Z (hp++[mo]) h':=by
 have fr:=H.fresh hb
 have he:∀p∈([(r,b)]:Rho),h.get? p.2=none:=λp hp=>(List.mem_singleton.mp hp).symm▸hb
 refine ⟨by rw [List.length_append,List.length_append,H.len]; rfl,?_,λa ha=>?_,λa ha=>let ⟨o,e⟩:=H.liveZ a ha; ⟨o,k a o e⟩,λj mo' e=>?_⟩
 ·rw [muts_append,List.nodup_append]
  refine ⟨H.nodup,by simp,λa ha b' hb' q=>?_⟩
  have:b'=b:=by simpa using hb'
  exact fr.1 (this▸q▸ha)
 ·rw [muts_append,List.mem_append] at ha
  rcases ha with ha | ha
  ·exact H.offZ a ha
  ·have:a=b:=by simpa using ha
   exact this▸fr.2
 ·by_cases hj:j < hp.length
  ·replace e:=(List.getElem?_append_left hj)▸e
   refine cps λ_ KK=>?_
   obtain ⟨r',b',hr',hm'⟩:=H.at_ j mo' e
   refine KK ?_
   exact ⟨r',b',get_append hr',hm'.step (C:=[]) he (λ_ h=>nin h) (λa o _=>k a o) List.not_mem_nil⟩
  ·have hj':hp.length≤j:=Nat.le_of_not_lt hj
   replace e:=(List.getElem?_append_right hj')▸e
   have:j - hp.length=0:=by
    cases q:j - hp.length with
    | zero=>rfl
    | succ n=>rw [q] at e; simp at e
   replace e:=this▸e
   have hjeq:j=hp.length:=Nat.le_antisymm (Nat.le_of_sub_eq_zero this) hj'
   cases e
   refine ⟨r,b,?_,hm⟩
   rw [hjeq,← H.len,List.getElem?_append_right (Nat.le_refl _),Nat.sub_self]
   rfl
theorem HR.forget {e:Rho} {hp':List MO} (H:HR (ρ++e) Z (hp++hp') h) (hl:ρ.length=hp.length)
  (hm:∀(i:Nat) (mo:MO) (r b:Addr),hp[i]?=some mo->MR (ρ++e) Z h r b mo->MR ρ Z h r b mo):HR ρ Z hp h :=
 ⟨hl,(List.nodup_append.mp (muts_append ρ e▸H.nodup)).1,λb hb=>H.offZ b (by rw [muts_append]; exact List.mem_append_left _ hb),H.liveZ,λi mo hi=>by
  have hlt:i < hp.length:=(List.getElem?_eq_some_iff.mp hi).1
  obtain ⟨r,b,hr,q⟩:=H.at_ i mo ((List.getElem?_append_left hlt).symm▸hi)
  refine ⟨r,b,?_,hm i mo r b hi q⟩
  rwa [List.getElem?_append_left (hl.symm▸hlt)] at hr⟩
end
section
variable {K:Addr->Option Obj} {fx:Fx} {ρ ρ':Rho} {Z:List Addr} {σ:St} {s s':Shared} {hp':List MO}
noncomputable def FrameK (fx:Fx) (h h':Heap):Prop:=(∀o,h.get? fx.env.locals=some o->h'.get? fx.env.locals=some o)∧∀n c,fx.env.cells.lookup n=some c->∀o,h.get? c=some o->h'.get? c=some o
theorem SR.map {Z':List Addr} (R:SR K fx ρ Z σ s) (hρ:∀(i:Nat) q,ρ[i]?=some q->ρ'[i]?=some q) (k:Moves ρ ρ' Z Z' s.heap s'.heap) (kf:FrameK fx s.heap s'.heap) (hm:∀a o,s.heap.get? a=some o->a∉muts ρ->a∉muts ρ') (ho:∀a∈fx.own,a∈Z') (H:HR ρ' Z' hp' s'.heap):SR K fx ρ' Z' ⟨σ.loc,hp'⟩ s':=by
 refine cps λ_ KK=>?_
 obtain ⟨m,cm,hn,hc,hv⟩:=R.er.ex
 refine KK ?_
 refine ⟨H,⟨⟨m,cm,Ns.keep hn kf.1,λn c e=>IsCell.keep (hc n c e) (kf.2 n c e),λi y pv hi hl=>(hv i y pv hi hl).elim λv q=>⟨v,q.1,q.2.map hρ k⟩⟩,R.er.fn,R.er.sc,R.er.vinj,R.er.glob,R.er.bi,R.er.lown,ho,(Ns.live hn).elim λo e=>hm _ o e R.er.lmut,
  λn c e=>⟨(hc n c e).elim λo q=>hm c o q.1 (R.er.cell n c e).1,(R.er.cell n c e).2⟩,R.er.inj⟩,λa o e=>?_,λa ha=>?_⟩
 ·have q:=R.off a λh=>nos (h.symm.trans e)
  exact (k a o q.1 q.2 (R.top a o e)).1
 ·cases q:K a with
  | none=>exact absurd q ha
  | some o=>exact (k a o (R.off a ha).1 (R.off a ha).2 (R.top a o q)).2
theorem SR.next (R:SR K fx ρ Z σ s) (x:Ext [] ρ s ρ' s') (H:HR ρ' Z hp' s'.heap):SR K fx ρ' Z ⟨σ.loc,hp'⟩ s' :=
 R.map (λ_ _ e=>x.old e) (x.moves λ_ h=>nomatch h) ⟨λo e=>x.heap _ o R.er.lmut List.not_mem_nil e,λn c e o q=>x.heap c o (R.er.cell n c e).1 List.not_mem_nil q⟩ (λa o e h=>x.notin e h) R.er.ownZ H
end
section
variable (prog:Program) (w:World) (K:Addr->Option Obj)
abbrev EF:=St->Option (PV×List MO)
structure Ev (fx:Fx) (e:Expr) (F:EF):Prop where
 run:∀(A:Around) (ρ:Rho) (Z:List Addr) (σ:St) (s:Shared) (pv:PV) (hp':List MO),Room A fx.k->SR K fx ρ Z σ s->F σ=some (pv,hp') ->
  wpAny (model prog w) A (eval e fx.env) (Post ρ Z s pv hp') noE s
noncomputable def rd (hp:List MO):PV->Option PyData
 | .dat d=>some d
 | .obj i=>match hp[i]? with
  | some (.lst l)=>some (.list l)
  | _=>none
 | .strm _=>none
end
theorem lst_inv {o:Option MO} {d:PyData} {C:Prop} (e:(match o with | some (.lst l)=>some (PyData.list l) | _=>none)=some d) (k:∀l,o=some (.lst l)->.list l=d->C):C:=by
 cases o with
 | none=>exact nos e
 | some mo=>cases mo with
  | lst l=>exact k l rfl (sos e)
  | _=>exact nos e
theorem HR.lst {ρ:Rho} {Z:List Addr} {h:Heap} {hp:List MO} (H:HR ρ Z hp h) {i:Nat} {l:List PyData} (hl:hp[i]?=some (.lst l)) {r b:Addr} (hr:ρ[i]?=some (r,b)):MRl ρ Z h r b l:=by
 refine cps λ_ KK=>?_
 obtain ⟨r',b',hr',hm⟩:=H.at_ i _ hl
 obtain ⟨rfl,rfl⟩:=sop (hr.symm.trans hr')
 refine KK ?_
 exact hm
theorem rd_RD {ρ:Rho} {Z:List Addr} {h:Heap} {hp:List MO} {d:PyData} {v:Value} (H:HR ρ Z hp h) {pv:PV} (x:VR ρ Z h pv v) (e:rd hp pv=some d):∃as,RD h v d as∧∀a∈as.tail,a∉muts ρ∧a∉Z:=by
 cases pv with
 | dat d' =>
  obtain ⟨as,r,q⟩:=x
  exact ⟨as,sos e▸r,λa ha=>q a (List.mem_of_mem_tail ha)⟩
 | obj i =>
  obtain ⟨r,b,e1,hv⟩:=x
  refine lst_inv e λl hl hd=>?_
  obtain ⟨hrb,o,vs,n,as,ho,h1,h2,h3,h4,rs,q⟩:=H.lst hl e1
  exact ⟨b::as,hd▸hv.symm▸hrb.symm▸.list ho h1 h2 h3 h4 rs,q⟩
 | strm _=>exact nos e
noncomputable def lim:Nat:=1048576
noncomputable def addD:PyData->PyData->Option PyData
 | .int a,.int b=>some (.int (a+b))
 | .str x,.str y=>if x.cps.size+y.cps.size≤lim then some (.str ⟨⟨x.cps.toList++y.cps.toList⟩⟩) else none
 | .list xs,.list ys=>if xs.length+ys.length≤lim then some (.list (xs++ys)) else none
 | _,_=>none
noncomputable def subD:PyData->PyData->Option PyData
 | .int a,.int b=>some (.int (a - b))
 | _,_=>none
noncomputable def mulD:PyData->PyData->Option PyData
 | .int a,.int b=>if b.natAbs < 2 ^ 60 then some (.int (a*b)) else none
 | .str x,.int n=>if x.cps.size*n.toNat≤lim∧n.natAbs≤lim then some (.str ⟨⟨(List.replicate n.toNat x.cps.toList).flatten⟩⟩) else none
 | .list xs,.int n=>if xs.length*n.toNat≤lim∧n.natAbs≤lim then some (.list (List.replicate n.toNat xs).flatten) else none
 | _,_=>none
noncomputable def fdivD:PyData->PyData->Option PyData
 | .int a,.int b=>if b≠0∧b.natAbs < 2 ^ 60 then some (.int (a.fdiv b)) else none
 | _,_=>none
noncomputable def modD:PyData->PyData->Option PyData
 | .int a,.int b=>if b≠0 then some (.int (a.fmod b)) else none
 | _,_=>none
noncomputable def powD:PyData->PyData->Option PyData
 | .int a,.int b=>if 0≤b∧b≤1000∧a.natAbs < 2 ^ 60 then some (.int (a ^ b.toNat)) else none
 | _,_=>none
noncomputable def binD:Operator->PyData->PyData->Option PyData
 | .Add=>addD
 | .Sub=>subD
 | .Mult=>mulD
 | .FloorDiv=>fdivD
 | .Mod=>modD
 | .Pow=>powD
 | _=>λ_ _=>none
noncomputable def okD:Nat->PyData->Bool
 | 0,.list _=>false
 | 0,.tuple _=>false
 | n+1,.list l=>l.all (okD n)
 | n+1,.tuple l=>l.all (okD n)
 | _,.dict _=>false
 | _,_=>true
theorem RD.canLay2 (h:Heap):(∀{v d as},RD h v d as->d.canLay0=true)∧∀{v d as},RDs h v d as->PyData.canLayAll0 d=true :=
 RD.ind (P:=λ_ d _=>d.canLay0=true) (Q:=λ_ d _=>PyData.canLayAll0 d=true) rfl (λ_=>rfl) (λ_ _=>rfl) (λx t q=>(by rw [PyData.canLay0]; exact q)) (λ_ _ _ _ _ ih=>(by rw [PyData.canLay0]; exact ih)) (λ_ _ _ ih=>(by rw [PyData.canLay0]; exact ih)) rfl
  λx r=>(by rw [PyData.canLayAll0,x,r]; rfl)
theorem RD.canLay {h:Heap} {v d as} (r:RD h v d as):d.canLay0=true:=(RD.canLay2 h).1 r
theorem RDs.canLay {h:Heap} {v d as} (r:RDs h v d as):PyData.canLayAll0 d=true:=(RD.canLay2 h).2 r
noncomputable def NewD (s:Shared) (d:PyData) (P:Addr->Prop) (v:Value) (s':Shared):Prop :=
 ∃h t as,s'={ s with heap:=h,toks:=t }∧(∀b o,s.heap.get? b=some o->h.get? b=some o)∧RD h v d as∧(∀a∈as,s.heap.get? a=none∨P a)∧∀a,as.head?=some a->s.heap.get? a=none∧a∉as.tail
section
variable {prog:Program} {w:World} {A:Around} {E:Value->Shared->Prop} {s:Shared} {P:Addr->Prop}
theorem NewD.val {v:Value} {d:PyData} {t:Nat} (r:RD s.heap v d []):NewD s d P v { s with toks:=t }:=⟨s.heap,t,[],rfl,λ_ _ e=>e,r,(λ_ h=>nin h),(λ_ h=>nos h)⟩
theorem NewD.weak {P':Addr->Prop} {v:Value} {d:PyData} {s':Shared} (n:NewD s d P v s') (k:∀a,P a->P' a):NewD s d P' v s' :=
 n.elim λh n=>n.elim λt n=>n.elim λas n=>⟨h,t,as,n.1,n.2.1,n.2.2.1,λa ha=>(n.2.2.2.1 a ha).imp id (k a),n.2.2.2.2⟩
theorem NewD.list {vs:List Value} {ds:List PyData} {as:List Addr} {t:Nat} (r:RDs s.heap vs ds as) (q:∀a∈as,s.heap.get? a=none∨P a) :
  NewD s (.list ds) P (.ref s.heap.objs.size) { s with heap:=s.heap.push { cls:=.type "list",data:=.seq vs.toArray },toks:=t } :=
 ⟨_,t,s.heap.objs.size::as,rfl,λb o e=>Heap.get?_push_of_some _ e,.list (Heap.get?_push_size _ rfl) rfl rfl rfl rfl (r.keep λa _ o e=>Heap.get?_push_of_some _ e),λa ha=>by
  rcases List.mem_cons.mp ha with rfl | ha
  ·exact .inl (Heap.get?_none_of_le (Nat.le_refl _))
  ·exact q a ha,λa h=>by
   cases h
   have e:s.heap.get? s.heap.objs.size=none:=Heap.get?_none_of_le (Nat.le_refl _)
   exact ⟨e,λm=>by obtain ⟨o,q⟩:=r.live _ m; rw [e] at q; cases q⟩⟩
theorem NewD.tuple {vs:List Value} {ds:List PyData} {as:List Addr} {t:Nat} (r:RDs s.heap vs ds as) (q:∀a∈as,s.heap.get? a=none∨P a) :
  NewD s (.tuple ds) P (.ref s.heap.objs.size) { s with heap:=s.heap.push { cls:=.type "tuple",data:=.seq vs.toArray },toks:=t } :=
 ⟨_,t,s.heap.objs.size::as,rfl,λb o e=>Heap.get?_push_of_some _ e,.tuple (Heap.get?_push_size _ rfl) rfl rfl (r.keep λa _ o e=>Heap.get?_push_of_some _ e),λa ha=>by
  rcases List.mem_cons.mp ha with rfl | ha
  ·exact .inl (Heap.get?_none_of_le (Nat.le_refl _))
  ·exact q a ha,λa h=>by
   cases h
   have e:s.heap.get? s.heap.objs.size=none:=Heap.get?_none_of_le (Nat.le_refl _)
   exact ⟨e,λm=>by obtain ⟨o,q⟩:=r.live _ m; rw [e] at q; cases q⟩⟩
theorem RDs.flatten {h:Heap} {vs:List Value} {ds:List PyData} {as:List Addr} (r:RDs h vs ds as):∀n,∃bs,RDs h (List.replicate n vs).flatten (List.replicate n ds).flatten bs∧∀a∈bs,a∈as
 | 0=>⟨[],.nil,λ_ h=>nin h⟩
 | n+1=>by
  obtain ⟨bs,hb,hs⟩:=r.flatten n
  refine ⟨as++bs,?_,λa ha=>?_⟩
  ·rw [List.replicate_succ,List.replicate_succ,List.flatten_cons,List.flatten_cons]
   exact r.append hb
  ·rcases List.mem_append.mp ha with q | q
   ·exact q
   ·exact hs a q
theorem foldl_append (vs:Array Value):∀(n:Nat) (a:Array Value),(List.foldl (λx1 x2=>x1++x2) a (List.replicate n vs))=(a.toList++(List.replicate n vs.toList).flatten).toArray
 | 0,a=>by simp
 | n+1,a=>by rw [List.replicate_succ,List.foldl_cons,foldl_append vs n,List.replicate_succ,List.flatten_cons]; simp
theorem no_pylong {x y:Int} (h:y.natAbs < 2 ^ 60):Builtin.divisionGoesByPylong x y=false:=by
 unfold Builtin.divisionGoesByPylong
 have h2:y.natAbs.log2 < 60:=by
  by_cases h0:y.natAbs=0
  ·rw [h0]; decide
  ·exact (Nat.log2_lt h0).mpr h
 simp only [Bool.and_eq_false_iff,decide_eq_false_iff_not]
 left
 split
 ·decide
 ·lia
theorem strOk_append {x y:Str} (hx:PyData.strOk x=true) (hy:PyData.strOk y=true):PyData.strOk ⟨⟨x.cps.toList++y.cps.toList⟩⟩=true:=by
 unfold PyData.strOk at *
 simp only [Array.all_eq_true_iff_forall_mem] at *
 intro c hc
 simp only [List.mem_toArray,List.mem_append,Array.mem_toList_iff] at hc
 rcases hc with h | h
 ·exact hx c h
 ·exact hy c h
theorem strOk_sub {x:Str} {l:List Nat} (hx:PyData.strOk x=true) (h:∀c∈l,c∈x.cps.toList):PyData.strOk ⟨⟨l⟩⟩=true:=by
 unfold PyData.strOk at *
 simp only [Array.all_eq_true_iff_forall_mem] at *
 intro c hc
 exact hx c (by simpa using h c (by simpa using hc))
theorem strOk_rep {x:Str} (hx:PyData.strOk x=true) (n:Nat):PyData.strOk ⟨⟨(List.replicate n x.cps.toList).flatten⟩⟩=true :=
 strOk_sub hx λc hc=>by
  obtain ⟨l,hl,hc⟩:=List.mem_flatten.mp hc
  replace hc:=((List.mem_replicate.mp hl).2)▸hc
  exact hc
theorem foldl_append' (vs:Array Nat):∀(n:Nat) (a:Array Nat),(List.foldl (λx1 x2=>x1++x2) a (List.replicate n vs))=(a.toList++(List.replicate n vs.toList).flatten).toArray
 | 0,a=>by simp
 | n+1,a=>by rw [List.replicate_succ,List.foldl_cons,foldl_append' vs n,List.replicate_succ,List.flatten_cons]; simp
theorem txt_mul (x:Str) (n:Int):Txt.mul x n=⟨⟨(List.replicate n.toNat x.cps.toList).flatten⟩⟩:=by
 unfold Txt.mul
 split
 ·have:n.toNat=0:=by lia
  rw [this]; rfl
 ·split
  ·rename_i h1 h2
   rw [Bool.or_eq_true] at h2
   rcases h2 with h2 | h2
   ·have:n=1:=by simpa using h2
    subst this
    obtain ⟨⟨l⟩⟩:=x
    simp
   ·have:x.cps=#[]:=Array.eq_empty_of_size_eq_zero (by simpa [Str.length] using h2)
    obtain ⟨l⟩:=x
    simp only at this
    subst this
    simp
  ·rw [foldl_append']
   simp
theorem RD.int2 {h:Heap} {C:Value->Value->Prop} {x y:Int} {va vb:Value} {as bs:List Addr} (ra:RD h va (.int x) as) (rb:RD h vb (.int y) bs) (k:∀t u,C (.int x t) (.int y u)):C va vb:=by
 obtain ⟨t,rfl,_⟩:=ra.int_
 obtain ⟨u,rfl,_⟩:=rb.int_
 exact k t u
inductive IntI (f:Int->Int->PyData) (c:Int->Int->Prop) (a b d:PyData):Prop
 | mk (x y:Int):a=.int x->b=.int y->c x y->d=f x y->IntI f c a b d
inductive StrI (f:Str->Str->PyData) (c:Str->Str->Prop) (a b d:PyData):Prop
 | mk (x y:Str):a=.str x->b=.str y->c x y->d=f x y->StrI f c a b d
inductive LstI (f:List PyData->List PyData->PyData) (c:List PyData->List PyData->Prop) (a b d:PyData):Prop
 | mk (x y:List PyData):a=.list x->b=.list y->c x y->d=f x y->LstI f c a b d
section
variable {a b d:PyData}
theorem addD_inv (e:addD a b=some d):IntI (λx y=>.int (x+y)) (λ_ _=>True) a b d∨StrI (λx y=>.str ⟨⟨x.cps.toList++y.cps.toList⟩⟩) (λx y=>x.cps.size+y.cps.size≤lim) a b d∨LstI (λx y=>.list (x++y)) (λx y=>x.length+y.length≤lim) a b d:=by
 cases a with
 | int x=>cases b with
  | int y=>exact .inl ⟨x,y,rfl,rfl,trivial,(sos e).symm⟩
  | _=>exact nos e
 | str x=>cases b with
  | str y=>exact ite_inv e λh q=>.inr (.inl ⟨x,y,rfl,rfl,h,q.symm⟩)
  | _=>exact nos e
 | list x=>cases b with
  | list y=>exact ite_inv e λh q=>.inr (.inr ⟨x,y,rfl,rfl,h,q.symm⟩)
  | _=>exact nos e
 | _=>exact nos e
theorem subD_inv (e:subD a b=some d):IntI (λx y=>.int (x - y)) (λ_ _=>True) a b d:=by
 cases a with
 | int x=>cases b with
  | int y=>exact ⟨x,y,rfl,rfl,trivial,(sos e).symm⟩
  | _=>exact nos e
 | _=>exact nos e
inductive MulI (a b d:PyData):Prop
 | ii (x y:Int):a=.int x->b=.int y->y.natAbs < 2 ^ 60->d=.int (x*y)->MulI a b d
 | si (x:Str) (y:Int):a=.str x->b=.int y->x.cps.size*y.toNat≤lim->y.natAbs≤lim->d=.str ⟨⟨(List.replicate y.toNat x.cps.toList).flatten⟩⟩->MulI a b d
 | li (x:List PyData) (y:Int):a=.list x->b=.int y->x.length*y.toNat≤lim->y.natAbs≤lim->d=.list (List.replicate y.toNat x).flatten->MulI a b d
theorem mulD_inv (e:mulD a b=some d):MulI a b d:=by
 cases b with
 | int y=>cases a with
  | int x=>exact ite_inv e λh q=>.ii x y rfl rfl h q.symm
  | str x=>exact ite_inv e λh q=>.si x y rfl rfl h.1 h.2 q.symm
  | list x=>exact ite_inv e λh q=>.li x y rfl rfl h.1 h.2 q.symm
  | _=>exact nos e
 | _=>cases a<;>exact nos e
theorem fdivD_inv (e:fdivD a b=some d):IntI (λx y=>.int (x.fdiv y)) (λ_ y=>y≠0∧y.natAbs < 2 ^ 60) a b d:=by
 cases a with
 | int x=>cases b with
  | int y=>exact ite_inv e λh q=>⟨x,y,rfl,rfl,h,q.symm⟩
  | _=>exact nos e
 | _=>exact nos e
theorem modD_inv (e:modD a b=some d):IntI (λx y=>.int (x.fmod y)) (λ_ y=>y≠0) a b d:=by
 cases a with
 | int x=>cases b with
  | int y=>exact ite_inv e λh q=>⟨x,y,rfl,rfl,h,q.symm⟩
  | _=>exact nos e
 | _=>exact nos e
theorem powD_inv (e:powD a b=some d):IntI (λx y=>.int (x ^ y.toNat)) (λx y=>0≤y∧y≤1000∧x.natAbs < 2 ^ 60) a b d:=by
 cases a with
 | int x=>cases b with
  | int y=>exact ite_inv e λh q=>⟨x,y,rfl,rfl,h,q.symm⟩
  | _=>exact nos e
 | _=>exact nos e
end
theorem bin_ints {op:Operator} {a b d D:PyData} {x y:Int} {va vb:Value} {as bs:List Addr} (ra:RD s.heap va a as) (rb:RD s.heap vb b bs) (ha:a=.int x) (hb:b=.int y) (hd:d=D)
  (k:∀t u,wpAny (model prog w) A (binaryOp op (.int x t) (.int y u)) (NewD s D P) noE s):wpAny (model prog w) A (binaryOp op va vb) (NewD s d P) noE s:=by
 subst ha hb hd
 exact RD.int2 (C:=λva vb=>wpAny (model prog w) A (binaryOp op va vb) (NewD s d P) noE s) ra rb k
theorem add_strs {x y:Str} {va vb:Value} {as bs:List Addr} (ra:RD s.heap va (.str x) as) (rb:RD s.heap vb (.str y) bs) (hl:x.cps.size+y.cps.size≤lim):wpAny (model prog w) A (binaryOp .Add va vb) (NewD s (.str ⟨⟨x.cps.toList++y.cps.toList⟩⟩) P) noE s:=by
 obtain ⟨t,rfl,_,hx⟩:=ra.str_
 obtain ⟨u,rfl,_,hy⟩:=rb.str_
 refine PyProof.Rows.add_str (λt' tk=>?_) (Nat.le_trans hl (by decide))
 have:x++y=⟨⟨x.cps.toList++y.cps.toList⟩⟩:=by
  show Str.append x y=_
  unfold Str.append
  congr 1
  rw [← Array.toList_inj,Array.toList_append]
 refine this.symm▸?_
 exact NewD.val (.str _ _ (strOk_append hx hy))
theorem add_lists {x y:List PyData} {va vb:Value} {as bs:List Addr} (ra:RD s.heap va (.list x) as) (rb:RD s.heap vb (.list y) bs) (hl:x.length+y.length≤lim):wpAny (model prog w) A (binaryOp .Add va vb) (NewD s (.list (x++y)) (λx=>x∈as.tail∨x∈bs.tail)) noE s:=by
 obtain ⟨la,va,na,as',rfl,rfl,h1,l1,h6⟩:=ra.list_
 obtain ⟨lb,vb,nb,bs',rfl,rfl,k1,l2,k6⟩:=rb.list_
 have hsz:va.size+vb.size≤sizeLine:=l1.symm▸l2.symm▸Nat.le_trans hl (by decide)
 refine binaryOp_concat (T:="list") ⟨_,h1,rfl⟩ ⟨_,k1,rfl⟩ (by first | exact noFill_list_add | decide) (by first | exact seq_list_add | decide) (call_meets F.slot_list_add ⟨_,h1,rfl⟩ F.entry_list_add (F.args_list_add_2 _ _)
  (list_addW la lb va vb na nb none none #[] #[] hsz) ⟨h1,k1,?_⟩)
 have r:=NewD.list (P:=λx=>x∈(la::as').tail∨x∈(lb::bs').tail) (t:=s.toks) (h6.append k6) λa ha=>.inr (List.mem_append.mp ha)
 have e2:(va.toList++vb.toList).toArray=va++vb:=by rw [← Array.toList_inj]; simp
 replace r:=e2▸r
 exact r
theorem mul_strs {x:Str} {y:Int} {va vb:Value} {as bs:List Addr} (ra:RD s.heap va (.str x) as) (rb:RD s.heap vb (.int y) bs) (hl:x.cps.size*y.toNat≤lim∧y.natAbs≤lim):wpAny (model prog w) A (binaryOp .Mult va vb) (NewD s (.str ⟨⟨(List.replicate y.toNat x.cps.toList).flatten⟩⟩) P) noE s:=by
 obtain ⟨t,rfl,_,hx⟩:=ra.str_
 obtain ⟨u,rfl,_⟩:=rb.int_
 have hm:MulOk x y:=by
  refine ⟨by unfold lim at hl; simp only [Bool.or_eq_false_iff,decide_eq_false_iff_not]; exact ⟨Int.not_lt.mpr (Int.le_trans (by decide) (ab_lo hl.2)),Int.not_le.mpr (Int.lt_of_le_of_lt (ab_hi hl.2) (by decide))⟩,λh1 h2=>?_,λh1 h2=>?_⟩
  ·have hl2:=hl.2
   have hl1:=hl.1
   unfold lim at hl1 hl2
   have hy0:0 < y:=by omega
   have hlen:(x.length:Int)*y≤1048576:=by
    have:((x.cps.size*y.toNat:Nat):Int)≤((1048576:Nat):Int):=Int.ofNat_le.mpr hl1
    rw [Int.natCast_mul,Int.toNat_of_nonneg (by (exact Int.le_of_lt (by assumption)))] at this
    exact this
   have hq:(1048576:Int)≤(2 ^ 63 - 1) / y:=(Int.le_ediv_iff_mul_le hy0).mpr (Int.le_trans (Int.mul_le_mul_of_nonneg_left (ab_hi hl2) (by decide)) (by decide))
   have hx1:(x.length:Int)≤1048576:=by
    have h3:(x.length:Int)*1≤(x.length:Int)*y:=Int.mul_le_mul_of_nonneg_left (by assumption) (by (exact Int.natCast_nonneg _))
    omega
   omega
  ·have hl1:=hl.1
   unfold lim at hl1
   skip
   exact decide_eq_false (by show ¬ x.cps.size*y.toNat > 2 ^ 24; exact Nat.not_lt.mpr (Nat.le_trans hl1 (by decide)))
 refine SB.mul hm λt' k=>?_
 rw [txt_mul]
 exact NewD.val (.str _ _ (strOk_rep hx _))
theorem mul_lists {xs:List PyData} {y:Int} {va' vb:Value} {as bs:List Addr} (ra:RD s.heap va' (.list xs) as) (rb:RD s.heap vb (.int y) bs) (hl:xs.length*y.toNat≤lim∧y.natAbs≤lim):wpAny (model prog w) A (binaryOp .Mult va' vb) (NewD s (.list (List.replicate y.toNat xs).flatten) (λx=>x∈as.tail∨x∈bs.tail)) noE s:=by
 obtain ⟨la,va,na,as',rfl,rfl,h1,hlen,h6⟩:=ra.list_
 obtain ⟨u,rfl,rfl⟩:=rb.int_
 have hl1:=hl.1
 have hl2:=hl.2
 unfold lim at hl1 hl2
 refine wpAny_binaryOp_repeat_ref (T:="list") (U:="int") (by decide) ⟨_,h1,rfl⟩ (λs'=>typeIs_int s' y u) noFill_list_mul F.fills_int_mul F.slot_int_rmul repeat_list F.slot_int_index.lookup
  (call_meets F.slot_int_rmul (typeIs_int s y u) F.entry_int_rmul (F.args_int_rmul_2 _ _) (int___rmul___int_list y u la va na)
   ⟨h1,rfl,⟨_,h1,rfl⟩,call_meets F.slot_list_mul ⟨_,h1,rfl⟩ F.entry_list_mul (F.args_list_mul_2 _ _)
    (AutoListH.list___mul___list_int_3 la va na y u (by simp [Builtin.List.listFitsIndex]; exact ⟨Int.le_trans (by decide) (ab_lo hl2),Int.lt_of_le_of_lt (ab_hi hl2) (by decide)⟩) (by rw [hlen]; exact Nat.not_lt.mpr (Nat.le_trans hl1 (by decide))) (by rw [hlen]; show ¬ (decide (_ > 2 ^ 24)=true); exact λq=>absurd (of_decide_eq_true q) (Nat.not_lt.mpr (Nat.le_trans hl1 (by decide)))))
    ⟨h1,?_⟩⟩)
 rw [foldl_append]
 have e3:(List.replicate (if va.isEmpty=true then 0 else y.toNat) va.toList).flatten=(List.replicate y.toNat va.toList).flatten:=by
  cases hv:va.isEmpty with
  | false=>simp
  | true =>
   have:va=#[]:=by simpa using hv
   subst this
   simp
 refine e3.symm▸?_
 obtain ⟨bs,hb,hbs⟩:=h6.flatten y.toNat
 have r:=NewD.list (P:=λx=>x∈(la::as').tail∨x∈([]:List Addr).tail) (t:=s.toks) hb λa ha=>.inr (.inl (hbs a ha))
 simpa using r
theorem bin_ok (op:Operator) {a b d:PyData} {va vb:Value} {as bs:List Addr} (ra:RD s.heap va a as) (rb:RD s.heap vb b bs) (e:binD op a b=some d) :
  wpAny (model prog w) A (binaryOp op va vb) (NewD s d (λx=>x∈as.tail∨x∈bs.tail)) noE s:=by
 cases op with
 | Add =>
  rcases addD_inv e with ⟨x,y,h1,h2,_,h3⟩ | ⟨x,y,h1,h2,h4,h3⟩ | ⟨x,y,h1,h2,h4,h3⟩
  ·exact bin_ints ra rb h1 h2 h3 λt u=>PyProof.Rows.add_int (NewD.val (.int _ _))
  ·rw [h3]; exact add_strs (h1▸ra) (h2▸rb) h4
  ·rw [h3]; exact add_lists (h1▸ra) (h2▸rb) h4
 | Sub =>
  obtain ⟨x,y,h1,h2,_,h3⟩:=subD_inv e
  exact bin_ints ra rb h1 h2 h3 λt u=>PyProof.Rows.sub_int' (NewD.val (.int _ _))
 | Mult =>
  cases mulD_inv e with
  | ii x y h1 h2 hl h3 =>
   exact bin_ints ra rb h1 h2 h3 λt u=>PyProof.Rows.mul_int (NewD.val (.int _ _)) (by
    have:=intBits_le_64 (k:=y) (by omega) (by omega)
    simp only [IntMulOk,Bool.and_eq_true,not_and,decide_eq_true_eq]
    intro q
    have h64:shortFactorBits=64:=rfl
    lia)
  | si x y h1 h2 l1 l2 h3=>rw [h3]; exact mul_strs (h1▸ra) (h2▸rb) ⟨l1,l2⟩
  | li x y h1 h2 l1 l2 h3=>rw [h3]; exact mul_lists (h1▸ra) (h2▸rb) ⟨l1,l2⟩
 | FloorDiv =>
  obtain ⟨x,y,h1,h2,hl,h3⟩:=fdivD_inv e
  exact bin_ints ra rb h1 h2 h3 λt u=>PyProof.Rows.floordiv_int hl.1 (NewD.val (.int _ _)) (.inl (no_pylong hl.2))
 | Mod =>
  obtain ⟨x,y,h1,h2,hl,h3⟩:=modD_inv e
  exact bin_ints ra rb h1 h2 h3 λt u=>PyProof.Rows.mod_int' hl (NewD.val (.int _ _))
 | Pow =>
  obtain ⟨x,y,h1,h2,hl,h3⟩:=powD_inv e
  exact bin_ints ra rb h1 h2 h3 λt u=>pow_int_small hl.1 (by omega) (by omega) (NewD.val (.int _ _))
 | _=>exact nos e
end
mutual
noncomputable def eqP:PyData->PyData->Bool
 | .none,.none=>true
 | .bool a,.bool b=>a==b
 | .bool a,.int j=>(if a then 1 else 0)==j
 | .int i,.bool b=>i==(if b then 1 else 0)
 | .int i,.int j=>i==j
 | .str x,.str y=>x.cps.toList==y.cps.toList
 | .list xs,.list ys=>eqPs xs ys
 | .tuple xs,.tuple ys=>eqPs xs ys
 | _,_=>false
noncomputable def eqPs:List PyData->List PyData->Bool
 | [],[]=>true
 | x::xs,y::ys=>eqP x y&&eqPs xs ys
 | _,_=>false
end
mutual
theorem eqP_eqv:∀x y:PyData,eqP x y=PyData.eqv x y
 | .none,y=>by cases y<;>rfl
 | .bool a,y=>by cases y<;>rfl
 | .int i,y=>by cases y<;>rfl
 | .str a,y=>by
  cases y with
  | str b=>exact toList_beq _ _
  | _=>rfl
 | .list xs,y=>by
  cases y with
  | list ys=>exact eqPs_eqv xs ys
  | _=>rfl
 | .tuple xs,y=>by
  cases y with
  | tuple ys=>exact eqPs_eqv xs ys
  | _=>rfl
 | .dict _,y=>by cases y<;>rfl
theorem eqPs_eqv:∀xs ys:List PyData,eqPs xs ys=PyData.eqvAll xs ys
 | [],ys=>by cases ys<;>rfl
 | x::xs,ys=>by
  cases ys with
  | nil=>rfl
  | cons y ys =>
   show (eqP x y&&eqPs xs ys)=(PyData.eqv x y&&PyData.eqvAll xs ys)
   exact (eqP_eqv x y).symm▸(eqPs_eqv xs ys).symm▸rfl
end
theorem depth_all {n:Nat} {f:PyData->Bool}:∀l:List PyData,(∀x∈l,f x=true->x.depth≤n)->l.all f=true->PyData.depthAll l≤n
 | [],_,_=>Nat.zero_le _
 | x::r,k,h=>by
  rw [List.all_cons,Bool.and_eq_true] at h
  exact Nat.max_le.mpr ⟨k x (List.mem_cons_self ..) h.1,depth_all r (λy hy=>k y (List.mem_cons_of_mem _ hy)) h.2⟩
theorem okD_depth:∀(n:Nat) (d:PyData),okD n d=true->d.depth≤n
 | n,.none,_=>Nat.zero_le _
 | n,.bool _,_=>Nat.zero_le _
 | n,.int _,_=>Nat.zero_le _
 | n,.str _,_=>Nat.zero_le _
 | 0,.list l,h=>absurd h Bool.false_ne_true
 | 0,.tuple l,h=>absurd h Bool.false_ne_true
 | n+1,.list l,h=>by
  rw [PyData.depth]
  have:=depth_all l (λx _=>okD_depth n x) h
  (exact Nat.lt_succ_of_le (by assumption))
 | n+1,.tuple l,h=>by
  rw [PyData.depth]
  have:=depth_all l (λx _=>okD_depth n x) h
  (exact Nat.lt_succ_of_le (by assumption))
 | 0,.dict _,h=>absurd h Bool.false_ne_true
 | n+1,.dict _,h=>absurd h Bool.false_ne_true
noncomputable def inD (a:PyData):PyData->Option Bool
 | .list l=>if okD 3 a then some (l.any λy=>eqP y a) else none
 | .str x=>match a with
  | .str y=>match y.cps.toList with
   | [c]=>some (x.cps.toList.contains c)
   | _=>none
  | _=>none
 | _=>none
noncomputable def intsD (f:Int->Int->Bool):PyData->PyData->Option Bool
 | .int x,.int y=>some (f x y)
 | _,_=>none
noncomputable def isD:PyData->PyData->Option Bool
 | .bool x,.bool y=>some (x==y)
 | .none,.none=>some true
 | .int _,.none=>some false
 | _,_=>none
noncomputable def cmpD (op:CmpOp) (a b:PyData):Option Bool :=
 match op with
 | .Eq=>if okD 3 a||okD 3 b then some (eqP a b) else none
 | .NotEq=>if okD 3 a||okD 3 b then some (!eqP a b) else none
 | .Lt=>intsD (λx y=>decide (x < y)) a b
 | .LtE=>intsD (λx y=>decide (x≤y)) a b
 | .Gt=>intsD (λx y=>decide (y < x)) a b
 | .GtE=>intsD (λx y=>decide (y≤x)) a b
 | .Is=>isD a b
 | .IsNot=>(isD a b).map (!·)
 | .In=>inD a b
 | .NotIn=>(inD a b).map (!·)
section
variable {prog:Program} {w:World} {A:Around} {E:Value->Shared->Prop} {s:Shared}
theorem str_of_list {y:Str} {l:List Nat} (h:y.cps.toList=l):y=⟨⟨l⟩⟩:=by obtain ⟨⟨l'⟩⟩:=y; simp at h; rw [h]
theorem contains_decide (l:List Nat) (c:Nat):decide (c∈l)=l.contains c:=by rw [Bool.eq_iff_iff]; simp
noncomputable def CmpP (s:Shared) (r:Bool) (v:Value) (s':Shared):Prop:=v=.bool r∧∃t,s'={ s with toks:=t }
theorem CmpP.mk (r:Bool):CmpP s r (.bool r) s:=⟨rfl,s.toks,rfl⟩
theorem intsD_inv {f:Int->Int->Bool} {a b:PyData} {r:Bool} (e:intsD f a b=some r):∃x y,a=.int x∧b=.int y∧f x y=r:=by
 cases a with
 | int x=>cases b with
  | int y=>exact ⟨x,y,rfl,rfl,sos e⟩
  | _=>exact nos e
 | _=>exact nos e
theorem cmp_ints {op:CmpOp} {f:Int->Int->Bool} {a b:PyData} {r:Bool} {va vb:Value} {as bs:List Addr} (ra:RD s.heap va a as) (rb:RD s.heap vb b bs) (e:intsD f a b=some r)
  (k:∀x y t u,wpAny (model prog w) A (compareOp op (.int x t) (.int y u)) (CmpP s (f x y)) noE s):wpAny (model prog w) A (compareOp op va vb) (CmpP s r) noE s:=by
 obtain ⟨x,y,rfl,rfl,rfl⟩:=intsD_inv e
 exact RD.int2 (C:=λva vb=>wpAny (model prog w) A (compareOp op va vb) (CmpP s (f x y)) noE s) ra rb (k x y)
inductive IsI (a b:PyData) (r:Bool):Prop
 | bb (x y:Bool):a=.bool x->b=.bool y->(x==y)=r->IsI a b r
 | nn:a=.none->b=.none->true=r->IsI a b r
 | nx (x:Int):a=.int x->b=.none->false=r->IsI a b r
theorem isD_inv {a b:PyData} {r:Bool} (e:isD a b=some r):IsI a b r:=by
 cases a with
 | bool x=>cases b with
  | bool y=>exact .bb x y rfl rfl (sos e)
  | _=>exact nos e
 | none=>cases b with
  | none=>exact .nn rfl rfl (sos e)
  | _=>exact nos e
 | int x=>cases b with
  | none=>exact .nx x rfl rfl (sos e)
  | _=>exact nos e
 | _=>exact nos e
theorem cmp_is {C:Value->Value->Bool->Prop} {a b:PyData} {r:Bool} {va vb:Value} {as bs:List Addr} (ra:RD s.heap va a as) (rb:RD s.heap vb b bs) (e:isD a b=some r)
  (k1:∀x y,C (.bool x) (.bool y) (x==y)) (k2:C .none .none true) (k3:∀x t,C (.int x t) .none false):C va vb r:=by
 cases isD_inv e with
 | bb x y h1 h2 h3 =>
  subst h1 h2 h3
  refine ra.bool_.1.symm▸rb.bool_.1.symm▸?_
  exact k1 x y
 | nn h1 h2 h3 =>
  subst h1 h2 h3
  refine ra.none_.1.symm▸rb.none_.1.symm▸?_
  exact k2
 | nx x h1 h2 h3 =>
  subst h1 h2 h3
  obtain ⟨t,q,_⟩:=ra.int_
  refine q.symm▸rb.none_.1.symm▸?_
  exact k3 x t
inductive InI (a b:PyData) (r:Bool):Prop
 | li (l:List PyData):b=.list l->okD 3 a=true->l.any (λy=>PyData.eqv y a)=r->InI a b r
 | si (x:Str) (c:Nat):b=.str x->a=.str ⟨⟨[c]⟩⟩->x.cps.toList.contains c=r->InI a b r
theorem one_inv {l m:List Nat} {r:Bool} (e:(match l with | [c]=>some (m.contains c) | _=>none)=some r):∃c,l=[c]∧m.contains c=r :=
 match l,e with
 | [c],e=>⟨c,rfl,sos e⟩
 | [],e=>nos e
 | _::_::_,e=>nos e
theorem inD_inv {a b:PyData} {r:Bool} (e:inD a b=some r):InI a b r:=by
 cases b with
 | list l =>
  exact ite_inv e λh q=>.li l rfl h (q▸(show (λy=>eqP y a)=λy=>PyData.eqv y a from funext λy=>eqP_eqv y a).symm▸rfl)
 | str x=>cases a with
  | str y =>
   obtain ⟨c,h1,h2⟩:=one_inv e
   exact .si x c rfl ((str_of_list h1).symm▸rfl) h2
  | _=>exact nos e
 | _=>exact nos e
theorem min_ok {x y n:Nat} (R:Room A 1) (hn:n≤3) (h:x≤n∨y≤n):A.units+1+min x y < cLine:=by
 have hu:=R.units
 have cl:cLine=9900:=rfl
 have:min x y≤n:=h.elim (Nat.le_trans (Nat.min_le_left _ _)) (Nat.le_trans (Nat.min_le_right _ _))
 lia
theorem cmp_in {op:CmpOp} {a b:PyData} {r r':Bool} {va vb:Value} {as bs:List Addr} (ra:RD s.heap va a as) (rb:RD s.heap vb b bs) (e:InI a b r)
  (k1:∀l x y n,RD s.heap va a as->RDs s.heap x l y->∀bs',Reads s.heap vb (.list l) bs'->okD 3 a=true->b=.list l->n=l.any (λy=>PyData.eqv y a)->n=r->wpAny (model prog w) A (compareOp op va vb) (CmpP s r') noE s)
  (k2:∀x c t u,x.cps.toList.contains c=r->wpAny (model prog w) A (compareOp op (.str ⟨#[c]⟩ t) (.str x u)) (CmpP s r') noE s):wpAny (model prog w) A (compareOp op va vb) (CmpP s r') noE s:=by
 cases e with
 | li l h1 h2 h3 =>
  subst h1
  obtain ⟨_,Rb⟩:=rb.reads
  obtain ⟨_,vs,_,bs',_,_,_,_,q⟩:=rb.list_
  exact k1 l _ _ _ ra q _ Rb h2 rfl rfl h3
 | si x c h1 h2 h3 =>
  subst h1 h2
  obtain ⟨t,q1,_⟩:=ra.str_
  obtain ⟨u,q2,_⟩:=rb.str_
  refine q1.symm▸q2.symm▸?_
  exact k2 x c t u h3
theorem map_not {o:Option Bool} {r:Bool} (e:o.map (!·)=some r):o=some !r:=by
 cases o with
 | none=>exact nos e
 | some x=>rw [← sos e]; cases x<;>rfl
theorem cmp_ok (op:CmpOp) {a b:PyData} {r:Bool} {va vb:Value} {as bs:List Addr} (R:Room A 1) (ra:RD s.heap va a as) (rb:RD s.heap vb b bs) (e:cmpD op a b=some r) :
  wpAny (model prog w) A (compareOp op va vb) (λv s'=>v=.bool r∧∃t,s'={ s with toks:=t }) noE s:=by
 show wpAny (model prog w) A (compareOp op va vb) (CmpP s r) noE s
 have room:(okD 3 a||okD 3 b)=true->A.units+min a.depth b.depth < cLine:=λh=>by
  have:=min_ok (x:=a.depth) (y:=b.depth) R (Nat.le_refl 3) ((Bool.or_eq_true _ _▸h:okD 3 a=true∨okD 3 b=true).imp (okD_depth 3 a) (okD_depth 3 b))
  exact Nat.lt_of_le_of_lt (Nat.add_le_add_right (Nat.le_add_right _ _) _) this
 have roomIn:∀{l:List PyData},okD 3 a=true->A.units+1+min (PyData.depthAll l) a.depth < cLine:=λh=>min_ok R (Nat.le_refl 3) (.inr (okD_depth 3 a h))
 cases op with
 | Eq =>
  obtain ⟨_,Ra⟩:=ra.reads
  obtain ⟨_,Rb⟩:=rb.reads
  exact ite_inv e λh q=>SeqAt.compareEq_reads Ra Rb ra.canLay rb.canLay (room h) (by rw [← eqP_eqv,q]; exact .mk _)
 | NotEq =>
  obtain ⟨_,Ra⟩:=ra.reads
  obtain ⟨_,Rb⟩:=rb.reads
  exact ite_inv e λh q=>SeqAt.compareNe_reads Ra Rb ra.canLay rb.canLay (room h) (by rw [← eqP_eqv,q]; exact .mk _)
 | Lt=>exact cmp_ints ra rb e λ_ _ _ _=>PyProof.Rows.lt_int (.mk _)
 | LtE=>exact cmp_ints ra rb e λ_ _ _ _=>PyProof.Rows.le_int (.mk _)
 | Gt=>exact cmp_ints ra rb e λ_ _ _ _=>PyProof.Rows.gt_int (.mk _)
 | GtE=>exact cmp_ints ra rb e λ_ _ _ _=>PyProof.Rows.ge_int (.mk _)
 | Is=>exact cmp_is (C:=λva vb r=>wpAny (model prog w) A (compareOp .Is va vb) (CmpP s r) noE s) ra rb e (λ_ _=>is_bool (.mk _)) (is_none_none (.mk _)) λ_ _=>is_none_ne (λh=>nomatch h) (.mk _)
 | IsNot =>
  have:=cmp_is (C:=λva vb r=>wpAny (model prog w) A (compareOp .IsNot va vb) (CmpP s (!r)) noE s) ra rb (map_not e) (λ_ _=>isnot_bool (.mk _)) (isnot_none_none (.mk _)) λ_ _=>isnot_none_ne (λh=>nomatch h) (.mk _)
  rwa [Bool.not_not] at this
 | In =>
  exact cmp_in ra rb (inD_inv e) (λl x y n ra q _ Rb h hb hn hr=>by
   obtain ⟨_,Ra⟩:=ra.reads
   exact SeqAt.in_list_reads Rb Ra q.canLay ra.canLay (roomIn h) (by rw [← hn,hr]; exact .mk _)) λx c t u h=>in_str (by rw [StrLaws.found_one,contains_decide,h]; exact .mk _)
 | NotIn =>
  exact cmp_in (r:=!r) ra rb (inD_inv (map_not e)) (λl x y n ra q _ Rb h hb hn hr=>by
   obtain ⟨_,Ra⟩:=ra.reads
   exact SeqAt.notIn_list_reads Rb Ra q.canLay ra.canLay (roomIn h) (by rw [← hn,hr,Bool.not_not]; exact .mk _)) λx c t u h=>notIn_str (by rw [StrLaws.found_one,contains_decide,h,Bool.not_not]; exact .mk _)
end
theorem VRs.map {ρ ρ':Rho} {Z Z':List Addr} {h h':Heap} (f:∀{p v},VR ρ Z h p v->VR ρ' Z' h' p v) {ps:List PV} {vs:List Value} (r:VRs ρ Z h ps vs):VRs ρ' Z' h' ps vs:=VRs.rec (motive:=λps vs _=>VRs ρ' Z' h' ps vs) .nil (λx _ ih=>.cons (f x) ih) r
theorem VRs.ext {X:List Addr} {ρ ρ':Rho} {s s':Shared} {Z:List Addr} (x:Ext X ρ s ρ' s') (hX:∀a∈X,a∈Z) {ps:List PV} {vs:List Value} (r:VRs ρ Z s.heap ps vs):VRs ρ' Z s'.heap ps vs:=r.map λy=>y.ext x hX
noncomputable def rds (hp:List MO):List PV->Option (List PyData)
 | []=>some []
 | p::r=>match rd hp p,rds hp r with
  | some d,some ds=>some (d::ds)
  | _,_=>none
noncomputable def dats:List PV->Option (List PyData)
 | []=>some []
 | .dat d::r=>(dats r).map (d::·)
 | _::_=>none
theorem dats_cons {p:PV} {r:List PV} {ds:List PyData} {C:Prop} (e:dats (p::r)=some ds) (k:∀d l,p=.dat d->dats r=some l->d::l=ds->C):C:=by
 cases p with
 | dat d =>
  obtain ⟨l,h1,h2⟩:=Option.map_eq_some_iff.mp (show (dats r).map (d::·)=some ds from e)
  exact k d l rfl h1 h2
 | _=>exact nos e
theorem dats_RDs {ρ:Rho} {Z:List Addr} {h:Heap} {ps:List PV} {vs:List Value} {ds:List PyData} (x:VRs ρ Z h ps vs) (e:dats ps=some ds):∃as,RDs h vs ds as∧∀a∈as,a∉muts ρ∧a∉Z:=by
 revert ds
 refine VRs.rec (motive:=λps vs _=>∀{ds:List PyData},dats ps=some ds->∃as,RDs h vs ds as∧∀a∈as,a∉muts ρ∧a∉Z) (λe=>⟨[],sos e▸.nil,λ_ h=>nin h⟩) (λx _ ih ds e=>dats_cons e λd l h1 h2 h3=>?_) x
 rw [h1] at x
 obtain ⟨as,ra,ha⟩:=x
 obtain ⟨bs,rb,hb⟩:=ih h2
 exact ⟨as++bs,h3▸.cons ra rb,λa h=>(List.mem_append.mp h).elim (ha a) (hb a)⟩
section
variable {prog:Program} {w:World} {K:Addr->Option Obj} {fx:Fx} {Z:List Addr}
theorem NewD.post {ρ:Rho} {Z:List Addr} {hp:List MO} {s s':Shared} {d:PyData} {P:Addr->Prop} {v:Value} (H:HR ρ Z hp s.heap) (x:NewD s d P v s') (hP:∀a,P a->a∉muts ρ∧a∉Z):Post ρ Z s (.dat d) hp v s':=by
 refine cps λ_ KK=>?_
 obtain ⟨h,t,as,rfl,k,r,q,_⟩:=x
 refine KK ?_
 exact ⟨ρ,Ext.of_keep k,⟨as,r,λa ha=>(q a ha).elim H.fresh (hP a)⟩,H.keep k⟩
theorem Post.trans {ρ ρ_1:Rho} {Z:List Addr} {hp':List MO} {s s_1 s_2:Shared} {pv:PV} {v:Value} (x:Ext [] ρ s ρ_1 s_1) (p:Post ρ_1 Z s_1 pv hp' v s_2):Post ρ Z s pv hp' v s_2 :=
 Exists.elim p λρ' q=>⟨ρ',x.trans q.1,q.2⟩
theorem Post.of_toks {ρ:Rho} {Z:List Addr} {hp:List MO} {s:Shared} {pv:PV} {v:Value} {t:Nat} (H:HR ρ Z hp s.heap) (r:VR ρ Z s.heap pv v):Post ρ Z s pv hp v { s with toks:=t } :=
 ⟨ρ,Ext.of_keep (h:=s.heap) λ_ _ e=>e,r,H⟩
noncomputable def bindE {α:Type} (F:EF) (G:PV->St->Option (α×List MO)):St->Option (α×List MO):=λσ=>match F σ with
 | some (v,hp)=>G v ⟨σ.loc,hp⟩
 | none=>none
abbrev NF:=St->Option (PyData×List MO)
noncomputable def map2 (f:PyData->PyData->Option PyData) (a b:PV):NF:=λσ=>match rd σ.hp a,rd σ.hp b with
 | some x,some y=>match f x y with
  | some d=>some (d,σ.hp)
  | none=>none
 | _,_=>none
noncomputable def PostN (ρ:Rho) (Z:List Addr) (s:Shared) (d:PyData) (hp':List MO) (v:Value) (s':Shared):Prop :=
 ∃ρ' s_2 P,Ext [] ρ s ρ' s_2∧HR ρ' Z hp' s_2.heap∧NewD s_2 d P v s'∧∀a,P a->a∉muts ρ'∧a∉Z
structure EvN (prog:Program) (w:World) (K:Addr->Option Obj) (fx:Fx) (e:Expr) (F:NF):Prop where
 run:∀(A:Around) (ρ:Rho) (Z:List Addr) (σ:St) (s:Shared) (d:PyData) (hp':List MO),Room A fx.k->SR K fx ρ Z σ s->F σ=some (d,hp') ->
  wpAny (model prog w) A (eval e fx.env) (PostN ρ Z s d hp') noE s
theorem PostN.post {ρ:Rho} {Z:List Addr} {hp:List MO} {s s':Shared} {d:PyData} {v:Value} (p:PostN ρ Z s d hp v s'):Post ρ Z s (.dat d) hp v s' :=
 Exists.elim p λ_ p=>p.elim λ_ p=>p.elim λ_ p=>Post.trans p.1 (p.2.2.1.post p.2.1 p.2.2.2)
theorem PostN.track {ρ:Rho} {Z:List Addr} {hp:List MO} {s s':Shared} {ds:List PyData} {v:Value} (p:PostN ρ Z s (.list ds) hp v s'):Post ρ Z s (.obj hp.length) (hp++[.lst ds]) v s':=by
 refine cps λ_ KK=>?_
 obtain ⟨ρ',s_2,P,x,H,⟨h,t,as,rfl,k,r,q,q'⟩,hP⟩:=p
 obtain ⟨a,vs,n,as',rfl,has,h1,_,h6⟩:=r.list_
 refine KK ?_
 have fr:=q' a (by rw [has]; rfl)
 replace fr:=has▸fr
 refine ⟨ρ'++[(a,a)],x.trans ⟨⟨_,rfl,λp hp=>(List.mem_singleton.mp hp).symm▸fr.1⟩,λb o _ _ e=>k b o e,λb o e=>⟨o,k b o e⟩,rfl,rfl,λ_ _ e=>e,λh=>h⟩,?_,H.push fr.1 k ⟨rfl,_,vs,n,as',h1,rfl,rfl,rfl,rfl,h6,λc hc=>?_⟩⟩
 ·exact ⟨a,a,by rw [List.getElem?_append_right (H.len.symm▸Nat.le_refl _),H.len,Nat.sub_self]; rfl,rfl⟩
 ·have base:c∉muts ρ'∧c∉Z:=(q c (has▸List.mem_cons_of_mem _ hc)).elim H.fresh (hP c)
  refine ⟨λm=>?_,base.2⟩
  rw [muts_append,List.mem_append] at m
  exact m.elim base.1 λm=>fr.2 ((List.mem_singleton.mp m:c=a)▸hc)
noncomputable def datF (F:NF):EF:=λσ=>match F σ with
 | some (d,hp)=>some (.dat d,hp)
 | none=>none
noncomputable def trkF (F:NF):EF:=λσ=>match F σ with
 | some (.list l,hp)=>some (.obj hp.length,hp++[.lst l])
 | _=>none
theorem datF_inv {F:NF} {σ:St} {pv:PV} {hp':List MO} {C:Prop} (q:datF F σ=some (pv,hp')) (k:∀d,F σ=some (d,hp')->.dat d=pv->C):C:=by
 unfold datF at q
 cases h:F σ with
 | none=>rw [h] at q; exact nos q
 | some x =>
  replace q:=h▸q
  obtain ⟨h1,h2⟩:=sop q
  exact k x.1 (h.symm▸h2▸rfl) h1
theorem trkF_inv {F:NF} {σ:St} {pv:PV} {hp':List MO} {C:Prop} (q:trkF F σ=some (pv,hp')) (k:∀l hp,F σ=some (.list l,hp)->.obj hp.length=pv->hp++[.lst l]=hp'->C):C:=by
 unfold trkF at q
 cases h:F σ with
 | none=>rw [h] at q; exact nos q
 | some x =>
  obtain ⟨d,hp⟩:=x
  replace q:=h▸q
  cases d with
  | list l =>
   obtain ⟨h1,h2⟩:=sop q
   exact k l hp h h1 h2
  | _=>exact nos q
theorem EvN.dat {e:Expr} {F:NF} (h:EvN prog w K fx e F):Ev prog w K fx e (datF F):=.mk λA ρ Z σ s pv hp' Rm R q =>
 datF_inv q λd hd hp=>wpAny_mono (h.run A ρ Z σ s _ _ Rm R hd) (λv s' p=>hp▸p.post) λ_ _ q=>q
theorem EvN.trk {e:Expr} {F:NF} (h:EvN prog w K fx e F):Ev prog w K fx e (trkF F):=.mk λA ρ Z σ s pv hp' Rm R q =>
 trkF_inv q λl hp hd h1 h2=>wpAny_mono (h.run A ρ Z σ s _ _ Rm R hd) (λv s' p=>h1▸h2▸p.track) λ_ _ q=>q
theorem Post.val {ρ:Rho} {Z:List Addr} {hp hp':List MO} {s:Shared} {d:PyData} {pv:PV} {v:Value} {t:Nat} (H:HR ρ Z hp s.heap) (e:some (PV.dat d,hp)=some (pv,hp')) (r:RD s.heap v d []):Post ρ Z s pv hp' v { s with toks:=t } :=
 (sop e).1▸(sop e).2▸Post.of_toks H ⟨[],r,λ_ h=>nin h⟩
theorem Ev.none_ {k pos}:Ev prog w K fx (.Constant .none k pos) (λσ=>some (.dat .none,σ.hp)):=.mk λA ρ Z σ s pv hp' _ R e=>wpAny_Constant_none (Post.val (t:=s.toks) R.hr e .none)
theorem Ev.bool {b k pos}:Ev prog w K fx (.Constant (.bool b) k pos) (λσ=>some (.dat (.bool b),σ.hp)):=.mk λA ρ Z σ s pv hp' _ R e=>wpAny_Constant_bool (Post.val (t:=s.toks) R.hr e (.bool b))
theorem Ev.int {i k pos}:Ev prog w K fx (.Constant (.int i) k pos) (λσ=>some (.dat (.int i),σ.hp)):=.mk λA ρ Z σ s pv hp' _ R e=>wpAny_Constant_int (Post.val R.hr e (.int i _))
theorem Ev.str {x k pos} {l:List Nat} (hl:x=⟨⟨l⟩⟩) (ho:PyData.strOk x=true):Ev prog w K fx (.Constant (.str x) k pos) (λσ=>some (.dat (.str ⟨⟨l⟩⟩),σ.hp)):=.mk λA ρ Z σ s pv hp' _ R e =>
 wpAny_Constant_str (Post.val R.hr (hl▸e) (.str x _ ho))
noncomputable def getV (loc:Loc) (i:Nat):Option PV:=match loc[i]? with
 | some (some pv)=>some pv
 | _=>none
theorem getV_eq {loc:Loc} {i:Nat} {pv:PV} (h:getV loc i=some pv):loc[i]?=some (some pv):=by
 unfold getV at h
 cases q:loc[i]? with
 | none=>rw [q] at h; exact nos h
 | some x=>cases x with
  | none=>rw [q] at h; exact nos h
  | some y=>rw [q] at h; rw [sos h]
noncomputable def nameF (i:Nat):EF:=λσ=>match getV σ.loc i with
 | some pv=>some (pv,σ.hp)
 | none=>none
noncomputable def nameV (env:Env) (m cm:Str->Option Value) (x:Str) (v:Value):Prop :=
 (env.kindOf x=some .local∧m x=some v)∨((env.kindOf x=some .cell∨env.kindOf x=some .free)∧∃c,env.cells.lookup x=some c∧cm x=some v)
theorem slot_kind {o:Option NameKind} {a b:Option Value} {v:Value} {C:Prop} (e:(match o with | some .local=>a | some .cell=>b | some .free=>b | _=>none)=some v) (k1:o=some .local->a=some v->C) (k2:o=some .cell∨o=some .free->b=some v->C):C:=by
 cases o with
 | none=>exact nos e
 | some x=>cases x with
  | «local»=>exact k1 rfl e
  | cell=>exact k2 (.inl rfl) e
  | free=>exact k2 (.inr rfl) e
  | _=>exact nos e
theorem slot_cases {env:Env} {m cm:Str->Option Value} {x:Str} {v:Value} (h:slotV env m cm x=some v):nameV env m cm x v :=
 slot_kind (show (match env.kindOf x with | some .local=>m x | some .cell=>(env.cells.lookup x).bind λ_=>cm x | some .free=>(env.cells.lookup x).bind λ_=>cm x | _=>none)=some v from h) (λh1 h2=>.inl ⟨h1,h2⟩) λh1 h2 =>
  (Option.bind_eq_some_iff.mp h2).elim λc q=>.inr ⟨h1,c,q⟩
theorem nameF_inv {i:Nat} {σ:St} {pv:PV} {hp':List MO} (e:nameF i σ=some (pv,hp')):getV σ.loc i=some pv∧σ.hp=hp':=by
 unfold nameF at e
 cases h:getV σ.loc i with
 | none=>rw [h] at e; exact nos e
 | some x=>rw [h] at e; exact ⟨congrArg some (sop e).1,(sop e).2⟩
theorem Ev.name {i:Nat} {x:Str} {pos:Pos} (hv:fx.vars.lookup i=some x) (hd:(x==("__debug__":Str))=false:=by decide) (hd':(x==("__classdict__":Str))=false:=by decide):Ev prog w K fx (.Name x pos) (nameF i):=.mk λA ρ Z σ s pv hp' _ R e=>by
 refine cps λ_ KK=>?_
 obtain ⟨hp,hh⟩:=nameF_inv e
 obtain ⟨m,cm,hn,hc,hvs⟩:=R.er.ex
 obtain ⟨v,hs,r⟩:=hvs i x _ hv (getV_eq hp)
 refine KK ?_
 have fin:Post ρ Z s pv hp' v s:=Post.of_toks (t:=s.toks) (hh▸R.hr) r
 refine wpAny_Name ?_ hd
 rcases slot_cases hs with ⟨hk,hm⟩ | ⟨hk | hk,c,hl,hm⟩
 ·exact wpAny_loadName_local R.er.fn hk hn hm fin
 ·exact wpAny_loadName_cell R.er.fn hk hl (hm▸hc x c hl) fin
 ·exact wpAny_loadName_free R.er.fn hk hl (hm▸hc x c hl) fin hd'
theorem bindE_some {α:Type} {F:EF} {G:PV->St->Option (α×List MO)} {σ:St} {r:α×List MO} (e:bindE F G σ=some r):∃v hp,F σ=some (v,hp)∧G v ⟨σ.loc,hp⟩=some r:=by
 unfold bindE at e
 cases h:F σ with
 | none=>rw [h] at e; exact nos e
 | some x=>rw [h] at e; exact ⟨x.1,x.2,rfl,e⟩
theorem map2_inv {f:PyData->PyData->Option PyData} {a b:PV} {σ:St} {d:PyData} {hp':List MO} {C:Prop} (e:map2 f a b σ=some (d,hp')) (k:∀x y,rd σ.hp a=some x->rd σ.hp b=some y->f x y=some d->σ.hp=hp'->C):C:=by
 unfold map2 at e
 cases h1:rd σ.hp a with
 | none=>rw [h1] at e; exact nos e
 | some x=>cases h2:rd σ.hp b with
  | none=>rw [h1,h2] at e; exact nos e
  | some y =>
   replace e:=h2▸h1▸e
   have e:(match f x y with | some d=>some (d,σ.hp) | none=>none)=some (d,hp'):=e
   cases h3:f x y with
   | none=>rw [h3] at e; exact nos e
   | some z =>
    replace e:=h3▸e
    exact k x y h1 h2 (h3.symm▸((sop e).1).symm▸rfl) (sop e).2
theorem Ev.then {α:Type} {e:Expr} {F:EF} {G:PV->St->Option (α×List MO)} (h:Ev prog w K fx e F) {A:Around} {ρ:Rho} {Z:List Addr} {σ:St} {s:Shared} {r:α×List MO} (Rm:Room A fx.k) (R:SR K fx ρ Z σ s)
  (q:bindE F G σ=some r) {Q:Value->Shared->Prop}
  (k:∀a v h1 ρ_1 s_1,G a ⟨σ.loc,h1⟩=some r->Ext [] ρ s ρ_1 s_1->VR ρ_1 Z s_1.heap a v->SR K fx ρ_1 Z ⟨σ.loc,h1⟩ s_1->Q v s_1):wpAny (model prog w) A (eval e fx.env) Q noE s:=by
 obtain ⟨a,h1,e1,e2⟩:=bindE_some q
 refine wpAny_mono (h.run A ρ Z σ s _ _ Rm R e1) (λv s_1 p=>?_) λ_ _ q=>q
 obtain ⟨ρ_1,x_1,v_1,H_1⟩:=p
 exact k a v h1 ρ_1 s_1 e2 x_1 v_1 (R.next x_1 H_1)
theorem Ev.then2 {α:Type} {e e':Expr} {F F':EF} {G:PV->PV->St->Option (α×List MO)} (h:Ev prog w K fx e F) (h':Ev prog w K fx e' F') {A:Around} {ρ:Rho} {Z:List Addr} {σ:St} {s:Shared} {r:α×List MO} (Rm:Room A fx.k) (R:SR K fx ρ Z σ s)
  (q:bindE F (λa=>bindE F' (G a)) σ=some r) {Q:Value->Value->Shared->Prop}
  (k:∀a b va vb hp ρ_1 s_1,G a b ⟨σ.loc,hp⟩=some r->Ext [] ρ s ρ_1 s_1->VR ρ_1 Z s_1.heap a va->VR ρ_1 Z s_1.heap b vb->SR K fx ρ_1 Z ⟨σ.loc,hp⟩ s_1->Q va vb s_1):wpAny (model prog w) A (eval e fx.env) (λva s_1=>wpAny (model prog w) A (eval e' fx.env) (Q va) noE s_1) noE s :=
 h.then Rm R q λa va h1 ρ_1 s_1 e1 x_1 v_1 R_1=>h'.then Rm R_1 e1 λb vb h2 ρ_2 s_2 e2 x_2 v_2 R_2=>k a b va vb h2 ρ_2 s_2 e2 (x_1.trans x_2) (v_1.ext x_2 (λ_ h=>nin h)) v_2 R_2
theorem EvN.bin {l r:Expr} {op:Operator} {pos:Pos} {Fl Fr:EF} (hl:Ev prog w K fx l Fl) (hr:Ev prog w K fx r Fr) :
  EvN prog w K fx (.BinOp l op r pos) (bindE Fl λa=>bindE Fr λb=>map2 (binD op) a b):=.mk λA ρ Z σ s d hp' Rm R e =>
 wpAny_BinOp (hl.then2 hr Rm R e λa b va vb h2 ρ_2 s_2 e2 x v_1 v_2 R_2=>map2_inv e2 λx' y hx hy hd q =>
  (rd_RD R_2.hr v_1 hx).elim λas ra=>(rd_RD R_2.hr v_2 hy).elim λbs rb =>
  wpAny_mono (bin_ok op ra.1 rb.1 hd) (λv s_3 n=>⟨_,_,_,x,q▸R_2.hr,n,λc hc=>hc.elim (ra.2 c) (rb.2 c)⟩) λ_ _ q=>q)
theorem CmpP.new {s s':Shared} {r:Bool} {v:Value} (n:CmpP s r v s'):NewD s (.bool r) (λ_=>False) v s':=by
 obtain ⟨rfl,t,rfl⟩:=n
 exact NewD.val (.bool _)
theorem EvN.cmp {l r:Expr} {op:CmpOp} {pos:Pos} {Fl Fr:EF} (hl:Ev prog w K fx l Fl) (hr:Ev prog w K fx r Fr) (hk:1≤fx.k:=by decide) (hm:behindInMarks op r=false:=by rfl) :
  EvN prog w K fx (.Compare l [op] [r] pos) (bindE Fl λa=>bindE Fr λb=>map2 (λx y=>(cmpD op x y).map .bool) a b):=.mk λA ρ Z σ s d hp' Rm R e =>
 wpAny_Compare1 (hl.then2 hr Rm R e λa b va vb h2 ρ_2 s_2 e2 x v_1 v_2 R_2=>map2_inv e2 λx' y hx hy hd q =>
  (rd_RD R_2.hr v_1 hx).elim λas ra=>(rd_RD R_2.hr v_2 hy).elim λbs rb=>(Option.map_eq_some_iff.mp hd).elim λd' hd =>
  wpAny_mono (cmp_ok op (Rm.mono hk) ra.1 rb.1 hd.1) (λv s_3 n=>⟨_,_,λ_=>False,x,q▸R_2.hr,hd.2▸CmpP.new n,λ_ h=>h.elim⟩) λ_ _ q=>q) hm
theorem Ev.neg {e:Expr} {pos:Pos} {i:Int} {k p} (he:e=.Constant (.int i) k p):Ev prog w K fx (.UnaryOp .USub e pos) (λσ=>some (.dat (.int (-i)),σ.hp)):=.mk λA ρ Z σ s pv hp' _ R q =>
 he▸wpAny_UnaryOp (wpAny_Constant_int (neg_int (Post.val R.hr q (.int (-i) _))))
end
section
variable {prog:Program} {w:World} {K:Addr->Option Obj} {fx:Fx} {Z:List Addr}
abbrev LF:=St->Option (List PV×List MO)
structure EvL (prog:Program) (w:World) (K:Addr->Option Obj) (fx:Fx) (es:List Expr) (F:LF):Prop where
 run:∀(pos:Pos) (A:Around) (ρ:Rho) (Z:List Addr) (σ:St) (s:Shared) (ps:List PV) (hp':List MO),Room A fx.k->SR K fx ρ Z σ s->F σ=some (ps,hp') ->
  wpAny (model prog w) A (spliced (backTo pos (starEach es fx.env))) (λvs s'=>∃ρ',Ext [] ρ s ρ' s'∧VRs ρ' Z s'.heap ps vs∧HR ρ' Z hp' s'.heap) noE s
noncomputable def nilL:LF:=λσ=>some ([],σ.hp)
noncomputable def consL (F:EF) (G:LF):LF:=bindE F λp σ=>match G σ with
 | some (ps,hp)=>some (p::ps,hp)
 | none=>none
theorem EvL.nil:EvL prog w K fx [] nilL:=.mk λpos A ρ Z σ s ps hp' Rm R e=>by
 cases e
 exact wpAny_items_nil ⟨ρ,Ext.refl _ _ _,.nil,R.hr⟩
theorem consG_inv {G:LF} {p:PV} {σ:St} {ps:List PV} {hp':List MO} {C:Prop} (q:(match G σ with | some (ps,hp)=>some (p::ps,hp) | none=>none)=some (ps,hp')) (k:∀l,G σ=some (l,hp')->p::l=ps->C):C:=by
 cases h:G σ with
 | none=>rw [h] at q; exact nos q
 | some x =>
  replace q:=h▸q
  exact k x.1 (h.symm▸((sop q).2)▸rfl) (sop q).1
theorem EvL.cons {e:Expr} {r:List Expr} {F:EF} {G:LF} (h:Ev prog w K fx e F) (hr:EvL prog w K fx r G) (he:∀env,starEach (e::r) env=(false,eval e env)::starEach r env:=by intro _; rfl) :
  EvL prog w K fx (e::r) (consL F G):=.mk λpos A ρ Z σ s ps hp' Rm R q =>
 wpAny_items_cons (h.then Rm R q λa v h1 ρ_1 s_1 e1 x_1 v_1 R_1=>consG_inv e1 λl e2 hps =>
  wpAny_mono (hr.run pos A ρ_1 Z ⟨σ.loc,h1⟩ s_1 _ _ Rm R_1 e2) (λvs s_2 p=>p.elim λρ_2 p=>⟨ρ_2,x_1.trans p.1,hps▸.cons (v_1.ext p.1 (λ_ h=>nin h)) p.2.1,p.2.2⟩) λ_ _ q=>q) (he _)
noncomputable def listF (G:LF):NF:=λσ=>match G σ with
 | some (ps,hp)=>match dats ps with
  | some ds=>if ds.length≤lim then some (.list ds,hp) else none
  | none=>none
 | none=>none
noncomputable def tupF (G:LF):NF:=λσ=>match G σ with
 | some (ps,hp)=>match dats ps with
  | some ds=>if ds.length≤lim then some (.tuple ds,hp) else none
  | none=>none
 | none=>none
theorem VRs.length {ρ:Rho} {h:Heap} {ps:List PV} {vs:List Value} (r:VRs ρ Z h ps vs):ps.length=vs.length:=VRs.rec (motive:=λps vs _=>ps.length=vs.length) rfl (λ_ _ ih=>congrArg (·+1) ih) r
theorem datsG_inv {G:LF} {f:List PyData->PyData} {σ:St} {d:PyData} {hp':List MO} {C:Prop} (q:(match G σ with
 | some (ps,hp)=>match dats ps with
  | some ds=>if ds.length≤lim then some (f ds,hp) else none
  | none=>none
 | none=>none)=some (d,hp')) (k:∀ps ds,G σ=some (ps,hp')->dats ps=some ds->ds.length≤lim->f ds=d->C):C:=by
 cases h:G σ with
 | none=>rw [h] at q; exact nos q
 | some x =>
  replace q:=h▸q
  have q:(match dats x.1 with | some ds=>if ds.length≤lim then some (f ds,x.2) else none | none=>none)=some (d,hp'):=q
  cases h2:dats x.1 with
  | none=>rw [h2] at q; exact nos q
  | some ds =>
   replace q:=h2▸q
   exact ite_inv (show (if ds.length≤lim then some (f ds,x.2) else none)=_ from q) λhl e=>k x.1 ds (h.symm▸((Prod.mk.inj e).2)▸rfl) h2 hl (Prod.mk.inj e).1
theorem EvL.newD {es:List Expr} {pos:Pos} {G:LF} (h:EvL prog w K fx es G) {A:Around} {ρ:Rho} {σ:St} {s:Shared} {ps:List PV} {ds:List PyData} {hp':List MO} (Rm:Room A fx.k) (R:SR K fx ρ Z σ s) (e1:G σ=some (ps,hp')) (e2:dats ps=some ds) (hl:ds.length≤lim) {Q:List Value->Shared->Prop}
  (k:∀vs s_1 ρ_1 as,vs.length≤2 ^ 24->Ext [] ρ s ρ_1 s_1->HR ρ_1 Z hp' s_1.heap->RDs s_1.heap vs ds as->(∀a∈as,a∉muts ρ_1∧a∉Z)->Q vs s_1):wpAny (model prog w) A (spliced (backTo pos (starEach es fx.env))) Q noE s :=
 wpAny_mono (h.run pos A ρ Z σ s _ _ Rm R e1) (λvs s_1 p=>p.elim λρ_1 p=>(dats_RDs p.2.1 e2).elim λas r=>k vs s_1 ρ_1 as (r.1.length.symm▸Nat.le_trans hl (by decide)) p.1 p.2.2 r.1 r.2) λ_ _ q=>q
theorem EvN.list {es:List Expr} {pos:Pos} {G:LF} (h:EvL prog w K fx es G):EvN prog w K fx (.List es pos) (listF G):=.mk λA ρ Z σ s d hp' Rm R e =>
 datsG_inv e λps ds e1 e2 hl hd=>wpAny_List (h.newD Rm R e1 e2 hl λvs s_1 ρ_1 as hs x H r q=>⟨hs,ρ_1,s_1,λa=>a∈as,x,H,hd▸NewD.list (t:=s_1.toks) r λa ha=>.inr ha,q⟩)
theorem EvN.tuple {es:List Expr} {k:Nat} {pos:Pos} {G:LF} (h:EvL prog w K fx es G):EvN prog w K fx (.Tuple es k pos) (tupF G):=.mk λA ρ Z σ s d hp' Rm R e =>
 datsG_inv e λps ds e1 e2 hl hd=>wpAny_Tuple (h.newD Rm R e1 e2 hl λvs s_1 ρ_1 as hs x H r q=>⟨hs,ρ_1,s_1,λa=>a∈as,x,H,hd▸NewD.tuple (t:=s_1.toks) r λa ha=>.inr ha,q⟩)
abbrev BF:=St->Option (Bool×List MO)
structure Tr (prog:Program) (w:World) (K:Addr->Option Obj) (fx:Fx) (e:Expr) (F:BF):Prop where
 run:∀(A:Around) (ρ:Rho) (Z:List Addr) (σ:St) (s:Shared) (b:Bool) (hp':List MO),Room A fx.k->SR K fx ρ Z σ s->F σ=some (b,hp') ->
  wpAny (model prog w) A (isTrue e fx.env (eval e fx.env)) (λb' s'=>b'=b∧∃ρ',Ext [] ρ s ρ' s'∧HR ρ' Z hp' s'.heap) noE s
noncomputable def trD:PyData->Option Bool
 | .none=>some false
 | .bool b=>some b
 | .int i=>some (i != 0)
 | .str x=>if x.cps.size≤lim then some (x.cps.size != 0) else none
 | .list l=>if l.length≤lim then some (l.length != 0) else none
 | _=>none
noncomputable def trV (p:PV):BF:=λσ=>match rd σ.hp p with
 | some d=>match trD d with
  | some b=>some (b,σ.hp)
  | none=>none
 | none=>none
noncomputable def TruP (s:Shared) (b:Bool) (b':Bool) (s':Shared):Prop:=b'=b∧∃t,s'={ s with toks:=t }
theorem TruP.mk {s:Shared} (b:Bool):TruP s b b s:=⟨rfl,s.toks,rfl⟩
theorem truthy_ok {A:Around} {s:Shared} {d:PyData} {v:Value} {as:List Addr} {b:Bool} (r:RD s.heap v d as) (e:trD d=some b):wpAny (model prog w) A (truthy v) (λb' s'=>b'=b∧∃t,s'={ s with toks:=t }) noE s:=by
 show wpAny (model prog w) A (truthy v) (TruP s b) noE s
 cases d with
 | none=>rw [r.none_.1,← sos e]; exact truthy_none (.mk _)
 | bool c=>rw [r.bool_.1,← sos e]; exact wpAny_truthy_bool (.mk _)
 | int i =>
  obtain ⟨t,q,_⟩:=r.int_
  refine q.symm▸(sos e)▸?_
  exact PyProof.Rows.truthy_int (.mk _)
 | str x =>
  obtain ⟨t,q,_⟩:=r.str_
  refine q.symm▸?_
  refine ite_inv e λhl hb=>PySem.P.truthy_str (λh=>?_) ⟨?_,_,rfl⟩
  ·exact absurd (Int.le_trans h (Int.ofNat_le.mpr hl)) (by decide)
  ·refine hb▸?_
   skip
   rw [Bool.eq_iff_iff,bne_iff_ne,bne_iff_ne]
   exact not_congr Int.natCast_eq_zero
 | list xs =>
  obtain ⟨a,vs,n,bs,q,_,h1,hlen,_⟩:=r.list_
  refine q.symm▸?_
  refine ite_inv e λhl hb=>wpAny_truthy_list ⟨_,h1,rfl,n,rfl⟩ (by unfold lim at hl; lia) ⟨?_,_,rfl⟩
  rw [← hb,← hlen,Bool.eq_iff_iff,bne_iff_ne]
  skip
  simp
 | _=>exact nos e
theorem trV_inv {p:PV} {σ:St} {b:Bool} {hp':List MO} {C:Prop} (e:trV p σ=some (b,hp')) (k:∀d,rd σ.hp p=some d->trD d=some b->σ.hp=hp'->C):C:=by
 unfold trV at e
 cases h:rd σ.hp p with
 | none=>rw [h] at e; exact nos e
 | some d =>
  replace e:=h▸e
  have e:(match trD d with | some b=>some (b,σ.hp) | none=>none)=some (b,hp'):=e
  cases h2:trD d with
  | none=>rw [h2] at e; exact nos e
  | some c =>
   replace e:=h2▸e
   exact k d h (h2.symm▸((sop e).1).symm▸rfl) (sop e).2
theorem Tr.val {e:Expr} {F:EF} (h:Ev prog w K fx e F) (he:∀env whole,isTrue e env whole=(do let v ← whole; standAt e.pos; holding [v] (truthy v)):=by intro _ _; rfl):Tr prog w K fx e (bindE F trV):=.mk λA ρ Z σ s b hp' Rm R q =>
 wpAny_isTrue_value (h.then Rm R q λa v h1 ρ_1 s_1 e1 x_1 v_1 R_1=>trV_inv e1 λd hd hb hh=>(rd_RD R_1.hr v_1 hd).elim λas r =>
  wpAny_mono (truthy_ok r.1 hb) (λb' s' p=>⟨p.1,p.2.elim λt q=>q▸⟨ρ_1,x_1.trans (Ext.of_keep (h:=s_1.heap) λ_ _ e=>e),hh▸R_1.hr⟩⟩) λ_ _ q=>q) (he _ _)
noncomputable def cmpT (op:CmpOp) (a b:PV):BF:=λσ=>match rd σ.hp a,rd σ.hp b with
 | some x,some y=>match cmpD op x y with
  | some d=>some (d,σ.hp)
  | none=>none
 | _,_=>none
theorem cmpT_inv {op:CmpOp} {a b:PV} {σ:St} {d:Bool} {hp':List MO} {C:Prop} (e:cmpT op a b σ=some (d,hp')) (k:∀x y,rd σ.hp a=some x->rd σ.hp b=some y->cmpD op x y=some d->σ.hp=hp'->C):C:=by
 unfold cmpT at e
 cases h1:rd σ.hp a with
 | none=>rw [h1] at e; exact nos e
 | some x=>cases h2:rd σ.hp b with
  | none=>rw [h1,h2] at e; exact nos e
  | some y =>
   replace e:=h2▸h1▸e
   have e:(match cmpD op x y with | some d=>some (d,σ.hp) | none=>none)=some (d,hp'):=e
   cases h3:cmpD op x y with
   | none=>rw [h3] at e; exact nos e
   | some z =>
    replace e:=h3▸e
    exact k x y h1 h2 (h3.symm▸((sop e).1).symm▸rfl) (sop e).2
theorem CmpP.tru {A:Around} {s s':Shared} {r:Bool} {v:Value} {Q:Bool->Shared->Prop} (n:CmpP s r v s') (k:∀t,Q r { s with toks:=t }):wpAny (model prog w) A (truthy v) Q noE s':=by
 obtain ⟨rfl,t,rfl⟩:=n
 exact wpAny_truthy_bool (k t)
theorem Tr.cmp {l r:Expr} {op:CmpOp} {pos:Pos} {Fl Fr:EF} (hl:Ev prog w K fx l Fl) (hr:Ev prog w K fx r Fr) (hk:1≤fx.k:=by decide) (hm:behindInMarks op r=false:=by rfl) :
  Tr prog w K fx (.Compare l [op] [r] pos) (bindE Fl λa=>bindE Fr λb=>cmpT op a b):=.mk λA ρ Z σ s d hp' Rm R e =>
 wpAny_isTrue_Compare1 (hl.then2 hr Rm R e λa b va vb h2 ρ_2 s_2 e2 x v_1 v_2 R_2=>cmpT_inv e2 λx' y hx hy hd q =>
  (rd_RD R_2.hr v_1 hx).elim λas ra=>(rd_RD R_2.hr v_2 hy).elim λbs rb =>
  wpAny_mono (cmp_ok op (Rm.mono hk) ra.1 rb.1 hd) (λv s_3 n=>CmpP.tru n λt=>⟨rfl,ρ_2,x.trans (Ext.of_keep (h:=s_2.heap) λ_ _ e=>e),q▸R_2.hr⟩) λ_ _ q=>q) hm
noncomputable def bindB {α:Type} (F:BF) (G:Bool->St->Option (α×List MO)):St->Option (α×List MO):=λσ=>match F σ with
 | some (b,hp)=>G b ⟨σ.loc,hp⟩
 | none=>none
theorem bindB_some {α:Type} {F:BF} {G:Bool->St->Option (α×List MO)} {σ:St} {r:α×List MO} (e:bindB F G σ=some r):∃v hp,F σ=some (v,hp)∧G v ⟨σ.loc,hp⟩=some r:=by
 unfold bindB at e
 cases h:F σ with
 | none=>rw [h] at e; exact nos e
 | some x=>rw [h] at e; exact ⟨x.1,x.2,rfl,e⟩
theorem Tr.then {α:Type} {e:Expr} {F:BF} {G:Bool->St->Option (α×List MO)} (h:Tr prog w K fx e F) {A:Around} {ρ:Rho} {Z:List Addr} {σ:St} {s:Shared} {r:α×List MO} (Rm:Room A fx.k) (R:SR K fx ρ Z σ s)
  (q:bindB F G σ=some r) {Q:Bool->Shared->Prop}
  (k:∀b h1 ρ_1 s_1,G b ⟨σ.loc,h1⟩=some r->Ext [] ρ s ρ_1 s_1->SR K fx ρ_1 Z ⟨σ.loc,h1⟩ s_1->Q b s_1):wpAny (model prog w) A (isTrue e fx.env (eval e fx.env)) Q noE s:=by
 obtain ⟨a,h1,e1,e2⟩:=bindB_some q
 refine wpAny_mono (h.run A ρ Z σ s _ _ Rm R e1) (λv s_1 p=>?_) λ_ _ q=>q
 obtain ⟨rfl,ρ_1,x_1,H_1⟩:=p
 exact k v h1 ρ_1 s_1 e2 x_1 (R.next x_1 H_1)
structure TrA (prog:Program) (w:World) (K:Addr->Option Obj) (fx:Fx) (op:BoolOp) (es:List Expr) (F:BF):Prop where
 run:∀(A:Around) (ρ:Rho) (Z:List Addr) (σ:St) (s:Shared) (b:Bool) (hp':List MO),Room A fx.k->SR K fx ρ Z σ s->F σ=some (b,hp') ->
  wpAny (model prog w) A (allTrue op es fx.env) (λb' s'=>b'=b∧∃ρ',Ext [] ρ s ρ' s'∧HR ρ' Z hp' s'.heap) noE s
noncomputable def retB (b:Bool):BF:=λσ=>some (b,σ.hp)
noncomputable def TrP (ρ:Rho) (Z:List Addr) (s:Shared) (b:Bool) (hp':List MO) (b':Bool) (s':Shared):Prop:=b'=b∧∃ρ',Ext [] ρ s ρ' s'∧HR ρ' Z hp' s'.heap
theorem TrP.ret {ρ ρ_1:Rho} {s s_1:Shared} {b b':Bool} {hp hp':List MO} (x:Ext [] ρ s ρ_1 s_1) (H:HR ρ_1 Z hp s_1.heap) (e:some (b',hp)=some (b,hp')):TrP ρ Z s b hp' b' s_1:=⟨(sop e).1,ρ_1,x,(sop e).2▸H⟩
theorem TrP.trans {ρ ρ_1:Rho} {s s_1 s_2:Shared} {b b':Bool} {hp':List MO} (x:Ext [] ρ s ρ_1 s_1) (p:TrP ρ_1 Z s_1 b hp' b' s_2):TrP ρ Z s b hp' b' s_2:=⟨p.1,p.2.elim λρ_2 q=>⟨ρ_2,x.trans q.1,q.2⟩⟩
theorem TrA.and_nil:TrA prog w K fx .And [] (retB true):=.mk λA ρ Z σ s b hp' Rm R e=>wpAny_allTrue_And_nil (TrP.ret (Ext.refl _ _ _) R.hr e)
theorem TrA.or_nil:TrA prog w K fx .Or [] (retB false):=.mk λA ρ Z σ s b hp' Rm R e=>wpAny_allTrue_Or_nil (TrP.ret (Ext.refl _ _ _) R.hr e)
theorem TrA.and_cons {e:Expr} {r:List Expr} {F G:BF} (h:Tr prog w K fx e F) (hr:TrA prog w K fx .And r G):TrA prog w K fx .And (e::r) (bindB F λb=>if b then G else retB false):=.mk λA ρ Z σ s b hp' Rm R q =>
 wpAny_allTrue_And_cons (h.then Rm R q λc h1 ρ_1 s_1 e1 x_1 R_1=>match c,e1 with
  | true,e1=>wpAny_mono (hr.run A ρ_1 Z ⟨σ.loc,h1⟩ s_1 _ _ Rm R_1 e1) (λb' s_2 p=>TrP.trans x_1 p) λ_ _ q=>q
  | false,e1=>TrP.ret x_1 R_1.hr e1)
theorem TrA.or_cons {e:Expr} {r:List Expr} {F G:BF} (h:Tr prog w K fx e F) (hr:TrA prog w K fx .Or r G):TrA prog w K fx .Or (e::r) (bindB F λb=>if b then retB true else G):=.mk λA ρ Z σ s b hp' Rm R q =>
 wpAny_allTrue_Or_cons (h.then Rm R q λc h1 ρ_1 s_1 e1 x_1 R_1=>match c,e1 with
  | false,e1=>wpAny_mono (hr.run A ρ_1 Z ⟨σ.loc,h1⟩ s_1 _ _ Rm R_1 e1) (λb' s_2 p=>TrP.trans x_1 p) λ_ _ q=>q
  | true,e1=>TrP.ret x_1 R_1.hr e1)
theorem Tr.boolop {op:BoolOp} {es:List Expr} {pos:Pos} {F:BF} (h:TrA prog w K fx op es F):Tr prog w K fx (.BoolOp op es pos) F:=.mk λA ρ Z σ s b hp' Rm R e=>wpAny_isTrue_BoolOp (h.run A ρ Z σ s b hp' Rm R e)
theorem Ev.ife {t b o:Expr} {pos:Pos} {T:BF} {F G:EF} (ht:Tr prog w K fx t T) (hb:Ev prog w K fx b F) (ho:Ev prog w K fx o G):Ev prog w K fx (.IfExp t b o pos) (bindB T λc=>if c then F else G):=.mk λA ρ Z σ s pv hp' Rm R q=>by
 refine wpAny_IfExp (ht.then Rm R q λc h1 ρ_1 s_1 e1 x_1 R_1=>?_)
 cases c with
 | true=>exact wpAny_mono (hb.run A ρ_1 Z ⟨σ.loc,h1⟩ s_1 _ _ Rm R_1 e1) (λv s_2 p=>Post.trans x_1 p) λ_ _ q=>q
 | false=>exact wpAny_mono (ho.run A ρ_1 Z ⟨σ.loc,h1⟩ s_1 _ _ Rm R_1 e1) (λv s_2 p=>Post.trans x_1 p) λ_ _ q=>q
end
noncomputable def idx {α:Type} (l:List α) (i:Int):Option α :=
 if i < 0 then (if 0≤i+l.length then l[(i+l.length).toNat]? else none) else l[i.toNat]?
noncomputable def itemD:PyData->PyData->Option PyData
 | .list l,.int i=>if i.natAbs≤lim then idx l i else none
 | .tuple l,.int i=>if i.natAbs≤lim then idx l i else none
 | .str x,.int i=>if i.natAbs≤lim then (idx x.cps.toList i).map (λc=>.str ⟨⟨[c]⟩⟩) else none
 | _,_=>none
theorem idx_some {α:Type} {l:List α} {i:Int} {x:α} (h:idx l i=some x):∃j,seqIndex? i l.length=some j∧l[j]?=some x∧((0≤i∧j=i.toNat)∨(i < 0∧-(l.length:Int)≤i∧j=(i+l.length).toNat)):=by
 unfold idx at h
 by_cases hn:i < 0
 ·rw [if_pos hn] at h
  refine iteo h λh0 h=>?_
  have h1:-(l.length:Int)≤i:=by lia
  exact ⟨_,seqIndex_neg hn h1,h,.inr ⟨hn,h1,rfl⟩⟩
 ·rw [if_neg hn] at h
  have hlt:=(List.getElem?_eq_some_iff.mp h).1
  refine ⟨_,?_,h,.inl ⟨Int.not_lt.mp hn,rfl⟩⟩
  unfold seqIndex?
  simp only [hn,if_false]
  rw [if_pos (by simp only [Bool.and_eq_true,decide_eq_true_eq]; exact ⟨Int.not_lt.mp hn,(Int.toNat_lt (Int.not_lt.mp hn)).mp hlt⟩)]
theorem subscripted_ops (slice:Expr) (o i:Value):∃ops,subscripted slice false o i=operate ops (getItem o i):=by
 cases slice with
 | Slice a b c d=>cases c<;>exact ⟨_,rfl⟩
 | _=>exact ⟨_,rfl⟩
section
variable {prog:Program} {w:World} {A:Around} {E:Value->Shared->Prop} {s:Shared}
theorem my_tail {value slice:Expr} {o i:Value} {T id:String} {Q:Value->Shared->Prop} (hT:s.TypeIs o T)
  (hl:typeLookup (.type T) "__getitem__"=pure (some (.builtin id))) (h:wpAny (model prog w) A (getItem o i) Q E s) :
  wpAny (model prog w) A (subscriptTail value slice o i) Q E s:=by
 obtain ⟨ops,hs⟩:=subscripted_ops slice o i
 skip
 refine wpAny_bind ?_
 refine (getitemInPython_of_ne hT.not_modules).symm▸?_
 refine wpAny_bind (wpAny_specialOf hT hl ?_)
 have fin:wpAny (model prog w) A (subscripted slice false o i) (λr s_3=>wpAny (model prog w) A (letTemporaryGo value o r >>= λ_=>pure r) Q E s_3) E s:=by
  refine hs.symm▸?_
  exact wpAny_operating (wpAny_mono h (λr s_3 h_3=>wpAny_bind (wpAny_letTemporaryGo (wpAny_pure h_3))) λ_ _ x=>x)
 first
  | exact wpAny_pure (wpAny_bind fin)
  | exact wpAny_bind (wpAny_pure (wpAny_bind fin))
  | exact wpAny_bind fin
inductive ItI (a b d:PyData):Prop
 | li (l:List PyData) (i:Int):a=.list l->b=.int i->i.natAbs≤lim->idx l i=some d->ItI a b d
 | tu (l:List PyData) (i:Int):a=.tuple l->b=.int i->i.natAbs≤lim->idx l i=some d->ItI a b d
 | st (x:Str) (i:Int) (c:Nat):a=.str x->b=.int i->i.natAbs≤lim->idx x.cps.toList i=some c->.str ⟨⟨[c]⟩⟩=d->ItI a b d
theorem itemD_inv {a b d:PyData} (e:itemD a b=some d):ItI a b d:=by
 cases b with
 | int i=>cases a with
  | list l=>exact iteo e λh q=>.li l i rfl rfl h q
  | tuple l=>exact iteo e λh q=>.tu l i rfl rfl h q
  | str x=>exact iteo e λh q=>(Option.map_eq_some_iff.mp q).elim λc q=>.st x i c rfl rfl h q.1 q.2
  | _=>exact nos e
 | _=>cases a<;>exact nos e
noncomputable def ItemP (s:Shared) (d:PyData) (as:List Addr) (v:Value) (s':Shared):Prop:=(∃t,s'={ s with toks:=t })∧∃cs,RD s.heap v d cs∧∀c∈cs,c∈as.tail
theorem item_seq {vs:Array Value} {xs:List PyData} {as:List Addr} {i:Int} {d:PyData} (r:RDs s.heap vs.toList xs as) (e:idx xs i=some d) {C:Prop}
  (k:∀j y cs,seqIndex? i vs.size=some j->vs[j]?=some y->RD s.heap y d cs->(∀c∈cs,c∈as)->((0≤i∧j=i.toNat)∨(i < 0∧-(vs.size:Int)≤i∧j=(i+vs.size).toNat))->C):C:=by
 obtain ⟨j,hj,hx,hc⟩:=idx_some e
 obtain ⟨y,cs,hy,hr,hs⟩:=r.get j d hx
 have hlen:vs.size=xs.length:=r.length▸Array.length_toList.symm▸rfl
 rw [← hlen] at hj hc
 exact k j y cs hj ((Array.getElem?_toList)▸hy) hr hs hc
theorem item_list {value slice:Expr} {l:List PyData} {i:Int} {d:PyData} {va vb:Value} {as bs:List Addr} (ra:RD s.heap va (.list l) as) (rb:RD s.heap vb (.int i) bs) (hl:i.natAbs≤lim) (e:idx l i=some d) :
  wpAny (model prog w) A (subscriptTail value slice va vb) (ItemP s d as) noE s:=by
 obtain ⟨a,vs,n,as',rfl,rfl,h1,hlen,h6⟩:=ra.list_
 obtain ⟨u,rfl,_⟩:=rb.int_
 have hL:s.heap.IsList a vs:=⟨_,h1,rfl,n,rfl⟩
 unfold lim at hl
 refine item_seq h6 e λj y cs hj hy hr hs hc=>my_tail hL.typeIs list_getitem_lookup ?_
 have fin:ItemP s d (a::as') y s:=⟨⟨s.toks,rfl⟩,cs,hr,hs⟩
 rcases hc with ⟨h0,hj⟩ | ⟨h0,hlo,hj⟩
 ·exact wpAny_getItem_list hL h0 (Int.lt_of_le_of_lt (ab_hi hl) (by decide)) (hj▸hy) fin
 ·exact wpAny_getItem_list_neg hL h0 hlo (Int.le_trans (by decide) (ab_lo hl)) (hj▸hy) fin
theorem item_tuple {value slice:Expr} {l:List PyData} {i:Int} {d:PyData} {va vb:Value} {as bs:List Addr} (ra:RD s.heap va (.tuple l) as) (rb:RD s.heap vb (.int i) bs) (hl:i.natAbs≤lim) (e:idx l i=some d) :
  wpAny (model prog w) A (subscriptTail value slice va vb) (ItemP s d as) noE s:=by
 obtain ⟨a,o,vs,n,as',rfl,rfl,h1,h2,h3,hlen,h6⟩:=ra.tuple_
 obtain ⟨u,rfl,_⟩:=rb.int_
 unfold lim at hl
 exact item_seq h6 e λj y cs hj hy hr hs _=>my_tail (T:="tuple") ⟨o,h1,h2⟩ F.slot_tuple_getitem.lookup
  (PyProof.Rows.getItem_tuple ⟨o,h1,h2,n,h3⟩ (Int.le_trans (by decide) (ab_lo hl)) (Int.lt_of_le_of_lt (ab_hi hl) (by decide)) hj hy ⟨⟨s.toks,rfl⟩,cs,hr,hs⟩)
theorem item_str {value slice:Expr} {x:Str} {i:Int} {c:Nat} {va vb:Value} {as bs:List Addr} (ra:RD s.heap va (.str x) as) (rb:RD s.heap vb (.int i) bs) (hl:i.natAbs≤lim) (e:idx x.cps.toList i=some c) :
  wpAny (model prog w) A (subscriptTail value slice va vb) (ItemP s (.str ⟨⟨[c]⟩⟩) as) noE s:=by
 refine cps λ_ KK=>?_
 obtain ⟨t,rfl,_,q⟩:=ra.str_
 obtain ⟨u,rfl,_⟩:=rb.int_
 unfold lim at hl
 obtain ⟨j,hj,hx,_⟩:=idx_some e
 refine KK ?_
 have hin:(seqIndex? i x.length).bind (x.cps[·]?)=some c:=by
  have:x.length=x.cps.toList.length:=Array.length_toList.symm
  refine this.symm▸hj.symm▸?_
  show x.cps[j]?=some c
  refine (Array.getElem?_toList)▸?_
  exact hx
 exact my_tail (typeIs_str s x t) F.slot_str_getitem.lookup (PyProof.Rows.getItem_str (by simp only [Bool.or_eq_false_iff,decide_eq_false_iff_not]; exact ⟨Int.not_lt.mpr (Int.le_trans (by decide) (ab_lo hl)),Int.not_le.mpr (Int.lt_of_le_of_lt (ab_hi hl) (by decide))⟩) hin
  ⟨⟨_,rfl⟩,[],.str _ _ (strOk_sub q λc' hc'=>(List.mem_singleton.mp hc':c'=c)▸List.mem_of_getElem? hx),λ_ h=>nomatch h⟩)
theorem item_ok {value slice:Expr} {a b d:PyData} {va vb:Value} {as bs:List Addr} (ra:RD s.heap va a as) (rb:RD s.heap vb b bs) (e:itemD a b=some d) :
  wpAny (model prog w) A (subscriptTail value slice va vb) (λv s'=>(∃t,s'={ s with toks:=t })∧∃cs,RD s.heap v d cs∧∀c∈cs,c∈as.tail) noE s:=by
 show wpAny (model prog w) A (subscriptTail value slice va vb) (ItemP s d as) noE s
 cases itemD_inv e with
 | li l i h1 h2 hl e=>exact item_list (h1▸ra) (h2▸rb) hl e
 | tu l i h1 h2 hl e=>exact item_tuple (h1▸ra) (h2▸rb) hl e
 | st x i c h1 h2 hl e hd=>rw [← hd]; exact item_str (h1▸ra) (h2▸rb) hl e
noncomputable def clip (n:Nat) (v:Option Int) (dflt:Nat):Nat:=match v with
 | none=>dflt
 | some i=>(max 0 (min (if i < 0 then i+n else i) n)).toNat
noncomputable def sl {α:Type} (lo hi:Option Int) (l:List α):List α:=(l.take (clip l.length hi l.length)).drop (clip l.length lo 0)
noncomputable def pick {α:Type} (lo hi st:Option Int) (l:List α):List α :=
 (sliceRange (sliceBounds lo hi st l.length).1 (sliceBounds lo hi st l.length).2.1 (sliceBounds lo hi st l.length).2.2).filterMap (l[·]?)
theorem filterMap_range {α:Type} (l:List α) (a:Nat):∀n,(List.range n).filterMap (λk=>l[a+k]?)=(l.drop a).take n
 | 0=>by simp
 | n+1=>by
  rw [List.range_succ,List.filterMap_append,filterMap_range l a n,List.take_add_one,List.getElem?_drop]
  simp only [List.filterMap_cons,List.filterMap_nil]
  cases l[a+n]?<;>rfl
theorem clip_le {n:Nat} {v:Option Int} {d:Nat} (h:d≤n):clip n v d≤n:=by
 cases v with
 | none=>exact h
 | some i=>exact Int.toNat_le.mpr (Int.max_le.mpr ⟨Int.natCast_nonneg _,Int.min_le_right _ _⟩)
theorem clip_some (n:Nat) (i:Int) (d:Nat):max 0 (min (if i < 0 then i+(n:Int) else i) (n:Int))=((clip n (some i) d:Nat):Int):=(Int.toNat_of_nonneg (Int.le_max_left _ _)).symm
theorem bounds_eq (n:Nat) (lo hi:Option Int):sliceBounds lo hi none n=(((clip n lo 0:Nat):Int),((clip n hi n:Nat):Int),1):=by
 cases lo with
 | none=>cases hi with
  | none=>rfl
  | some j=>exact congrArg (λx=>((0:Int),x,(1:Int))) (clip_some n j n)
 | some i=>cases hi with
  | none=>exact congrArg (λx=>(x,(n:Int),(1:Int))) (clip_some n i 0)
  | some j=>exact congr (congrArg (λx y=>(x,y,(1:Int))) (clip_some n i 0)) (clip_some n j n)
theorem range_eq (a c:Nat):sliceRange (a:Int) (c:Int) 1=(List.range (c - a)).map (a+·):=by
 unfold sliceRange
 rw [if_pos (by decide),Int.ediv_one]
 dsimp only
 have hn:(if (a:Int) < c then (c:Int) - a+1 - 1 else 0).toNat=c - a:=by
  by_cases h:(a:Int) < c
  ·rw [if_pos h,Int.add_sub_cancel]; exact Int.toNat_sub c a
  ·rw [if_neg h]; exact (Nat.sub_eq_zero_of_le (Int.ofNat_le.mp (Int.not_lt.mp h))).symm
 refine hn.symm▸?_
 refine List.map_congr_left λk _=>?_
 rw [Int.one_mul]; rfl
theorem pick_none {α:Type} (lo hi:Option Int) (l:List α):pick lo hi none l=sl lo hi l:=by
 unfold pick sl
 rw [bounds_eq,range_eq,List.filterMap_map]
 exact (filterMap_range l _ _).trans (List.drop_take ..).symm
theorem RDs.places {h:Heap} {vs:List Value} {ds:List PyData} {as:List Addr} (r:RDs h vs ds as) (js:List Nat):∃bs,RDs h (js.filterMap (vs[·]?)) (js.filterMap (ds[·]?)) bs∧∀a∈bs,a∈as:=by
 induction js with
 | nil=>exact ⟨[],.nil,λ_ h=>nomatch h⟩
 | cons j js ih =>
  obtain ⟨bs,hb,hs⟩:=ih
  refine List.filterMap_cons.symm▸List.filterMap_cons.symm▸?_
  cases hn:ds[j]? with
  | some x =>
   refine cps λ_ KK=>?_
   obtain ⟨y,cs,hy,hr,hcs⟩:=r.get j x hn
   refine KK ?_
   refine hy.symm▸?_
   exact ⟨cs++bs,.cons hr hb,λa ha=>(List.mem_append.mp ha).elim (hcs a) (hs a)⟩
  | none =>
   have hv:vs[j]?=none:=by
    rw [List.getElem?_eq_none_iff] at hn ⊢
    rw [r.length]; exact hn
   refine hv.symm▸?_
   exact ⟨bs,hb,hs⟩
noncomputable def sliceD (lo hi st:Option Int):PyData->Option PyData
 | .list l=>if l.length≤lim then match st with
  | none=>some (.list (sl lo hi l))
  | some k=>if k≠0 then some (.list (pick lo hi (some k) l)) else none
  else none
 | .str x=>match st with
  | none=>if x.cps.size≤lim then some (.str ⟨⟨sl lo hi x.cps.toList⟩⟩) else none
  | _=>none
 | _=>none
theorem slice_list_ok {l sl':Addr} {items:Array Value} {vl vu vs:Value} {lo hi st:Option Int} {n:Nat} {o:Obj} {xs:List PyData} {as:List Addr} (h1:s.heap.get? l=some o) (h2:o.cls=.type "list") (h5:o.data=.seq items n)
  (r:RDs s.heap items.toList xs as) (hs:s.heap.IsSliceOf sl' vl vu vs) (pl:IsPart vl lo) (pu:IsPart vu hi) (ps:IsPart vs st) (h0:st≠some 0) (hsz:items.size≤sizeLine) :
  wpAny (model prog w) A (getItem (.ref l) (.ref sl')) (NewD s (.list (pick lo hi st xs)) (λa=>a∈as)) noE s:=by
 refine wpAny_getItem_list_slice ⟨o,h1,h2,n,h5⟩ hs pl pu ps h0 ?_ hsz
 obtain ⟨bs,hb,hbs⟩:=r.places (sliceRange (sliceBounds lo hi st xs.length).1 (sliceBounds lo hi st xs.length).2.1 (sliceBounds lo hi st xs.length).2.2)
 have hl:=r.length
 simp only [Array.length_toList] at hl
 have e:slicePick items lo hi st=((sliceRange (sliceBounds lo hi st xs.length).1 (sliceBounds lo hi st xs.length).2.1 (sliceBounds lo hi st xs.length).2.2).filterMap (items.toList[·]?)).toArray:=by
  unfold slicePick
  refine hl.symm▸?_
  simp only [Array.getElem?_toList]
 refine e.symm▸?_
 exact NewD.list (t:=s.toks) hb λa ha=>.inr (hbs a ha)
end
section
variable {prog:Program} {w:World} {A:Around} {E:Value->Shared->Prop} {s:Shared}
theorem sl_full {lo hi:Option Int} {l:List Nat} (h:(sliceRange (sliceBounds lo hi none l.length).1 (sliceBounds lo hi none l.length).2.1 (sliceBounds lo hi none l.length).2.2).length=l.length):sl lo hi l=l:=by
 rw [bounds_eq,range_eq,List.length_map,List.length_range] at h
 have hb:clip l.length hi l.length≤l.length:=clip_le (Nat.le_refl _)
 unfold sl
 by_cases hl:l.length=0
 ·have:l=[]:=List.eq_nil_of_length_eq_zero hl
  rw [this,List.take_nil,List.drop_nil]
 ·have e1:clip l.length hi l.length=l.length:=by lia
  have e2:clip l.length lo 0=0:=by lia
  exact e1.symm▸e2.symm▸List.take_length.symm▸List.drop_zero.symm▸rfl
theorem part_of {v:Value} {o:Option Int} (h:IsPart v o):∃p:Option (Int×Tok),v=partValue p∧p.map (·.1)=o:=by
 cases h with
 | none=>exact ⟨none,rfl,rfl⟩
 | int i t=>exact ⟨some (i,t),rfl,rfl⟩
theorem slice_str_ok {x:Str} {t:Tok} {sl':Addr} {vl vu:Value} {lo hi:Option Int} (hx:PyData.strOk x=true) (hs:s.heap.IsSliceOf sl' vl vu .none) (pl:IsPart vl lo) (pu:IsPart vu hi) (hsz:x.cps.size≤lim) :
  wpAny (model prog w) A (getItem (.str x t) (.ref sl')) (NewD s (.str ⟨⟨sl lo hi x.cps.toList⟩⟩) (λa=>False)) noE s:=by
 refine cps λ_ KK=>?_
 obtain ⟨l,e1,hl⟩:=part_of pl
 obtain ⟨u,e2,hu⟩:=part_of pu
 refine KK ?_
 replace hs:=e2▸e1▸hs
 have ok:PyData.strOk (⟨⟨sl lo hi x.cps.toList⟩⟩:Str)=true:=strOk_sub hx λc hc=>List.mem_of_mem_take (List.mem_of_mem_drop hc)
 have hpk:slicePicked x l u none=sliceRange (sliceBounds lo hi none x.cps.toList.length).1 (sliceBounds lo hi none x.cps.toList.length).2.1 (sliceBounds lo hi none x.cps.toList.length).2.2:=by
  rw [← hl,← hu,Array.length_toList]; rfl
 refine wpAny_getItem_str_slice (l:=l) (u:=u) (st:=none) hs rfl ?_
 unfold sliceMade
 refine hpk.symm▸?_
 split
 ·rename_i h
  have h:=(Bool.and_eq_true _ _▸h:_∧_).2
  have:=sl_full (l:=x.cps.toList) ((eq_of_beq h).trans Array.length_toList.symm)
  rw [this] at ok ⊢
  exact NewD.val (t:=s.toks) (.str _ _ hx)
 ·have e:(⟨((sliceRange (sliceBounds lo hi none x.cps.toList.length).1 (sliceBounds lo hi none x.cps.toList.length).2.1 (sliceBounds lo hi none x.cps.toList.length).2.2).filterMap (x.cps[·]?)).toArray⟩:Str)=⟨⟨sl lo hi x.cps.toList⟩⟩:=by
   rw [← pick_none]
   unfold pick
   simp only [Array.getElem?_toList]
  refine e.symm▸?_
  refine ⟨Nat.le_trans ?_ (Nat.le_trans hsz (by decide)),NewD.val (.str _ _ ok)⟩
  show (sl lo hi x.cps.toList).length≤x.cps.size
  unfold sl
  refine List.length_drop.symm▸List.length_take.symm▸Array.length_toList.symm▸?_
  exact Nat.le_trans (Nat.sub_le _ _) (Nat.min_le_right _ _)
end
section
variable {prog:Program} {w:World} {K:Addr->Option Obj} {fx:Fx}
noncomputable def itemF (a b:PV):EF:=λσ=>match rd σ.hp a,rd σ.hp b with
 | some x,some y=>match itemD x y with
  | some d=>some (.dat d,σ.hp)
  | none=>none
 | _,_=>none
theorem itemF_inv {a b:PV} {σ:St} {pv:PV} {hp':List MO} {C:Prop} (e:itemF a b σ=some (pv,hp')) (k:∀x y d,rd σ.hp a=some x->rd σ.hp b=some y->itemD x y=some d->.dat d=pv->σ.hp=hp'->C):C:=by
 unfold itemF at e
 cases h1:rd σ.hp a with
 | none=>rw [h1] at e; exact nos e
 | some x=>cases h2:rd σ.hp b with
  | none=>rw [h1,h2] at e; exact nos e
  | some y =>
   replace e:=h2▸h1▸e
   have e:(match itemD x y with | some d=>some (PV.dat d,σ.hp) | none=>none)=some (pv,hp'):=e
   cases h3:itemD x y with
   | none=>rw [h3] at e; exact nos e
   | some z =>
    replace e:=h3▸e
    exact k x y z h1 h2 h3 (sop e).1 (sop e).2
theorem ItemP.post {s s':Shared} {d:PyData} {as:List Addr} {v:Value} {ρ:Rho} {Z:List Addr} {hp:List MO} (n:ItemP s d as v s') (H:HR ρ Z hp s.heap) (q:∀a∈as.tail,a∉muts ρ∧a∉Z):Post ρ Z s (.dat d) hp v s':=by
 refine cps λ_ KK=>?_
 obtain ⟨⟨t,rfl⟩,cs,r,hcs⟩:=n
 refine KK ?_
 exact Post.of_toks H ⟨cs,r,λc hc=>q c (hcs c hc)⟩
theorem Ev.sub {e i:Expr} {pos:Pos} {F G:EF} (he:Ev prog w K fx e F) (hi:Ev prog w K fx i G):Ev prog w K fx (.Subscript e i pos) (bindE F λa=>bindE G λb=>itemF a b):=.mk λA ρ Z σ s pv hp' Rm R q =>
 Subscript_ (he.then2 hi Rm R q λa b va vb h2 ρ_2 s_2 e2 x v_1 v_2 R_2=>itemF_inv e2 λx' y d hx hy hd h1 h2 =>
  (rd_RD R_2.hr v_1 hx).elim λas ra=>(rd_RD R_2.hr v_2 hy).elim λbs rb =>
  wpAny_mono (item_ok ra.1 rb.1 hd) (λv s_3 n=>h1▸h2▸Post.trans x (ItemP.post n R_2.hr ra.2)) λ_ _ q=>q)
abbrev PF:=St->Option (Option Int×List MO)
structure EvP (prog:Program) (w:World) (K:Addr->Option Obj) (fx:Fx) (e:Option Expr) (F:PF):Prop where
 run:∀(A:Around) (ρ:Rho) (Z:List Addr) (σ:St) (s:Shared) (o:Option Int) (hp':List MO),Room A fx.k->SR K fx ρ Z σ s->F σ=some (o,hp') ->
  wpAny (model prog w) A (evalPart e fx.env) (λv s'=>IsPart v o∧∃ρ',Ext [] ρ s ρ' s'∧HR ρ' Z hp' s'.heap) noE s
noncomputable def noP:PF:=λσ=>some (none,σ.hp)
noncomputable def someP (F:EF):PF:=bindE F λp σ=>match rd σ.hp p with
 | some (.int i)=>some (some i,σ.hp)
 | _=>none
noncomputable def PartP (ρ:Rho) (Z:List Addr) (s:Shared) (o:Option Int) (hp':List MO) (v:Value) (s':Shared):Prop:=IsPart v o∧∃ρ',Ext [] ρ s ρ' s'∧HR ρ' Z hp' s'.heap
theorem PartP.mk {ρ ρ':Rho} {Z:List Addr} {s s':Shared} {o o':Option Int} {hp hp':List MO} {v:Value} (i:IsPart v o') (x:Ext [] ρ s ρ' s') (H:HR ρ' Z hp s'.heap) (e:some (o',hp)=some (o,hp')):PartP ρ Z s o hp' v s':=⟨(sop e).1▸i,ρ',x,(sop e).2▸H⟩
theorem EvP.none_:EvP prog w K fx none noP:=.mk λA ρ Z σ s o hp' Rm R q=>evalPart_none fx.env▸wpAny_pure (PartP.mk .none (Ext.refl _ _ _) R.hr q)
theorem someP_inv {r:Option PyData} {hp hp':List MO} {o:Option Int} {C:Prop} (e:(match r with | some (.int i)=>some (some i,hp) | _=>none)=some (o,hp')) (k:∀i,r=some (.int i)->some (some i,hp)=some (o,hp')->C):C:=by
 cases r with
 | none=>exact nos e
 | some d=>cases d with
  | int i=>exact k i rfl e
  | _=>exact nos e
theorem EvP.some_ {e:Expr} {F:EF} (h:Ev prog w K fx e F):EvP prog w K fx (some e) (someP F):=.mk λA ρ Z σ s o hp' Rm R q=>by
 rw [evalPart_some]
 refine h.then Rm R q λa va h1 ρ_1 s_1 e1 x_1 v_1 R_1=>someP_inv e1 λi hi e=>?_
 refine cps λ_ KK=>?_
 obtain ⟨as,ra,_⟩:=rd_RD R_1.hr v_1 hi
 obtain ⟨t,hv,_⟩:=ra.int_
 refine KK ?_
 exact hv▸PartP.mk (.int _ _) x_1 R_1.hr e
noncomputable def bindP {α:Type} (F:PF) (G:Option Int->St->Option (α×List MO)):St->Option (α×List MO):=λσ=>match F σ with
 | some (o,hp)=>G o ⟨σ.loc,hp⟩
 | none=>none
theorem EvP.then {α:Type} {e:Option Expr} {F:PF} {G:Option Int->St->Option (α×List MO)} (h:EvP prog w K fx e F) {A:Around} {ρ:Rho} {Z:List Addr} {σ:St} {s:Shared} {r:α×List MO} (Rm:Room A fx.k) (R:SR K fx ρ Z σ s)
  (q:bindP F G σ=some r) {Q:Value->Shared->Prop}
  (k:∀o v h1 ρ_1 s_1,G o ⟨σ.loc,h1⟩=some r->Ext [] ρ s ρ_1 s_1->IsPart v o->SR K fx ρ_1 Z ⟨σ.loc,h1⟩ s_1->Q v s_1):wpAny (model prog w) A (evalPart e fx.env) Q noE s:=by
 unfold bindP at q
 cases e1:F σ with
 | none=>rw [e1] at q; exact nos q
 | some x =>
  replace q:=e1▸q
  exact wpAny_mono (h.run A ρ Z σ s _ _ Rm R e1) (λv s_1 p=>p.2.elim λρ_1 p2=>k x.1 v x.2 ρ_1 s_1 q p2.1 p.1 (R.next p2.1 p2.2)) λ_ _ q=>q
noncomputable def sliceF (lo hi st:Option Int) (a:PV):NF:=λσ=>match rd σ.hp a with
 | some x=>match sliceD lo hi st x with
  | some d=>some (d,σ.hp)
  | none=>none
 | none=>none
theorem sliceF_inv {lo hi st:Option Int} {a:PV} {σ:St} {d:PyData} {hp':List MO} {C:Prop} (e:sliceF lo hi st a σ=some (d,hp')) (k:∀x,rd σ.hp a=some x->sliceD lo hi st x=some d->σ.hp=hp'->C):C:=by
 unfold sliceF at e
 cases h1:rd σ.hp a with
 | none=>rw [h1] at e; exact nos e
 | some x =>
  rw [h1] at e
  have e:(match sliceD lo hi st x with | some d=>some (d,σ.hp) | none=>none)=some (d,hp'):=e
  cases h3:sliceD lo hi st x with
  | none=>rw [h3] at e; exact nos e
  | some z =>
   rw [h3] at e
   exact k x h1 (by rw [h3,(sop e).1]) (sop e).2
inductive SlI (lo hi st:Option Int) (x d:PyData):Prop
 | li (l:List PyData):x=.list l->l.length≤lim->st≠some 0->.list (pick lo hi st l)=d->SlI lo hi st x d
 | si (y:Str):x=.str y->st=none->y.cps.size≤lim->.str ⟨⟨sl lo hi y.cps.toList⟩⟩=d->SlI lo hi st x d
theorem sliceD_inv {lo hi st:Option Int} {x d:PyData} (e:sliceD lo hi st x=some d):SlI lo hi st x d:=by
 cases st with
 | none=>cases x with
  | list l=>exact iteo e λh e=>.li l rfl h (λq=>nos q) (by rw [pick_none]; exact sos e)
  | str y=>exact ite_inv e λh e=>.si y rfl rfl h e
  | _=>exact nos e
 | some k=>cases x with
  | list l=>exact iteo e λh e=>ite_inv e λh0 e=>.li l rfl h (λq=>h0 (sos q)) e
  | _=>exact nos e
theorem slice_ok {A:Around} {s:Shared} {e:Expr} {slx:Expr} {vl vu vk va:Value} {lo hi st:Option Int} {x d:PyData} {as:List Addr} (ra:RD s.heap va x as) (hd:sliceD lo hi st x=some d) (pl:IsPart vl lo) (pu:IsPart vu hi) (pk:IsPart vk st) {i:Addr} (hs:s.heap.IsSliceOf i vl vu vk) :
  wpAny (model prog w) A (subscriptTail e slx va (.ref i)) (NewD s d (λa=>a∈as.tail)) noE s:=by
 cases sliceD_inv hd with
 | li l h1 hl h0 h2 =>
  obtain ⟨a,vs,n,as',rfl,has,g1,hln,g6⟩:=(h1▸ra:RD s.heap va (.list l) as).list_
  refine h2▸has.symm▸?_
  exact my_tail (T:="list") ⟨_,g1,rfl⟩ list_getitem_lookup (slice_list_ok g1 rfl rfl g6 hs pl pu pk h0 (hln.symm▸Nat.le_trans hl (by decide)))
 | si y h1 h0 hl h2 =>
  obtain ⟨t,rfl,_,hx⟩:=(h1▸ra:RD s.heap va (.str y) as).str_
  replace pk:=h0▸pk
  have hk:vk=.none:=by cases pk; rfl
  refine h2▸?_
  exact my_tail (typeIs_str _ y t) PySem.F.slot_str_getitem.lookup (wpAny_mono (slice_str_ok hx (hk▸hs) pl pu hl) (λv s' n=>NewD.weak n λ_ h=>h.elim) λ_ _ q=>q)
theorem EvN.slice {e:Expr} {lo hi st:Option Expr} {p pos:Pos} {F:EF} {L U S:PF} (he:Ev prog w K fx e F) (hl:EvP prog w K fx lo L) (hu:EvP prog w K fx hi U) (hs:EvP prog w K fx st S) :
  EvN prog w K fx (.Subscript e (.Slice lo hi st p) pos) (bindE F λa=>bindP L λl=>bindP U λu=>bindP S λk=>sliceF l u k a):=.mk λA ρ Z σ s d hp' Rm R q =>
 Subscript_ (he.then Rm R q λa va h1 ρ_1 s_1 e1 x_1 v_1 R_1=>wpAny_Slice (hl.then Rm R_1 e1 λl vl h2 ρ_2 s_2 e2 x_2 pl R_2=>hu.then Rm R_2 e2 λu vu h3 ρ_3 s_3 e3 x_3 pu R_3=>hs.then Rm R_3 e3 λk vk h4 ρ_4 s_4 e4 x_4 pk R_4=>sliceF_inv e4 λx hx hd hh =>
  have xa:=(x_2.trans x_3).trans x_4
  (rd_RD R_4.hr (v_1.ext xa (λ_ h=>nin h)) hx).elim λas ra =>
  have hk:∀b o,s_4.heap.get? b=some o->(s_4.heap.push { cls:=.type "slice",data:=.fields #[vl,vu,vk] }).get? b=some o:=λb o e=>Heap.get?_push_of_some _ e
  wpAny_mono (slice_ok (ra.1.keep λa _ o e=>hk a o e) hd pl pu pk (Heap.IsSliceOf.new ..)) (λv s_5 nd=>⟨_,_,_,(x_1.trans xa).trans (Ext.of_keep (X:=[]) (ρ:=ρ_4) (s:=s_4) (t:=s_4.toks) hk),hh▸R_4.hr.keep hk,nd,ra.2⟩) λ_ _ q=>q))
end
section
variable {prog:Program} {w:World} {K:Addr->Option Obj} {fx:Fx} {mg mb:Str->Option Value}
theorem global_name (gl:Gl K mg mb) {x:Str} {v:Value} {pos:Pos} {A:Around} {ρ:Rho} {Z:List Addr} {σ:St} {s:Shared} {Q:Value->Shared->Prop} {E:Value->Shared->Prop} (R:SR K fx ρ Z σ s)
  (hk:fx.sc.names.lookup x=some .globalImplicit) (hv:mg x=some v∨(mg x=none∧mb x=some v)) (hQ:Q v s) (hd:(x==("__debug__":Str))=false):wpAny (model prog w) A (eval (.Name x pos) fx.env) Q E s:=by
 refine wpAny_Name ?_ hd
 have hkind:fx.env.kindOf x=some .globalImplicit:=by unfold Env.kindOf; rw [R.er.sc]; exact hk
 refine (loadName_read R.er.fn hkind).symm▸?_
 have g:=gl.g s.heap R.top
 have b:=gl.b s.heap R.top
 replace g:=R.er.glob.symm▸g
 replace b:=R.er.bi.symm▸b
 rcases hv with h | ⟨h,h'⟩
 ·exact loadGlobal_global g h hQ
 ·exact loadGlobal_builtin g h b h' hQ
end
noncomputable def sumI:List PyData->Option Int
 | []=>some 0
 | .int i::r=>(sumI r).map (i+·)
 | _=>none
noncomputable def lenD:PyData->Option PyData
 | .list l=>if l.length≤lim then some (.int l.length) else none
 | .tuple l=>if l.length≤lim then some (.int l.length) else none
 | .str x=>if x.cps.size≤lim then some (.int x.cps.size) else none
 | _=>none
noncomputable def chars (l:List Nat):List PyData:=l.map λc=>.str ⟨⟨[c]⟩⟩
theorem sumI_ints {h:Heap} {vs:List Value} {ds:List PyData} {as:List Addr} {n:Int} (x:RDs h vs ds as) (e:sumI ds=some n):∃xs:List (Int×Tok),vs=xs.map (λp=>.int p.1 p.2)∧(xs.map (·.1)).sum=n:=by
 revert n
 refine RDs.ind (Q:=λvs ds _=>∀{n:Int},sumI ds=some n->∃xs:List (Int×Tok),vs=xs.map (λp=>.int p.1 p.2)∧(xs.map (·.1)).sum=n) (λe=>⟨[],rfl,sos e⟩) (λ{v vs d ds as bs} x _ ih n e=>?_) x
 cases d with
 | int i =>
  refine cps λ_ KK=>?_
  obtain ⟨m,hm,h2⟩:=Option.map_eq_some_iff.mp (show (sumI ds).map (i+·)=some n from e)
  obtain ⟨xs,hv,hs⟩:=ih hm
  obtain ⟨t,hx,_⟩:=x.int_
  refine KK ?_
  exact ⟨(i,t)::xs,by rw [hx,hv]; rfl,by rw [List.map_cons,List.sum_cons,hs]; exact h2⟩
 | _=>exact nos e
section
variable {prog:Program} {w:World} {A:Around} {s:Shared}
theorem len_ok {d r:PyData} {v:Value} {as:List Addr} {P:Addr->Prop} (x:RD s.heap v d as) (e:lenD d=some r):wpAny (model prog w) A (call (.builtin "len") [v]) (NewD s r P) noE s:=by
 cases d with
 | list l =>
  refine cps λ_ KK=>?_
  obtain ⟨a,vs,n,bs,hv,_,h1,hlen,_⟩:=x.list_
  refine KK ?_
  refine ite_inv e λhl hr=>?_
  refine hv.symm▸hr▸hlen▸?_
  exact PySem.Calls.call_len_list ⟨_,h1,rfl,n,rfl⟩ (by unfold lim at hl; lia) (NewD.val (.int _ _))
 | tuple l =>
  refine cps λ_ KK=>?_
  obtain ⟨a,o,vs,n,bs,hv,_,h1,h2,h3,hlen,_⟩:=x.tuple_
  refine KK ?_
  refine ite_inv e λhl hr=>?_
  refine hv.symm▸hr▸hlen▸?_
  exact PyProof.Rows.len_tuple (items:=vs) ⟨o,h1,h2,n,h3⟩ (by unfold lim at hl; lia) (NewD.val (.int _ _))
 | str y =>
  refine cps λ_ KK=>?_
  obtain ⟨t,hv,_,_⟩:=x.str_
  refine KK ?_
  refine ite_inv e λhl hr=>?_
  refine hv.symm▸hr▸?_
  exact PySem.P.len_str (λh=>absurd (Int.le_trans h (Int.ofNat_le.mpr hl)) (by decide)) (NewD.val (.int _ _))
 | _=>exact nos e
theorem NewD.of_keep {d:PyData} {v:Value} {h:Heap} {t:Nat} {P:Addr->Prop} (k:∀b o,s.heap.get? b=some o->h.get? b=some o) (r:RD h v d []):NewD s d P v { s with heap:=h,toks:=t } :=
 ⟨h,t,[],rfl,k,r,(λ_ h=>nin h),(λ_ h=>nos h)⟩
theorem sum_ok {l:List PyData} {n:Int} {v:Value} {as:List Addr} {P:Addr->Prop} (hh:A.handled=none) (x:RD s.heap v (.list l) as) (e:sumI l=some n):wpAny (model prog w) A (call (.builtin "sum") [v]) (NewD s (.int n) P) noE s:=by
 obtain ⟨a,vs,m,bs,hv,_,h1,_,h6⟩:=x.list_
 obtain ⟨xs,hx,hs⟩:=sumI_ints h6 e
 have hvs:vs=intItems xs.toArray:=by
  apply Array.ext'
  refine hx.symm▸?_
  simp [intItems]
 have hp:preSum (numAt xs.toArray) xs.toArray.size=n:=by
  rw [preSum_eq,List.take_of_length_le (by simp)]
  exact hs
 refine hv.symm▸hp▸?_
 exact PySem.sum_intListG (xs:=xs.toArray) hh ⟨_,h1,rfl,m,hvs.symm▸rfl⟩ λh' tk t' k=>NewD.of_keep k (.int _ _)
theorem int_ok {b:Bool} {P:Addr->Prop}:wpAny (model prog w) A (call (.type "int") [.bool b]) (NewD s (.int (if b then 1 else 0)) P) noE s:=call_int_bool (NewD.val (.int _ _))
theorem fresh_back {h h':Heap} {a:Addr} (k:∀b o,h.get? b=some o->h'.get? b=some o) (e:h'.get? a=none):h.get? a=none:=by
 cases q:h.get? a with
 | none=>rfl
 | some o=>exact nos (e.symm.trans (k a o q))
theorem NewD.tupleAt {h':Heap} {t:Nat} {vs:List Value} {l:List PyData} {as:List Addr} {P:Addr->Prop} (k:∀b o,s.heap.get? b=some o->h'.get? b=some o) (r:RDs h' vs l as) (q:∀a∈as,P a) :
  NewD s (.tuple l) P (.ref h'.objs.size) { s with heap:=h'.push { cls:=.type "tuple",data:=.seq vs.toArray },toks:=t }:=by
 have n:h'.get? h'.objs.size=none:=Heap.get?_none_of_le (Nat.le_refl _)
 exact ⟨_,t,h'.objs.size::as,rfl,λb o e=>Heap.get?_push_of_some _ (k b o e),.tuple (Heap.get?_push_size _ rfl) rfl rfl (r.keep λa _ o e=>Heap.get?_push_of_some _ e),λa ha=>(List.mem_cons.mp ha).elim (λe=>.inl (e▸fresh_back k n)) λha=>.inr (q a ha),
  λa e=>sos e▸⟨fresh_back k n,λm=>(r.live _ m).elim λo e=>nos (n.symm.trans e)⟩⟩
theorem tuple_ok {l:List PyData} {v:Value} {as:List Addr} (x:RD s.heap v (.list l) as) (hl:l.length≤lim):wpAny (model prog w) A (call (.type "tuple") [v]) (NewD s (.tuple l) (λa=>a∈as.tail)) noE s:=by
 obtain ⟨a,vs,m,bs,hv,has,h1,hlen,h6⟩:=x.list_
 refine hv.symm▸has.symm▸?_
 exact call_tuple_list ⟨_,h1,rfl,m,rfl⟩ (λh' k=>NewD.tupleAt (vs:=vs.toList) k (h6.keep (λa _ o e=>k a o e)) λ_ h=>h) (hlen.symm▸Nat.le_trans hl (by decide))
theorem RDs.of_get {h:Heap} {vs:List Value} {ds:List PyData} (hl:vs.length=ds.length) (k:∀(i:Nat) v d,vs[i]?=some v->ds[i]?=some d->RD h v d []):RDs h vs ds []:=by
 induction vs generalizing ds with
 | nil=>cases ds with
  | nil=>exact .nil
  | cons d ds=>cases hl
 | cons v vs ih=>cases ds with
  | nil=>cases hl
  | cons d ds=>exact .cons (k 0 v d rfl rfl) (ih (Nat.succ.inj hl) λi v d hv hd=>k (i+1) v d hv hd)
theorem list_str_ok {x:Str} {t:Tok} {P:Addr->Prop} (hh:A.handled=none) (hx:PyData.strOk x=true) (hl:x.cps.size≤lim):wpAny (model prog w) A (call (.type "list") [.str x t]) (NewD s (.list (chars x.cps.toList)) P) noE s:=by
 refine call_list_str hh x t (λh' tk acc c k hg hi=>?_) (by show _≤2 ^ 24; unfold lim at hl; (exact Nat.le_trans (by assumption) (by decide)))
 have hr:RDs h' acc.toList (chars x.cps.toList) []:=by
  refine RDs.of_get (by rw [Array.length_toList,hi.1,chars,List.length_map,Array.length_toList]) λi v d hv hd=>?_
  obtain ⟨c',u,hc,rfl⟩:=hi.2 i v (by simpa using hv)
  unfold chars at hd
  replace hd:=hc▸(Array.getElem?_toList)▸(List.getElem?_map)▸hd
  cases hd
  refine .str _ _ (strOk_sub hx λy hy=>?_)
  have:y=c':=by simpa using hy
  refine this.symm▸?_
  exact List.mem_of_getElem? ((Array.getElem?_toList).symm▸hc)
 refine ⟨h',tk,s.heap.objs.size::[],rfl,k,.list hg rfl rfl rfl rfl hr,λa ha=>?_,λa ha=>?_⟩
 ·rcases List.mem_cons.mp ha with rfl | ha
  ·exact .inl (Heap.get?_none_of_le (Nat.le_refl _))
  ·exact nin ha
 ·cases ha
  exact ⟨Heap.get?_none_of_le (Nat.le_refl _),List.not_mem_nil⟩
end
inductive B1 where
 | len | sum | int | tuple | list
noncomputable def B1.name:B1->Str
 | .len=>"len" | .sum=>"sum" | .int=>"int" | .tuple=>"tuple" | .list=>"list"
noncomputable def B1.val:B1->Value
 | .len=>.builtin "len" | .sum=>.builtin "sum" | .int=>.type "int" | .tuple=>.type "tuple" | .list=>.type "list"
noncomputable def B1.f:B1->PyData->Option PyData
 | .len=>lenD
 | .sum=>λd=>match d with
  | .list l=>(sumI l).map .int
  | _=>none
 | .int=>λd=>match d with
  | .bool b=>some (.int (if b then 1 else 0))
  | _=>none
 | .tuple=>λd=>match d with
  | .list l=>if l.length≤lim then some (.tuple l) else none
  | _=>none
 | .list=>λd=>match d with
  | .str x=>if x.cps.size≤lim then some (.list (chars x.cps.toList)) else none
  | _=>none
theorem b1_ok {prog:Program} {w:World} {A:Around} {s:Shared} (b:B1) {d r:PyData} {v:Value} {as:List Addr} (hh:A.handled=none) (x:RD s.heap v d as) (e:b.f d=some r) :
  wpAny (model prog w) A (call b.val [v]) (NewD s r (λa=>a∈as.tail)) noE s:=by
 cases b with
 | len=>exact len_ok x e
 | sum=>cases d with
  | list l=>exact (Option.map_eq_some_iff.mp (show (sumI l).map .int=some r from e)).elim λn q=>q.2▸sum_ok hh x q.1
  | _=>exact nos e
 | int=>cases d with
  | bool c=>rw [x.bool_.1,← sos e]; exact int_ok
  | _=>exact nos e
 | tuple=>cases d with
  | list l=>exact ite_inv e λhl hr=>hr▸tuple_ok x hl
  | _=>exact nos e
 | list=>cases d with
  | str y =>
   refine cps λ_ KK=>?_
   obtain ⟨t,hv,_,q⟩:=x.str_
   refine KK ?_
   exact ite_inv e λhl hr=>hv▸hr▸list_str_ok hh q hl
  | _=>exact nos e
section
variable {prog:Program} {w:World} {K:Addr->Option Obj} {fx:Fx} {mg mb:Str->Option Value}
noncomputable def map1 (f:PyData->Option PyData) (a:PV):NF:=λσ=>match rd σ.hp a with
 | some x=>match f x with
  | some d=>some (d,σ.hp)
  | none=>none
 | none=>none
theorem map1_inv {f:PyData->Option PyData} {a:PV} {σ:St} {d:PyData} {hp':List MO} {C:Prop} (e:map1 f a σ=some (d,hp')) (k:∀x,rd σ.hp a=some x->f x=some d->σ.hp=hp'->C):C:=by
 unfold map1 at e
 cases h1:rd σ.hp a with
 | none=>rw [h1] at e; exact nos e
 | some x =>
  rw [h1] at e
  have e:(match f x with | some d=>some (d,σ.hp) | none=>none)=some (d,hp'):=e
  cases h3:f x with
  | none=>rw [h3] at e; exact nos e
  | some z =>
   rw [h3] at e
   exact k x h1 (by rw [h3,(sop e).1]) (sop e).2
theorem callWith_val {A:Around} {E:Value->Shared->Prop} {s:Shared} {env:Env} {pos:Pos} {f:Value} {e:Expr} {rest:List Expr} {Q:Value->Shared->Prop} (hf:(∃id,f=.builtin id)∨∃T,f=.type T)
  (h:wpAny (model prog w) A (spliced (backTo pos (starEach (e::rest) env))) (λvs s_1=>wpAny (model prog w) A (call f vs) Q E s_1) E s)
  (he:starEach (e::rest) env=(false,eval e env)::starEach rest env) (hplain:(backTo pos (starEach rest env)).any (·.1)=false) :
  wpAny (model prog w) A (callWith pos f [] (backTo pos (starEach (e::rest) env)) []) Q E s:=by
 rw [he] at h ⊢
 rcases hf with ⟨id,rfl⟩ | ⟨T,rfl⟩
 ·exact callWith_builtin (by show (false||(backTo pos (starEach rest env)).any (·.1))=false; rw [hplain]; rfl) (evalArgs_plain h)
 ·exact PySem.callWith_type (by show (false||(backTo pos (starEach rest env)).any (·.1))=false; rw [hplain]; rfl) (evalArgs_plain h)
theorem EvN.call1 (gl:Gl K mg mb) (b:B1) {e:Expr} {pos np:Pos} {F:EF} (he:Ev prog w K fx e F) (hk:fx.sc.names.lookup b.name=some .globalImplicit) (hg:mg b.name=none) (hb:mb b.name=some b.val)
  (hs:∀env,starEach [e] env=[(false,eval e env)]:=by intro _; rfl) :
  EvN prog w K fx (.Call (.Name b.name np) [e] [] pos) (bindE F (map1 b.f)):=.mk λA ρ Z σ s d hp' Rm R q=>by
 refine Call_ (global_name gl R hk (.inr ⟨hg,hb⟩) ?_ (by cases b<;>decide))
 refine callWith_val (by cases b<;>first | exact .inl ⟨_,rfl⟩ | exact .inr ⟨_,rfl⟩) ?_ (hs _) rfl
 exact wpAny_items_cons (he.then Rm R q λa va h1 ρ_1 s_1 e1 x_1 v_1 R_1=>wpAny_items_nil (map1_inv e1 λx hx hd hh=>(rd_RD R_1.hr v_1 hx).elim λas ra =>
  wpAny_mono (b1_ok b Rm.handled ra.1 hd) (λv s_2 n=>⟨_,_,_,x_1,hh▸R_1.hr,n,ra.2⟩) λ_ _ q=>q)) (hs _)
theorem RDs.uncons {h:Heap} {vs:List Value} {d:PyData} {ds:List PyData} {as:List Addr} (x:RDs h vs (d::ds) as):∃v r bs cs,vs=v::r∧RD h v d bs∧RDs h r ds cs:=by
 generalize e:d::ds=l at x
 cases x with
 | nil=>exact ncn e
 | cons y r=>cases e; exact ⟨_,_,_,_,rfl,y,r⟩
theorem RDs.unnil {h:Heap} {vs:List Value} {as:List Addr} (x:RDs h vs [] as):vs=[]:=by
 generalize e:([]:List PyData)=l at x
 cases x with
 | nil=>rfl
 | cons y r=>cases e
theorem RD.unint {h:Heap} {v:Value} {i:Int} {as:List Addr} (x:RD h v (.int i) as):∃t,v=.int i t:=by
 cases x; exact ⟨_,rfl⟩
end
section
variable {ρ ρ':Rho} {Z:List Addr} {h h':Heap}
theorem moves_own (k:∀a o,a∉Z->h.get? a=some o->h'.get? a=some o):Moves ρ ρ Z Z h h':=λa o h1 h2 e=>⟨k a o h2 e,h1,h2⟩
theorem VR.own (k:∀a o,a∉Z->h.get? a=some o->h'.get? a=some o) {p:PV} {v:Value} (r:VR ρ Z h p v):VR ρ Z h' p v:=VR.map (λ_ _ e=>e) (moves_own k) r
theorem MR.own (k:∀a o,a∉Z->h.get? a=some o->h'.get? a=some o) {r b:Addr} (hb:b∉Z) {mo:MO} (x:MR ρ Z h r b mo):MR ρ Z h' r b mo:=MR.map (λ_ _ e=>e) (moves_own k) (λo=>k b o hb) x
theorem HR.own {hp:List MO} (H:HR ρ Z hp h) (k:∀a o,a∉Z->h.get? a=some o->h'.get? a=some o) (lv:∀a o,h.get? a=some o->∃o',h'.get? a=some o'):HR ρ Z hp h' :=
 ⟨H.len,H.nodup,H.offZ,λa ha=>let ⟨o,e⟩:=H.liveZ a ha; lv a o e,λi mo e=>by
  obtain ⟨r,b,hr,hm⟩:=H.at_ i mo e
  exact ⟨r,b,hr,hm.own k (H.offZ b (List.mem_map_of_mem (f:=Prod.snd) (List.mem_of_getElem? hr)))⟩⟩
end
section
variable {K:Addr->Option Obj} {fx:Fx} {ρ ρ':Rho} {Z:List Addr} {σ:St} {s s':Shared} {prog:Program} {w:World} {A:Around}
noncomputable def StoreOK (fx:Fx) (x:Str):Prop:=fx.env.kindOf x=some .local∨∃c,fx.env.kindOf x=some .cell∧fx.env.cells.lookup x=some c∧c∈fx.own
theorem SR.own1 {h:Heap} {t:Nat} {a:Addr} {loc':Loc} (R:SR K fx ρ Z σ s) (ha:a∈fx.own) (sb:Heap.SameBut a s.heap h) (lv:∃o,h.get? a=some o) (er:EnvR fx ρ Z loc' h) :
  Ext fx.own ρ s ρ { s with heap:=h,toks:=t }∧SR K fx ρ Z ⟨loc',σ.hp⟩ { s with heap:=h,toks:=t }:=by
 have haZ:=R.er.ownZ a ha
 have k:∀b o,b≠a->s.heap.get? b=some o->h.get? b=some o:=λb o hb e=>sb.extBut b o hb e
 have lv':∀b o,s.heap.get? b=some o->∃o',h.get? b=some o':=λb o e=>by
  by_cases q:b=a
  ·exact q▸lv
  ·exact ⟨o,k b o q e⟩
 exact ⟨⟨⟨[],by simp,λ_ h=>nin h⟩,λb o _ hX e=>k b o (λq=>hX (q▸ha)) e,lv',rfl,rfl,λ_ _ e=>e,λh=>h⟩,
  R.hr.own (λb o hb e=>k b o (λq=>hb (q▸haZ)) e) lv',er,λb o e=>k b o (λq=>(R.off b (e.symm▸λq=>nso q)).2 (q▸haZ)) (R.top b o e),R.off⟩
theorem set_get {loc:Loc} {i j:Nat} {pv p:PV} (h:(loc.set i (some pv))[j]?=some (some p)):(i=j∧p=pv)∨(i≠j∧loc[j]?=some (some p)):=by
 rw [List.getElem?_set] at h
 by_cases hij:i=j
 ·rw [if_pos hij] at h
  exact iteo h λ_ e=>.inl ⟨hij,(sos (sos e)).symm⟩
 ·rw [if_neg hij] at h
  exact .inr ⟨hij,h⟩
theorem slot_local {env:Env} {m cm:Str->Option Value} {x y:Str} {v u:Value} (hk:env.kindOf x=some .local) (h:(y=x->u=v)∧(y≠x->slotV env m cm y=some u)):slotV env (λn=>if n=x then some v else m n) cm y=some u:=by
 by_cases q:y=x
 ·refine (h.1 q).symm▸q.symm▸?_
  unfold slotV
  refine hk.symm▸?_
  exact if_pos rfl
 ·have e:=h.2 q
  unfold slotV at e ⊢
  refine slot_kind e (λh1 h2=>?_) λh1 h2=>?_
  ·refine h1.symm▸?_
   exact (if_neg q).trans h2
  ·rcases h1 with h1 | h1<;>rw [h1]<;>exact h2
theorem slot_cell {env:Env} {m cm:Str->Option Value} {x y:Str} {v u:Value} {c:Addr} (hk:env.kindOf x=some .cell) (hl:env.cells.lookup x=some c) (h:(y=x->u=v)∧(y≠x->slotV env m cm y=some u)):slotV env m (λn=>if n=x then some v else cm n) y=some u:=by
 by_cases q:y=x
 ·refine (h.1 q).symm▸q.symm▸?_
  unfold slotV
  refine hk.symm▸hl.symm▸?_
  exact if_pos rfl
 ·have e:=h.2 q
  unfold slotV at e ⊢
  refine slot_kind e (λh1 h2=>?_) λh1 h2=>?_
  ·rw [h1]; exact h2
  ·rcases h1 with h1 | h1<;>rw [h1]<;>exact (congrArg (λz=>(env.cells.lookup y).bind λ_=>z) (if_neg q)).trans h2
theorem vars_set (R:EnvR fx ρ Z σ.loc s.heap) {m cm m' cm':Str->Option Value} {i:Nat} {x:Str} {pv:PV} {v:Value} {h':Heap} (hv:fx.vars.lookup i=some x) (r:VR ρ Z s.heap pv v) (k:∀b o,b∉Z->s.heap.get? b=some o->h'.get? b=some o)
  (hvs:∀i x pv,fx.vars.lookup i=some x->σ.loc[i]?=some (some pv)->∃v,slotV fx.env m cm x=some v∧VR ρ Z s.heap pv v) (hs:∀y u,((y=x->u=v)∧(y≠x->slotV fx.env m cm y=some u))->slotV fx.env m' cm' y=some u) :
  ∀j y p,fx.vars.lookup j=some y->(σ.loc.set i (some pv))[j]?=some (some p)->∃v,slotV fx.env m' cm' y=some v∧VR ρ Z h' p v:=by
 intro j y p hj hl
 rcases set_get hl with ⟨q1,q2⟩ | ⟨hij,hl⟩
 ·have:x=y:=sos (hv.symm.trans (q1▸hj))
  exact ⟨v,hs y v ⟨λ_=>rfl,λq=>absurd this.symm q⟩,q2▸r.own k⟩
 ·obtain ⟨u,hu,hr⟩:=hvs j y p hj hl
  exact ⟨u,hs y u ⟨λq=>absurd (R.vinj j i x (q▸hj) hv).symm hij,λ_=>hu⟩,hr.own k⟩
theorem SR.store (R:SR K fx ρ Z σ s) {i:Nat} {x:Str} {pv:PV} {v:Value} (hv:fx.vars.lookup i=some x) (ok:StoreOK fx x) (r:VR ρ Z s.heap pv v) {Q:Unit->Shared->Prop}
  (hQ:∀s',Ext fx.own ρ s ρ s'->SR K fx ρ Z ⟨σ.loc.set i (some pv),σ.hp⟩ s'->Q () s'):wpAny (model prog w) A (storeName fx.env x v) Q noE s:=by
 refine cps λ_ KK=>?_
 obtain ⟨m,cm,hn,hc,hvs⟩:=R.er.ex
 refine KK ?_
 rcases ok with hk | ⟨c,hk,hl,hco⟩
 ·refine wpAny_storeName_local hk hn (λh' hn' sb=>?_) (by rw [R.er.fn]; rfl)
  have k:∀b o,b∉Z->s.heap.get? b=some o->h'.get? b=some o:=λb o hb e=>sb.extBut b o (λq=>hb (q▸R.er.ownZ _ R.er.lown)) e
  have hx:=R.own1 (t:=s.toks+1) (loc':=σ.loc.set i (some pv)) R.er.lown sb (Ns.live hn') ⟨⟨_,cm,hn',λn c e=>IsCell.keep (hc n c e) λo ho=>sb.extBut c o (R.er.cell n c e).2 ho,vars_set R.er hv r k hvs λy u h=>slot_local hk h⟩,R.er.fn,R.er.sc,R.er.vinj,R.er.glob,R.er.bi,R.er.lown,R.er.ownZ,R.er.lmut,R.er.cell,R.er.inj⟩
  exact hQ _ hx.1 hx.2
 ·refine wpAny_storeName_cell R.er.fn hk hl (hc x c hl) λh' hc' sb=>?_
  have k:∀b o,b∉Z->s.heap.get? b=some o->h'.get? b=some o:=λb o hb e=>sb.extBut b o (λq=>hb (q▸R.er.ownZ _ hco)) e
  have hx:=R.own1 (t:=s.toks) (loc':=σ.loc.set i (some pv)) hco sb (hc'.elim λo q=>⟨o,q.1⟩) ⟨⟨m,λn=>if n=x then some v else cm n,Ns.keep hn λo e=>sb.extBut _ o (λq=>(R.er.cell x c hl).2 q.symm) e,λn c' e=>?_,vars_set R.er hv r k hvs λy u h=>slot_cell hk hl h⟩,R.er.fn,R.er.sc,R.er.vinj,R.er.glob,R.er.bi,R.er.lown,R.er.ownZ,R.er.lmut,R.er.cell,R.er.inj⟩
  ·exact hQ _ hx.1 hx.2
  ·show h'.IsCell c' (if n=x then some v else cm n)
   by_cases q:n=x
   ·have:c'=c:=sos ((q▸e:fx.env.cells.lookup x=some c').symm.trans hl)
    refine (if_pos q).symm▸this.symm▸?_
    exact hc'
   ·refine (if_neg q).symm▸?_
    exact IsCell.keep (hc n c' e) λo ho=>sb.extBut c' o (λq'=>q (R.er.inj n x c (q'▸e) hl)) ho
end
inductive Fl where
 | next | brk | cont | ret (v:PV)
noncomputable def FlR (ρ:Rho) (Z:List Addr) (h:Heap):Fl->Flow->Prop
 | .next,f=>f=.next
 | .brk,f=>f=.brk
 | .cont,f=>f=.cont
 | .ret pv,f=>∃v,f=.ret v∧VR ρ Z h pv v
abbrev XF:=St->Option (Fl×St)
noncomputable def PostX (K:Addr->Option Obj) (fx:Fx) (ρ:Rho) (Z:List Addr) (s:Shared) (fl:Fl) (σ':St) (f:Flow) (s':Shared):Prop :=
 ∃ρ',Ext fx.own ρ s ρ' s'∧SR K fx ρ' Z σ' s'∧FlR ρ' Z s'.heap fl f
structure Ex (prog:Program) (w:World) (K:Addr->Option Obj) (fx:Fx) (st:Stmt) (F:XF):Prop where
 run:∀(A:Around) (ρ:Rho) (Z:List Addr) (σ:St) (s:Shared) (fl:Fl) (σ':St),Room A fx.k->SR K fx ρ Z σ s->F σ=some (fl,σ') ->
  wpAny (model prog w) A (exec st fx.env) (PostX K fx ρ Z s fl σ') noE s
structure Exs (prog:Program) (w:World) (K:Addr->Option Obj) (fx:Fx) (st:List Stmt) (F:XF):Prop where
 run:∀(A:Around) (ρ:Rho) (Z:List Addr) (σ:St) (s:Shared) (fl:Fl) (σ':St),Room A fx.k->SR K fx ρ Z σ s->F σ=some (fl,σ') ->
  wpAny (model prog w) A (execs st fx.env) (PostX K fx ρ Z s fl σ') noE s
noncomputable def nextF:XF:=λσ=>some (.next,σ)
noncomputable def seqF (F G:XF):XF:=λσ=>match F σ with
 | some (.next,σ')=>G σ'
 | r=>r
section
variable {prog:Program} {w:World} {K:Addr->Option Obj} {fx:Fx} {A:Around} {ρ ρ_1 ρ':Rho} {Z:List Addr} {σ σ':St} {s s_1 s_2 s':Shared}
theorem PostX.trans {fl:Fl} {f:Flow} {X:List Addr} (x:Ext X ρ s ρ_1 s_1) (hX:∀a∈X,a∈fx.own) (p:PostX K fx ρ_1 Z s_1 fl σ' f s'):PostX K fx ρ Z s fl σ' f s' :=
 Exists.elim p λρ' q=>⟨ρ',(x.weak hX).trans q.1,q.2⟩
theorem PostX.eq {fl fl':Fl} {σ_1:St} {f:Flow} (e:some (fl',σ_1)=some (fl,σ')) (p:PostX K fx ρ Z s fl' σ_1 f s'):PostX K fx ρ Z s fl σ' f s':=(sop e).1▸(sop e).2▸p
theorem noX {Y:List Addr}:∀a∈([]:List Addr),a∈Y:=λ_ h=>nin h
theorem Exs.nil:Exs prog w K fx [] nextF:=.mk λA ρ Z σ s fl σ' _ R e=>wpAny_execs_nil (PostX.eq e ⟨ρ,Ext.refl _ _ _,R,rfl⟩)
theorem seqF_inv {F G:XF} {fl:Fl} {C:Prop} (e:seqF F G σ=some (fl,σ')) (k1:∀σ_1,F σ=some (.next,σ_1)->G σ_1=some (fl,σ')->C) (k2:F σ=some (fl,σ')->fl≠.next->C):C:=by
 unfold seqF at e
 cases h:F σ with
 | none=>rw [h] at e; exact nos e
 | some x =>
  obtain ⟨fl',σ_1⟩:=x
  replace e:=h▸e
  cases fl' with
  | next=>exact k1 σ_1 h e
  | _=>exact k2 (h.trans e) (λq=>nomatch (sop e).1.trans q)
theorem Exs.cons {st:Stmt} {rest:List Stmt} {F G:XF} (h:Ex prog w K fx st F) (k:Exs prog w K fx rest G):Exs prog w K fx (st::rest) (seqF F G):=.mk λA ρ Z σ s fl σ' Rm R e =>
 wpAny_execs_cons (seqF_inv e (λσ_1 e1 e2=>wpAny_mono (h.run A ρ Z σ s _ _ Rm R e1) (λf s_1 p=>by
  obtain ⟨ρ_1,x_1,R_1,q⟩:=p
  refine (show f=.next from q).symm▸?_
  exact wpAny_mono (k.run A ρ_1 Z σ_1 s_1 _ _ Rm R_1 e2) (λf s_2 p=>p.trans x_1 λ_ h=>h) λ_ _ q=>q) λ_ _ q=>q)
  λe1 hn=>wpAny_mono (h.run A ρ Z σ s _ _ Rm R e1) (λf s_1 p=>by
   cases fl with
   | next=>exact absurd rfl hn
   | ret pv=>obtain ⟨ρ_1,x_1,R_1,v,hf,r⟩:=p; rw [hf]; exact ⟨ρ_1,x_1,R_1,v,rfl,r⟩
   | brk=>obtain ⟨ρ_1,x_1,R_1,q⟩:=p; rw [show f=.brk from q]; exact ⟨ρ_1,x_1,R_1,rfl⟩
   | cont=>obtain ⟨ρ_1,x_1,R_1,q⟩:=p; rw [show f=.cont from q]; exact ⟨ρ_1,x_1,R_1,rfl⟩) λ_ _ q=>q)
noncomputable def setF (i:Nat):PV->St->Option (Fl×St):=λpv σ=>some (.next,⟨σ.loc.set i (some pv),σ.hp⟩)
noncomputable def bindX (F:EF) (G:PV->St->Option (Fl×St)):XF:=λσ=>match F σ with
 | some (v,hp)=>G v ⟨σ.loc,hp⟩
 | none=>none
theorem bindX_some {F:EF} {G:PV->St->Option (Fl×St)} {σ:St} {r:Fl×St} (e:bindX F G σ=some r):∃v hp,F σ=some (v,hp)∧G v ⟨σ.loc,hp⟩=some r:=by
 unfold bindX at e
 cases h:F σ with
 | none=>rw [h] at e; exact nos e
 | some x=>rw [h] at e; exact ⟨x.1,x.2,rfl,e⟩
theorem Ev.thenX {e:Expr} {F:EF} {G:PV->St->Option (Fl×St)} (h:Ev prog w K fx e F) {A:Around} {ρ:Rho} {Z:List Addr} {σ:St} {s:Shared} {r:Fl×St} (Rm:Room A fx.k) (R:SR K fx ρ Z σ s)
  (q:bindX F G σ=some r) {Q:Value->Shared->Prop}
  (k:∀a v h1 ρ_1 s_1,G a ⟨σ.loc,h1⟩=some r->Ext [] ρ s ρ_1 s_1->VR ρ_1 Z s_1.heap a v->SR K fx ρ_1 Z ⟨σ.loc,h1⟩ s_1->Q v s_1):wpAny (model prog w) A (eval e fx.env) Q noE s:=by
 obtain ⟨a,h1,e1,e2⟩:=bindX_some q
 refine wpAny_mono (h.run A ρ Z σ s _ _ Rm R e1) (λv s_1 p=>?_) λ_ _ q=>q
 obtain ⟨ρ_1,x_1,v_1,H_1⟩:=p
 exact k a v h1 ρ_1 s_1 e2 x_1 v_1 (R.next x_1 H_1)
theorem Ex.assign {x:Str} {i:Nat} {p p':Pos} {e:Expr} {F:EF} (hv:fx.vars.lookup i=some x) (ok:StoreOK fx x) (he:Ev prog w K fx e F) (hs:swapsWith e (some (.Name x p)) p'.line fx.env=pure false) :
  Ex prog w K fx (.Assign [.Name x p] e p') (bindX F (setF i)):=.mk λA ρ Z σ s fl σ' Rm R q =>
 wpAny_Assign_Name (he.thenX Rm R q λa v h1 ρ_1 s_1 e1 x_1 v_1 R_1=>R_1.store hv ok v_1 λs_2 x_2 R_2=>PostX.eq e1 ⟨ρ_1,(x_1.weak noX).trans x_2,R_2,rfl⟩) hs
theorem Ex.ret {e:Expr} {p:Pos} {F:EF} (he:Ev prog w K fx e F):Ex prog w K fx (.Return (some e) p) (bindX F λpv σ=>some (.ret pv,σ)):=.mk λA ρ Z σ s fl σ' Rm R q =>
 wpAny_Return_some (he.thenX Rm R q λa v h1 ρ_1 s_1 e1 x_1 v_1 R_1=>PostX.eq e1 ⟨ρ_1,x_1.weak noX,R_1,v,rfl,v_1⟩)
theorem Ex.brk {p:Pos}:Ex prog w K fx (.Break p) (λσ=>some (.brk,σ)):=.mk λA ρ Z σ s fl σ' Rm R q=>wpAny_Break (PostX.eq q ⟨ρ,Ext.refl _ _ _,R,rfl⟩)
theorem Ex.cont {p:Pos}:Ex prog w K fx (.Continue p) (λσ=>some (.cont,σ)):=.mk λA ρ Z σ s fl σ' Rm R q=>wpAny_Continue (PostX.eq q ⟨ρ,Ext.refl _ _ _,R,rfl⟩)
theorem Ex.expr {e:Expr} {p:Pos} {F:EF} (he:Ev prog w K fx e F) (hi:interactive fx.env=false) (hs:swapsWith e none p.line fx.env=pure false) :
  Ex prog w K fx (.Expr e p) (bindX F λpv σ=>match pv with
   | .dat .none=>some (.next,σ)
   | _=>none):=.mk λA ρ Z σ s fl σ' Rm R q=>by
 refine wpAny_Expr (he.thenX Rm R q λa v h1 ρ_1 s_1 e1 x_1 v_1 R_1=>?_) hi hs
 cases a with
 | dat d=>cases d with
  | none =>
   obtain ⟨as,r,_⟩:=v_1
   refine r.none_.1.symm▸?_
   exact PostX.eq e1 ⟨ρ_1,x_1.weak noX,R_1,rfl⟩
  | _=>exact nos e1
 | _=>exact nos e1
noncomputable def ifF (F:St->Option (Bool×List MO)) (G H:XF):XF:=λσ=>match F σ with
 | some (b,hp)=>if b then G ⟨σ.loc,hp⟩ else H ⟨σ.loc,hp⟩
 | none=>none
end
structure ExtG (X:List Addr) (G:Nat->Prop) (ρ:Rho) (s:Shared) (ρ':Rho) (s':Shared):Prop where
 e:Ext X ρ { s with gens:=#[] } ρ' { s' with gens:=#[] }
 gens:∀(g:Nat) (st:GenState),¬ G g->s.gens[g]?=some st->s'.gens[g]?=some st
 bare:AllBare s.gens->AllBare s'.gens
section
variable {X Y Z:List Addr} {G:Nat->Prop} {ρ ρ' ρ_0 ρ_1 ρ_2:Rho} {s s' s_0 s_1 s_2:Shared}
theorem Ext.toG (x:Ext X ρ s ρ' s'):ExtG X G ρ s ρ' s':=⟨⟨x.more,x.heap,x.live,x.drawn,x.os,λ_ _ e=>e,λh=>h⟩,λg st _ e=>x.gens g st e,x.bare⟩
theorem ExtG.refl:ExtG X G ρ s ρ s:=(Ext.refl X ρ s).toG
theorem ExtG.trans (x:ExtG X G ρ_0 s_0 ρ_1 s_1) (y:ExtG X G ρ_1 s_1 ρ_2 s_2):ExtG X G ρ_0 s_0 ρ_2 s_2:=⟨x.e.trans y.e,λg st h e=>y.gens g st h (x.gens g st h e),λh=>y.bare (x.bare h)⟩
theorem ExtG.weak (x:ExtG X G ρ s ρ' s') (h:∀a∈X,a∈Y):ExtG Y G ρ s ρ' s':=⟨x.e.weak h,x.gens,x.bare⟩
theorem ExtG.ext (x:ExtG X G ρ s ρ' s') (h:∀a∈X,a∈Y∨s.heap.get? a=none) (hg:∀g st,s.gens[g]?=some st->¬ G g):Ext Y ρ s ρ' s' :=
 let y:=x.e.shrink (Y:=Y) h
 ⟨y.more,y.heap,y.live,y.drawn,y.os,λg st e=>x.gens g st (hg g st e) e,x.bare⟩
end
section
variable {K:Addr->Option Obj} {fx:Fx} {ρ ρ':Rho} {Z Z' wr:List Addr} {σ:St} {s s':Shared} {hp:List MO}
noncomputable def Off (fx:Fx) (wr:List Addr):Prop:=fx.env.locals∉wr∧∀n c,fx.env.cells.lookup n=some c->c∉wr
theorem FrameK.ext {X:List Addr} (R:SR K fx ρ Z σ s) (x:Ext X ρ s ρ' s') (off:Off fx X):FrameK fx s.heap s'.heap:=⟨λo e=>x.heap _ o R.er.lmut off.1 e,λn c e o q=>x.heap c o (R.er.cell n c e).1 (off.2 n c e) q⟩
theorem SR.extX {X:List Addr} {hp':List MO} (R:SR K fx ρ Z σ s) (x:Ext X ρ s ρ' s') (hX:∀a∈X,a∈Z) (off:Off fx X) (H:HR ρ' Z hp' s'.heap):SR K fx ρ' Z ⟨σ.loc,hp'⟩ s' :=
 R.map (λ_ _ e=>x.old e) (x.moves hX) (FrameK.ext R x off) (λa o e h=>x.notin e h) R.er.ownZ H
theorem SR.gens0 (R:SR K fx ρ Z σ s) {g:Array GenState}:SR K fx ρ Z σ { s with gens:=g }:=⟨R.hr,R.er,R.top,R.off⟩
theorem SR.extG {X:List Addr} {G:Nat->Prop} {hp':List MO} (R:SR K fx ρ Z σ s) (x:ExtG X G ρ s ρ' s') (hX:∀a∈X,a∈Z) (off:Off fx X) (H:HR ρ' Z hp' s'.heap):SR K fx ρ' Z ⟨σ.loc,hp'⟩ s' :=
 have R1:=(R.gens0 (g:=#[])).extX x.e hX off H
 ⟨R1.hr,R1.er,R1.top,R1.off⟩
theorem SR.offFresh (R:SR K fx ρ Z σ s) (hw:∀a∈wr,s.heap.get? a=none):Off fx wr:=by
 obtain ⟨m,cm,hn,hc,_⟩:=R.er.ex
 exact ⟨λq=>(Ns.live hn).elim λo e=>nos ((hw _ q).symm.trans e),λn c e q=>(hc n c e).elim λo h=>nos ((hw _ q).symm.trans h.1)⟩
theorem moves_more {h h':Heap} (hw:∀a∈wr,h.get? a=none) (k:∀b o,h.get? b=some o->h'.get? b=some o):Moves ρ ρ Z (wr++Z) h h':=λa o h1 h2 e=>⟨k a o e,h1,λm=>(List.mem_append.mp m).elim (λm=>nos ((hw a m).symm.trans e)) h2⟩
theorem moves_weak {h:Heap} (hZ:∀a∈Z',a∈Z):Moves ρ ρ Z Z' h h:=λa o h1 h2 e=>⟨e,h1,λm=>h2 (hZ a m)⟩
theorem MR.more {h h':Heap} (hw:∀a∈wr,h.get? a=none) (k:∀b o,h.get? b=some o->h'.get? b=some o) {r b:Addr} {mo:MO} (x:MR ρ Z h r b mo):MR ρ (wr++Z) h' r b mo:=MR.map (λ_ _ e=>e) (moves_more hw k) (k b) x
theorem HR.more {h h':Heap} (H:HR ρ Z hp h) (hw:∀a∈wr,h.get? a=none) (k:∀b o,h.get? b=some o->h'.get? b=some o) (lv:∀a∈wr,∃o,h'.get? a=some o):HR ρ (wr++Z) hp h' :=
 ⟨H.len,H.nodup,λb hb m=>(List.mem_append.mp m).elim (λm=>(H.live b hb).elim λo e=>nos ((hw b m).symm.trans e)) (H.offZ b hb),
  λa ha=>(List.mem_append.mp ha).elim (lv a) λha=>(H.liveZ a ha).elim λo e=>⟨o,k a o e⟩,λi mo e=>AtR.rec (motive:=λ_=>AtR ρ (wr++Z) h' i mo) (λr b hr hm=>⟨r,b,hr,hm.more hw k⟩) (H.at_ i mo e)⟩
theorem SR.more (R:SR K fx ρ Z σ s) (hw:∀a∈wr,s.heap.get? a=none) (k:∀b o,s.heap.get? b=some o->s'.heap.get? b=some o) (lv:∀a∈wr,∃o,s'.heap.get? a=some o):SR K fx ρ (wr++Z) σ s' :=
 R.map (λ_ _ e=>e) (moves_more hw k) ⟨k _,λ_ c _=>k c⟩ (λ_ _ _ h=>h) (λa ha=>List.mem_append_right _ (R.er.ownZ a ha)) (R.hr.more hw k lv)
theorem MR.weak {h:Heap} (hZ:∀a∈Z',a∈Z) {r b:Addr} {mo:MO} (x:MR ρ Z h r b mo):MR ρ Z' h r b mo:=MR.map (λ_ _ e=>e) (moves_weak hZ) (λ_ e=>e) x
theorem HR.weak {h:Heap} (H:HR ρ Z hp h) (hZ:∀a∈Z',a∈Z):HR ρ Z' hp h :=
 ⟨H.len,H.nodup,λb hb m=>H.offZ b hb (hZ b m),λa ha=>H.liveZ a (hZ a ha),λi mo e=>AtR.rec (motive:=λ_=>AtR ρ Z' h i mo) (λr b hr hm=>⟨r,b,hr,hm.weak hZ⟩) (H.at_ i mo e)⟩
theorem SR.weak (R:SR K fx ρ Z σ s) (hZ:∀a∈Z',a∈Z) (ho:∀a∈fx.own,a∈Z'):SR K fx ρ Z' σ s :=
 R.map (λ_ _ e=>e) (moves_weak hZ) ⟨λ_ e=>e,λ_ _ _ _ e=>e⟩ (λ_ _ _ h=>h) ho (R.hr.weak hZ)
theorem SR.extZ {X Z_2:List Addr} {G:Nat->Prop} {hp':List MO} (R:SR K fx ρ Z σ s) (x:ExtG X G ρ s ρ' s') (hX:∀a∈X,a∈Z_2) (off:Off fx X) (hZ:∀a∈Z_2,a∈Z∨s.heap.get? a=none) (ho:∀a∈fx.own,a∈Z_2) (H:HR ρ' Z_2 hp' s'.heap):SR K fx ρ' Z_2 ⟨σ.loc,hp'⟩ s':=by
 have e':=x.e
 have nz:∀a o,a∉Z->s.heap.get? a=some o->a∉Z_2:=λa o h e m=>(hZ a m).elim h λn=>nos (n.symm.trans e)
 exact R.map (λ_ _ e=>e'.old e) (λa o h1 h2 e=>⟨e'.heap a o h1 (λq=>nz a o h2 e (hX a q)) e,e'.notin (o:=o) e h1,nz a o h2 e⟩) (FrameK.ext (s:={ s with gens:=#[] }) (s':={ s' with gens:=#[] }) (R.gens0 (g:=#[])) e' off) (λa o e h=>e'.notin (o:=o) e h) ho H
theorem SR.extD {X w_2:List Addr} {G:Nat->Prop} {hp':List MO} (R:SR K fx ρ Z σ s) (x:ExtG X G ρ s ρ' s') (hX:∀a∈X,a∈Z) (off:Off fx X) (hw:∀a∈w_2,s.heap.get? a=none) (H:HR ρ' (w_2++Z) hp' s'.heap):SR K fx ρ' (w_2++Z) ⟨σ.loc,hp'⟩ s' :=
 R.extZ x (λa h=>List.mem_append_right _ (hX a h)) off (λa h=>(List.mem_append.mp h).elim (λh=>.inr (hw a h)) .inl) (λa h=>List.mem_append_right _ (R.er.ownZ a h)) H
theorem HR.drop {h h':Heap} (H:HR ρ (wr++Z) hp h) (hZ:∀a∈wr,a∉Z) (k:∀b o,b∉wr->h.get? b=some o->h'.get? b=some o):HR ρ Z hp h' :=
 ⟨H.len,H.nodup,λb hb m=>H.offZ b hb (List.mem_append_right _ m),λa ha=>(H.liveZ a (List.mem_append_right _ ha)).elim λo e=>⟨o,k a o (λq=>hZ a q ha) e⟩,λi mo e =>
  AtR.rec (motive:=λ_=>AtR ρ Z h' i mo) (λr b hr hm=>⟨r,b,hr,MR.map (λ_ _ e=>e) (λa o h1 h2 e=>⟨k a o (λq=>h2 (List.mem_append_left _ q)) e,h1,λq=>h2 (List.mem_append_right _ q)⟩)
   (λo=>k b o λq=>H.offZ b (List.mem_map_of_mem (f:=Prod.snd) (List.mem_of_getElem? hr)) (List.mem_append_left _ q)) hm⟩) (H.at_ i mo e)⟩
theorem SR.drop {h':Heap} {t:Nat} (R:SR K fx ρ (wr++Z) σ s) (hZ:∀a∈wr,a∉Z) (off:Off fx wr) (ho:∀a∈fx.own,a∈Z) (k:∀b o,b∉wr->s.heap.get? b=some o->h'.get? b=some o):SR K fx ρ Z σ { s with heap:=h',toks:=t } :=
 R.map (s':={ s with heap:=h',toks:=t }) (λ_ _ e=>e) (λa o h1 h2 e=>⟨k a o (λq=>h2 (List.mem_append_left _ q)) e,h1,λq=>h2 (List.mem_append_right _ q)⟩) ⟨λo=>k _ o off.1,λn c e o=>k c o (off.2 n c e)⟩ (λ_ _ _ h=>h) ho (R.hr.drop hZ k)
theorem Ext.drop {X:List Addr} {h':Heap} {t:Nat} {s_1:Shared} (x:Ext X ρ s ρ' s_1) (hw:∀a∈wr,s.heap.get? a=none) (k:∀b o,b∉wr->s_1.heap.get? b=some o->h'.get? b=some o):Ext X ρ s ρ' { s_1 with heap:=h',toks:=t } :=
 have n:∀b o,s.heap.get? b=some o->b∉wr:=λb o e q=>by rw [hw b q] at e; cases e
 ⟨x.more,λb o hb hX e=>k b o (n b o e) (x.heap b o hb hX e),λb o e=>let ⟨o',e'⟩:=x.live b o e; ⟨o',k b o' (n b o e) e'⟩,x.drawn,x.os,x.gens,x.bare⟩
end
inductive IS where
 | rem (l:List PyData)
 | trk (i k:Nat)
abbrev StepF:=IS->List MO->Option (Option (PyData×IS)×List MO)
noncomputable def stepI:StepF
 | .rem [],hp=>some (none,hp)
 | .rem (d::l),hp=>some (some (d,.rem l),hp)
 | .trk i k,hp=>match hp[i]? with
  | some (.lst l)=>match l[k]? with
   | some d=>some (some (d,.trk i (k+1)),hp)
   | none=>some (none,hp)
  | _=>none
inductive DoneP (wr:List Addr) (G:Nat->Prop) (ρ:Rho) (Z:List Addr) (s:Shared) (hp':List MO) (r:Option Value) (s':Shared):Prop
 | mk:r=none->∀(ρ':Rho) (s_1:Shared) (h':Heap) (tk:Nat),ExtG wr G ρ s ρ' s_1->HR ρ' Z hp' s_1.heap->s'={ s_1 with heap:=h',toks:=tk }->(∀b o,b∉wr->s_1.heap.get? b=some o->h'.get? b=some o)->DoneP wr G ρ Z s hp' r s'
inductive GoP (wr:List Addr) (G:Nat->Prop) (ρ:Rho) (Z:List Addr) (s:Shared) (hp':List MO) (d:PyData) (v:Value) (J:Rho->Shared->Prop) (s'':Shared):Prop
 | mk (ρ':Rho):ExtG wr G ρ s ρ' s''->HR ρ' Z hp' s''.heap->VR ρ' Z s''.heap (.dat d) v->J ρ' s''->GoP wr G ρ Z s hp' d v J s''
inductive GoD (wr:List Addr) (G:Nat->Prop) (ρ:Rho) (Z:List Addr) (s:Shared) (hp':List MO) (d:PyData) (v:Value) (J:List Addr->Rho->Shared->Prop) (s'':Shared):Prop
 | mk (ρ':Rho) (w_2:List Addr):(∀a∈w_2,s.heap.get? a=none)->ExtG wr G ρ s ρ' s''->HR ρ' (w_2++Z) hp' s''.heap->VR ρ' (w_2++Z) s''.heap (.dat d) v->J w_2 ρ' s''->GoD wr G ρ Z s hp' d v J s''
inductive NextP (prog:Program) (w:World) (A:Around) (tg:Expr) (it:Value) (Q:Value->Shared->Prop) (r:Option Value) (s':Shared):Prop
 | mk (v:Value):r=some v->wpAny (model prog w) A (letOwnedTupleGo tg it v) (λ_=>Q v) noE s'->NextP prog w A tg it Q r s'
structure Iter (prog:Program) (w:World) (A:Around) (it:Value) (tg:Expr) (wr:List Addr) (G:Nat->Prop) (step:StepF) (J:IS->Rho->List Addr->Shared->Prop):Prop where
 ext:∀{l ρ Z s X ρ' s'},J l ρ Z s->Ext X ρ s ρ' s'->(∀a∈X,a∈Z∧a∉wr)->J l ρ' Z s'
 next:∀{l hp d l' hp' ρ Z s},step l hp=some (some (d,l'),hp')->J l ρ Z s->HR ρ Z hp s.heap->(∀a∈wr,a∈Z)->wpAny (model prog w) A (pyNext it) (NextP prog w A tg it λv=>GoP wr G ρ Z s hp' d v λρ'=>J l' ρ' Z) noE s
 done:∀{l hp hp' ρ Z s},step l hp=some (none,hp')->J l ρ Z s->HR ρ Z hp s.heap->(∀a∈wr,a∈Z)->wpAny (model prog w) A (pyNext it) (DoneP wr G ρ Z s hp') noE s
 self:∀{l hp r ρ Z s} {Q:Value->Shared->Prop},step l hp=some r->J l ρ Z s->HR ρ Z hp s.heap->Q it s->wpAny (model prog w) A (pyIter it) Q noE s
 more:∀{l ρ Z Z' s s'},J l ρ Z s->(∀a∈Z',a∈Z∨s.heap.get? a=none)->(∀b o,s.heap.get? b=some o->s'.heap.get? b=some o)->(∀(g:Nat) (st:GenState),s.gens[g]?=some st->s'.gens[g]?=some st)->J l ρ Z' s'
structure IterD (prog:Program) (w:World) (A:Around) (it:Value) (tg:Expr) (G:Nat->Prop) (step:StepF) (J:IS->List Addr->Rho->List Addr->Shared->Prop):Prop where
 ext:∀{l wr ρ Z s X ρ' s'},J l wr ρ Z s->Ext X ρ s ρ' s'->(∀a∈X,a∈Z∧a∉wr)->J l wr ρ' Z s'
 next:∀{l wr hp d l' hp' ρ Z s},step l hp=some (some (d,l'),hp')->J l wr ρ Z s->HR ρ Z hp s.heap->(∀a∈wr,a∈Z)->wpAny (model prog w) A (pyNext it) (NextP prog w A tg it λv=>GoD wr G ρ Z s hp' d v λw_2 ρ'=>J l' (w_2++wr) ρ' (w_2++Z)) noE s
 done:∀{l wr hp hp' ρ Z s},step l hp=some (none,hp')->J l wr ρ Z s->HR ρ Z hp s.heap->(∀a∈wr,a∈Z)->wpAny (model prog w) A (pyNext it) (DoneP wr G ρ Z s hp') noE s
 self:∀{l wr hp r ρ Z s} {Q:Value->Shared->Prop},step l hp=some r->J l wr ρ Z s->HR ρ Z hp s.heap->Q it s->wpAny (model prog w) A (pyIter it) Q noE s
 more:∀{l wr ρ Z Z' s s'},J l wr ρ Z s->(∀a∈Z',a∈Z∨s.heap.get? a=none)->(∀b o,s.heap.get? b=some o->s'.heap.get? b=some o)->(∀(g:Nat) (st:GenState),s.gens[g]?=some st->s'.gens[g]?=some st)->J l wr ρ Z' s'
theorem NextP.mono {prog:Program} {w:World} {A:Around} {tg:Expr} {it:Value} {Q Q':Value->Shared->Prop} {r:Option Value} {s':Shared} (n:NextP prog w A tg it Q r s') (k:∀v s,Q v s->Q' v s):NextP prog w A tg it Q' r s':=by
 obtain ⟨v,h,p⟩:=n
 exact ⟨v,h,wpAny_mono p (λ_ s q=>k v s q) λ_ _ q=>q⟩
theorem Iter.toD {prog:Program} {w:World} {A:Around} {it:Value} {tg:Expr} {wr:List Addr} {G:Nat->Prop} {step:StepF} {J:IS->Rho->List Addr->Shared->Prop} (W:Iter prog w A it tg wr G step J) :
  IterD prog w A it tg G step (λl wr' ρ Z s=>wr'=wr∧J l ρ Z s) where
 ext:=λj x hX=>⟨j.1,W.ext j.2 x (j.1▸hX)⟩
 next:=λ{l wr' hp d l' hp' ρ Z s} e j H hw=>by
  obtain ⟨h,j⟩:=j
  subst h
  exact wpAny_mono (W.next e j H hw) (λr s' p=>p.mono λv s'' p=>by
   obtain ⟨ρ',x,H',V,j'⟩:=p
   exact ⟨ρ',[],(λ_ h=>nin h),x,H',V,rfl,j'⟩) λ_ _ q=>q
 done:=λe j H hw=>j.1▸W.done e j.2 H (j.1▸hw)
 self:=λe j H hQ=>W.self e j.2 H hQ
 more:=λj hZ k g=>⟨j.1,W.more j.2 hZ k g⟩
inductive PostI (prog:Program) (w:World) (A:Around) (tg:Expr) (step:StepF) (ρ:Rho) (Z:List Addr) (s:Shared) (is:IS) (hp':List MO) (it:Value) (s':Shared):Prop
 | mk (ρ_1:Rho) (s_1:Shared) (wr:List Addr) (G:Nat->Prop) (J:IS->List Addr->Rho->List Addr->Shared->Prop):Ext [] ρ s ρ_1 s_1->HR ρ_1 Z hp' s_1.heap->Ext [] ρ_1 s_1 ρ_1 s'->(∀b o,s_1.heap.get? b=some o->s'.heap.get? b=some o)->(∀a∈wr,s_1.heap.get? a=none) ->
  (∀a∈wr,∃o,s'.heap.get? a=some o)->(∀g,G g->s_1.gens[g]?=none)->J is wr ρ_1 (wr++Z) s'->IterD prog w A it tg G step J->PostI prog w A tg step ρ Z s is hp' it s'
abbrev SF:=St->Option ((IS×Nat)×List MO)
structure EvI (prog:Program) (w:World) (K:Addr->Option Obj) (fx:Fx) (e tg:Expr) (step:StepF) (F:SF):Prop where
 run:∀(A:Around) (ρ:Rho) (Z:List Addr) (σ:St) (s:Shared) (is:IS) (n:Nat) (hp':List MO),Room A fx.k->SR K fx ρ Z σ s->F σ=some ((is,n),hp') ->
  wpAny (model prog w) A (eval e fx.env) (λx s_1=>wpAny (model prog w) A (pyIter x) (PostI prog w A tg step ρ Z s is hp') noE s_1) noE s
structure As (prog:Program) (w:World) (K:Addr->Option Obj) (fx:Fx) (tg:Expr) (T:PyData->Loc->Option Loc):Prop where
 run:∀(A:Around) (ρ:Rho) (Z:List Addr) (σ:St) (s:Shared) (d:PyData) (v:Value) (loc':Loc),Room A fx.k->SR K fx ρ Z σ s->VR ρ Z s.heap (.dat d) v->T d σ.loc=some loc' ->
  wpAny (model prog w) A (assign tg fx.env v) (λ_ s'=>Ext fx.own ρ s ρ s'∧SR K fx ρ Z ⟨loc',σ.hp⟩ s') noE s
noncomputable def forF (step:StepF) (T:PyData->Loc->Option Loc) (B:XF):Nat->IS->XF
 | 0,_=>λ_=>none
 | n+1,is=>λσ=>match step is σ.hp with
  | none=>none
  | some (none,hp)=>some (.next,⟨σ.loc,hp⟩)
  | some (some (d,is'),hp)=>match T d σ.loc with
   | none=>none
   | some loc=>match B ⟨loc,hp⟩ with
    | some (.next,σ_2)=>forF step T B n is' σ_2
    | some (.cont,σ_2)=>forF step T B n is' σ_2
    | some (.brk,σ_2)=>some (.next,σ_2)
    | some (.ret v,σ_2)=>some (.ret v,σ_2)
    | none=>none
noncomputable def bindI (F:SF) (G:IS->Nat->XF):XF:=λσ=>match F σ with
 | some ((is,n),hp)=>G is n ⟨σ.loc,hp⟩
 | none=>none
section
variable {prog:Program} {w:World} {K:Addr->Option Obj} {fx:Fx}
theorem bindI_some {F:SF} {G:IS->Nat->XF} {σ:St} {r:Fl×St} (e:bindI F G σ=some r):∃is n hp,F σ=some ((is,n),hp)∧G is n ⟨σ.loc,hp⟩=some r:=by
 unfold bindI at e
 cases h:F σ with
 | none=>rw [h] at e; exact nos e
 | some x=>rw [h] at e; exact ⟨x.1.1,x.1.2,x.2,rfl,e⟩
inductive ForI (step:StepF) (T:PyData->Loc->Option Loc) (B:XF) (k:Nat) (is:IS) (σ:St) (fl:Fl) (σ':St):Prop
 | done (hp:List MO):step is σ.hp=some (none,hp)->some (Fl.next,⟨σ.loc,hp⟩)=some (fl,σ')->ForI step T B k is σ fl σ'
 | turn (d:PyData) (is':IS) (hp:List MO) (loc:Loc) (fl':Fl) (σ_2:St):step is σ.hp=some (some (d,is'),hp)->T d σ.loc=some loc->B ⟨loc,hp⟩=some (fl',σ_2) ->
  ((fl'=.next∨fl'=.cont)∧forF step T B k is' σ_2=some (fl,σ')∨fl'=.brk∧some (Fl.next,σ_2)=some (fl,σ')∨(∃v,fl'=.ret v)∧some (fl',σ_2)=some (fl,σ'))->ForI step T B k is σ fl σ'
theorem forF_inv {step:StepF} {T:PyData->Loc->Option Loc} {B:XF} {k:Nat} {is:IS} {σ:St} {fl:Fl} {σ':St} (e:forF step T B (k+1) is σ=some (fl,σ')):ForI step T B k is σ fl σ':=by
 rw [forF] at e
 dsimp only at e
 cases h1:step is σ.hp with
 | none=>rw [h1] at e; exact nos e
 | some x =>
  obtain ⟨x,hp⟩:=x
  replace e:=h1▸e
  cases x with
  | none=>exact .done hp h1 e
  | some x =>
   obtain ⟨d,is'⟩:=x
   dsimp only at e
   cases h2:T d σ.loc with
   | none=>rw [h2] at e; exact nos e
   | some loc =>
    replace e:=h2▸e
    dsimp only at e
    cases h3:B ⟨loc,hp⟩ with
    | none=>rw [h3] at e; exact nos e
    | some y =>
     obtain ⟨fl',σ_2⟩:=y
     replace e:=h3▸e
     refine .turn d is' hp loc fl' σ_2 h1 h2 h3 ?_
     cases fl' with
     | next=>exact .inl ⟨.inl rfl,e⟩
     | cont=>exact .inl ⟨.inr rfl,e⟩
     | brk=>exact .inr (.inl ⟨rfl,e⟩)
     | ret v=>exact .inr (.inr ⟨⟨v,rfl⟩,e⟩)
inductive ForJ (K:Addr->Option Obj) (fx:Fx) (Z:List Addr) (G:Nat->Prop) (J:IS->List Addr->Rho->List Addr->Shared->Prop) (F:IS->XF) (fl:Fl) (σ':St) (ρ_1:Rho) (s_1:Shared) (s':Shared):Prop
 | mk (ρ':Rho) (σ_0:St) (is':IS) (wr':List Addr):(∀a∈wr',s_1.heap.get? a=none)->ExtG (wr'++fx.own) G ρ_1 s_1 ρ' s'->SR K fx ρ' (wr'++Z) σ_0 s'->J is' wr' ρ' (wr'++Z) s'->F is' σ_0=some (fl,σ')->ForJ K fx Z G J F fl σ' ρ_1 s_1 s'
section
variable {A:Around} {ρ ρ' ρ_1 ρ_3:Rho} {Z wr' W' X:List Addr} {σ_0 σ_2:St} {s s' s_1 s_4 s_5 s_6:Shared} {G:Nat->Prop} {hp:List MO} {d:PyData} {v:Value} {fl:Fl} {f:Flow} {h':Heap} {tk:Nat}
inductive GoF (K:Addr->Option Obj) (fx:Fx) (wr':List Addr) (G:Nat->Prop) (ρ':Rho) (Z:List Addr) (s':Shared) (σ:St) (d:PyData) (v:Value) (J:List Addr->Rho->List Addr->Shared->Prop) (s_4:Shared):Prop
 | mk (W':List Addr) (ρ_3:Rho):(∀a∈wr',a∈W')->(∀a∈W',s'.heap.get? a=none∨a∈wr')->ExtG wr' G ρ' s' ρ_3 s_4->SR K fx ρ_3 (W'++Z) σ s_4->VR ρ_3 (W'++Z) s_4.heap (.dat d) v->J W' ρ_3 (W'++Z) s_4->GoF K fx wr' G ρ' Z s' σ d v J s_4
theorem GoD.facts {J:List Addr->Rho->List Addr->Shared->Prop} (R':SR K fx ρ' (wr'++Z) σ_0 s') (off':Off fx wr') (p:GoD wr' G ρ' (wr'++Z) s' hp d v (λw_2 ρ=>J (w_2++wr') ρ (w_2++(wr'++Z))) s_4):GoF K fx wr' G ρ' Z s' ⟨σ_0.loc,hp⟩ d v J s_4:=by
 obtain ⟨ρ_3,w_2,hw_2,x_3,H_3,v_3,J_3⟩:=p
 have R_3:=R'.extD x_3 (λa h=>List.mem_append_left _ h) off' hw_2 H_3
 rw [← List.append_assoc] at R_3 v_3 J_3
 exact ⟨w_2++wr',ρ_3,λa h=>List.mem_append_right _ h,λa h=>(List.mem_append.mp h).imp (hw_2 a) id,x_3,R_3,v_3,J_3⟩
theorem for_fin (x_1:Ext [] ρ s ρ_1 s_1) (hg:∀g,G g->s_1.gens[g]?=none) (hu:∀a∈wr',s_1.heap.get? a=none) (x:ExtG (wr'++fx.own) G ρ_1 s_1 ρ' s'):Ext fx.own ρ s ρ' s' :=
 (x_1.weak noX).trans (x.ext (λa h=>(List.mem_append.mp h).elim (λh=>.inr (hu a h)) .inl) λg st e h=>nos ((hg g h).symm.trans e))
theorem not_wr (R:SR K fx ρ_1 Z σ_0 s_1) (hu:∀a∈wr',s_1.heap.get? a=none) {a:Addr} (h:a∈Z):a∉wr':=λm=>(R.hr.liveZ a h).elim λo e=>nos ((hu a m).symm.trans e)
theorem for_end {σ_1:St} (R_1:SR K fx ρ_1 Z σ_1 s_1) (x_1:Ext [] ρ s ρ_1 s_1) (hg:∀g,G g->s_1.gens[g]?=none) (hu:∀a∈wr',s_1.heap.get? a=none) (xg:ExtG (wr'++fx.own) G ρ_1 s_1 ρ' s') (R':SR K fx ρ' (wr'++Z) σ_0 s')
  {hp':List MO} (x_3:ExtG wr' G ρ' s' ρ_3 s_4) (H_3:HR ρ_3 (wr'++Z) hp' s_4.heap) (kd:∀b o,b∉wr'->s_4.heap.get? b=some o->h'.get? b=some o):PostX K fx ρ Z s .next ⟨σ_0.loc,hp'⟩ .next { s_4 with heap:=h',toks:=tk }:=by
 have off':=R_1.offFresh hu
 have ownZ:∀a∈fx.own,a∈Z:=R_1.er.ownZ
 have x_4:=xg.trans (x_3.weak (Y:=wr'++fx.own) λa h=>List.mem_append_left _ h)
 have x_5:Ext fx.own ρ_1 s_1 ρ_3 s_4:=x_4.ext (λa h=>(List.mem_append.mp h).elim (λh=>.inr (hu a h)) .inl) λg st e h=>nos ((hg g h).symm.trans e)
 exact ⟨ρ_3,(x_1.weak noX).trans (x_5.drop hu kd),(R'.extG x_3 (λa h=>List.mem_append_left _ h) off' H_3).drop (λa h m=>not_wr R_1 hu m h) off' ownZ kd,rfl⟩
inductive TurnF (K:Addr->Option Obj) (fx:Fx) (Z:List Addr) (G:Nat->Prop) (J:List Addr->Rho->List Addr->Shared->Prop) (σ_2:St) (ρ_1:Rho) (s_1:Shared) (W':List Addr) (fl:Fl) (f:Flow) (s_6:Shared):Prop
 | mk (ρ_6:Rho):(∀a∈W',s_1.heap.get? a=none)->ExtG (W'++fx.own) G ρ_1 s_1 ρ_6 s_6->SR K fx ρ_6 (W'++Z) σ_2 s_6->J W' ρ_6 (W'++Z) s_6->FlR ρ_6 (W'++Z) s_6.heap fl f->TurnF K fx Z G J σ_2 ρ_1 s_1 W' fl f s_6
theorem for_turn {J:List Addr->Rho->List Addr->Shared->Prop} (hJx:∀{ρ Z s X ρ' s'},J W' ρ Z s->Ext X ρ s ρ' s'->(∀a∈X,a∈Z∧a∉W')->J W' ρ' Z s') {σ_1:St} (R_1:SR K fx ρ_1 Z σ_1 s_1) (hu:∀a∈wr',s_1.heap.get? a=none) (xg:ExtG (wr'++fx.own) G ρ_1 s_1 ρ' s')
  (hsub:∀a∈wr',a∈W') (hnew:∀a∈W',s'.heap.get? a=none∨a∈wr') (x_3:ExtG wr' G ρ' s' ρ_3 s_4) (J_3:J W' ρ_3 (W'++Z) s_4) (x_5:Ext fx.own ρ_3 s_4 ρ_3 s_5) (q:PostX K fx ρ_3 (W'++Z) s_5 fl σ_2 f s_6):TurnF K fx Z G J σ_2 ρ_1 s_1 W' fl f s_6:=by
 have hw:∀a∈W',s_1.heap.get? a=none:=λa h=>(hnew a h).elim (λn=>by
  cases q:s_1.heap.get? a with
  | none=>rfl
  | some o=>exact (xg.e.live a o q).elim λo' e=>nos (n.symm.trans e)) (hu a)
 have hX:∀a∈fx.own,a∈W'++Z∧a∉W':=λa h=>⟨List.mem_append_right _ (R_1.er.ownZ a h),not_wr R_1 hw (R_1.er.ownZ a h)⟩
 have oX:∀a∈fx.own,a∈W'++fx.own:=λa h=>List.mem_append_right _ h
 have g_5:ExtG (W'++fx.own) G ρ_1 s_1 ρ_3 s_5:=((xg.weak λa h=>(List.mem_append.mp h).elim (λh=>List.mem_append_left _ (hsub a h)) (oX a)).trans (x_3.weak λa h=>List.mem_append_left _ (hsub a h))).trans (x_5.weak oX).toG
 obtain ⟨ρ_6,x_6,R_6,r⟩:=q
 exact ⟨ρ_6,hw,g_5.trans (x_6.weak oX).toG,R_6,hJx (hJx J_3 x_5 hX) x_6 hX,r⟩
end
theorem Ex.for_ {tg e:Expr} {body:List Stmt} {pos:Pos} {step:StepF} {F:SF} {T:PyData->Loc->Option Loc} {B:XF} (he:EvI prog w K fx e tg step F) (ht:As prog w K fx tg T) (hb:Exs prog w K fx body B)
  (hs:∀x,foldedSetIterable e fx.env x=pure x:=by intro _; rfl):Ex prog w K fx (.For tg e body [] pos) (bindI F λis n=>forF step T B n is):=.mk λA ρ Z σ s fl σ' Rm R q=>by
 obtain ⟨is,n,hp,e1,e2⟩:=bindI_some q
 refine wpAny_For (wpAny_mono (he.run A ρ Z σ s is n hp Rm R e1) (λx s_1 h_1=>wpAny_mono h_1 (λit s_2 h_2=>?_) λ_ _ q=>q.elim) λ_ _ q=>q.elim) hs
 obtain ⟨ρ_1,s_1',wr,G,J,x_1,H_1,x_2,keep,hw,lv,hg,hJ,W⟩:=h_2
 have R_1:=R.next x_1 H_1
 refine codeAny_forLoop_any (λk s'=>ForJ K fx Z G J (forF step T B k) fl σ' ρ_1 s_1' s') ?_ n ⟨ρ_1,_,is,wr,hw,(x_2.weak noX).toG,R_1.more hw keep lv,hJ,e2⟩
 rintro k s' ⟨ρ',σ_0,is',wr',hw',xg,R',J',hF⟩
 have wrZ:∀a∈wr',a∈wr'++Z:=λa h=>List.mem_append_left _ h
 cases k with
 | zero=>exact nos hF
 | succ k=>cases forF_inv hF with
  | done hp hst e =>
   refine wpAny_mono (W.done hst J' R'.hr wrZ) (λr s_3 p=>?_) λ_ _ q=>q.elim
   obtain ⟨rfl,ρ_3,s_4,h',tk,x_3,H_3,rfl,kd⟩:=p
   exact wpAny_execs_nil (PostX.eq e (for_end R_1 x_1 hg hw' xg R' x_3 H_3 kd))
  | turn d is_1 hp loc fl' σ_2 hst hT hB hend =>
   refine wpAny_mono (W.next hst J' R'.hr wrZ) (λr s_3 p=>?_) λ_ _ q=>q.elim
   obtain ⟨v,rfl,p⟩:=p
   refine wpAny_mono p (λ_ s_4 p=>?_) λ_ _ q=>q.elim
   obtain ⟨W',ρ_3,hsub,hnew,x_3,R_3,v_3,J_3⟩:=GoD.facts (J:=J is_1) R' (R_1.offFresh hw') p
   refine wpAny_mono (ht.run A ρ_3 _ _ s_4 d v loc Rm R_3 v_3 hT) (λ_ s_5 p=>wpAny_mono (hb.run A ρ_3 _ _ s_5 fl' σ_2 Rm p.2 hB) (λf s_6 q=>?_) λ_ _ q=>q.elim) λ_ _ q=>q.elim
   obtain ⟨ρ_6,hw_6,g_6,R_6,J_6,hf⟩:=for_turn (J:=J is_1) (λj x h=>W.ext j x h) R_1 hw' xg hsub hnew x_3 J_3 p.1 q
   rcases hend with ⟨hn,e⟩ | ⟨rfl,e⟩ | ⟨⟨v,rfl⟩,e⟩
   ·have I:ForJ K fx Z G J (forF step T B k) fl σ' ρ_1 s_1' s_6:=⟨ρ_6,σ_2,is_1,W',hw_6,g_6,R_6,J_6,e⟩
    rcases hn with rfl | rfl
    ·rw [show f=.next from hf]; exact ⟨k,Nat.lt_succ_self k,I⟩
    ·rw [show f=.cont from hf]; exact ⟨k,Nat.lt_succ_self k,I⟩
   ·refine (show f=.brk from hf).symm▸?_
    exact PostX.eq e ⟨ρ_6,for_fin x_1 hg hw_6 g_6,R_6.weak (λa h=>List.mem_append_right _ h) R_1.er.ownZ,rfl⟩
   ·obtain ⟨u,hf,r⟩:=hf
    refine hf.symm▸?_
    exact PostX.eq e ⟨ρ_6,for_fin x_1 hg hw_6 g_6,R_6.weak (λa h=>List.mem_append_right _ h) R_1.er.ownZ,u,rfl,r.weak λa h=>List.mem_append_right _ h⟩
theorem ifF_inv {F:BF} {G H:XF} {σ:St} {r:Fl×St} {C:Prop} (q:ifF F G H σ=some r) (k:∀b hp,F σ=some (b,hp)->(if b then G ⟨σ.loc,hp⟩ else H ⟨σ.loc,hp⟩)=some r->C):C:=by
 unfold ifF at q
 cases h:F σ with
 | none=>rw [h] at q; exact nos q
 | some x=>rw [h] at q; exact k x.1 x.2 h q
theorem Ex.if_ {test:Expr} {body orelse:List Stmt} {pos:Pos} {F:BF} {B C:XF} (ht:Tr prog w K fx test F) (hb:Exs prog w K fx body B) (hc:Exs prog w K fx orelse C):Ex prog w K fx (.If test body orelse pos) (ifF F B C):=.mk λA ρ Z σ s fl σ' Rm R q =>
 ifF_inv q λb hp e1 e2=>wpAny_If (wpAny_mono (ht.run A ρ Z σ s b hp Rm R e1) (λb' s_1 p=>by
  refine cps λ_ KK=>?_
  obtain ⟨hb',ρ_1,x_1,H_1⟩:=p
  refine KK ?_
  have R_1:=R.next x_1 H_1
  refine hb'.symm▸?_
  cases b with
  | true=>exact wpAny_mono (hb.run A ρ_1 Z _ s_1 _ _ Rm R_1 e2) (λf s_2 p=>p.trans x_1 noX) λ_ _ q=>q
  | false=>exact wpAny_mono (hc.run A ρ_1 Z _ s_1 _ _ Rm R_1 e2) (λf s_2 p=>p.trans x_1 noX) λ_ _ q=>q) λ_ _ q=>q)
noncomputable def setL (i:Nat):PyData->Loc->Option Loc:=λd loc=>some (loc.set i (some (.dat d)))
theorem As.name {i:Nat} {x:Str} {p:Pos} (hv:fx.vars.lookup i=some x) (ok:StoreOK fx x):As prog w K fx (.Name x p) (setL i):=.mk λA ρ Z σ s d v loc' Rm R r q=>by
 exact wpAny_assign_Name (R.store hv ok r λs' x R'=>⟨x,sos q▸R'⟩)
end
structure WJ (h_0:Heap) (fp wr fd:List Addr) (ds:List PyData) (n:Nat) (Sx:Nat->Heap->Prop) (l:List PyData) (ρ:Rho) (Z:List Addr) (s:Shared):Prop where
 at_:∃i,Sx i s.heap∧l=ds.drop i∧i≤n
 data:∀b∈fd,∃o,h_0.get? b=some o∧s.heap.get? b=some o
 offd:∀b∈fd,b∉muts ρ∧b∉Z
 offp:∀b∈fp,b∉muts ρ∧(b∉wr->b∉Z)
noncomputable def WJI (h_0:Heap) (fp wr fd:List Addr) (ds:List PyData) (n:Nat) (Sx:Nat->Heap->Prop):IS->Rho->List Addr->Shared->Prop
 | .rem l,ρ,Z,s=>WJ h_0 fp wr fd ds n Sx l ρ Z s
 | .trk _ _,_,_,_=>False
section
variable {h_0:Heap} {fp wr fd:List Addr} {ds:List PyData} {n:Nat} {Sx:Nat->Heap->Prop} {l:List PyData} {ρ ρ':Rho} {Z X:List Addr} {s s':Shared}
theorem WJ.ext (J:WJ h_0 fp wr fd ds n Sx l ρ Z s) (x:Ext X ρ s ρ' s') (hX:∀a∈X,a∈Z∧a∉wr) (hf:∀i h h',Sx i h->(∀b∈fp,∀o,h.get? b=some o->h'.get? b=some o)->Sx i h') (lv:∀i h,Sx i h->∀a∈fp,∃o,h.get? a=some o) :
  WJ h_0 fp wr fd ds n Sx l ρ' Z s' :=
 have ⟨⟨i,hi,hl,hn⟩,hd,od,op⟩:=J
 ⟨⟨i,hf i _ _ hi λb hb o e=>x.heap b o (op b hb).1 (λq=>(op b hb).2 (hX b q).2 (hX b q).1) e,hl,hn⟩,λb hb=>(hd b hb).elim λo e=>⟨o,e.1,x.heap b o (od b hb).1 (λq=>(od b hb).2 (hX b q).1) e.2⟩,
  λb hb=>⟨(hd b hb).elim λo e=>x.notin e.2 (od b hb).1,(od b hb).2⟩,λb hb=>⟨(lv i _ hi b hb).elim λo e=>x.notin e (op b hb).1,(op b hb).2⟩⟩
theorem WJ.more {Z':List Addr} (J:WJ h_0 fp wr fd ds n Sx l ρ Z s) (hZ:∀a∈Z',a∈Z∨s.heap.get? a=none) (k:∀b o,s.heap.get? b=some o->s'.heap.get? b=some o) (hf:∀i h h',Sx i h->(∀b∈fp,∀o,h.get? b=some o->h'.get? b=some o)->Sx i h') (lv:∀i h,Sx i h->∀a∈fp,∃o,h.get? a=some o) :
  WJ h_0 fp wr fd ds n Sx l ρ Z' s' :=
 have ⟨⟨i,hi,hl,hn⟩,hd,od,op⟩:=J
 ⟨⟨i,hf i _ _ hi λb hb o e=>k b o e,hl,hn⟩,λb hb=>(hd b hb).elim λo e=>⟨o,e.1,k b o e.2⟩,λb hb=>⟨(od b hb).1,λq=>(hZ b q).elim (od b hb).2 λq=>(hd b hb).elim λo e=>nos (q.symm.trans e.2)⟩,
  λb hb=>⟨(op b hb).1,λhw q=>(hZ b q).elim ((op b hb).2 hw) λq=>(lv i _ hi b hb).elim λo e=>nos (q.symm.trans e)⟩⟩
theorem WJI.inv {is:IS} (J:WJI h_0 fp wr fd ds n Sx is ρ Z s):∃l,is=.rem l∧WJ h_0 fp wr fd ds n Sx l ρ Z s:=by
 cases is with
 | rem l=>exact ⟨l,rfl,J⟩
 | trk=>exact J.elim
theorem WJI.ext {is:IS} (J:WJI h_0 fp wr fd ds n Sx is ρ Z s) (x:Ext X ρ s ρ' s') (hX:∀a∈X,a∈Z∧a∉wr) (hf:∀i h h',Sx i h->(∀b∈fp,∀o,h.get? b=some o->h'.get? b=some o)->Sx i h') (lv:∀i h,Sx i h->∀a∈fp,∃o,h.get? a=some o) :
  WJI h_0 fp wr fd ds n Sx is ρ' Z s':=J.inv.elim λ_ q=>q.1▸q.2.ext x hX hf lv
theorem WJI.more {is:IS} {Z':List Addr} (J:WJI h_0 fp wr fd ds n Sx is ρ Z s) (hZ:∀a∈Z',a∈Z∨s.heap.get? a=none) (k:∀b o,s.heap.get? b=some o->s'.heap.get? b=some o) (hf:∀i h h',Sx i h->(∀b∈fp,∀o,h.get? b=some o->h'.get? b=some o)->Sx i h') (lv:∀i h,Sx i h->∀a∈fp,∃o,h.get? a=some o) :
  WJI h_0 fp wr fd ds n Sx is ρ Z' s':=J.inv.elim λ_ q=>q.1▸q.2.more hZ k hf lv
inductive WStep (h_0:Heap) (fp wr fd:List Addr) (ds:List PyData) (n:Nat) (Sx:Nat->Heap->Prop) (ρ:Rho) (Z:List Addr) (s:Shared) (d:PyData) (is':IS):Prop
 | mk (i:Nat):i < n->Sx i s.heap->ds[i]?=some d->(∀s',Sx (i+1) s'.heap->(∀b∈fd,∃o,h_0.get? b=some o∧s'.heap.get? b=some o)->WJI h_0 fp wr fd ds n Sx is' ρ Z s')->(∀b∈fd,∃o,h_0.get? b=some o∧s.heap.get? b=some o)->(∀b∈fd,b∉muts ρ∧b∉Z)->WStep h_0 fp wr fd ds n Sx ρ Z s d is'
theorem stepI_rem {l:List PyData} {hp hp':List MO} {r:Option (PyData×IS)} (e:stepI (.rem l) hp=some (r,hp')):hp=hp'∧((l=[]∧r=none)∨∃d l',l=d::l'∧r=some (d,.rem l')):=by
 cases l with
 | nil=>exact ⟨(sop e).2,.inl ⟨rfl,(sop e).1.symm⟩⟩
 | cons d l=>exact ⟨(sop e).2,.inr ⟨d,l,rfl,(sop e).1.symm⟩⟩
theorem WJI.step {is is':IS} {d:PyData} {hp hp':List MO} (hn:ds.length=n) (J:WJI h_0 fp wr fd ds n Sx is ρ Z s) (e:stepI is hp=some (some (d,is'),hp')):hp=hp'∧WStep h_0 fp wr fd ds n Sx ρ Z s d is':=by
 refine cps λ_ KK=>?_
 obtain ⟨l,h,⟨i,hi,hl,hin⟩,hdd,od,op⟩:=J.inv
 refine KK ?_
 rw [h] at e
 obtain ⟨hh,⟨_,q⟩ | ⟨d',l',hl',q⟩⟩:=stepI_rem e
 ·exact nos q.symm
 ·obtain ⟨q1,q2⟩:=sop q
  have hlt:i < ds.length:=by
   rcases Nat.lt_or_ge i ds.length with h | h
   ·exact h
   ·rw [List.drop_eq_nil_of_le h,hl'] at hl; exact ncn hl
  have hl2:=List.cons.inj ((hl'.symm.trans hl).trans (List.drop_eq_getElem_cons hlt))
  exact ⟨hh,i,hn▸hlt,hi,by rw [List.getElem?_eq_getElem hlt,q1,hl2.1],λs' h1 h2=>q2▸⟨⟨i+1,h1,hl2.2,hn▸hlt⟩,h2,od,op⟩,hdd,od⟩
theorem WJI.over {is:IS} {hp hp':List MO} (hn:ds.length=n) (J:WJI h_0 fp wr fd ds n Sx is ρ Z s) (e:stepI is hp=some (none,hp')):hp=hp'∧Sx n s.heap:=by
 refine cps λ_ KK=>?_
 obtain ⟨l,h,⟨i,hi,hl,hin⟩,hdd,od,op⟩:=J.inv
 refine KK ?_
 rw [h] at e
 obtain ⟨hh,⟨q,_⟩ | ⟨d',l',hl',q⟩⟩:=stepI_rem e
 ·have:ds.length≤i:=List.drop_eq_nil_iff.mp (hl.symm.trans q)
  have:i=n:=Nat.le_antisymm hin (hn▸this)
  exact ⟨hh,this▸hi⟩
 ·exact nos q
theorem Ext.of_off {h:Heap} {t:Nat} (k:∀b o,b∉X->s.heap.get? b=some o->h.get? b=some o) (lv:∀b∈X,∃o,h.get? b=some o):Ext X ρ s ρ { s with heap:=h,toks:=t } :=
 ⟨⟨[],by simp,λ_ h=>nin h⟩,λb o _ hb e=>k b o hb e,λb o e=>by
  by_cases q:b∈X
  ·exact lv b q
  ·exact ⟨o,k b o q e⟩,rfl,rfl,λ_ _ e=>e,λh=>h⟩
end
section
variable {prog:Program} {w:World} {A:Around} {tg:Expr}
theorem HR.chg {ρ:Rho} {Z X:List Addr} {hp:List MO} {s:Shared} {h:Heap} {t:Nat} (H:HR ρ Z hp s.heap) (hX:∀a∈X,a∈Z) (k:∀b o,b∉X->s.heap.get? b=some o->h.get? b=some o) (lv:∀b∈X,∃o,h.get? b=some o):HR ρ Z hp h :=
 H.own (λa o ha e=>k a o (λq=>ha (hX a q)) e) λa o e=>by
  by_cases q:a∈X
  ·exact lv a q
  ·exact ⟨o,k a o q e⟩
theorem go_after {ρ:Rho} {Z wr:List Addr} {G:Nat->Prop} {hp:List MO} {s:Shared} {h':Heap} {tk:Nat} {d:PyData} {v:Value} {J:Rho->Shared->Prop} (H:HR ρ Z hp s.heap) (hw:∀a∈wr,a∈Z) (hk:∀b o,b∉wr->s.heap.get? b=some o->h'.get? b=some o) (lw:∀b∈wr,∃o,h'.get? b=some o)
  (V:VR ρ Z h' (.dat d) v) (j:J ρ { s with heap:=h',toks:=tk }):GoP wr G ρ Z s hp d v J { s with heap:=h',toks:=tk }:=⟨ρ,(Ext.of_off hk lw).toG,H.chg (t:=tk) hw hk lw,V,j⟩
theorem data_off {ρ:Rho} {Z wr fd:List Addr} {h_0 h h':Heap} (hdd:∀b∈fd,∃o,h_0.get? b=some o∧h.get? b=some o) (od:∀b∈fd,b∉muts ρ∧b∉Z) (hw:∀a∈wr,a∈Z) (hk:∀b o,b∉wr->h.get? b=some o->h'.get? b=some o):∀b∈fd,∃o,h_0.get? b=some o∧h'.get? b=some o :=
 λb hb=>(hdd b hb).elim λo e=>⟨o,e.1,hk b o (λq=>(od b hb).2 (hw b q)) e.2⟩
theorem Iter.walks {I:Addr} {fp wr fd:List Addr} {n:Nat} {P:Nat->Value->Prop} {Sx:Nat->Heap->Prop} {h_0:Heap} {ds:List PyData} (W:Walks prog w A I fp wr n P Sx) (hn:ds.length=n)
  (lv:∀i h,Sx i h->∀a∈fp,∃o,h.get? a=some o)
  (hd:∀i v d h,P i v->ds[i]?=some d->(∀b∈fd,∃o,h_0.get? b=some o∧h.get? b=some o)->∃as,RD h v d as∧∀a∈as,a∈fd)
  (hgo:∀i (s:Shared) v (Q:Unit->Shared->Prop),Sx i s.heap->Q () s->wpAny (model prog w) A (letOwnedTupleGo tg (.ref I) v) Q noE s) :
  Iter prog w A (.ref I) tg wr (λ_=>False) stepI (WJI h_0 fp wr fd ds n Sx) where
 ext:=λJ x hX=>J.ext x hX W.frame lv
 next:=λ{l hp d l' hp' ρ Z s} e J H hw=>by
  obtain ⟨hh,i,hlt,hi,hdi,hJ,hdd,od⟩:=J.step hn e
  refine W.item i s _ _ hlt hi λv h' tk hP hi' hk=>⟨v,rfl,hgo (i+1) _ v _ hi' ?_⟩
  have hdd':=data_off hdd od hw hk
  obtain ⟨as,ra,qa⟩:=hd i v d h' hP hdi hdd'
  exact go_after (hh▸H) hw hk (λb hb=>lv _ _ hi' b (W.sub b hb)) ⟨as,ra,λa ha=>od a (qa a ha)⟩ (hJ _ hi' hdd')
 done:=λ{l hp hp' ρ Z s} e J H hw=>by
  obtain ⟨hh,hi⟩:=J.over hn e
  exact W.done s _ _ hi λh' tk hk=>⟨rfl,ρ,s,h',tk,ExtG.refl,hh▸H,rfl,hk⟩
 self:=λ{l hp r ρ Z s Q} _ J _ hQ=>J.inv.elim λ_ q=>q.2.at_.elim λi h=>W.self i s Q _ h.1 hQ
 more:=λJ hZ k _=>J.more hZ k W.frame lv
theorem Iter.walksT {I:Addr} {fp wr fd:List Addr} {n:Nat} {P:Nat->Array Value->Prop} {Sx:Nat->Heap->Prop} {Mid:Nat->Addr->Heap->Prop} {h_0:Heap} {ds:List PyData} {elts:List Expr} {k:Nat} {pos:Pos}
  (W:WalksT prog w A I fp wr n P Sx Mid) (hn:ds.length=n)
  (lv:∀i h,Sx i h->∀a∈fp,∃o,h.get? a=some o)
  (hd:∀i vs d h,P i vs->ds[i]?=some d->(∀b∈fd,∃o,h_0.get? b=some o∧h.get? b=some o)->∃xs as,d=.tuple xs∧RDs h vs.toList xs as∧∀a∈as,a∈fd) :
  Iter prog w A (.ref I) (.Tuple elts k pos) wr (λ_=>False) stepI (WJI h_0 fp wr fd ds n Sx) where
 ext:=λJ x hX=>J.ext x hX W.frame lv
 next:=λ{l hp d l' hp' ρ Z s} e J H hw=>by
  refine cps λ_ KK=>?_
  obtain ⟨hh,i,hlt,hi,hdi,hJ,hdd,od⟩:=J.step hn e
  refine KK ?_
  refine W.item i s _ _ hlt hi λT vs h_1 tk hP hT hIT hm hk=>⟨.ref T,rfl,W.go elts k pos i T _ _ _ hm λh' hi' hk'=>?_⟩
  have hk2:∀b o,b∉wr->s.heap.get? b=some o->h'.get? b=some o:=λb o hb e=>hk' b o hb (hk b o hb e)
  have hdd':=data_off hdd od hw hk2
  refine cps λ_ KK=>?_
  obtain ⟨xs,as,hx,ra,qa⟩:=hd i vs d h' hP hdi hdd'
  obtain ⟨o,ho,hc,m,hdt⟩:=hIT
  refine KK ?_
  exact go_after (hh▸H) hw hk2 (λb hb=>lv _ _ hi' b (W.sub b hb)) (hx▸⟨T::as,.tuple (hk' T o (W.apart _ _ _ hm) ho) hc hdt ra,λa ha=>(List.mem_cons.mp ha).elim (λq=>q▸H.fresh (Heap.get?_none_of_le hT)) λha=>od a (qa a ha)⟩) (hJ _ hi' hdd')
 done:=λ{l hp hp' ρ Z s} e J H hw=>by
  obtain ⟨hh,hi⟩:=J.over hn e
  exact W.done s _ _ hi λh' tk hk=>⟨rfl,ρ,s,h',tk,ExtG.refl,hh▸H,rfl,hk⟩
 self:=λ{l hp r ρ Z s Q} _ J _ hQ=>J.inv.elim λ_ q=>q.2.at_.elim λi h=>W.self i s Q _ h.1 hQ
 more:=λJ hZ k _=>J.more hZ k W.frame lv
end
noncomputable def TgOK (tg:Expr):Prop:=(∃x p,tg=.Name x p)∨∃es k p,tg=.Tuple es k p
section
variable {prog:Program} {w:World} {K:Addr->Option Obj} {fx:Fx} {A:Around} {tg:Expr}
theorem go_class {I:Addr} {s:Shared} {o:Obj} {v:Value} {T:String} {Q:Unit->Shared->Prop} (ht:TgOK tg) (ho:s.heap.get? I=some o) (hc:o.cls=.type T)
  (hn:(["enumerate","zip","dict_itemiterator","dict_reverseitemiterator","odict_iterator","itertools.zip_longest","itertools.pairwise"]:List String).contains T=false) (hQ:Q () s) :
  wpAny (model prog w) A (letOwnedTupleGo tg (.ref I) v) Q noE s:=by
 rcases ht with ⟨x,p,rfl⟩ | ⟨es,k,p,rfl⟩
 ·exact wpAny_pure hQ
 ·skip
  cases v with
  | ref a =>
   refine wpAny_bind (wpAny_load ho ?_)
   refine hc.symm▸?_
   cases o.data with
   | fields vs =>
    show wpAny _ A (if (["enumerate","zip","dict_itemiterator","dict_reverseitemiterator","odict_iterator","itertools.zip_longest","itertools.pairwise"].contains T&&vs[0]?==some (rawInt a))=true then _ else _) Q noE s
    rw [hn,Bool.false_and,if_neg (by decide)]
    exact wpAny_pure hQ
   | _=>exact wpAny_pure hQ
  | _=>exact wpAny_pure hQ
theorem PostI.of_new {ρ ρ_1:Rho} {Z:List Addr} {s s_1:Shared} {hp':List MO} {h:Heap} {tk:Nat} {I:Addr} {fp wr fd:List Addr} {n:Nat} {Sx:Nat->Heap->Prop} {ds:List PyData}
  (x_1:Ext [] ρ s ρ_1 s_1) (H_1:HR ρ_1 Z hp' s_1.heap) (keep:∀b o,s_1.heap.get? b=some o->h.get? b=some o) (hw:∀a∈wr,s_1.heap.get? a=none) (lv:∀i h,Sx i h->∀a∈fp,∃o,h.get? a=some o) (hwf:∀b∈wr,b∈fp)
  (h0:Sx 0 h) (hd:∀b∈fd,(∃o,s_1.heap.get? b=some o)∧b∉muts ρ_1∧b∉Z)
  (hp:∀b∈fp,s_1.heap.get? b=none∨((∃o,s_1.heap.get? b=some o)∧b∉muts ρ_1∧b∉Z))
  (W:Iter prog w A (.ref I) tg wr (λ_=>False) stepI (WJI s_1.heap fp wr fd ds n Sx)) :
  PostI prog w A tg stepI ρ Z s (.rem ds) hp' (.ref I) { s_1 with heap:=h,toks:=tk }:=by
 have offw:∀b,(∃o,s_1.heap.get? b=some o)->b∉wr:=λb e q=>e.elim λo e=>nos ((hw b q).symm.trans e)
 exact ⟨ρ_1,s_1,wr,λ_=>False,_,x_1,H_1,Ext.of_keep keep,keep,hw,λa ha=>lv 0 h h0 a (hwf a ha),λ_ f=>f.elim,⟨rfl,⟨⟨0,h0,rfl,Nat.zero_le _⟩,λb hb=>(hd b hb).1.elim λo e=>⟨o,e,keep b o e⟩,
  λb hb=>⟨(hd b hb).2.1,λq=>(List.mem_append.mp q).elim (offw b (hd b hb).1) (hd b hb).2.2⟩,
  λb hb=>⟨(hp b hb).elim (λf=>(H_1.fresh f).1) λf=>f.2.1,λhbw q=>(List.mem_append.mp q).elim hbw ((hp b hb).elim (λf=>(H_1.fresh f).2) λf=>f.2.2)⟩⟩⟩,W.toD⟩
theorem RDs.item {h_0 h:Heap} {vs:Array Value} {ds:List PyData} {as:List Addr} (r:RDs h_0 vs.toList ds as) {i:Nat} {v:Value} {d:PyData} (hv:vs[i]?=some v) (hd:ds[i]?=some d)
  (k:∀b∈as,∃o,h_0.get? b=some o∧h.get? b=some o):∃bs,RD h v d bs∧∀a∈bs,a∈as:=by
 refine cps λ_ KK=>?_
 obtain ⟨y,bs,hy,ry,qy⟩:=r.get i d hd
 refine KK ?_
 rw [Array.getElem?_toList] at hy
 exact ⟨bs,sos (hy.symm.trans hv)▸ry.keep λa ha o e=>(k a (qy a ha)).elim λo' q=>sos (q.1.symm.trans e)▸q.2,qy⟩
theorem PostI.one {ρ ρ_1:Rho} {Z:List Addr} {s s_1:Shared} {hp':List MO} {a:Addr} {ds:List PyData} {as:List Addr} {o:Obj} {n:Nat} {P:Nat->Value->Prop} {It:Nat->Heap->Prop} {Sq:Heap->Prop} {T:String} (ht:TgOK tg)
  (hT:(["enumerate","zip","dict_itemiterator","dict_reverseitemiterator","odict_iterator","itertools.zip_longest","itertools.pairwise"]:List String).contains T=false)
  (x_1:Ext [] ρ s ρ_1 s_1) (H_1:HR ρ_1 Z hp' s_1.heap) (ha:∃o,s_1.heap.get? a=some o) (l1:∀i h,It i h->∃o,h.get? s_1.heap.objs.size=some o∧o.cls=.type T) (l2:∀h,Sq h->∃o,h.get? a=some o) (h0:It 0 (s_1.heap.push o)) (h1:Sq (s_1.heap.push o)) (ho:o.cls≠.none)
  (lv:∀b∈as,∃o,s_1.heap.get? b=some o) (q:∀b∈a::as,b∉muts ρ_1∧b∉Z) (W:Walks prog w A s_1.heap.objs.size [s_1.heap.objs.size,a] [s_1.heap.objs.size] n P (λi h=>It i h∧Sq h)) (hn:ds.length=n)
  (hd:∀i v d h,P i v->ds[i]?=some d->(∀b∈as,∃o,s_1.heap.get? b=some o∧h.get? b=some o)->∃as',RD h v d as'∧∀a∈as',a∈as) :
  PostI prog w A tg stepI ρ Z s (.rem ds) hp' (.ref s_1.heap.objs.size) { s_1 with heap:=s_1.heap.push o }:=by
 have fr:s_1.heap.get? s_1.heap.objs.size=none:=Heap.get?_none_of_le (Nat.le_refl _)
 have live:∀i h,It i h∧Sq h->∀b∈[s_1.heap.objs.size,a],∃o,h.get? b=some o:=λi h x=>all2 ((l1 i h x.1).elim λo q=>⟨o,q.1⟩) (l2 h x.2)
 exact PostI.of_new (tk:=s_1.toks) (fp:=[s_1.heap.objs.size,a]) (wr:=[s_1.heap.objs.size]) (fd:=as) (n:=n) (Sx:=λi h=>It i h∧Sq h) x_1 H_1 (λb o e=>Heap.get?_push_of_some _ e) (all1 fr) live (all1 (List.mem_cons_self ..)) ⟨h0,h1⟩ (λb hb=>⟨lv b hb,q b (List.mem_cons_of_mem _ hb)⟩)
  (all2 (.inl fr) (.inr ⟨ha,q a (List.mem_cons_self ..)⟩)) (Iter.walks W hn live hd λi s v Q h hQ=>(l1 i _ h.1).elim λo q=>go_class ht q.1 q.2 hT hQ)
theorem PostI.list {ρ ρ_1:Rho} {Z:List Addr} {s s_1:Shared} {hp':List MO} {a:Addr} {vs:Array Value} {ds:List PyData} {as:List Addr} (ht:TgOK tg) (hh:A.handled=none)
  (x_1:Ext [] ρ s ρ_1 s_1) (H_1:HR ρ_1 Z hp' s_1.heap) (hl:s_1.heap.IsList a vs) (r:RDs s_1.heap vs.toList ds as) (q:∀b∈a::as,b∉muts ρ_1∧b∉Z) :
  wpAny (model prog w) A (pyIter (.ref a)) (PostI prog w A tg stepI ρ Z s (.rem ds) hp') noE s_1:=by
 have ha:∃o,s_1.heap.get? a=some o:=hl.elim λo q=>⟨o,q.1⟩
 have hne:a≠s_1.heap.objs.size:=ha.elim λo e=>Nat.ne_of_lt (Heap.lt_size e)
 exact wpAny_pyIter_list hl (PostI.one (It:=λi h=>h.IsListIter s_1.heap.objs.size a i) (Sq:=λh=>h.IsList a vs) (T:="list_iterator") ht (by decide) x_1 H_1 ha (λi h x=>x.elim λo q=>⟨o,q.1,q.2.1⟩) (λh x=>x.elim λo q=>⟨o,q.1⟩)
  ⟨_,Heap.get?_push_size _ rfl,rfl,rfl⟩ (hl.push _) (λh=>nomatch h) r.live q (Walks.list hh _ a hne vs) r.length.symm (λi v d h hv hd k=>r.item hv hd k))
theorem PostI.tuple {ρ ρ_1:Rho} {Z:List Addr} {s s_1:Shared} {hp':List MO} {a:Addr} {vs:Array Value} {ds:List PyData} {as:List Addr} (ht:TgOK tg) (hh:A.handled=none)
  (x_1:Ext [] ρ s ρ_1 s_1) (H_1:HR ρ_1 Z hp' s_1.heap) (hl:s_1.heap.IsTuple a vs) (r:RDs s_1.heap vs.toList ds as) (q:∀b∈a::as,b∉muts ρ_1∧b∉Z) :
  wpAny (model prog w) A (pyIter (.ref a)) (PostI prog w A tg stepI ρ Z s (.rem ds) hp') noE s_1:=by
 have ha:∃o,s_1.heap.get? a=some o:=hl.elim λo q=>⟨o,q.1⟩
 have hne:a≠s_1.heap.objs.size:=ha.elim λo e=>Nat.ne_of_lt (Heap.lt_size e)
 exact wpAny_pyIter_tuple hl (PostI.one (It:=λi h=>h.IsTupleIter s_1.heap.objs.size a i) (Sq:=λh=>h.IsTuple a vs) (T:="tuple_iterator") ht (by decide) x_1 H_1 ha (λi h x=>x.elim λo q=>⟨o,q.1,q.2.1⟩) (λh x=>x.elim λo q=>⟨o,q.1⟩)
  ⟨_,Heap.get?_push_size _ rfl,rfl,rfl⟩ (hl.push _) (λh=>nomatch h) r.live q (Walks.tuple hh _ a hne vs) r.length.symm (λi v d h hv hd k=>r.item hv hd k))
theorem sign_RD {x:Str} (hx:PyData.strOk x=true) {i:Nat} {v:Value} {d:PyData} {h:Heap} (hv:SignAt x i v) (hd:(chars x.cps.toList)[i]?=some d):∃as,RD h v d as∧∀a∈as,a∈([]:List Addr):=by
 refine cps λ_ KK=>?_
 obtain ⟨c,u,hc,hv⟩:=hv
 refine KK ?_
 unfold chars at hd
 replace hd:=hc▸(Array.getElem?_toList)▸(List.getElem?_map)▸hd
 refine ⟨[],hv▸sos hd▸.str _ _ (strOk_sub hx λy hy=>?_),λ_ h=>nin h⟩
 refine (List.mem_singleton.mp hy).symm▸?_
 exact List.mem_of_getElem? ((Array.getElem?_toList).symm▸hc)
theorem PostI.str {ρ ρ_1:Rho} {Z:List Addr} {s s_1:Shared} {hp':List MO} {x:Str} {t:Tok} (ht:TgOK tg) (hh:A.handled=none) (hx:PyData.strOk x=true)
  (x_1:Ext [] ρ s ρ_1 s_1) (H_1:HR ρ_1 Z hp' s_1.heap):wpAny (model prog w) A (pyIter (.str x t)) (PostI prog w A tg stepI ρ Z s (.rem (chars x.cps.toList)) hp') noE s_1:=by
 have main:∀T (hn:(["enumerate","zip","dict_itemiterator","dict_reverseitemiterator","odict_iterator","itertools.zip_longest","itertools.pairwise"]:List String).contains T=false)
   (W:Walks prog w A s_1.heap.objs.size [s_1.heap.objs.size] [s_1.heap.objs.size] x.cps.size (SignAt x) (λi h=>h.IsStrIter s_1.heap.objs.size T x t i)),
   PostI prog w A tg stepI ρ Z s (.rem (chars x.cps.toList)) hp' (.ref s_1.heap.objs.size) { s_1 with heap:=s_1.heap.push { cls:=.type T,data:=.fields #[.str x t,.int 0 0] } }:=λT hn W=>by
  have fr:s_1.heap.get? s_1.heap.objs.size=none:=Heap.get?_none_of_le (Nat.le_refl _)
  have live:∀i (h:Heap),h.IsStrIter s_1.heap.objs.size T x t i->∀b∈[s_1.heap.objs.size],∃o,h.get? b=some o:=λi h z=>all1 (z.elim λo q=>⟨o,q.1⟩)
  exact PostI.of_new (fp:=[s_1.heap.objs.size]) (wr:=[s_1.heap.objs.size]) (fd:=[]) (n:=x.cps.size) (Sx:=λi h=>h.IsStrIter s_1.heap.objs.size T x t i) x_1 H_1 (λb o e=>Heap.get?_push_of_some _ e) (all1 fr) live (λb hb=>hb)
   ⟨_,Heap.get?_push_size _ rfl,rfl,rfl⟩ (λb hb=>nin hb) (all1 (.inl fr)) (Iter.walks W (by rw [chars,List.length_map,Array.length_toList]) live (λi v d h hv hd k=>sign_RD hx hv hd) λi s v Q h hQ=>h.elim λo q=>go_class ht q.1 q.2.1 hn hQ)
 cases ha:x.cps.all (· < 128)
 ·exact wpAny_pyIter_wide ha (main _ (by decide) (Walks.strWide hh _ x t))
 ·exact wpAny_pyIter_ascii ha (main _ (by decide) (Walks.strAscii hh _ x t))
theorem stepI_trk (i k:Nat) (hp:List MO):stepI (.trk i k) hp=(match hp[i]? with
  | some (.lst l)=>match l[k]? with
   | some d=>some (some (d,.trk i (k+1)),hp)
   | none=>some (none,hp)
  | _=>none):=rfl
noncomputable def TJ (I:Addr):IS->Rho->List Addr->Shared->Prop
 | .trk i k,ρ,Z,s=>∃r,ρ[i]?=some (r,r)∧s.heap.IsListIter I r k∧I∉muts ρ∧r≠I
 | .rem _,_,_,_=>False
inductive TJI (I:Addr) (is:IS) (ρ:Rho) (Z:List Addr) (s:Shared):Prop
 | mk (i k:Nat) (r:Addr):is=.trk i k->ρ[i]?=some (r,r)->s.heap.IsListIter I r k->I∉muts ρ->r≠I->TJI I is ρ Z s
theorem TJ.inv {I:Addr} {is:IS} {ρ:Rho} {Z:List Addr} {s:Shared} (J:TJ I is ρ Z s):TJI I is ρ Z s:=by
 cases is with
 | rem l=>exact False.elim J
 | trk i k=>exact J.elim λr q=>⟨i,k,r,rfl,q.1,q.2.1,q.2.2.1,q.2.2.2⟩
theorem trk_inv {i k:Nat} {hp hp':List MO} {r:Option (PyData×IS)} {C:Prop} (e:stepI (.trk i k) hp=some (r,hp')) (k1:∀l d,hp[i]?=some (.lst l)->l[k]?=some d->r=some (d,.trk i (k+1))->hp=hp'->C) (k2:∀l,hp[i]?=some (.lst l)->l[k]?=none->r=none->hp=hp'->C):C:=by
 rw [stepI_trk] at e
 cases h:hp[i]? with
 | none=>rw [h] at e; exact nos e
 | some mo =>
  replace e:=h▸e
  cases mo with
  | lst l =>
   have e:(match l[k]? with | some d=>some (some (d,IS.trk i (k+1)),hp) | none=>some (none,hp))=some (r,hp'):=e
   cases h2:l[k]? with
   | none=>rw [h2] at e; exact k2 l h h2 (sop e).1.symm (sop e).2
   | some d=>rw [h2] at e; exact k1 l d h h2 (sop e).1.symm (sop e).2
  | _=>exact nos e
theorem Iter.trk (ht:TgOK tg) (hh:A.handled=none) (I:Addr):Iter prog w A (.ref I) tg [I] (λ_=>False) stepI (TJ I) where
 ext:=λ{l ρ Z s X ρ' s'} J x hX=>by
  refine cps λ_ KK=>?_
  obtain ⟨i,k,r,hl,h1,⟨o,e,h2⟩,h3,h4⟩:=J.inv
  refine KK ?_
  exact hl▸⟨r,x.old h1,⟨o,x.heap I o h3 (λq=>(hX I q).2 (List.mem_singleton_self _)) e,h2⟩,x.notin e h3,h4⟩
 next:=λ{l hp d l' hp' ρ Z s} e J H hw=>by
  refine cps λ_ KK=>?_
  obtain ⟨i,k,r,his,h1,hit,h3,h4⟩:=J.inv
  refine KK ?_
  refine trk_inv (his▸e) (λl d' hl hd hr hh'=>?_) λ_ _ _ hr _=>nos hr.symm
  ·have hr1:=(sop hr).1
   have hr2:=(sop hr).2
   refine cps λ_ KK=>?_
   obtain ⟨_,o,vs,n,as,ho,c1,c2,c3,c4,rs,q⟩:=H.lst hl h1
   obtain ⟨y,bs,hy,ry,qy⟩:=rs.get k d' hd
   refine KK ?_
   refine wpAny_pyNext_list_item hit ⟨o,ho,c1,n,c4⟩ (x:=y) (by rw [← Array.getElem?_toList]; exact hy) λh' hit' hs'=>⟨y,rfl,?_⟩
   refine cps λ_ KK=>?_
   obtain ⟨oi,ei,hc,_⟩:=id hit'
   refine KK ?_
   have k':∀b o,b∉[I]->s.heap.get? b=some o->h'.get? b=some o:=λb o hb e=>hs'.extBut b o (λq=>hb (q▸List.mem_singleton_self _)) e
   exact go_class (s:={ s with heap:=h' }) ht ei hc (by decide) (go_after (tk:=s.toks) (hh'▸H) hw k' (all1 ⟨_,ei⟩) (hr1▸⟨bs,ry.keep λa ha o e=>k' a o (λm=>(q a (qy a ha)).2 (hw a m)) e,λa ha=>q a (qy a ha)⟩) (hr2▸⟨r,h1,hit',h3,h4⟩))
 done:=λ{l hp hp' ρ Z s} e J H hw=>by
  refine cps λ_ KK=>?_
  obtain ⟨i,k,r,his,h1,hit,h3,h4⟩:=J.inv
  refine KK ?_
  refine trk_inv (his▸e) (λ_ _ _ _ hr _=>nos hr) λl hl hd hr hh'=>?_
  ·refine cps λ_ KK=>?_
   obtain ⟨_,o,vs,n,as,ho,c1,c2,c3,c4,rs,q⟩:=H.lst hl h1
   refine KK ?_
   have hlen:=rs.length
   rw [Array.length_toList] at hlen
   exact wpAny_pyNext_list_end hh hit ⟨o,ho,c1,n,c4⟩ (Array.getElem?_eq_none (hlen▸List.getElem?_eq_none_iff.mp hd)) λh' he=>⟨rfl,ρ,s,h',s.toks,ExtG.refl,hh'▸H,rfl,λb o hb e=>he b o (λq=>hb (q▸List.mem_singleton_self _)) e⟩
 self:=λ{l hp r ρ Z s Q} _ J _ hQ=>by
  refine cps λ_ KK=>?_
  obtain ⟨i,k,r,his,h1,hit,_⟩:=J.inv
  refine KK ?_
  exact wpAny_pyIter_listiter hit hQ
 more:=λ{l ρ Z Z' s s'} J hZ k _=>by
  refine cps λ_ KK=>?_
  obtain ⟨i,j,r,hl,h1,⟨o,e,h2⟩,h3,h4⟩:=J.inv
  refine KK ?_
  exact hl▸⟨r,h1,⟨o,k I o e,h2⟩,h3,h4⟩
noncomputable def srcD:PyData->Option (List PyData)
 | .list l=>some l
 | .tuple l=>some l
 | .str x=>some (chars x.cps.toList)
 | _=>none
noncomputable def srcF (F:EF):SF:=λσ=>match F σ with
 | some (.dat d,hp)=>match srcD d with
  | some l=>some ((.rem l,l.length+1),hp)
  | none=>none
 | some (.obj i,hp)=>match hp[i]? with
  | some (.lst l)=>some ((.trk i 0,l.length+1),hp)
  | _=>none
 | _=>none
inductive SrcI (F:EF) (σ:St) (is:IS) (n:Nat) (hp':List MO):Prop
 | dat (d:PyData) (l:List PyData):F σ=some (.dat d,hp')->srcD d=some l->.rem l=is->l.length+1=n->SrcI F σ is n hp'
 | obj (i:Nat) (l:List PyData):F σ=some (.obj i,hp')->hp'[i]?=some (.lst l)->.trk i 0=is->l.length+1=n->SrcI F σ is n hp'
theorem srcF_inv {F:EF} {σ:St} {is:IS} {n:Nat} {hp':List MO} (q:srcF F σ=some ((is,n),hp')):SrcI F σ is n hp':=by
 unfold srcF at q
 cases h:F σ with
 | none=>rw [h] at q; exact nos q
 | some x =>
  obtain ⟨pv,hp⟩:=x
  replace q:=h▸q
  cases pv with
  | dat d =>
   have q:(match srcD d with | some l=>some ((IS.rem l,l.length+1),hp) | none=>none)=some ((is,n),hp'):=q
   cases h2:srcD d with
   | none=>rw [h2] at q; exact nos q
   | some l =>
    replace q:=h2▸q
    obtain ⟨q1,q2⟩:=sop q
    exact .dat d l (q2▸h) h2 (Prod.mk.inj q1).1 (Prod.mk.inj q1).2
  | obj i =>
   have q:(match hp[i]? with | some (.lst l)=>some ((IS.trk i 0,l.length+1),hp) | _=>none)=some ((is,n),hp'):=q
   cases h2:hp[i]? with
   | none=>rw [h2] at q; exact nos q
   | some mo =>
    replace q:=h2▸q
    cases mo with
    | lst l =>
     obtain ⟨q1,q2⟩:=sop q
     exact .obj i l (q2▸h) (q2▸h2) (Prod.mk.inj q1).1 (Prod.mk.inj q1).2
    | _=>exact nos q
  | strm _=>exact nos q
theorem PostI.trk {ρ ρ_1:Rho} {Z:List Addr} {s s_1:Shared} {hp':List MO} {i:Nat} {l:List PyData} {v:Value} (ht:TgOK tg) (hh:A.handled=none) (x_1:Ext [] ρ s ρ_1 s_1) (V:VR ρ_1 Z s_1.heap (.obj i) v) (H_1:HR ρ_1 Z hp' s_1.heap) (hl:hp'[i]?=some (.lst l)) :
  wpAny (model prog w) A (pyIter v) (PostI prog w A tg stepI ρ Z s (.trk i 0) hp') noE s_1:=by
 refine cps λ_ KK=>?_
 obtain ⟨r,b,hr,hv⟩:=V
 obtain ⟨hrb,o,vs,m,as,ho,c1,c2,c3,c4,rs,qa⟩:=H_1.lst hl hr
 refine KK ?_
 rw [hv]
 rw [hrb] at hr ⊢
 have fr:s_1.heap.get? s_1.heap.objs.size=none:=Heap.get?_none_of_le (Nat.le_refl _)
 exact wpAny_pyIter_list ⟨o,ho,c1,m,c4⟩ ⟨ρ_1,s_1,[s_1.heap.objs.size],λ_=>False,_,x_1,H_1,Ext.of_keep (t:=s_1.toks) λb o e=>Heap.get?_push_of_some _ e,λb o e=>Heap.get?_push_of_some _ e,all1 fr,
  all1 ⟨_,Heap.get?_push_size _ rfl⟩,λ_ f=>f.elim,⟨rfl,b,hr,⟨_,Heap.get?_push_size _ rfl,rfl,rfl⟩,(H_1.fresh fr).1,Nat.ne_of_lt (Heap.lt_size ho)⟩,(Iter.trk ht hh _).toD⟩
theorem PostI.dat {ρ ρ_1:Rho} {Z:List Addr} {s s_1:Shared} {hp':List MO} {d:PyData} {l:List PyData} {v:Value} (ht:TgOK tg) (hh:A.handled=none) (x_1:Ext [] ρ s ρ_1 s_1) (V:VR ρ_1 Z s_1.heap (.dat d) v) (H_1:HR ρ_1 Z hp' s_1.heap) (hl:srcD d=some l) :
  wpAny (model prog w) A (pyIter v) (PostI prog w A tg stepI ρ Z s (.rem l) hp') noE s_1:=by
 refine cps λ_ KK=>?_
 obtain ⟨as,r,qa⟩:=V
 refine KK ?_
 cases d with
 | list m =>
  refine cps λ_ KK=>?_
  obtain ⟨a,vs,n,bs,hv,has,h1,_,rs⟩:=r.list_
  refine KK ?_
  refine hv.symm▸(sos hl)▸?_
  exact PostI.list ht hh x_1 H_1 ⟨_,h1,rfl,_,rfl⟩ rs (has▸qa)
 | tuple m =>
  refine cps λ_ KK=>?_
  obtain ⟨a,o,vs,n,bs,hv,has,h1,h2,h3,_,rs⟩:=r.tuple_
  refine KK ?_
  refine hv.symm▸(sos hl)▸?_
  exact PostI.tuple ht hh x_1 H_1 ⟨_,h1,h2,_,h3⟩ rs (has▸qa)
 | str x =>
  refine cps λ_ KK=>?_
  obtain ⟨t,hv,_,hx⟩:=r.str_
  refine KK ?_
  refine hv.symm▸(sos hl)▸?_
  exact PostI.str ht hh hx x_1 H_1
 | _=>exact nos hl
theorem EvI.seq {e:Expr} {F:EF} (ht:TgOK tg) (he:Ev prog w K fx e F):EvI prog w K fx e tg stepI (srcF F):=.mk λA ρ Z σ s is n hp' Rm R q=>by
 cases srcF_inv q with
 | dat d l e1 hl h1 _=>exact h1▸wpAny_mono (he.run A ρ Z σ s _ _ Rm R e1) (λv s_1 p=>p.elim λρ_1 p=>PostI.dat ht Rm.handled p.1 p.2.1 p.2.2 hl) λ_ _ q=>q
 | obj i l e1 hl h1 _=>exact h1▸wpAny_mono (he.run A ρ Z σ s _ _ Rm R e1) (λv s_1 p=>p.elim λρ_1 p=>PostI.trk ht Rm.handled p.1 p.2.1 p.2.2 hl) λ_ _ q=>q
end
noncomputable def enumF:Nat->List PyData->List PyData
 | _,[]=>[]
 | n,d::l=>.tuple [.int n,d]::enumF (n+1) l
theorem enumF_length:∀(n:Nat) (l:List PyData),(enumF n l).length=l.length
 | _,[]=>rfl
 | n,d::l=>congrArg (·+1) (enumF_length (n+1) l)
theorem enumF_get:∀(l:List PyData) (n i:Nat) {d:PyData},(enumF n l)[i]?=some d->∃x,l[i]?=some x∧d=.tuple [.int ((n+i:Nat):Int),x]
 | [],n,i,d,h=>nos h
 | x::l,n,0,d,h=>⟨x,rfl,(sos h).symm⟩
 | x::l,n,i+1,d,h=>(enumF_get l (n+1) i (d:=d) h).elim λy q=>⟨y,q.1,by rw [q.2,show n+1+i=n+(i+1) by (exact Nat.add_right_comm _ _ _)]⟩
noncomputable def zipF:List PyData->List PyData->List PyData
 | x::a,y::b=>.tuple [x,y]::zipF a b
 | _,_=>[]
theorem zipF_length:∀(a b:List PyData),(zipF a b).length=min a.length b.length
 | x::a,y::b=>(congrArg (·+1) (zipF_length a b)).trans (Nat.succ_min_succ ..).symm
 | [],b=>(Nat.zero_min _).symm
 | _::_,[]=>(Nat.min_zero _).symm
theorem zipF_get:∀(a b:List PyData) (i:Nat) {d:PyData},(zipF a b)[i]?=some d->∃x y,a[i]?=some x∧b[i]?=some y∧d=.tuple [x,y]
 | x::a,y::b,0,d,h=>⟨x,y,rfl,rfl,(sos h).symm⟩
 | x::a,y::b,i+1,d,h=>zipF_get a b i (d:=d) h
 | [],b,i,d,h=>nos h
 | _::_,[],i,d,h=>nos h
noncomputable def rngF:Int->Int->Nat->List PyData
 | _,_,0=>[]
 | a,c,n+1=>.int a::rngF (a+c) c n
theorem rngF_length:∀(n:Nat) (a c:Int),(rngF a c n).length=n
 | 0,_,_=>rfl
 | n+1,a,c=>congrArg (·+1) (rngF_length n (a+c) c)
theorem rngF_get:∀(n:Nat) (a c:Int) (i:Nat) {d:PyData},(rngF a c n)[i]?=some d->d=.int (a+i*c)
 | 0,a,c,i,d,h=>nos h
 | n+1,a,c,0,d,h=>by rw [← sos h]; simp
 | n+1,a,c,i+1,d,h=>by
  rw [rngF_get n (a+c) c i (d:=d) h]
  have e:a+c+(i:Int)*c=a+((i+1:Nat):Int)*c:=by
   rw [show ((i+1:Nat):Int)=(i:Int)+1 by rfl,Int.add_mul]; lia
  rw [e]
section
variable {prog:Program} {w:World} {K:Addr->Option Obj} {fx:Fx} {mg mb:Str->Option Value}
noncomputable def enumSrc (F:EF):SF:=λσ=>match F σ with
 | some (.dat (.list l),hp)=>some ((.rem (enumF 0 l),l.length+1),hp)
 | some (.dat (.str x),hp)=>some ((.rem (enumF 0 (chars x.cps.toList)),x.cps.size+1),hp)
 | _=>none
inductive EnumI (F:EF) (σ:St) (is:IS) (n:Nat) (hp':List MO):Prop
 | li (l:List PyData):F σ=some (.dat (.list l),hp')->.rem (enumF 0 l)=is->EnumI F σ is n hp'
 | st (x:Str):F σ=some (.dat (.str x),hp')->.rem (enumF 0 (chars x.cps.toList))=is->EnumI F σ is n hp'
theorem enumSrc_inv {F:EF} {σ:St} {is:IS} {n:Nat} {hp':List MO} (q:enumSrc F σ=some ((is,n),hp')):EnumI F σ is n hp':=by
 unfold enumSrc at q
 cases h:F σ with
 | none=>rw [h] at q; exact nos q
 | some x =>
  obtain ⟨pv,hp⟩:=x
  rw [h] at q
  cases pv with
  | dat d=>cases d with
   | list l=>exact .li l ((sop q).2▸h) (Prod.mk.inj (sop q).1).1
   | str x=>exact .st x ((sop q).2▸h) (Prod.mk.inj (sop q).1).1
   | _=>exact nos q
  | _=>exact nos q
theorem enum_item {h:Heap} {l:List PyData} {i:Nat} {d:PyData} {t:Tok} {x:Value} {fd:List Addr} (hd:(enumF 0 l)[i]?=some d) (k:∀y,l[i]?=some y->∃bs,RD h x y bs∧∀a∈bs,a∈fd) :
  ∃xs as,d=.tuple xs∧RDs h [.int i t,x] xs as∧∀a∈as,a∈fd:=by
 refine cps λ_ KK=>?_
 obtain ⟨y,hy,e⟩:=enumF_get l 0 i hd
 obtain ⟨bs,rb,qb⟩:=k y hy
 refine KK ?_
 rw [Nat.zero_add] at e
 exact ⟨_,[]++(bs++[]),e,.cons (.int _ _) (.cons rb .nil),λb hb=>qb b (by rwa [List.append_nil,List.nil_append] at hb)⟩
section
variable {A:Around} {ρ ρ_1:Rho} {Z:List Addr} {s s_1:Shared} {hp':List MO} {es:List Expr} {k:Nat} {p:Pos}
theorem new_at (n:Nat) (h:s_1.heap.objs.size≤n):s_1.heap.get? n=none:=Heap.get?_none_of_le h
theorem enum_list {v:Value} {l:List PyData} (hh:A.handled=none) (x_1:Ext [] ρ s ρ_1 s_1) (V:VR ρ_1 Z s_1.heap (.dat (.list l)) v) (H_1:HR ρ_1 Z hp' s_1.heap) :
  wpAny (model prog w) A (call (.type "enumerate") [v]) (λv s_2=>wpAny (model prog w) A (pyIter v) (PostI prog w A (.Tuple es k p) stepI ρ Z s (.rem (enumF 0 l)) hp') noE s_2) noE s_1:=by
 refine cps λ_ KK=>?_
 obtain ⟨as,r,qa⟩:=V
 obtain ⟨a,vs,m,as',hv,has,ho,hlen,rs⟩:=r.list_
 refine KK ?_
 refine hv.symm▸?_
 replace qa:=has▸qa
 refine call_enumerate_list ⟨_,ho,rfl,m,rfl⟩ λh he hit hz keep=>wpAny_pyIter_enum (s:={ s_1 with heap:=h }) he ?_
 have hlt:=Heap.lt_size ho
 have ea:a≠s_1.heap.objs.size+1:=Nat.ne_of_lt (Nat.lt_succ_of_lt hlt)
 have ei:a≠s_1.heap.objs.size:=Nat.ne_of_lt hlt
 have n0:=new_at (s_1:=s_1) _ (Nat.le_refl _)
 have n1:=new_at (s_1:=s_1) _ (Nat.le_succ _)
 have live:∀(i:Nat) (h:Heap),(∃old,IsEnum h (s_1.heap.objs.size+1) s_1.heap.objs.size i old)∧h.IsListIter s_1.heap.objs.size a i∧h.IsList a vs->∀b∈[s_1.heap.objs.size+1,s_1.heap.objs.size,a],∃o,h.get? b=some o :=
  λi h x=>allc (x.1.elim λ_ q=>⟨_,q⟩) (all2 (x.2.1.elim λo q=>⟨o,q.1⟩) (x.2.2.elim λo q=>⟨o,q.1⟩))
 exact PostI.of_new (fp:=[s_1.heap.objs.size+1,s_1.heap.objs.size,a]) (wr:=[s_1.heap.objs.size+1,s_1.heap.objs.size]) (fd:=as') (n:=vs.size)
  (Sx:=λi h=>(∃old,IsEnum h (s_1.heap.objs.size+1) s_1.heap.objs.size i old)∧h.IsListIter s_1.heap.objs.size a i∧h.IsList a vs)
  x_1 H_1 keep (all2 n1 n0) live (all2 (List.mem_cons_self ..) (List.mem_cons_of_mem _ (List.mem_cons_self ..))) ⟨⟨_,he⟩,hit,⟨_,keep _ _ ho,rfl,m,rfl⟩⟩ (λb hb=>⟨rs.live b hb,qa b (List.mem_cons_of_mem _ hb)⟩)
  (allc (.inl n1) (all2 (.inl n0) (.inr ⟨⟨_,ho⟩,qa a (List.mem_cons_self ..)⟩)))
  (Iter.walksT (WalksT.enumerate hh _ _ a (Nat.succ_ne_self _) ea ei vs) (by rw [enumF_length,hlen]) live (λi xs d h hv hd kd=>by
   refine cps λ_ KK=>?_
   obtain ⟨t,x,hx,e⟩:=hv
   refine KK ?_
   refine e.symm▸?_
   exact enum_item hd λy hy=>rs.item hx hy kd))
theorem enum_str {v:Value} {x:Str} (hh:A.handled=none) (x_1:Ext [] ρ s ρ_1 s_1) (V:VR ρ_1 Z s_1.heap (.dat (.str x)) v) (H_1:HR ρ_1 Z hp' s_1.heap) :
  wpAny (model prog w) A (call (.type "enumerate") [v]) (λv s_2=>wpAny (model prog w) A (pyIter v) (PostI prog w A (.Tuple es k p) stepI ρ Z s (.rem (enumF 0 (chars x.cps.toList))) hp') noE s_2) noE s_1:=by
 refine cps λ_ KK=>?_
 obtain ⟨as,r,qa⟩:=V
 obtain ⟨t,hv,_,hx⟩:=r.str_
 refine KK ?_
 refine hv.symm▸?_
 refine call_enumerate_str λh he hit hz keep=>wpAny_pyIter_enum (s:={ s_1 with heap:=h }) he ?_
 have n0:=new_at (s_1:=s_1) _ (Nat.le_refl _)
 have n1:=new_at (s_1:=s_1) _ (Nat.le_succ _)
 have main:∀T,h.IsStrIter s_1.heap.objs.size T x t 0->Draws prog w A.in1 s_1.heap.objs.size [s_1.heap.objs.size] x.cps.size (λi v=>∃c u,x.cps[i]?=some c∧v=.str ⟨#[c]⟩ u) (λi h=>h.IsStrIter s_1.heap.objs.size T x t i) ->
   PostI prog w A (.Tuple es k p) stepI ρ Z s (.rem (enumF 0 (chars x.cps.toList))) hp' (.ref (s_1.heap.objs.size+1)) { s_1 with heap:=h }:=λT hit D=>by
  have live:∀(i:Nat) (h:Heap),(∃old,IsEnum h (s_1.heap.objs.size+1) s_1.heap.objs.size i old)∧h.IsStrIter s_1.heap.objs.size T x t i->∀b∈[s_1.heap.objs.size+1,s_1.heap.objs.size],∃o,h.get? b=some o :=
   λi h x=>all2 (x.1.elim λ_ q=>⟨_,q⟩) (x.2.elim λo q=>⟨o,q.1⟩)
  exact PostI.of_new (fp:=[s_1.heap.objs.size+1,s_1.heap.objs.size]) (wr:=[s_1.heap.objs.size+1,s_1.heap.objs.size]) (fd:=[]) (n:=x.cps.size)
   (Sx:=λi h=>(∃old,IsEnum h (s_1.heap.objs.size+1) s_1.heap.objs.size i old)∧h.IsStrIter s_1.heap.objs.size T x t i)
   x_1 H_1 keep (all2 n1 n0) live (λb hb=>hb) ⟨⟨_,he⟩,hit⟩ (λb hb=>nin hb) (all2 (.inl n1) (.inl n0))
   (Iter.walksT (WalksT.enumerateD D _ (Nat.succ_ne_self _) (by simp) (by simp)) (by rw [enumF_length,chars,List.length_map,Array.length_toList]) live (λi xs d h hv hd kd=>by
    refine cps λ_ KK=>?_
    obtain ⟨t,y,hy',e⟩:=hv
    refine KK ?_
    refine e.symm▸?_
    exact enum_item hd λy hy=>sign_RD hx hy' hy))
 cases ha:x.cps.all (· < 128)
 ·exact main _ (by simpa [strIterType,ha] using hit) (Draws.strWide (A:=A.in1) hh _ x t)
 ·exact main _ (by simpa [strIterType,ha] using hit) (Draws.strAscii (A:=A.in1) hh _ x t)
end
theorem EvI.enum (gl:Gl K mg mb) {e:Expr} {es:List Expr} {k:Nat} {p pos np:Pos} {F:EF} (he:Ev prog w K fx e F) (hk:fx.sc.names.lookup ("enumerate":Str)=some .globalImplicit) (hg:mg "enumerate"=none) (hb:mb "enumerate"=some (.type "enumerate"))
  (hs:∀env,starEach [e] env=[(false,eval e env)]:=by intro _; rfl):EvI prog w K fx (.Call (.Name "enumerate" np) [e] [] pos) (.Tuple es k p) stepI (enumSrc F):=.mk λA ρ Z σ s is n hp' Rm R q=>by
 refine Call_ (global_name gl R hk (.inr ⟨hg,hb⟩) (callWith_val (.inr ⟨_,rfl⟩) (wpAny_items_cons ?_ (hs _)) (hs _) rfl) (by decide))
 cases enumSrc_inv q with
 | li l e1 h1=>exact h1▸wpAny_mono (he.run A ρ Z σ s _ _ Rm R e1) (λv s_1 p=>wpAny_items_nil (p.elim λρ_1 p=>enum_list Rm.handled p.1 p.2.1 p.2.2)) λ_ _ q=>q
 | st x e1 h1=>exact h1▸wpAny_mono (he.run A ρ Z σ s _ _ Rm R e1) (λv s_1 p=>wpAny_items_nil (p.elim λρ_1 p=>enum_str Rm.handled p.1 p.2.1 p.2.2)) λ_ _ q=>q
end
section
variable {prog:Program} {w:World} {K:Addr->Option Obj} {fx:Fx} {mg mb:Str->Option Value} {tg:Expr}
noncomputable def zipSrc (G:LF):SF:=λσ=>match G σ with
 | some ([.dat (.list a),.dat (.list b)],hp)=>some ((.rem (zipF a b),min a.length b.length+1),hp)
 | _=>none
theorem VRs.inv {ρ:Rho} {Z:List Addr} {h:Heap} {ps:List PV} {vs:List Value} (x:VRs ρ Z h ps vs):(∀p r,ps=p::r->∃v w,vs=v::w∧VR ρ Z h p v∧VRs ρ Z h r w)∧(ps=[]->vs=[]) :=
 VRs.rec (motive:=λps vs _=>(∀p r,ps=p::r->∃v w,vs=v::w∧VR ρ Z h p v∧VRs ρ Z h r w)∧(ps=[]->vs=[])) ⟨λ_ _ h=>(nnc h),λ_=>rfl⟩
  (λa b _=>⟨λp r e=>⟨_,_,rfl,(List.cons.inj e).1▸a,(List.cons.inj e).2▸b⟩,λh=>(ncn h)⟩) x
theorem VRs.uncons {ρ:Rho} {Z:List Addr} {h:Heap} {p:PV} {ps:List PV} {vs:List Value} (x:VRs ρ Z h (p::ps) vs):∃v r,vs=v::r∧VR ρ Z h p v∧VRs ρ Z h ps r:=x.inv.1 p ps rfl
theorem VRs.unnil {ρ:Rho} {Z:List Addr} {h:Heap} {vs:List Value} (x:VRs ρ Z h [] vs):vs=[]:=x.inv.2 rfl
theorem lists2 {β:Type} {f:List PyData->List PyData->List MO->Option β} {ps:List PV} {hp:List MO} {r:β} {C:Prop} (q:(match (some (ps,hp):Option (List PV×List MO)) with | some ([.dat (.list a),.dat (.list b)],hp)=>f a b hp | _=>none)=some r) (k:∀a b,ps=[.dat (.list a),.dat (.list b)]->f a b hp=some r->C):C:=by
 cases ps with
 | nil=>exact nos q
 | cons p ps=>cases p with
  | dat d=>cases d with
   | list a=>cases ps with
    | nil=>exact nos q
    | cons p ps=>cases p with
     | dat d=>cases d with
      | list b=>cases ps with
       | nil=>exact k a b rfl q
       | cons _ _=>exact nos q
      | _=>exact nos q
     | _=>exact nos q
   | _=>exact nos q
  | _=>exact nos q
theorem zipSrc_inv {G:LF} {σ:St} {is:IS} {n:Nat} {hp':List MO} (q:zipSrc G σ=some ((is,n),hp')):∃a b,G σ=some ([.dat (.list a),.dat (.list b)],hp')∧.rem (zipF a b)=is:=by
 unfold zipSrc at q
 cases h:G σ with
 | none=>rw [h] at q; exact nos q
 | some x =>
  obtain ⟨ps,hp⟩:=x
  replace q:=h▸q
  exact lists2 (f:=λa b hp=>some ((IS.rem (zipF a b),min a.length b.length+1),hp)) q λa b h1 h2=>⟨a,b,h1.symm▸((sop h2).2)▸rfl,(Prod.mk.inj (sop h2).1).1⟩
section
variable {A:Around} {ρ ρ_1:Rho} {Z:List Addr} {s s_1:Shared} {hp':List MO} {es:List Expr} {k:Nat} {p:Pos}
theorem zip_lists {vs:List Value} {la lb:List PyData} (hh:A.handled=none) (x_1:Ext [] ρ s ρ_1 s_1) (V:VRs ρ_1 Z s_1.heap [.dat (.list la),.dat (.list lb)] vs) (H_1:HR ρ_1 Z hp' s_1.heap) :
  wpAny (model prog w) A (call (.type "zip") vs) (λv s_2=>wpAny (model prog w) A (pyIter v) (PostI prog w A (.Tuple es k p) stepI ρ Z s (.rem (zipF la lb)) hp') noE s_2) noE s_1:=by
 refine cps λ_ KK=>?_
 obtain ⟨v1,r1,e1,⟨as1,ra,qa⟩,V⟩:=V.uncons
 obtain ⟨v2,r2,e2,⟨as2,rb,qb⟩,V⟩:=V.uncons
 obtain ⟨a,vs1,m,as',hv1,ha1,ho,hlen,rs⟩:=ra.list_
 obtain ⟨a',vs2,m',bs',hv2,ha2,ho',hlen',rs'⟩:=rb.list_
 refine KK ?_
 refine e1.symm▸e2.symm▸V.unnil.symm▸hv1.symm▸hv2.symm▸?_
 replace qa:=ha1▸qa
 replace qb:=ha2▸qb
 have N:∀j,s_1.heap.get? (s_1.heap.objs.size+j)=none:=λj=>new_at _ (Nat.le_add_right _ _)
 have N0:s_1.heap.get? s_1.heap.objs.size=none:=N 0
 refine call_zip_2 ⟨_,ho,rfl,m,rfl⟩ ⟨_,ho',rfl,m',rfl⟩ λh hz hTI hTO hi1 hi2 hsz keep=>wpAny_pyIter_zip (s:={ s_1 with heap:=h }) hz ?_
 have ne:∀(x:Nat) (k:Nat),x < s_1.heap.objs.size->x≠s_1.heap.objs.size+k:=λx k h=>Nat.ne_of_lt (Nat.lt_of_lt_of_le h (Nat.le_add_right _ _))
 have nn:∀i j:Nat,i≠j->s_1.heap.objs.size+i≠s_1.heap.objs.size+j:=λi j h q=>h (Nat.add_left_cancel q)
 have n0:∀j:Nat,0≠j->s_1.heap.objs.size≠s_1.heap.objs.size+j:=λj h=>nn 0 j h
 have n0':∀j:Nat,0≠j->s_1.heap.objs.size+j≠s_1.heap.objs.size:=λj h=>(n0 j h).symm
 have hlt:=Heap.lt_size ho
 have hlt':=Heap.lt_size ho'
 have D:ZipApart (s_1.heap.objs.size+4) (s_1.heap.objs.size+2) (s_1.heap.objs.size+3) s_1.heap.objs.size (s_1.heap.objs.size+1) a a':=by
  refine ⟨?_,?_,?_,?_,?_,?_,?_,?_,?_,?_,ne a 4 hlt,ne a 3 hlt,ne a 0 hlt,ne a 1 hlt,ne a' 4 hlt',ne a' 3 hlt',ne a' 0 hlt',ne a' 1 hlt'⟩<;>first | exact nn _ _ (by decide) | exact n0 _ (by decide) | exact n0' _ (by decide)
 have live:∀(i:Nat) (h:Heap),IsZip h (s_1.heap.objs.size+4) (s_1.heap.objs.size+2) (s_1.heap.objs.size+3) .none∧IsPair h (s_1.heap.objs.size+2) (.ref s_1.heap.objs.size) (.ref (s_1.heap.objs.size+1))∧(∃a b,IsPair h (s_1.heap.objs.size+3) a b)∧h.IsListIter s_1.heap.objs.size a i∧h.IsListIter (s_1.heap.objs.size+1) a' i∧h.IsList a vs1∧h.IsList a' vs2 ->
   ∀b∈[s_1.heap.objs.size+4,s_1.heap.objs.size+2,s_1.heap.objs.size+3,s_1.heap.objs.size,s_1.heap.objs.size+1,a,a'],∃o,h.get? b=some o:=λi h x =>
  allc ⟨_,x.1⟩ (allc ⟨_,x.2.1⟩ (allc (x.2.2.1.elim λ_ q=>q.elim λ_ q=>⟨_,q⟩) (allc (x.2.2.2.1.elim λo q=>⟨o,q.1⟩) (allc (x.2.2.2.2.1.elim λo q=>⟨o,q.1⟩) (all2 (x.2.2.2.2.2.1.elim λo q=>⟨o,q.1⟩) (x.2.2.2.2.2.2.elim λo q=>⟨o,q.1⟩))))))
 exact PostI.of_new (fp:=[s_1.heap.objs.size+4,s_1.heap.objs.size+2,s_1.heap.objs.size+3,s_1.heap.objs.size,s_1.heap.objs.size+1,a,a']) (wr:=[s_1.heap.objs.size+4,s_1.heap.objs.size+3,s_1.heap.objs.size,s_1.heap.objs.size+1]) (fd:=as'++bs') (n:=min vs1.size vs2.size)
  (Sx:=λi h=>IsZip h (s_1.heap.objs.size+4) (s_1.heap.objs.size+2) (s_1.heap.objs.size+3) .none∧IsPair h (s_1.heap.objs.size+2) (.ref s_1.heap.objs.size) (.ref (s_1.heap.objs.size+1))∧(∃a b,IsPair h (s_1.heap.objs.size+3) a b)∧h.IsListIter s_1.heap.objs.size a i∧h.IsListIter (s_1.heap.objs.size+1) a' i∧h.IsList a vs1∧h.IsList a' vs2)
  x_1 H_1 keep (allc (N 4) (allc (N 3) (all2 N0 (N 1)))) live (allc (.head _) (allc (.tail _ (.tail _ (.head _))) (all2 (.tail _ (.tail _ (.tail _ (.head _)))) (.tail _ (.tail _ (.tail _ (.tail _ (.head _)))))))) ⟨hz,hTI,⟨_,_,hTO⟩,hi1,hi2,⟨_,keep _ _ ho,rfl,m,rfl⟩,⟨_,keep _ _ ho',rfl,m',rfl⟩⟩
  (λb hb=>(List.mem_append.mp hb).elim (λhb=>⟨rs.live b hb,qa b (List.mem_cons_of_mem _ hb)⟩) λhb=>⟨rs'.live b hb,qb b (List.mem_cons_of_mem _ hb)⟩)
  (allc (.inl (N 4)) (allc (.inl (N 2)) (allc (.inl (N 3)) (allc (.inl N0) (allc (.inl (N 1)) (all2 (.inr ⟨⟨_,ho⟩,qa a (List.mem_cons_self ..)⟩) (.inr ⟨⟨_,ho'⟩,qb a' (List.mem_cons_self ..)⟩)))))))
  (Iter.walksT (WalksT.zip2 hh _ _ _ _ _ a a' D vs1 vs2) (by rw [zipF_length,hlen,hlen']) live (λi xs d h hv hd kd=>by
   refine cps λ_ KK=>?_
   obtain ⟨x,y,hx,hy,e⟩:=hv
   obtain ⟨x',y',hx',hy',e'⟩:=zipF_get _ _ i hd
   obtain ⟨cs,rc,qc⟩:=rs.item hx hx' λb hb=>kd b (List.mem_append_left _ hb)
   obtain ⟨ds,rd',qd⟩:=rs'.item hy hy' λb hb=>kd b (List.mem_append_right _ hb)
   refine KK ?_
   refine e.symm▸?_
   exact ⟨_,cs++(ds++[]),e',.cons rc (.cons rd' .nil),λb hb=>(List.mem_append.mp hb).elim (λhb=>List.mem_append_left _ (qc b hb)) λhb=>List.mem_append_right _ (qd b (by rwa [List.append_nil] at hb))⟩))
end
theorem EvI.zip2 (gl:Gl K mg mb) {e e':Expr} {es:List Expr} {k:Nat} {p pos np:Pos} {G:LF} (he:EvL prog w K fx [e,e'] G) (hk:fx.sc.names.lookup ("zip":Str)=some .globalImplicit) (hg:mg "zip"=none) (hb:mb "zip"=some (.type "zip"))
  (hs:∀env,starEach [e,e'] env=(false,eval e env)::starEach [e'] env:=by intro _; rfl) (hp:∀env,(backTo pos (starEach [e'] env)).any (·.1)=false:=by intro _; rfl) :
  EvI prog w K fx (.Call (.Name "zip" np) [e,e'] [] pos) (.Tuple es k p) stepI (zipSrc G):=.mk λA ρ Z σ s is n hp' Rm R q=>by
 refine cps λ_ KK=>?_
 obtain ⟨la,lb,e1,h1⟩:=zipSrc_inv q
 refine KK ?_
 exact h1▸Call_ (global_name gl R hk (.inr ⟨hg,hb⟩) (callWith_val (.inr ⟨_,rfl⟩) (wpAny_mono (he.run pos A ρ Z σ s _ _ Rm R e1) (λvs s_1 P=>P.elim λρ_1 P=>zip_lists Rm.handled P.1 P.2.1 P.2.2) λ_ _ q=>q) (hs _) (hp _)) (by decide))
noncomputable def rngD:List PyData->Option (Int×Int×Int)
 | [.int b]=>some (0,b,1)
 | [.int a,.int b]=>some (a,b,1)
 | _=>none
noncomputable def rngSrc (G:LF):SF:=λσ=>match G σ with
 | some (ps,hp)=>match dats ps with
  | some ds=>match rngD ds with
   | some (a,b,c)=>if c≠0∧Builtin.Range.small a b c=true∧c.natAbs < 2 ^ 60 then some ((.rem (rngF a c (Builtin.Range.rangeSize a b c).toNat),(Builtin.Range.rangeSize a b c).toNat+1),hp) else none
   | none=>none
  | none=>none
 | none=>none
theorem size_up (a b:Int):Builtin.Range.rangeSize a b 1=if a < b then b - a else 0:=by
 unfold Builtin.Range.rangeSize
 rw [if_pos (by decide),Int.ediv_one,Int.sub_add_cancel]
theorem rangeSize_nonneg (a b:Int):0≤Builtin.Range.rangeSize a b 1:=by
 rw [size_up]
 by_cases h:a < b
 ·rw [if_pos h]; exact Int.sub_nonneg_of_le (Int.le_of_lt h)
 ·rw [if_neg h]; exact Int.le_refl 0
theorem PostI.range {A:Around} {ρ ρ_1:Rho} {Z:List Addr} {s s_1:Shared} {hp':List MO} {r:Addr} {a b c:Int} {t u v:Tok} (ht:TgOK tg) (hh:A.handled=none)
  (x_1:Ext [] ρ s ρ_1 s_1) (H_1:HR ρ_1 Z hp' s_1.heap) (hr:IsRange s_1.heap r a b c t u v) (hsm:Builtin.Range.small a b c=true) (h1:c=1) :
  wpAny (model prog w) A (pyIter (.ref r)) (PostI prog w A tg stepI ρ Z s (.rem (rngF a c (Builtin.Range.rangeSize a b c).toNat)) hp') noE s_1:=by
 have hn:(((Builtin.Range.rangeSize a b c).toNat:Nat):Int)=Builtin.Range.rangeSize a b c:=h1▸Int.toNat_of_nonneg (rangeSize_nonneg a b)
 have fr:s_1.heap.get? s_1.heap.objs.size=none:=Heap.get?_none_of_le (Nat.le_refl _)
 have live:∀(i:Nat) (h:Heap),IsRangeIter h s_1.heap.objs.size (a+(i:Nat)*c) (((Builtin.Range.rangeSize a b c).toNat:Int) - (i:Nat)) c->∀b∈[s_1.heap.objs.size],∃o,h.get? b=some o:=λi h e=>all1 ⟨_,e⟩
 refine wpAny_pyIter_range hr hsm (PostI.of_new (fp:=[s_1.heap.objs.size]) (wr:=[s_1.heap.objs.size]) (fd:=[]) (n:=(Builtin.Range.rangeSize a b c).toNat) (Sx:=λi h'=>IsRangeIter h' s_1.heap.objs.size (a+(i:Nat)*c) (((Builtin.Range.rangeSize a b c).toNat:Int) - (i:Nat)) c)
  x_1 H_1 (λb o e=>Heap.get?_push_of_some _ e) (all1 fr) live (λb hb=>hb) ?_ (λb hb=>nin hb) (all1 (.inl fr))
  (Iter.walks (Walks.range hh _ a c _) (rngF_length _ _ _) live (λi v d h hv hd k=>hv.elim λt e=>⟨[],e.symm▸(rngF_get _ _ _ i hd).symm▸.int _ _,λ_ h=>nin h⟩) λi s v Q h hQ=>go_class ht h rfl (by decide) hQ))
 have:=Heap.get?_push_size s_1.heap (o:={ cls:=.type "range_iterator",data:=.fields #[rawInt a,rawInt (Builtin.Range.rangeSize a b c),rawInt c] }) rfl
 simpa [hn] using this
theorem rngSrc_inv {G:LF} {σ:St} {is:IS} {n:Nat} {hp':List MO} {C:Prop} (q:rngSrc G σ=some ((is,n),hp')) (k:∀ps ds a b c,G σ=some (ps,hp')->dats ps=some ds->rngD ds=some (a,b,c)->c≠0∧Builtin.Range.small a b c=true∧c.natAbs < 2 ^ 60->.rem (rngF a c (Builtin.Range.rangeSize a b c).toNat)=is->C):C:=by
 unfold rngSrc at q
 cases h:G σ with
 | none=>rw [h] at q; exact nos q
 | some x =>
  obtain ⟨ps,hp⟩:=x
  replace q:=h▸q
  dsimp only at q
  cases h2:dats ps with
  | none=>rw [h2] at q; exact nos q
  | some ds =>
   replace q:=h2▸q
   dsimp only at q
   cases h3:rngD ds with
   | none=>rw [h3] at q; exact nos q
   | some y =>
    obtain ⟨a,b,c⟩:=y
    replace q:=h3▸q
    exact ite_inv q λhc e=>k ps ds a b c (((Prod.mk.inj e).2)▸h) h2 h3 hc (Prod.mk.inj (Prod.mk.inj e).1).1
inductive RngI (ds:List PyData) (a b c:Int):Prop
 | one:ds=[.int b]->a=0->c=1->RngI ds a b c
 | two:ds=[.int a,.int b]->c=1->RngI ds a b c
theorem rngD_inv {ds:List PyData} {a b c:Int} (e:rngD ds=some (a,b,c)):RngI ds a b c:=by
 cases ds with
 | nil=>exact nos e
 | cons d ds=>cases d with
  | int x=>cases ds with
   | nil=>exact (Prod.mk.inj (sos e)).2 |> λh=>.one (((Prod.mk.inj h).1).symm▸rfl) (Prod.mk.inj (sos e)).1.symm (Prod.mk.inj h).2.symm
   | cons d ds=>cases d with
    | int y=>cases ds with
     | nil=>exact (Prod.mk.inj (sos e)).2 |> λh=>.two (((Prod.mk.inj (sos e)).1).symm▸((Prod.mk.inj h).1).symm▸rfl) (Prod.mk.inj h).2.symm
     | cons _ _=>exact nos e
    | _=>exact nos e
  | _=>exact nos e
theorem ints_one {h:Heap} {vs:List Value} {i:Int} {l:List PyData} {as:List Addr} (r:RDs h vs (.int i::l) as):∃t r',vs=.int i t::r'∧∃cs,RDs h r' l cs:=by
 refine cps λ_ KK=>?_
 obtain ⟨v,r',_,cs,e,h1,r1⟩:=r.uncons
 obtain ⟨t,e'⟩:=h1.unint
 refine KK ?_
 exact ⟨t,r',e.symm▸e'.symm▸rfl,cs,r1⟩
theorem call_range_ok {A:Around} {s_1:Shared} {ds:List PyData} {vs:List Value} {as:List Addr} {a b c:Int} {Q:Value->Shared->Prop} (r:RDs s_1.heap vs ds as) (e:RngI ds a b c)
  (k:∀t u v tk,Q (.ref s_1.heap.objs.size) { s_1 with heap:=s_1.heap.push { cls:=.type "range",data:=.fields #[.int a t,.int b u,.int c v] },toks:=tk }):wpAny (model prog w) A (call (.type "range") vs) Q noE s_1:=by
 cases e with
 | one h ha h1 =>
  replace r:=h▸r
  refine cps λ_ KK=>?_
  obtain ⟨t1,r1,e1,_,x1⟩:=ints_one r
  refine KK ?_
  refine e1.symm▸x1.unnil.symm▸?_
  subst ha h1
  exact call_range_1 (k _ _ _ _)
 | two h h1 =>
  replace r:=h▸r
  refine cps λ_ KK=>?_
  obtain ⟨t1,r1,e1,_,x1⟩:=ints_one r
  obtain ⟨t2,r2,e2,_,x2⟩:=ints_one x1
  refine KK ?_
  refine e1.symm▸e2.symm▸x2.unnil.symm▸?_
  subst h1
  exact call_range_2 (k _ _ _ _)
theorem RngI.one' {ds:List PyData} {a b c:Int} (e:RngI ds a b c):c=1:=by
 cases e with
 | one _ _ h=>exact h
 | two _ h=>exact h
theorem EvI.range (gl:Gl K mg mb) (ht:TgOK tg) {e:Expr} {es:List Expr} {pos np:Pos} {G:LF} (he:EvL prog w K fx (e::es) G) (hk:fx.sc.names.lookup ("range":Str)=some .globalImplicit) (hg:mg "range"=none) (hb:mb "range"=some (.type "range"))
  (hs:∀env,starEach (e::es) env=(false,eval e env)::starEach es env:=by intro _; rfl) (hp:∀env,(backTo pos (starEach es env)).any (·.1)=false:=by intro _; rfl) :
  EvI prog w K fx (.Call (.Name "range" np) (e::es) [] pos) tg stepI (rngSrc G):=.mk λA ρ Z σ s is n hp' Rm R q =>
 rngSrc_inv q λps ds a b c e1 e2 e3 hc h1=>h1▸Call_ (global_name gl R hk (.inr ⟨hg,hb⟩) (callWith_val (.inr ⟨_,rfl⟩) (wpAny_mono (he.run pos A ρ Z σ s _ _ Rm R e1) (λvs s_1 P=>P.elim λρ_1 P=>(dats_RDs P.2.1 e2).elim λas r =>
  call_range_ok r.1 (rngD_inv e3) λt u v tk=>PostI.range (s_1:={ s_1 with heap:=s_1.heap.push { cls:=.type "range",data:=.fields #[.int a t,.int b u,.int c v] },toks:=tk }) ht Rm.handled (P.1.trans (Ext.of_keep λb o e=>Heap.get?_push_of_some _ e)) (P.2.2.keep λb o e=>Heap.get?_push_of_some _ e) (IsRange.new _ _ _ _ _ _ _) hc.2.1 (rngD_inv e3).one') λ_ _ q=>q) (hs _) (hp _)) (by decide))
noncomputable def setL2 (i j:Nat):PyData->Loc->Option Loc
 | .tuple [a,b],loc=>some ((loc.set i (some (.dat a))).set j (some (.dat b)))
 | _,_=>none
theorem VR.keep {ρ:Rho} {Z:List Addr} {h h':Heap} (k:∀a o,h.get? a=some o->h'.get? a=some o) {p:PV} {v:Value} (r:VR ρ Z h p v):VR ρ Z h' p v:=r.own λa o _ e=>k a o e
theorem ExtBut.keepAll {h h':Heap} (x:Heap.ExtBut h.objs.size h h') (b:Addr) (o:Obj) (e:h.get? b=some o):h'.get? b=some o :=
 x b o (Nat.ne_of_lt (Heap.lt_size e)) e
theorem SR.keep {ρ:Rho} {Z:List Addr} {σ:St} {s:Shared} {h:Heap} {t:Nat} (R:SR K fx ρ Z σ s) (k:∀b o,s.heap.get? b=some o->h.get? b=some o):SR K fx ρ Z σ { s with heap:=h,toks:=t } :=
 R.next (s':={ s with heap:=h,toks:=t }) (Ext.of_keep k) (R.hr.keep k)
theorem RDs.uncons2 {h:Heap} {vs:List Value} {d:PyData} {ds:List PyData} {as:List Addr} (x:RDs h vs (d::ds) as):∃v r bs cs,vs=v::r∧RD h v d bs∧RDs h r ds cs∧as=bs++cs :=
 RDs.ind (Q:=λvs l as=>∀d ds,l=d::ds->∃v r bs cs,vs=v::r∧RD h v d bs∧RDs h r ds cs∧as=bs++cs) (λ_ _ h=>(nnc h)) (λy r _ d ds e=>⟨_,_,_,_,rfl,(List.cons.inj e).1▸y,(List.cons.inj e).2▸r,rfl⟩) x d ds rfl
theorem setL2_inv {i j:Nat} {d:PyData} {loc loc':Loc} (q:setL2 i j d loc=some loc'):∃a b,d=.tuple [a,b]∧(loc.set i (some (.dat a))).set j (some (.dat b))=loc':=by
 cases d with
 | tuple l=>match l,q with
  | [a,b],q=>exact ⟨a,b,rfl,sos q⟩
  | [],q=>exact nos q
  | [_],q=>exact nos q
  | _::_::_::_,q=>exact nos q
 | _=>exact nos q
theorem As.tup2 {i j:Nat} {x y:Str} {px py p:Pos} {m:Nat} (hi:fx.vars.lookup i=some x) (oi:StoreOK fx x) (hj:fx.vars.lookup j=some y) (oj:StoreOK fx y):As prog w K fx (.Tuple [.Name x px,.Name y py] m p) (setL2 i j):=.mk λA ρ Z σ s d v loc' Rm R r q=>by
 refine cps λ_ KK=>?_
 obtain ⟨a,b,hd,hl⟩:=setL2_inv q
 obtain ⟨as,r,qa⟩:=r
 replace r:=hd▸r
 obtain ⟨ad,o,vs,n,as',hv,has,ho,h1,h4,hlen,rs⟩:=r.tuple_
 obtain ⟨v0,r0,b0,c0,e0,ra0,s0,f0⟩:=rs.uncons2
 obtain ⟨v1,r1,b1,c1,e1,ra1,s1,f1⟩:=s0.uncons2
 refine KK ?_
 have evs:vs.toList=[v0,v1]:=e0.symm▸e1.symm▸s1.unnil.symm▸rfl
 replace qa:=f1▸f0▸has▸qa
 have w0:VR ρ Z s.heap (.dat a) v0:=⟨b0,ra0,λc hc=>qa c (List.mem_cons_of_mem _ (List.mem_append_left _ hc))⟩
 have w1:VR ρ Z s.heap (.dat b) v1:=⟨b1,ra1,λc hc=>qa c (List.mem_cons_of_mem _ (List.mem_append_right _ (List.mem_append_left _ hc)))⟩
 refine hv.symm▸hl▸?_
 refine wpAny_assign_Tuple Rm.handled ⟨o,ho,h1,n,h4⟩ (by rw [hlen]; rfl) rfl λh' he=>?_
 refine evs.symm▸?_
 have k0:=ExtBut.keepAll he
 exact wpAny_assignInOrder_more (wpAny_assign_Name ((R.keep (t:=s.toks) k0).store hi oi (w0.keep k0) λs0' x0' R0'=>wpAny_assignInOrder_more (wpAny_assign_Name (R0'.store hj oj (VR.ext x0' R.er.ownZ (w1.keep k0)) λs1' x1' R1' =>
  wpAny_assignInOrder_none ⟨((Ext.of_keep (t:=s.toks) k0).trans x0').trans x1',R1'⟩))))
end
noncomputable def innerSem (e elt:Expr) (gens:List Comprehension) (d:Nat) (acc:Value) (env:Env):Sem Unit :=
 match gens[d+1]? with
 | some g'=>do
  let x ← eval g'.iter env
  standAt g'.iter.pos
  let x ← foldedSetIterable g'.iter env x
  let it ← holding [x] (pyIter x)
  let _ ← runOwn (.compStart e (d+1) it acc env) env
  pure ()
 | none=>do
  let x ← eval elt env
  let _ ← call (.builtin "list.append") [acc,x]
  pure ()
theorem compTurn_eq (elt:Expr) (gens:List Comprehension) (scope:Scope) (pos:Pos) (d:Nat) (it acc:Value) (env:Env) {target iter:Expr} {ifs:List Expr} (hg:gens[d]?=some ⟨target,iter,ifs,0⟩) (ha:∀g'∈gens,g'.is_async=0) :
  compTurn (.ListComp elt gens scope pos) d it acc env=(do
   standAt iter.pos
   match ← pyNext it with
   | none=>pure (.done .next)
   | some v =>
    letOwnedTupleGo target it v
    assign target env v
    let mut ok:=true
    for c in ifs do
     if ok then ok ← isTrue c env (eval c env)
    if ok then
     innerSem (.ListComp elt gens scope pos) elt gens d acc env
    again (.compLoop (.ListComp elt gens scope pos) d it acc env)):=by
 unfold compTurn innerSem
 simp only [hg]
 cases q:gens[d+1]? with
 | none=>rfl
 | some g' =>
  have:=ha g' (List.mem_of_getElem? q)
  simp only [this,bne_self_eq_false,Bool.false_eq_true,if_false,bind_assoc,pure_bind]
  rfl
section
variable {prog:Program} {w:World} {A:Around} {R:Result->Shared->Prop} {s:Shared}
theorem codeAny_compLoop_all {elt target iter:Expr} {gens:List Comprehension} {ifs:List Expr} {scope:Scope} {pos:Pos} {d:Nat} {it acc:Value} {env:Env} (hg:gens[d]?=some ⟨target,iter,ifs,0⟩) (ha:∀g'∈gens,g'.is_async=0) (I:Nat->Shared->Prop)
  (turn:∀n s,I n s->wpAny (model prog w) A (pyNext it) (λr s_1=>match r with
   | none=>R (.ok .next) s_1
   | some v=>wpAny (model prog w) A (letOwnedTupleGo target it v) (λ_ s_1'=>wpAny (model prog w) A (assign target env v) (λ_ s_2 =>
     wpAny (model prog w) A (forIn ifs true λc r=>if r=true then do let ok ← isTrue c env (eval c env); pure (ForInStep.yield ok) else pure (ForInStep.yield r)) (λok s_3 =>
      if ok=true then wpAny (model prog w) A (innerSem (.ListComp elt gens scope pos) elt gens d acc env) (λ_ s_5=>∃m,m < n∧I m s_5) noE s_3
      else ∃m,m < n∧I m s_3) noE s_2) noE s_1') noE s_1) noE s)
  (n:Nat) (h:I n s) :
  codeAny (model prog w) A (.compLoop (.ListComp elt gens scope pos) d it acc env) R s:=by
 refine codeAny_loop rfl I (λn s hI=>?_) n h
 show wpAny _ A ((compTurn (.ListComp elt gens scope pos) d it acc env).onRaise (λx=>do noteFrame x env; theTreesLotGoes x)) _ _ s
 refine wpAny_noted ?_
 refine (compTurn_eq _ _ _ _ _ _ _ _ hg ha).symm▸?_
 refine wpAny_bind (wpAny_standAt (wpAny_bind (wpAny_mono (turn n s hI) (λr s_1 h_1=>?_) λ_ _ h'=>h'.elim)))
 cases r with
 | none=>exact wpAny_pure h_1
 | some v =>
  refine wpAny_bind (wpAny_mono h_1 (λ_ s_1' h_1'=>?_) λ_ _ h'=>h'.elim)
  refine wpAny_bind (wpAny_mono h_1' (λ_ s_2 h_2=>wpAny_bind (wpAny_mono h_2 (λok s_3 h_3=>?_) λ_ _ h'=>h'.elim)) λ_ _ h'=>h'.elim)
  cases ok with
  | false=>exact wpAny_pure ⟨rfl,h_3⟩
  | true=>exact wpAny_bind (wpAny_mono h_3 (λ_ s_5 h_5=>wpAny_pure ⟨rfl,h_5⟩) λ_ _ h'=>h'.elim)
theorem codeAny_compStart_all {elt:Expr} {gens:List Comprehension} {scope:Scope} {pos:Pos} {d:Nat} {it acc:Value} {env:Env} {g:Comprehension} (hg:gens[d]?=some g) (ha:g.is_async=0)
  (h0:codeAny (model prog w) A (.compLoop (.ListComp elt gens scope pos) d it acc env) R s)
  (h:wpAny (model prog w) A (pyIter it) (λit' s'=>it'=it∧s'=s) noE s) :
  codeAny (model prog w) A (.compStart (.ListComp elt gens scope pos) d it acc env) R s:=by
 refine codeAny_of_tree ?_
 show wpAny _ _ ((compStart (.ListComp elt gens scope pos) d it acc env).onRaise (λx=>do noteFrame x env; standAt theWindowsPlace)) _ _ s
 refine wpAny_notedAt ?_
 unfold compStart
 have e:clausesOf (.ListComp elt gens scope pos)=gens:=rfl
 refine e.symm▸hg.symm▸?_
 simp only [Option.elim_some,ha,bne_self_eq_false,Bool.false_eq_true,if_false]
 refine wpAny_bind (wpAny_askSetting (wpAny_ite ?_))
 split
 ·exact wpAny_bind (wpAny_pure (wpAny_pure (And.intro rfl h0)))
 ·refine wpAny_bind (wpAny_rule ?_)
  refine wpAny_bind (wpAny_standAt (wpAny_bind (wpAny_mono h (λit' s' h'=>?_) λ_ _ x=>x.elim)))
  obtain ⟨rfl,rfl⟩:=h'
  exact wpAny_pure (And.intro rfl h0)
end
abbrev CF:=St->Option (List PyData×St)
structure Acc (D:Addr) (ds:List PyData) (ρ:Rho) (Z:List Addr) (h:Heap):Prop where
 ex:∃vs as,h.PlainList D vs∧RDs h vs.toList ds as∧∀a∈as,a∉muts ρ∧a∉Z
 inZ:D∈Z
section
variable {K:Addr->Option Obj} {fx:Fx} {D:Addr} {ds:List PyData} {ρ ρ':Rho} {Z Z' X wr:List Addr} {s s':Shared} {hp:List MO} {h h':Heap}
theorem Acc.map (a:Acc D ds ρ Z h) (k:Moves ρ ρ' Z Z' h h') (kD:∀o,h.get? D=some o->h'.get? D=some o) (hD:D∈Z'):Acc D ds ρ' Z' h':=by
 obtain ⟨⟨vs,as,hl,r,q⟩,_⟩:=a
 have f:=k.foot r.live q
 exact ⟨⟨vs,as,hl.at λo e=>kD o e,r.keep f.1,f.2⟩,hD⟩
theorem Acc.ext (a:Acc D ds ρ Z s.heap) (x:Ext X ρ s ρ' s') (hX:∀b∈X,b∈Z∧b≠D) (hD:D∉muts ρ):Acc D ds ρ' Z s'.heap :=
 a.map (x.moves λb h=>(hX b h).1) (λo e=>x.heap D o hD (λm=>(hX D m).2 rfl) e) a.inZ
theorem Acc.extG {G:Nat->Prop} (a:Acc D ds ρ Z s.heap) (x:ExtG X G ρ s ρ' s') (hX:∀b∈X,b∈Z∧b≠D) (hD:D∉muts ρ):Acc D ds ρ' Z s'.heap:=Acc.ext (s:={ s with gens:=#[] }) (s':={ s' with gens:=#[] }) a x.e hX hD
theorem Acc.drop (a:Acc D ds ρ (wr++Z) h) (hD:D∉wr) (k:∀b o,b∉wr->h.get? b=some o->h'.get? b=some o):Acc D ds ρ Z h' :=
 a.map (λb o h1 h2 e=>⟨k b o (λq=>h2 (List.mem_append_left _ q)) e,h1,λq=>h2 (List.mem_append_right _ q)⟩) (λo=>k D o hD) ((List.mem_append.mp a.inZ).resolve_left hD)
theorem Acc.more (a:Acc D ds ρ Z h) (hw:∀b∈Z',b∈Z∨h.get? b=none) (hD:D∈Z') (k:∀b o,h.get? b=some o->h'.get? b=some o):Acc D ds ρ Z' h' :=
 a.map (λb o h1 h2 e=>⟨k b o e,h1,λm=>(hw b m).elim h2 λn=>nos (n.symm.trans e)⟩) (k D) hD
end
noncomputable def CPost (K:Addr->Option Obj) (fx:Fx) (D:Addr) (ρ:Rho) (Z:List Addr) (s:Shared) (ds:List PyData) (σ':St) (s':Shared):Prop :=
 ∃ρ',Ext (D::fx.own) ρ s ρ' s'∧SR K fx ρ' Z σ' s'∧Acc D ds ρ' Z s'.heap
structure CIn (prog:Program) (w:World) (K:Addr->Option Obj) (fx:Fx) (D:Addr) (e elt:Expr) (gens:List Comprehension) (d:Nat) (F:CF):Prop where
 run:∀(A:Around) (ρ:Rho) (Z:List Addr) (σ:St) (s:Shared) (done ds:List PyData) (σ':St),Room A fx.k->SR K fx ρ Z σ s->Acc D done ρ Z s.heap->(done++ds).length≤lim->F σ=some (ds,σ') ->
  wpAny (model prog w) A (innerSem e elt gens d (.ref D) fx.env) (λ_ s'=>CPost K fx D ρ Z s (done++ds) σ' s') noE s
structure TrAll (prog:Program) (w:World) (K:Addr->Option Obj) (fx:Fx) (ifs:List Expr) (F:BF):Prop where
 run:∀(A:Around) (ρ:Rho) (Z:List Addr) (σ:St) (s:Shared) (b:Bool) (hp':List MO),Room A fx.k->SR K fx ρ Z σ s->F σ=some (b,hp') ->
  wpAny (model prog w) A (forIn ifs true λc r=>if r=true then do let ok ← isTrue c fx.env (eval c fx.env); pure (ForInStep.yield ok) else pure (ForInStep.yield r)) (λb' s'=>b'=b∧∃ρ',Ext [] ρ s ρ' s'∧HR ρ' Z hp' s'.heap) noE s
noncomputable def emitF (F:EF):CF:=λσ=>match F σ with
 | some (.dat d,hp)=>some ([d],⟨σ.loc,hp⟩)
 | _=>none
noncomputable def loopC (step:StepF) (T:PyData->Loc->Option Loc) (tests:BF) (inner:CF):Nat->IS->CF
 | 0,_=>λ_=>none
 | n+1,is=>λσ=>match step is σ.hp with
  | none=>none
  | some (none,hp)=>some ([],⟨σ.loc,hp⟩)
  | some (some (d,is'),hp)=>match T d σ.loc with
   | none=>none
   | some loc=>match tests ⟨loc,hp⟩ with
    | none=>none
    | some (false,hp)=>loopC step T tests inner n is' ⟨loc,hp⟩
    | some (true,hp)=>match inner ⟨loc,hp⟩ with
     | none=>none
     | some (ds,σ_2)=>match loopC step T tests inner n is' σ_2 with
      | none=>none
      | some (r,σ_3)=>some (ds++r,σ_3)
noncomputable def nestF (F:SF) (L:Nat->IS->CF):CF:=λσ=>match F σ with
 | some ((is,n),hp)=>L n is ⟨σ.loc,hp⟩
 | none=>none
section
variable {prog:Program} {w:World} {K:Addr->Option Obj} {fx:Fx} {D:Addr}
theorem TrAll.nil:TrAll prog w K fx [] (λσ=>some (true,σ.hp)):=.mk λA ρ Z σ s b hp' Rm R q=>wpAny_tests_nil (TrP.ret (Ext.refl _ _ _) R.hr q)
theorem TrAll.one {c:Expr} {F:BF} (h:Tr prog w K fx c F):TrAll prog w K fx [c] F:=.mk λA ρ Z σ s b hp' Rm R q=>wpAny_tests_one (h.run A ρ Z σ s b hp' Rm R q)
theorem emitF_inv {F:EF} {σ σ':St} {ds:List PyData} {C:Prop} (q:emitF F σ=some (ds,σ')) (k:∀d hp,F σ=some (.dat d,hp)->[d]=ds->⟨σ.loc,hp⟩=σ'->C):C:=by
 unfold emitF at q
 cases h:F σ with
 | none=>rw [h] at q; exact nos q
 | some x =>
  obtain ⟨pv,hp⟩:=x
  rw [h] at q
  cases pv with
  | dat d=>exact k d hp h (sop q).1 (sop q).2
  | _=>exact nos q
theorem acc_push {ρ:Rho} {Z:List Addr} {σ:St} {s:Shared} {done:List PyData} {d:PyData} {v:Value} {A:Around} {Q:Unit->Shared->Prop} (R:SR K fx ρ Z σ s) (ac:Acc D done ρ Z s.heap) (V:VR ρ Z s.heap (.dat d) v) (hD:Off fx [D]) (hlen:(done++[d]).length≤lim)
  (k:∀s',Ext [D] ρ s ρ s'->SR K fx ρ Z σ s'->Acc D (done++[d]) ρ Z s'.heap->Q () s'):wpAny (model prog w) A (call (.builtin "list.append") [.ref D,v] >>= λ_=>pure ()) Q noE s:=by
 refine cps λ_ KK=>?_
 obtain ⟨⟨vs,as,hl,r,qa⟩,hz⟩:=ac
 obtain ⟨bs,rv,qv⟩:=V
 refine KK ?_
 have hsz:vs.size≤sizeLine:=by
  have e1:=r.length
  rw [Array.length_toList] at e1
  rw [List.length_append] at hlen
  rw [e1]
  exact Nat.le_trans (Nat.le_trans (Nat.le_add_right _ _) hlen) (by decide)
 refine wpAny_bind (wpAny_list_append_plain hl (λh' hl' sb=>wpAny_pure ?_) hsz)
 have k':∀b o,b∉[D]->s.heap.get? b=some o->h'.get? b=some o:=λb o hb e=>sb.extBut b o (λm=>hb (m▸List.mem_singleton_self _)) e
 have lv:∀b∈[D],∃o,h'.get? b=some o:=all1 (hl'.elim λn e=>⟨_,e⟩)
 have hX:∀a∈[D],a∈Z:=all1 hz
 have x_2:Ext [D] ρ s ρ { s with heap:=h' }:=Ext.of_off (t:=s.toks) k' lv
 have kk:∀a,a∉Z->∀o,s.heap.get? a=some o->h'.get? a=some o:=λa ha o e=>k' a o (λm=>ha (hX a m)) e
 exact k _ x_2 (R.extX x_2 hX hD (R.hr.chg (t:=s.toks) hX k' lv)) ⟨⟨vs.push v,as++(bs++[]),hl',by
  rw [Array.toList_push]
  exact (r.keep λa ha o e=>kk a (qa a ha).2 o e).append (.cons (rv.keep λa ha o e=>kk a (qv a ha).2 o e) .nil),λa ha=>(List.mem_append.mp ha).elim (qa a) λha=>qv a (by rwa [List.append_nil] at ha)⟩,hz⟩
theorem CIn.emit {e elt:Expr} {gens:List Comprehension} {d:Nat} {F:EF} (hg:gens[d+1]?=none) (he:Ev prog w K fx elt F) (hD:Off fx [D]) (hDo:D∉fx.own):CIn prog w K fx D e elt gens d (emitF F):=.mk λA ρ Z σ s done ds σ' Rm R ac hlen q =>
 emitF_inv q λx hp e1 hds hσ=>by
  unfold innerSem
  refine hg.symm▸?_
  refine wpAny_bind (wpAny_mono (he.run A ρ Z σ s _ _ Rm R e1) (λv s_1 p=>p.elim λρ_1 p=>?_) λ_ _ q=>q)
  exact acc_push (R.next p.1 p.2.2) (ac.ext p.1 (λ_ h=>nin h) λm=>R.hr.offZ D m ac.inZ) p.2.1 hD (hds▸hlen) λs' x R' ac'=>⟨ρ_1,(p.1.weak noX).trans (x.weak (all1 (List.mem_cons_self ..))),hσ▸R',hds▸ac'⟩
inductive LoopI (step:StepF) (T:PyData->Loc->Option Loc) (tests:BF) (inner:CF) (k:Nat) (is:IS) (σ:St) (ds:List PyData) (σ':St):Prop
 | done (hp:List MO):step is σ.hp=some (none,hp)->[]=ds->⟨σ.loc,hp⟩=σ'->LoopI step T tests inner k is σ ds σ'
 | turn (d:PyData) (is':IS) (hp:List MO) (loc:Loc) (b:Bool) (hp_2:List MO):step is σ.hp=some (some (d,is'),hp)->T d σ.loc=some loc->tests ⟨loc,hp⟩=some (b,hp_2) ->
  (b=false∧loopC step T tests inner k is' ⟨loc,hp_2⟩=some (ds,σ')∨b=true∧∃ds_1 σ_2 r,inner ⟨loc,hp_2⟩=some (ds_1,σ_2)∧loopC step T tests inner k is' σ_2=some (r,σ')∧ds_1++r=ds)->LoopI step T tests inner k is σ ds σ'
theorem loopC_inv {step:StepF} {T:PyData->Loc->Option Loc} {tests:BF} {inner:CF} {k:Nat} {is:IS} {σ:St} {ds:List PyData} {σ':St} (e:loopC step T tests inner (k+1) is σ=some (ds,σ')):LoopI step T tests inner k is σ ds σ':=by
 rw [loopC] at e
 dsimp only at e
 cases h1:step is σ.hp with
 | none=>rw [h1] at e; exact nos e
 | some x =>
  obtain ⟨x,hp⟩:=x
  replace e:=h1▸e
  cases x with
  | none=>exact .done hp h1 (sop e).1 (sop e).2
  | some x =>
   obtain ⟨d,is'⟩:=x
   dsimp only at e
   cases h2:T d σ.loc with
   | none=>rw [h2] at e; exact nos e
   | some loc =>
    replace e:=h2▸e
    dsimp only at e
    cases h3:tests ⟨loc,hp⟩ with
    | none=>rw [h3] at e; exact nos e
    | some y =>
     obtain ⟨b,hp_2⟩:=y
     replace e:=h3▸e
     refine .turn d is' hp loc b hp_2 h1 h2 h3 ?_
     cases b with
     | false=>exact .inl ⟨rfl,e⟩
     | true =>
      dsimp only at e
      cases h4:inner ⟨loc,hp_2⟩ with
      | none=>rw [h4] at e; exact nos e
      | some z =>
       replace e:=h4▸e
       dsimp only at e
       cases h5:loopC step T tests inner k is' z.2 with
       | none=>rw [h5] at e; exact nos e
       | some u=>rw [h5] at e; exact .inr ⟨rfl,z.1,z.2,u.1,rfl,h5.symm▸((sop e).2)▸rfl,(sop e).1⟩
inductive LoopE (K:Addr->Option Obj) (fx:Fx) (D:Addr) (wr:List Addr) (G:Nat->Prop) (ρ:Rho) (Z:List Addr) (s:Shared) (ds:List PyData) (σ':St) (r:Result) (s':Shared):Prop
 | mk:r=.ok .next->∀(ρ':Rho) (s_1:Shared) (h':Heap) (tk:Nat) (wr':List Addr),(∀a∈wr',a∈wr∨s.heap.get? a=none)->(∀a∈wr',a∉Z)->Off fx wr'->ExtG (wr'++D::fx.own) G ρ s ρ' s_1->SR K fx ρ' (wr'++Z) σ' s_1->Acc D ds ρ' (wr'++Z) s_1.heap->s'={ s_1 with heap:=h',toks:=tk } ->
  (∀b o,b∉wr'->s_1.heap.get? b=some o->h'.get? b=some o)->LoopE K fx D wr G ρ Z s ds σ' r s'
inductive LoopJ (K:Addr->Option Obj) (fx:Fx) (D:Addr) (wr:List Addr) (G:Nat->Prop) (J:IS->List Addr->Rho->List Addr->Shared->Prop) (ρ:Rho) (Z:List Addr) (s:Shared) (all:List PyData) (F:IS->CF) (σ':St) (s':Shared):Prop
 | mk (ρ':Rho) (σ_0:St) (is':IS) (done' r:List PyData) (wr':List Addr):(∀a∈wr',a∈wr∨s.heap.get? a=none)->(∀a∈wr',a∉Z)->Off fx wr'->ExtG (wr'++D::fx.own) G ρ s ρ' s'->SR K fx ρ' (wr'++Z) σ_0 s'->J is' wr' ρ' (wr'++Z) s'->Acc D done' ρ' (wr'++Z) s'.heap->done'++r=all->F is' σ_0=some (r,σ') ->
  LoopJ K fx D wr G J ρ Z s all F σ' s'
inductive LoopT (K:Addr->Option Obj) (fx:Fx) (D:Addr) (wr:List Addr) (G:Nat->Prop) (J:List Addr->Rho->List Addr->Shared->Prop) (ρ:Rho) (Z:List Addr) (s:Shared) (done:List PyData) (W':List Addr) (ρ_3:Rho) (s_5:Shared):Prop
 | mk:(∀a∈W',a∈wr∨s.heap.get? a=none)->(∀a∈W',a∉Z)->Off fx W'->ExtG (W'++D::fx.own) G ρ s ρ_3 s_5->J W' ρ_3 (W'++Z) s_5->Acc D done ρ_3 (W'++Z) s_5.heap->D∉muts ρ_3->LoopT K fx D wr G J ρ Z s done W' ρ_3 s_5
theorem loop_turn {wr wr' W' Z:List Addr} {ρ ρ' ρ_3:Rho} {s s' s_4 s_5:Shared} {σ_0 σ_4:St} {G:Nat->Prop} {J:List Addr->Rho->List Addr->Shared->Prop} {done:List PyData} (hJx:∀{ρ Z s X ρ' s'},J W' ρ Z s->Ext X ρ s ρ' s'->(∀a∈X,a∈Z∧a∉W')->J W' ρ' Z s') (hDo:D∉fx.own) (ownZ:∀a∈fx.own,a∈Z) (hDZ:D∈Z)
  (hfr:∀a∈wr',a∈wr∨s.heap.get? a=none) (hnz:∀a∈wr',a∉Z) (off':Off fx wr') (xg:ExtG (wr'++D::fx.own) G ρ s ρ' s') (R':SR K fx ρ' (wr'++Z) σ_0 s') (ac':Acc D done ρ' (wr'++Z) s'.heap)
  (hsub:∀a∈wr',a∈W') (hnew:∀a∈W',s'.heap.get? a=none∨a∈wr') (x_3:ExtG wr' G ρ' s' ρ_3 s_4) (R_3:SR K fx ρ_3 (W'++Z) σ_4 s_4) (J_3:J W' ρ_3 (W'++Z) s_4) (x_5:Ext fx.own ρ_3 s_4 ρ_3 s_5):LoopT K fx D wr G J ρ Z s done W' ρ_3 s_5:=by
 have hDm:D∉muts ρ':=λm=>R'.hr.offZ D m (List.mem_append_right _ hDZ)
 have hDm_3:D∉muts ρ_3:=λm=>R_3.hr.offZ D m (List.mem_append_right _ hDZ)
 have e_3:=x_3.e
 have ac_3:Acc D done ρ_3 (W'++Z) s_4.heap:=ac'.map (λa o h1 h2 e=>⟨e_3.heap a o h1 (λq=>h2 (List.mem_append_left _ q)) e,e_3.notin (o:=o) e h1,λm=>(List.mem_append.mp m).elim (λm=>(hnew a m).elim (λn=>nos (n.symm.trans e)) λq=>h2 (List.mem_append_left _ q)) λm=>h2 (List.mem_append_right _ m)⟩)
  (λo e=>e_3.heap D o hDm (λq=>hnz D q hDZ) e) (List.mem_append_right _ hDZ)
 have hnz':∀a∈W',a∉Z:=λa h m=>(hnew a h).elim (λn=>(R'.hr.liveZ a (List.mem_append_right _ m)).elim λo e=>nos (n.symm.trans e)) λq=>hnz a q m
 have hfr':∀a∈W',a∈wr∨s.heap.get? a=none:=λa h=>(hnew a h).elim (λn=>.inr (by
  cases q:s.heap.get? a with
  | none=>rfl
  | some o=>exact (xg.e.live a o q).elim λo' e=>nos (n.symm.trans e))) (hfr a)
 refine cps λ_ KK=>?_
 obtain ⟨m,cm,hn,hc,_⟩:=R'.er.ex
 refine KK ?_
 have off_3:Off fx W':=⟨λq=>(hnew _ q).elim (λn=>(Ns.live hn).elim λo e=>nos (n.symm.trans e)) off'.1,λn c e q=>(hnew _ q).elim (λn'=>(hc n c e).elim λo h=>nos (n'.symm.trans h.1)) (off'.2 n c e)⟩
 have oX:∀a∈fx.own,a∈W'++D::fx.own:=λa h=>List.mem_append_right _ (List.mem_cons_of_mem _ h)
 have hXo:∀a∈fx.own,a∈W'++Z∧a∉W':=λa h=>⟨List.mem_append_right _ (ownZ a h),λm=>hnz' a m (ownZ a h)⟩
 have g_5:ExtG (W'++D::fx.own) G ρ s ρ_3 s_5:=((xg.weak λa h=>(List.mem_append.mp h).elim (λh=>List.mem_append_left _ (hsub a h)) λh=>List.mem_append_right _ h).trans (x_3.weak λa h=>List.mem_append_left _ (hsub a h))).trans (x_5.weak oX).toG
 exact ⟨hfr',hnz',off_3,g_5,hJx J_3 x_5 hXo,ac_3.ext x_5 (λa h=>⟨List.mem_append_right _ (ownZ a h),λq=>hDo (q▸h)⟩) hDm_3,hDm_3⟩
theorem loop_ok {elt target iter:Expr} {gens:List Comprehension} {ifs:List Expr} {scope:Scope} {pos:Pos} {d:Nat} {it:Value} {wr:List Addr} {G:Nat->Prop} {step:StepF} {J:IS->List Addr->Rho->List Addr->Shared->Prop} {T:PyData->Loc->Option Loc} {tests:BF} {inner:CF} {A:Around}
  (hg:gens[d]?=some ⟨target,iter,ifs,0⟩) (ha:∀g'∈gens,g'.is_async=0) (W:IterD prog w A it target G step J) (ht:As prog w K fx target T) (htests:TrAll prog w K fx ifs tests)
  (hin:CIn prog w K fx D (.ListComp elt gens scope pos) elt gens d inner) (Rm:Room A fx.k) (off:Off fx wr) (hDo:D∉fx.own)
  {ρ:Rho} {Z:List Addr} {σ σ':St} {s:Shared} {is:IS} {n:Nat} {done ds:List PyData} (R:SR K fx ρ (wr++Z) σ s) (hJ:J is wr ρ (wr++Z) s) (hwZ:∀a∈wr,a∉Z) (ownZ:∀a∈fx.own,a∈Z) (hDZ:D∈Z) (ac:Acc D done ρ (wr++Z) s.heap) (hlen:(done++ds).length≤lim)
  (hF:loopC step T tests inner n is σ=some (ds,σ')) :
  codeAny (model prog w) A (.compLoop (.ListComp elt gens scope pos) d it (.ref D) fx.env) (LoopE K fx D wr G ρ Z s (done++ds) σ') s:=by
 refine codeAny_compLoop_all hg ha (λk s'=>LoopJ K fx D wr G J ρ Z s (done++ds) (loopC step T tests inner k) σ' s') ?_ n ⟨ρ,σ,is,done,ds,wr,λa h=>.inl h,hwZ,off,ExtG.refl,R,hJ,ac,rfl,hF⟩
 rintro k s' ⟨ρ',σ_0,is',done',r,wr',hfr,hnz,off',xg,R',J',ac',hdr,hF⟩
 have wrZ:∀a∈wr',a∈wr'++Z:=λa h=>List.mem_append_left _ h
 cases k with
 | zero=>exact nos hF
 | succ k=>cases loopC_inv hF with
  | done hp hst h1 h2 =>
   refine wpAny_mono (W.done hst J' R'.hr wrZ) (λr s_3 p=>?_) λ_ _ q=>q.elim
   obtain ⟨rfl,ρ_3,s_4,h',tk,x_3,H_3,rfl,kd⟩:=p
   rw [← h1,List.append_nil] at hdr
   exact ⟨rfl,ρ_3,s_4,h',tk,wr',hfr,hnz,off',xg.trans (x_3.weak λa h=>List.mem_append_left _ h),h2▸R'.extG x_3 wrZ off' H_3,hdr▸ac'.extG x_3 (λa h=>⟨wrZ a h,λq=>hnz a h (q▸hDZ)⟩) λm=>R'.hr.offZ D m (List.mem_append_right _ hDZ),rfl,kd⟩
  | turn d_1 is_1 hp loc b hp_2 hst hT ht2 hend =>
   refine wpAny_mono (W.next hst J' R'.hr wrZ) (λr_0 s_3 p=>?_) λ_ _ q=>q.elim
   obtain ⟨v,rfl,p⟩:=p
   refine wpAny_mono p (λ_ s_4 p=>?_) λ_ _ q=>q.elim
   obtain ⟨W',ρ_3,hsub,hnew,x_3,R_3,v_3,J_3⟩:=GoD.facts (J:=J is_1) R' off' p
   refine wpAny_mono (ht.run A ρ_3 _ _ s_4 d_1 v loc Rm R_3 v_3 hT) (λ_ s_5 p=>?_) λ_ _ q=>q.elim
   obtain ⟨hfr',hnz',off_3,g_5,J_5,ac_5,hDm_3⟩:=loop_turn (J:=J is_1) (λj x h=>W.ext j x h) hDo ownZ hDZ hfr hnz off' xg R' ac' hsub hnew x_3 R_3 J_3 p.1
   refine wpAny_mono (htests.run A ρ_3 _ _ s_5 _ _ Rm p.2 ht2) (λb' s_6 q=>?_) λ_ _ q=>q.elim
   obtain ⟨hb,ρ_6,x_6,H_6⟩:=q
   have R_6:=p.2.next x_6 H_6
   have J_6:=W.ext J_5 x_6 (λ_ h=>nin h)
   have ac_6:=ac_5.ext x_6 (λ_ h=>nin h) hDm_3
   have g_6:=g_5.trans ((x_6.weak noX).toG)
   refine hb.symm▸?_
   rcases hend with ⟨rfl,e⟩ | ⟨rfl,ds_1,σ_2,r_2,hi,hl,hdd⟩
   ·exact ⟨k,Nat.lt_succ_self k,ρ_6,_,is_1,done',r,W',hfr',hnz',off_3,g_6,R_6,J_6,ac_6,hdr,e⟩
   ·have hall:(done'++ds_1)++r_2=done++ds:=by rw [List.append_assoc,hdd]; exact hdr
    have hlen_2:(done'++ds_1).length≤lim:=Nat.le_trans (hall▸(List.length_append (as:=done'++ds_1)).symm▸Nat.le_add_right _ _) hlen
    have hXd:∀a∈D::fx.own,a∈W'++Z∧a∉W':=allc ⟨List.mem_append_right _ hDZ,λm=>hnz' D m hDZ⟩ λa h=>⟨List.mem_append_right _ (ownZ a h),λm=>hnz' a m (ownZ a h)⟩
    exact wpAny_mono (hin.run A ρ_6 _ _ s_6 done' ds_1 σ_2 Rm R_6 ac_6 hlen_2 hi) (λ_ s_7 p=>p.elim λρ_7 p=>⟨k,Nat.lt_succ_self k,ρ_7,σ_2,is_1,done'++ds_1,r_2,W',hfr',hnz',off_3,g_6.trans ((p.1.weak λa h=>List.mem_append_right _ h).toG),p.2.1,W.ext J_6 p.1 hXd,p.2.2,hall,hl⟩) λ_ _ q=>q.elim
theorem loopC_step {step:StepF} {T:PyData->Loc->Option Loc} {tests:BF} {inner:CF} {n:Nat} {is:IS} {σ:St} {r:List PyData×St} (q:loopC step T tests inner n is σ=some r):∃x,step is σ.hp=some x:=by
 cases n with
 | zero=>exact nos q
 | succ n=>cases loopC_inv (ds:=r.1) (σ':=r.2) q with
  | done hp h=>exact ⟨_,h⟩
  | turn d is' hp loc b hp_2 h=>exact ⟨_,h⟩
theorem nestF_inv {S:SF} {L:Nat->IS->CF} {σ:St} {r:List PyData×St} (q:nestF S L σ=some r):∃is n hp,S σ=some ((is,n),hp)∧L n is ⟨σ.loc,hp⟩=some r:=by
 unfold nestF at q
 cases h:S σ with
 | none=>rw [h] at q; exact nos q
 | some x=>rw [h] at q; exact ⟨x.1.1,x.1.2,x.2,rfl,q⟩
theorem nest_end {wr:List Addr} {G:Nat->Prop} {ρ ρ_1:Rho} {Z:List Addr} {s s_1 s_2 s':Shared} {ds:List PyData} {σ_1 σ':St} {r:Result} (x_1:Ext [] ρ s ρ_1 s_1) (R_1:SR K fx ρ_1 Z σ_1 s_1) (x_2:Ext [] ρ_1 s_1 ρ_1 s_2) (keep:∀b o,s_1.heap.get? b=some o->s_2.heap.get? b=some o) (hw:∀a∈wr,s_1.heap.get? a=none)
  (hg:∀g,G g->s_1.gens[g]?=none) (hDZ:D∈Z) (p:LoopE K fx D wr G ρ_1 Z s_2 ds σ' r s'):r=.ok .next∧CPost K fx D ρ Z s ds σ' s':=by
 obtain ⟨rfl,ρ_3,s_3,h',tk,wr',hfr,hnz,off',xg,R_3,ac_3,rfl,kd⟩:=p
 have hw':∀a∈wr',s_1.heap.get? a=none:=λa h=>(hfr a h).elim (hw a) λh=>fresh_back keep h
 have x_3:Ext (D::fx.own) ρ_1 s_1 ρ_3 s_3:=((x_2.weak noX).toG.trans xg).ext (λa h=>(List.mem_append.mp h).elim (λh=>.inr (hw' a h)) .inl) λg st e h=>nos ((hg g h).symm.trans e)
 exact ⟨rfl,ρ_3,(x_1.weak noX).trans (x_3.drop hw' kd),R_3.drop hnz off' R_1.er.ownZ kd,ac_3.drop (λm=>hnz D m hDZ) kd⟩
theorem CIn.nest {elt target iter:Expr} {gens:List Comprehension} {ifs:List Expr} {scope:Scope} {pos:Pos} {d:Nat} {step:StepF} {S:SF} {T:PyData->Loc->Option Loc} {tests:BF} {inner:CF}
  (hg:gens[d+1]?=some ⟨target,iter,ifs,0⟩) (ha:∀g'∈gens,g'.is_async=0) (hi:EvI prog w K fx iter target step S) (ht:As prog w K fx target T) (htests:TrAll prog w K fx ifs tests)
  (hin:CIn prog w K fx D (.ListComp elt gens scope pos) elt gens (d+1) inner) (hDo:D∉fx.own) (hs:∀env x,foldedSetIterable iter env x=pure x:=by intro _ _; rfl) :
  CIn prog w K fx D (.ListComp elt gens scope pos) elt gens d (nestF S (loopC step T tests inner)):=.mk λA ρ Z σ s done ds σ' Rm R ac hlen q=>by
 refine cps λ_ KK=>?_
 obtain ⟨is,n,hp,e1,q⟩:=nestF_inv q
 refine KK ?_
 unfold innerSem
 refine hg.symm▸?_
 dsimp only
 refine wpAny_bind (wpAny_mono (hi.run A ρ Z σ s is n hp Rm R e1) (λx s_1 h_1=>?_) λ_ _ q=>q.elim)
 refine wpAny_bind (wpAny_standAt (wpAny_bind (wpAny_of_eq (hs _ x) (wpAny_bind (wpAny_holding (wpAny_mono h_1 (λit s_2 h_2=>?_) λ_ _ q=>q.elim))))))
 refine cps λ_ KK=>?_
 obtain ⟨ρ_1,s_1',wr,G,J,x_1,H_1,x_2,keep,hw,lv,hgn,hJ,W⟩:=h_2
 refine KK ?_
 have R_1:=R.next x_1 H_1
 have R_2:=R_1.more (s':=s_2) hw keep lv
 have ac_2:=(ac.ext x_1 (λ_ h=>nin h) λm=>R.hr.offZ D m ac.inZ).more (Z':=wr++Z) (h':=s_2.heap) (λb hb=>(List.mem_append.mp hb).elim (λm=>.inr (hw b m)) .inl) (List.mem_append_right _ ac.inZ) keep
 have main:=loop_ok (done:=done) (ds:=ds) (n:=n) hg ha W ht htests hin Rm (R_1.offFresh hw) hDo R_2 hJ (λa h m=>not_wr R_1 hw m h) R.er.ownZ ac.inZ ac_2 hlen q
 exact wpAny_bind (wpAny_runOwn (h:=none) ((loopC_step q).elim λ_ hstep=>codeAny_compStart_all hg rfl (codeAny_mono main λr s' p=>(nest_end x_1 R_1 x_2 keep hw hgn ac.inZ p).1▸wpAny_pure (nest_end x_1 R_1 x_2 keep hw hgn ac.inZ p).2) (W.self hstep hJ R_2.hr ⟨rfl,rfl⟩)))
end
noncomputable def clF (env:Env):List (Str×NameKind)->List (Str×Addr)->List (Str×Addr)
 | [],cs=>cs
 | (n,k)::r,cs=>if k==.free then (match env.cells.lookup n with
  | some c=>clF env r ((n,c)::cs)
  | none=>clF env r cs) else clF env r cs
theorem clF_sub (env:Env):∀(l:List (Str×NameKind)) (cs:List (Str×Addr)),(∀p∈cs,env.cells.lookup p.1=some p.2)->∀p∈clF env l cs,env.cells.lookup p.1=some p.2
 | [],cs,h,p,hp=>h p hp
 | (n,k)::r,cs,h,p,hp=>by
  unfold clF at hp
  split at hp
  ·split at hp
   ·rename_i c hc
    exact clF_sub env r _ (λq hq=>by rcases List.mem_cons.mp hq with rfl | hq; exact hc; exact h q hq) p hp
   ·exact clF_sub env r cs h p hp
  ·exact clF_sub env r cs h p hp
theorem clF_lookup {env:Env} {l:List (Str×NameKind)} {n:Str} {c:Addr} (h:(clF env l []).lookup n=some c):env.cells.lookup n=some c :=
 clF_sub env l [] (λ_ h=>nin h) (n,c) (mem_of_lookup h)
theorem closureFor_clF {env:Env} {scope:Scope} (h:scope.names.all (λx=>x.2 != .free||(env.cells.lookup x.1).isSome)=true):closureFor scope env=pure (clF env scope.names []):=by
 have main:∀(l:List (Str×NameKind)) (cs:List (Str×Addr)),l.all (λx=>x.2 != .free||(env.cells.lookup x.1).isSome)=true ->
   (forIn l cs λx r=>do
    let cs:=r
    match x with
    | (name,kind)=>if (kind==NameKind.free)=true then do let c ← cellOf env name; pure (ForInStep.yield ((name,c)::cs)) else pure (ForInStep.yield cs):Sem (List (Str×Addr)))=pure (clF env l cs):=by
  intro l
  induction l with
  | nil=>intro cs _; rfl
  | cons x l ih =>
   intro cs hall
   obtain ⟨n,k⟩:=x
   rw [List.all_cons,Bool.and_eq_true] at hall
   rw [List.forIn_cons]
   unfold clF
   by_cases hk:(k==NameKind.free)=true
   ·simp only [hk,if_true]
    have:k=.free:=by simpa using hk
    subst this
    have hs:(env.cells.lookup n).isSome=true:=by simpa using hall.1
    cases hc:env.cells.lookup n with
    | none=>rw [hc] at hs; cases hs
    | some c =>
     unfold cellOf
     simp only [hc,pure_bind]
     exact ih _ hall.2
   ·simp only [hk,if_false,pure_bind,Bool.false_eq_true]
    exact ih _ hall.2
 have:=main scope.names [] h
 simp only [closureFor]
 rw [show (forIn scope.names ([]:List (Str×Addr)) _:Sem (List (Str×Addr)))=_ from this]
 rfl
noncomputable def cfx (fx:Fx) (scope:Scope) (vs:List (Nat×Str)) (L:Addr):Fx:=⟨compEnvC scope (clF fx.env scope.names []) L fx.env,relabel scope fx.env,vs,[L],fx.k⟩
noncomputable def cfK:Option NameKind->Bool
 | some .cell=>true
 | some .free=>true
 | _=>false
noncomputable def compChk (fx:Fx) (scope:Scope) (ts:List Nat) (vs:List (Nat×Str)):Bool :=
 scope.names.all (λx=>x.2 != .free||(fx.env.cells.lookup x.1).isSome) &&
 (scope.names.all (λx=>x.2 != .cell) &&
 (scope.names.all (λx=>x.2 != .local||scope.names.lookup x.1==some .local) &&
 (scope.kind==.function &&
 (vs.all (λp=>vs.all λq=>p.2 != q.2||p.1==q.1) &&
 vs.all (λp=>ts.contains p.1||(fx.vars.lookup p.1==some p.2&&(cfK ((relabel scope fx.env).names.lookup p.2)&&(cfK (fx.sc.names.lookup p.2)&&((clF fx.env scope.names []).lookup p.2).isSome))))))))
noncomputable def unset:List Nat->Loc->Loc
 | [],l=>l
 | i::r,l=>unset r (l.set i none)
theorem unset_get:∀(ts:List Nat) (l:Loc) (i:Nat) (pv:PV),(unset ts l)[i]?=some (some pv)->i∉ts∧l[i]?=some (some pv)
 | [],l,i,pv,h=>⟨List.not_mem_nil,h⟩
 | t::r,l,i,pv,h=>by
  obtain ⟨h1,h2⟩:=unset_get r _ i pv h
  rw [List.getElem?_set] at h2
  by_cases q:t=i
  ·rw [if_pos q] at h2
   exact iteo h2 λ_ e=>nos (sos e)
  ·rw [if_neg q] at h2
   exact ⟨λm=>(List.mem_cons.mp m).elim (λe=>q e.symm) h1,h2⟩
theorem lookup_mem {α β:Type} [BEq α] [LawfulBEq α]:∀{l:List (α×β)} {a:α} {b:β},l.lookup a=some b->(a,b)∈l
 | (k,v)::r,a,b,h=>by
  rw [List.lookup_cons] at h
  cases hb:a==k with
  | true=>rw [hb] at h; cases h; rw [eq_of_beq hb]; exact List.mem_cons_self
  | false=>rw [hb] at h; exact List.mem_cons_of_mem _ (lookup_mem h)
section
variable {prog:Program} {w:World} {K:Addr->Option Obj} {fx:Fx} {ρ:Rho} {Z:List Addr} {loc:Loc} {s:Shared} {scope:Scope} {ts:List Nat} {vs:List (Nat×Str)} {L:Addr}
theorem cfK_slot {env:Env} {m cm:Str->Option Value} {x:Str} {c:Addr} (h:cfK (env.kindOf x)=true) (hl:env.cells.lookup x=some c):slotV env m cm x=cm x:=by
 unfold slotV
 cases q:env.kindOf x with
 | none=>rw [q] at h; cases h
 | some k=>cases k<;>first | (rw [q] at h; cases h; done) | (simp only [hl]; rfl)
theorem EnvR.comp (R:EnvR fx ρ Z loc s.heap) (chk:compChk fx scope ts vs=true) (hn:s.heap.Ns L (λ_=>none)) (hLZ:L∈Z) (hLm:L∉muts ρ) (hLc:∀n c,fx.env.cells.lookup n=some c->c≠L):EnvR (cfx fx scope vs L) ρ Z (unset ts loc) s.heap:=by
 unfold compChk at chk
 simp only [Bool.and_eq_true] at chk
 refine cps λ_ KK=>?_
 obtain ⟨c1,c2,c3,c4,c5,c6⟩:=chk
 obtain ⟨m,cm,hm,hc,hv⟩:=R.ex
 refine KK ?_
 refine ⟨⟨λ_=>none,cm,hn,λn c e=>hc n c (clF_lookup e),λi x pv hi hl=>?_⟩,eq_of_beq c4,rfl,λi j x hi hj=>?_,R.glob,R.bi,List.mem_singleton_self _,λa ha=>by rw [List.mem_singleton.mp ha]; exact hLZ,hLm,
  λn c e=>⟨(R.cell n c (clF_lookup e)).1,hLc n c (clF_lookup e)⟩,λn n' c e e'=>R.inj n n' c (clF_lookup e) (clF_lookup e')⟩
 ·obtain ⟨hts,hl⟩:=unset_get ts loc i pv hl
  have hm':=lookup_mem hi
  have:=List.all_eq_true.mp c6 _ hm'
  rw [Bool.or_eq_true] at this
  rcases this with h | h
  ·exact absurd (by simpa using h) hts
  ·simp only [Bool.and_eq_true] at h
   refine cps λ_ KK=>?_
   obtain ⟨h1,h2,h3,h4⟩:=h
   have h1:fx.vars.lookup i=some x:=by simpa using h1
   obtain ⟨v,hs,hr⟩:=hv i x pv h1 hl
   refine KK ?_
   cases hcl:(clF fx.env scope.names []).lookup x with
   | none=>rw [hcl] at h4; cases h4
   | some c =>
    have hc':=clF_lookup hcl
    have h3':cfK (fx.env.kindOf x)=true:=by unfold Env.kindOf; rw [R.sc]; exact h3
    rw [cfK_slot h3' hc'] at hs
    refine ⟨v,?_,hr⟩
    rw [cfK_slot (env:=(cfx fx scope vs L).env) h2 hcl]
    exact hs
 ·have:=List.all_eq_true.mp (List.all_eq_true.mp c5 _ (lookup_mem hi)) _ (lookup_mem hj)
  simpa using this
end
noncomputable def compF (S:SF) (step:StepF) (T:PyData->Loc->Option Loc) (tests:BF) (inner:CF) (ts:List Nat):EF:=λσ=>match S σ with
 | some ((is,n),hp)=>match loopC step T tests inner n is ⟨unset ts σ.loc,hp⟩ with
  | some (ds,σ')=>if ds.length≤lim then some (.dat (.list ds),σ'.hp) else none
  | none=>none
 | none=>none
section
variable {prog:Program} {w:World} {K:Addr->Option Obj} {fx:Fx}
inductive CompEnd (K:Addr->Option Obj) (fx:Fx) (ρ:Rho) (Z:List Addr) (loc:Loc) (s:Shared) (ds:List PyData) (hp':List MO) (D L:Addr) (s':Shared):Prop
 | mk (ρ':Rho):Ext [] ρ s ρ' s'->SR K fx ρ' ([L,D]++Z) ⟨loc,hp'⟩ s'->Acc D ds ρ' ([L,D]++Z) s'.heap->s.heap.get? D=none->s.heap.get? L=none->D≠L->(∃m,s'.heap.Ns L m)->L∉fx.own->Off fx [L]->Off fx [L,D]->D∉muts ρ'->CompEnd K fx ρ Z loc s ds hp' D L s'
structure CompS (K:Addr->Option Obj) (fx:Fx) (scope:Scope) (ts:List Nat) (vs:List (Nat×Str)) (wr:List Addr) (J:List Addr->Rho->List Addr->Shared->Prop) (ρ:Rho) (Z:List Addr) (σ:St) (D L:Addr) (s_4:Shared):Prop where
 R_4:SR K fx ρ (wr++([L,D]++Z)) σ s_4
 Rc:SR K (cfx fx scope vs L) ρ (wr++([L,D]++Z)) ⟨unset ts σ.loc,σ.hp⟩ s_4
 ac:Acc D [] ρ (wr++([L,D]++Z)) s_4.heap
 J_4:J wr ρ (wr++([L,D]++Z)) s_4
 offwc:Off (cfx fx scope vs L) wr
 offDc:Off (cfx fx scope vs L) [D]
 hDo:D∉(cfx fx scope vs L).own
 wrnZ:∀a∈wr,a∉[L,D]++Z
 offLD:Off fx [L,D]
section
variable {scope:Scope} {ts:List Nat} {vs:List (Nat×Str)} {wr Z:List Addr} {ρ ρ_1:Rho} {σ σ_1 σ':St} {s s_1 s_2 s_4 s':Shared} {D L:Addr} {h_1:Heap} {t_1:Nat} {G:Nat->Prop} {ds:List PyData} {r:Result}
theorem comp_start {J:List Addr->Rho->List Addr->Shared->Prop} (chk:compChk fx scope ts vs=true) (R_1:SR K fx ρ_1 Z σ_1 s_1) (hw:∀a∈wr,s_1.heap.get? a=none) (R_2:SR K fx ρ_1 (wr++Z) σ s_2) (lv:∀a∈wr,∃o,s_2.heap.get? a=some o) (hJ:J wr ρ_1 (wr++Z) s_2)
  (hJm:∀{ρ Z Z' s s'},J wr ρ Z s->(∀a∈Z',a∈Z∨s.heap.get? a=none)->(∀b o,s.heap.get? b=some o->s'.heap.get? b=some o)->(∀(g:Nat) (st:GenState),s.gens[g]?=some st->s'.gens[g]?=some st)->J wr ρ Z' s')
  (hDC:D≠L) (old:∀b o,s_2.heap.get? b=some o->h_1.get? b=some o) (hacc:h_1.PlainList D #[]) (hns:h_1.Ns L (λ_=>none)) (freshD:s_2.heap.get? D=none) (freshL:s_2.heap.get? L=none) :
  CompS K fx scope ts vs wr J ρ_1 Z σ D L { s_2 with heap:=h_1,toks:=t_1 }:=by
 have hwn:∀a∈[L,D],s_2.heap.get? a=none:=all2 freshL freshD
 have R_4':SR K fx ρ_1 ([L,D]++(wr++Z)) σ { s_2 with heap:=h_1,toks:=t_1 }:=R_2.more hwn old (all2 (Ns.live hns) (hacc.elim λn e=>⟨_,e⟩))
 have perm:∀a∈wr++([L,D]++Z),a∈[L,D]++(wr++Z):=λa h=>(List.mem_append.mp h).elim (λh=>List.mem_append_right _ (List.mem_append_left _ h)) λh=>(List.mem_append.mp h).elim (λh=>List.mem_append_left _ h) λh=>List.mem_append_right _ (List.mem_append_right _ h)
 have R_4:SR K fx ρ_1 (wr++([L,D]++Z)) σ { s_2 with heap:=h_1,toks:=t_1 }:=R_4'.weak perm λa h=>List.mem_append_right _ (List.mem_append_right _ (R_1.er.ownZ a h))
 have memL:L∈wr++([L,D]++Z):=List.mem_append_right _ (List.mem_append_left _ (.head _))
 have memD:D∈wr++([L,D]++Z):=List.mem_append_right _ (List.mem_append_left _ (.tail _ (.head _)))
 have offLD:=R_2.offFresh hwn
 have wLD:∀a∈wr,a≠L∧a≠D:=λa h=>(lv a h).elim λo e=>⟨λq=>nos (freshL.symm.trans (q▸e)),λq=>nos (freshD.symm.trans (q▸e))⟩
 have offw:=R_1.offFresh hw
 refine ⟨R_4,⟨R_4.hr,R_4.er.comp chk hns memL (R_2.hr.fresh freshL).1 λn c e q=>offLD.2 n c e (q▸.head _),R_4.top,R_4.off⟩,⟨⟨#[],[],hacc,.nil,λ_ h=>nin h⟩,memD⟩,hJm hJ (λa h=>?_) old (λ_ _ e=>e),⟨λm=>(wLD L m).1 rfl,λn c e m=>offw.2 n c (clF_lookup e) m⟩,
  ⟨λm=>hDC (List.mem_singleton.mp m).symm,λn c e m=>offLD.2 n c (clF_lookup e) (List.mem_singleton.mp m▸.tail _ (.head _))⟩,λm=>hDC (List.mem_singleton.mp m),λa h m=>?_,offLD⟩
 ·exact (List.mem_append.mp h).elim (λh=>.inl (List.mem_append_left _ h)) λh=>(List.mem_append.mp h).elim (λh=>.inr (hwn a h)) λh=>.inl (List.mem_append_right _ h)
 ·exact (List.mem_append.mp m).elim (λm=>(all2 (P:=λb=>a=b->False) (wLD a h).1 (wLD a h).2) a m rfl) λm=>not_wr R_1 hw m h
theorem comp_end {J:List Addr->Rho->List Addr->Shared->Prop} {loc:Loc} {hp:List MO} (S:CompS K fx scope ts vs wr J ρ_1 Z ⟨loc,hp⟩ D L s_4) (x_1:Ext [] ρ s ρ_1 s_1) (R_1:SR K fx ρ_1 Z σ_1 s_1) (x_2:Ext [] ρ_1 s_1 ρ_1 s_2) (keep:∀b o,s_1.heap.get? b=some o->s_2.heap.get? b=some o) (x_4:Ext [] ρ_1 s_2 ρ_1 s_4) (old:∀b o,s_2.heap.get? b=some o->s_4.heap.get? b=some o)
  (hw:∀a∈wr,s_1.heap.get? a=none) (hg:∀g,G g->s_1.gens[g]?=none) (hDC:D≠L) (freshD:s_2.heap.get? D=none) (freshL:s_2.heap.get? L=none) (p:LoopE K (cfx fx scope vs L) D wr G ρ_1 ([L,D]++Z) s_4 ds σ' r s'):r=.ok .next∧CompEnd K fx ρ Z loc s ds σ'.hp D L s':=by
 obtain ⟨rfl,ρ_3,s_3,h',tk,wr',hfr,hnz,off',xg,R_3,ac_3,rfl,kd⟩:=p
 have hw':∀a∈wr',s_1.heap.get? a=none:=λa h=>(hfr a h).elim (hw a) λh=>fresh_back keep (fresh_back old h)
 have fD:=fresh_back keep freshD
 have fL:=fresh_back keep freshL
 have memD':D∈wr'++([L,D]++Z):=List.mem_append_right _ (List.mem_append_left _ (.tail _ (.head _)))
 have mLD:∀a∈D::(cfx fx scope vs L).own,a∈[L,D]:=allc (.tail _ (.head _)) (all1 (.head _))
 have x_3:Ext [] ρ_1 s_1 ρ_3 s_3:=((x_2.trans x_4).weak (Y:=wr'++D::(cfx fx scope vs L).own) noX |>.toG.trans xg).ext (λa h=>.inr ((List.mem_append.mp h).elim (hw' a) λh=>allc (P:=λa=>s_1.heap.get? a=none) fD (all1 fL) a (show a∈[D,L] from h))) λg st e h=>nos ((hg g h).symm.trans e)
 have offw':Off fx wr':=R_1.offFresh hw'
 have offX:Off fx (wr'++D::(cfx fx scope vs L).own):=⟨λm=>(List.mem_append.mp m).elim offw'.1 λm=>S.offLD.1 (mLD _ m),λn c e m=>(List.mem_append.mp m).elim (offw'.2 n c e) λm=>S.offLD.2 n c e (mLD _ m)⟩
 have Ro:SR K fx ρ_3 (wr'++([L,D]++Z)) ⟨loc,σ'.hp⟩ s_3:=S.R_4.extZ xg (λa h=>(List.mem_append.mp h).elim (λh=>List.mem_append_left _ h) λh=>List.mem_append_right _ (List.mem_append_left _ (mLD a h))) offX
  (λa h=>(List.mem_append.mp h).elim (λh=>(hfr a h).imp_left λh=>List.mem_append_left _ h) λh=>.inl (List.mem_append_right _ h)) (λa h=>List.mem_append_right _ (List.mem_append_right _ (R_1.er.ownZ a h))) R_3.hr
 obtain ⟨m,_,hn,_⟩:=R_3.er.ex
 have back:∀{a},s_1.heap.get? a=none->s.heap.get? a=none:=λ{a} n=>by
  cases q:s.heap.get? a with
  | none=>rfl
  | some o=>exact (x_1.live a o q).elim λo1 e=>nos (n.symm.trans e)
 exact ⟨rfl,ρ_3,x_1.trans (x_3.drop hw' kd),Ro.drop hnz offw' (λa h=>List.mem_append_right _ (R_1.er.ownZ a h)) kd,ac_3.drop (λm=>hnz D m (List.mem_append_left _ (.tail _ (.head _)))) kd,back fD,back fL,hDC,
  ⟨m,Ns.keep (a:=L) hn λo e=>kd L o (λm=>hnz L m (List.mem_append_left _ (.head _))) e⟩,λm=>(R_1.hr.liveZ L (R_1.er.ownZ L m)).elim λo e=>nos (fL.symm.trans e),⟨λm=>S.offLD.1 (List.mem_singleton.mp m▸.head _),λn c e m=>S.offLD.2 n c e (List.mem_singleton.mp m▸.head _)⟩,S.offLD,λm=>R_3.hr.offZ D m memD'⟩
end
theorem compF_inv {S:SF} {step:StepF} {T:PyData->Loc->Option Loc} {tests:BF} {inner:CF} {ts:List Nat} {σ:St} {pv:PV} {hp':List MO} {C:Prop} (q:compF S step T tests inner ts σ=some (pv,hp'))
  (k:∀is n hp ds σ',S σ=some ((is,n),hp)->loopC step T tests inner n is ⟨unset ts σ.loc,hp⟩=some (ds,σ')->ds.length≤lim->.dat (.list ds)=pv->σ'.hp=hp'->C):C:=by
 unfold compF at q
 cases h:S σ with
 | none=>rw [h] at q; exact nos q
 | some x =>
  replace q:=h▸q
  dsimp only at q
  cases h2:loopC step T tests inner x.1.2 x.1.1 ⟨unset ts σ.loc,x.2⟩ with
  | none=>rw [h2] at q; exact nos q
  | some y =>
   replace q:=h2▸q
   exact ite_inv q λhl e=>k x.1.1 x.1.2 x.2 y.1 y.2 h h2 hl (Prod.mk.inj e).1 (Prod.mk.inj e).2
theorem comp_new {h h_1:Heap} {o o':Obj} (ho:o={ cls:=.type "list",dict:=none,data:=.seq ([]:List Value).toArray }) (sb:Heap.SameBut (h.push o).objs.size ((h.push o).push o') h_1) :
  h.objs.size≠(h.push o).objs.size∧(∀b o,h.get? b=some o->h_1.get? b=some o)∧h_1.PlainList h.objs.size #[]∧h.get? h.objs.size=none∧h.get? (h.push o).objs.size=none:=by
 subst ho
 have hC:(h.push { cls:=.type "list",dict:=none,data:=.seq ([]:List Value).toArray }).objs.size=h.objs.size+1:=Heap.size_push ..
 have hDC:h.objs.size≠(h.push { cls:=.type "list",dict:=none,data:=.seq ([]:List Value).toArray }).objs.size:=by rw [hC]; exact Nat.ne_of_lt (Nat.lt_succ_self _)
 refine ⟨hDC,λb o e=>sb.extBut b o (by rw [hC]; exact Nat.ne_of_lt (Nat.lt_succ_of_lt (Heap.lt_size e))) (Heap.get?_push_of_some _ (Heap.get?_push_of_some _ e)),⟨_,sb.extBut _ _ hDC (Heap.get?_push_of_some _ (Heap.get?_push_size _ rfl))⟩,Heap.get?_none_of_le (Nat.le_refl _),Heap.get?_none_of_le (by rw [hC]; exact Nat.le_succ _)⟩
theorem comp_core {elt target iter:Expr} {rest:List Comprehension} {ifs:List Expr} {scope:Scope} {pos:Pos} {step:StepF} {S:SF} {T:PyData->Loc->Option Loc} {tests:BF} {inner:CF} {ts:List Nat} {vs:List (Nat×Str)} {A:Around}
  {use:Option (Value->Sem Unit)} {Q:Value->Shared->Prop} {na:Sem Value} (hna:na=newList [])
  (ha:∀g'∈(⟨target,iter,ifs,0⟩:Comprehension)::rest,g'.is_async=0) (chk:compChk fx scope ts vs=true) (hi:EvI prog w K fx iter target step S) (ht:∀L,As prog w K (cfx fx scope vs L) target T) (htests:∀L,TrAll prog w K (cfx fx scope vs L) ifs tests)
  (hin:∀L D,Off (cfx fx scope vs L) [D]->D∉(cfx fx scope vs L).own->CIn prog w K (cfx fx scope vs L) D (.ListComp elt (⟨target,iter,ifs,0⟩::rest) scope pos) elt (⟨target,iter,ifs,0⟩::rest) 0 inner)
  (hs:∀env x,foldedSetIterable iter env x=pure x)
  {ρ:Rho} {Z:List Addr} {σ:St} {s:Shared} {pv:PV} {hp':List MO} (Rm:Room A fx.k) (R:SR K fx ρ Z σ s) (q:compF S step T tests inner ts σ=some (pv,hp'))
  (fin:∀ds D L s',pv=.dat (.list ds)->CompEnd K fx ρ Z σ.loc s ds hp' D L s'->compPost (model prog w) A noE use Q (.ref D) L (.ok .next) s') :
  wpAny (model prog w) A (comprehension (.ListComp elt (⟨target,iter,ifs,0⟩::rest) scope pos) scope fx.env (firstIterPos (⟨target,iter,ifs,0⟩::rest) pos) na false (eval iter fx.env) use) Q noE s:=by
 refine hna.symm▸?_
 refine compF_inv q λis n hp ds σ' e1 e2 hlen hpv hhp=>?_
 have chk':=chk
 unfold compChk at chk'
 simp only [Bool.and_eq_true] at chk'
 refine cps λ_ KK=>?_
 obtain ⟨c1,c2,c3,c4,c5,c6⟩:=chk'
 refine KK ?_
 have hcell:∀y∈scope.names,y.2≠.cell:=λy hy=>by simpa using List.all_eq_true.mp c2 y hy
 have hkind:scope.kind=.function:=eq_of_beq c4
 have hnames:∀y∈scope.names,y.2=.local->scope.names.lookup y.1=some .local:=λy hy e=>by
  have:=List.all_eq_true.mp c3 y hy
  simpa [e] using this
 refine wpAny_comprehension_free (use:=use) (cl:=clF fx.env scope.names []) rfl (hs _) (closureFor_clF c1) hkind hnames ?_
 refine wpAny_mono (hi.run A ρ Z σ s is n hp Rm R e1) (λx s_1 h_1=>wpAny_mono h_1 (λit s_2 h_2=>?_) λ_ _ q=>q) λ_ _ q=>q
 refine cps λ_ KK=>?_
 obtain ⟨ρ_1,s_1',wr,G,J,x_1,H_1,x_2,keep,hw,lv,hgn,hJ,W⟩:=h_2
 refine KK ?_
 have R_1:=R.next x_1 H_1
 refine wpAny_newObj_type (wpAny_newFunctionEnv hcell (by intro y hy; simp at hy) (λh_1 hns_1 hsb_1=>?_) hkind)
 refine cps λ_ KK=>?_
 obtain ⟨hDC,old,hacc,freshD,freshL⟩:=comp_new rfl hsb_1
 refine KK ?_
 have CS:=comp_start (J:=J is) (t_1:=s_2.toks+([]:List (Str×Value)).length) chk R_1 hw (R_1.more hw keep lv) lv hJ (λj a b c=>W.more j a b c) hDC old hacc hns_1 freshD freshL
 have main:=loop_ok (elt:=elt) (gens:=⟨target,iter,ifs,0⟩::rest) (scope:=scope) (pos:=pos) (d:=0) (iter:=iter) (done:=[]) (ds:=ds) (n:=n) rfl ha W (ht _) (htests _) (hin _ _ CS.offDc CS.hDo) Rm CS.offwc CS.hDo CS.Rc CS.J_4 CS.wrnZ (all1 (List.mem_append_left _ (.head _))) (List.mem_append_left _ (.tail _ (.head _))) CS.ac hlen e2
 exact (loopC_step e2).elim λ_ hstep=>codeAny_compStart_all rfl rfl (codeAny_mono main λr s' p =>
  have e:=comp_end CS x_1 R_1 x_2 keep (Ext.of_keep old) old hw hgn hDC freshD freshL p
  e.1▸fin ds _ _ _ hpv.symm (hhp▸e.2)) (W.self hstep CS.J_4 CS.Rc.hr ⟨rfl,rfl⟩)
theorem CompEnd.off {ρ:Rho} {Z:List Addr} {s s':Shared} {loc:Loc} {σ:St} {ds:List PyData} {hp':List MO} {D L:Addr} (R:SR K fx ρ Z σ s) (C:CompEnd K fx ρ Z loc s ds hp' D L s'):∀a∈[L,D],a∉Z:=by
 obtain ⟨ρ',x,R',ac,fD,fL,_⟩:=C
 exact all2 (λm=>(R.hr.liveZ L m).elim λo e=>nos (fL.symm.trans e)) λm=>(R.hr.liveZ D m).elim λo e=>nos (fD.symm.trans e)
theorem CompEnd.post {ρ:Rho} {Z:List Addr} {s s':Shared} {loc:Loc} {σ:St} {ds:List PyData} {hp':List MO} {D L:Addr} {h':Heap} {t:Nat} (R:SR K fx ρ Z σ s) (C:CompEnd K fx ρ Z loc s ds hp' D L s') (k:∀b o,b≠L->s'.heap.get? b=some o->h'.get? b=some o):Post ρ Z s (.dat (.list ds)) hp' (.ref D) { s' with heap:=h',toks:=t }:=by
 have nZ:=C.off R
 refine cps λ_ KK=>?_
 obtain ⟨ρ',x,R',ac,fD,fL,hDL,_,hLo,offL,offLD,hDm⟩:=C
 obtain ⟨⟨us,as,⟨n,hl⟩,r,qa⟩,hz⟩:=ac
 refine KK ?_
 exact ⟨ρ',x.drop (wr:=[L]) (t:=t) (all1 fL) λb o hb e=>k b o (λq=>hb (q▸.head _)) e,⟨D::as,.list (k D _ hDL hl) rfl rfl rfl rfl (r.keep λb hb o e=>k b o (λm=>(qa b hb).2 (List.mem_append_left _ (m▸.head _))) e),
  allc ⟨hDm,nZ D (.tail _ (.head _))⟩ λa ha=>⟨(qa a ha).1,λm=>(qa a ha).2 (List.mem_append_right _ m)⟩⟩,R'.hr.drop nZ λb o hb e=>k b o (λq=>hb (q▸.head _)) e⟩
theorem Ev.comp {elt target iter:Expr} {rest:List Comprehension} {ifs:List Expr} {scope:Scope} {pos:Pos} {step:StepF} {S:SF} {T:PyData->Loc->Option Loc} {tests:BF} {inner:CF} (ts:List Nat) (vs:List (Nat×Str))
  (chk:compChk fx scope ts vs=true) (hi:EvI prog w K fx iter target step S) (ht:∀L,As prog w K (cfx fx scope vs L) target T) (htests:∀L,TrAll prog w K (cfx fx scope vs L) ifs tests)
  (hin:∀L D,Off (cfx fx scope vs L) [D]->D∉(cfx fx scope vs L).own->CIn prog w K (cfx fx scope vs L) D (.ListComp elt (⟨target,iter,ifs,0⟩::rest) scope pos) elt (⟨target,iter,ifs,0⟩::rest) 0 inner)
  (ha:((⟨target,iter,ifs,0⟩:Comprehension)::rest).all (λg=>g.is_async==0)=true:=by rfl) (hs:∀env x,foldedSetIterable iter env x=pure x:=by intro _ _; rfl) :
  Ev prog w K fx (.ListComp elt (⟨target,iter,ifs,0⟩::rest) scope pos) (compF S step T tests inner ts):=.mk λA ρ Z σ s pv hp' Rm R q=>by
 rw [eval_ListComp]
 refine comp_core rfl (λg hg=>by simpa using List.all_eq_true.mp ha g hg) chk hi ht htests hin hs Rm R q λds D L s' e C=>?_
 obtain ⟨m,hn⟩:∃m,s'.heap.Ns L m:=by obtain ⟨_,_,_,_,_,_,_,h,_⟩:=C; exact h
 exact ⟨m,hn,λh' sb=>e▸C.post (t:=s'.toks) R λb o hb e=>sb.extBut b o hb e⟩
theorem CompEnd.stored {A:Around} {ρ:Rho} {Z:List Addr} {s s':Shared} {σ:St} {ds:List PyData} {hp:List MO} {D L:Addr} {i:Nat} {x:Str} {p:Pos} {Q:Unit->Shared->Prop} (hv:fx.vars.lookup i=some x) (ok:StoreOK fx x) (R:SR K fx ρ Z σ s) (C:CompEnd K fx ρ Z σ.loc s ds hp D L s')
  (k:∀s_2 m_2,s_2.heap.Ns L m_2->(∀h',(∀b o,b≠L->s_2.heap.get? b=some o->h'.get? b=some o)->PostX K fx ρ Z s .next ⟨σ.loc.set i (some (.dat (.list ds))),hp⟩ .next { s_2 with heap:=h' })->Q () s_2):wpAny (model prog w) A (PySem.assign (.Name x p) fx.env (.ref D)) Q noE s':=by
 have nZ:=C.off R
 refine cps λ_ KK=>?_
 obtain ⟨ρ',x_1,R',ac,fD,fL,hDL,⟨m,hn⟩,hLo,offL,offLD,hDm⟩:=C
 have sub:∀a∈[L]++Z,a∈[L,D]++Z:=λa h=>(List.mem_append.mp h).elim (λh=>List.mem_append_left _ (List.mem_singleton.mp h▸.head _)) λh=>List.mem_append_right _ h
 have R_1:SR K fx ρ' ([L]++Z) ⟨σ.loc,hp⟩ s':=R'.weak sub λa h=>List.mem_append_right _ (R.er.ownZ a h)
 obtain ⟨⟨us,as,⟨n,hl⟩,r,qa⟩,hz⟩:=ac
 refine KK ?_
 have V:VR ρ' ([L]++Z) s'.heap (.dat (.list ds)) (.ref D):=⟨D::as,.list hl rfl rfl rfl rfl r,allc ⟨hDm,λm=>(List.mem_append.mp m).elim (λm=>hDL (List.mem_singleton.mp m)) (nZ D (.tail _ (.head _)))⟩ λa ha=>⟨(qa a ha).1,λm=>(qa a ha).2 (sub a m)⟩⟩
 exact wpAny_assign_Name (R_1.store hv ok V λs_2 x_2 R_2=>k s_2 m (Ns.keep (a:=L) hn λo e=>x_2.heap L o (λq=>R_1.hr.offZ L q (List.mem_append_left _ (.head _))) hLo e) λh' kk =>
  have kw:∀b o,b∉[L]->s_2.heap.get? b=some o->h'.get? b=some o:=λb o hb e=>kk b o (λq=>hb (q▸.head _)) e
  ⟨ρ',((x_1.weak noX).trans x_2).drop (t:=s_2.toks) (wr:=[L]) (all1 fL) kw,R_2.drop (t:=s_2.toks) (wr:=[L]) (all1 (nZ L (.head _))) offL R.er.ownZ kw,rfl⟩)
theorem Ex.assignComp {x:Str} {i:Nat} {p p':Pos} {elt target iter:Expr} {rest:List Comprehension} {ifs:List Expr} {scope:Scope} {pos:Pos} {step:StepF} {S:SF} {T:PyData->Loc->Option Loc} {tests:BF} {inner:CF} (ts:List Nat) (vs:List (Nat×Str))
  (hv:fx.vars.lookup i=some x) (ok:StoreOK fx x) (hsw:swapsWith (.ListComp elt (⟨target,iter,ifs,0⟩::rest) scope pos) (some (.Name x p)) p'.line fx.env=pure true)
  (chk:compChk fx scope ts vs=true) (hi:EvI prog w K fx iter target step S) (ht:∀L,As prog w K (cfx fx scope vs L) target T) (htests:∀L,TrAll prog w K (cfx fx scope vs L) ifs tests)
  (hin:∀L D,Off (cfx fx scope vs L) [D]->D∉(cfx fx scope vs L).own->CIn prog w K (cfx fx scope vs L) D (.ListComp elt (⟨target,iter,ifs,0⟩::rest) scope pos) elt (⟨target,iter,ifs,0⟩::rest) 0 inner)
  (ha:((⟨target,iter,ifs,0⟩:Comprehension)::rest).all (λg=>g.is_async==0)=true:=by rfl) (hs:∀env x,foldedSetIterable iter env x=pure x:=by intro _ _; rfl) :
  Ex prog w K fx (.Assign [.Name x p] (.ListComp elt (⟨target,iter,ifs,0⟩::rest) scope pos) p') (bindX (compF S step T tests inner ts) (setF i)):=.mk λA ρ Z σ s fl σ' Rm R q=>by
 refine cps λ_ KK=>?_
 obtain ⟨pv,hp,e1,e2⟩:=bindX_some q
 refine KK ?_
 refine (exec_Assign_Name_used _ _ _ _ hsw).symm▸?_
 refine wpAny_bind (wpAny_standAt (wpAny_bind ?_))
 skip
 refine wpAny_bind (wpAny_mono (comp_core (Q:=λ_ s'=>PostX K fx ρ Z s .next ⟨σ.loc.set i (some pv),hp⟩ .next s') (use:=some (PySem.assign (.Name x p) fx.env)) rfl (λg hg=>by simpa using List.all_eq_true.mp ha g hg) chk hi ht htests hin hs Rm R e1 λds D L s' e C=>?_) (λ_ s' hq=>wpAny_pure (wpAny_pure (PostX.eq e2 hq))) λ_ _ e=>e)
 skip
 exact C.stored hv ok R λs_2 m_2 hn_2 k=>⟨m_2,hn_2,λh' sb=>e▸k h' λb o hb e=>sb.extBut b o hb e⟩
end
end Mine
end
section
open PySem PySem.Calls PySem.W PyProof.Rows open Builtin Builtin.Str Builtin.Int
namespace Mine
noncomputable def MC (env:Env) (o:Expr) (name:Str) (apos:Pos) (args:List Expr) (pos:Pos):Prop :=
 ∃pl:Sem Bool,eval (.Call (.Attribute o name apos) args [] pos) env=(do
   let ov ← eval o env
   standAt apos.atName
   let (f,first) ← holding [ov] (getMethod ov name pl)
   callWith pos f first (backTo pos (starEach args env)) [])
section
variable {prog:Program} {w:World} {K:Addr->Option Obj} {fx:Fx} {A:Around} {s:Shared}
noncomputable def strsD:List PyData->Option (List Str)
 | []=>some []
 | .str x::r=>(strsD r).map (x::·)
 | _=>none
theorem strsD_vals {h:Heap} {vs:List Value} {ds:List PyData} {as:List Addr} {ss:List Str} (x:RDs h vs ds as) (e:strsD ds=some ss):∃ps:List (Str×Tok),vs=strValues ps∧ps.map (·.1)=ss:=by
 revert ss
 refine RDs.ind (Q:=λvs ds _=>∀{ss:List Str},strsD ds=some ss->∃ps:List (Str×Tok),vs=strValues ps∧ps.map (·.1)=ss) (λe=>⟨[],rfl,sos e⟩) (λ{v vs d ds as bs} x _ ih ss e=>?_) x
 cases d with
 | str y =>
  refine cps λ_ KK=>?_
  obtain ⟨m,hm,h2⟩:=Option.map_eq_some_iff.mp (show (strsD ds).map (y::·)=some ss from e)
  obtain ⟨ps,hv,hs⟩:=ih hm
  obtain ⟨t,hx,_⟩:=x.str_
  refine KK ?_
  exact ⟨(y,t)::ps,by rw [hx,hv]; rfl,by rw [List.map_cons,hs]; exact h2⟩
 | _=>exact nos e
inductive M1 where
 | join | split | count | index
noncomputable def M1.name:M1->Str
 | .join=>"join" | .split=>"split" | .count=>"count" | .index=>"index"
noncomputable def M1.id:M1->String
 | .join=>"str.join" | .split=>"str.split" | .count=>"str.count" | .index=>"str.index"
noncomputable def joinD (x:Str) (l:List PyData):Option PyData:=match strsD l with
 | some ss=>if ss.foldl (·+·.length+x.length) 0≤lim∧PyData.strOk (glued x ss)=true∧(glued x ss).cps.size≤lim then some (.str (glued x ss)) else none
 | none=>none
noncomputable def splitD (x y:Str):Option PyData :=
 if x.length≤lim∧(y.length==0)=false then
  if (decide (x.length < y.length)||decide (strKind x < strKind y)) then some (.list [.str x])
  else if (occurrences x y 0 x.length (x.length+1)).isEmpty then some (.list [.str x])
  else if (partsBetween x (occurrences x y 0 x.length (x.length+1)) y.length).length≤lim∧(partsBetween x (occurrences x y 0 x.length (x.length+1)) y.length).all PyData.strOk=true then
   some (.list ((partsBetween x (occurrences x y 0 x.length (x.length+1)) y.length).map .str)) else none
 else none
noncomputable def indexD (x y:Str):Option PyData:=match occurrences x y 0 x.length 1 with
 | i::_=>some (.int i)
 | []=>none
noncomputable def M1.f:M1->PyData->PyData->Option PyData
 | .join,.str x,.list l=>joinD x l
 | .split,.str x,.str y=>splitD x y
 | .count,.str x,.str y=>some (.int (Txt.count x y))
 | .index,.str x,.str y=>indexD x y
 | _,_,_=>none
theorem RDs.strsFrom {h:Heap}:∀(l:List Str) (t:Nat),l.all PyData.strOk=true->RDs h (strsFrom t l) (l.map .str) []
 | [],_,_=>.nil
 | x::r,t,q=>by
  rw [List.all_cons,Bool.and_eq_true] at q
  exact .cons (.str x t q.1) (RDs.strsFrom r (t+1) q.2)
theorem NewD.newList {l:List Value} {ds:List PyData} {t:Nat} {P:Addr->Prop} (r:RDs s.heap l ds []):NewD s (.list ds) P (.ref s.heap.objs.size) { s with toks:=t,heap:=s.heap.push { cls:=.type "list",data:=.seq l.toArray } }:=by
 have k:∀b o,s.heap.get? b=some o->(s.heap.push { cls:=.type "list",data:=.seq l.toArray }).get? b=some o:=λb o e=>Heap.get?_push_of_some _ e
 have n:s.heap.get? s.heap.objs.size=none:=Heap.get?_none_of_le (Nat.le_refl _)
 exact ⟨_,t,s.heap.objs.size::[],rfl,k,.list (Heap.get?_push_size _ rfl) rfl rfl rfl rfl (r.keep λa ha o e=>k a o e),all1 (.inl n),λa ha=>sos ha▸⟨n,List.not_mem_nil⟩⟩
theorem joinD_inv {x:Str} {l:List PyData} {r:PyData} {C:Prop} (q:joinD x l=some r) (k:∀ss,strsD l=some ss->ss.foldl (·+·.length+x.length) 0≤lim∧PyData.strOk (glued x ss)=true∧(glued x ss).cps.size≤lim->.str (glued x ss)=r->C):C:=by
 unfold joinD at q
 cases h:strsD l with
 | none=>rw [h] at q; exact nos q
 | some ss=>rw [h] at q; exact ite_inv q (k ss h)
theorem lim_size:lim≤sizeLine:=by show 1048576≤2 ^ 24; decide
theorem join_ok {x:Str} {l:List PyData} {r:PyData} {v u:Value} {as bs:List Addr} {P:Addr->Prop} (ra:RD s.heap v (.str x) as) (rb:RD s.heap u (.list l) bs) (q:joinD x l=some r):wpAny (model prog w) A (call (.builtin "str.join") [v,u]) (NewD s r P) noE s:=by
 refine cps λ_ KK=>?_
 obtain ⟨t,e1,_,hx⟩:=ra.str_
 obtain ⟨a,vs,n,bs',e2,_,ho,_,rs⟩:=rb.list_
 refine KK ?_
 refine e1.symm▸e2.symm▸?_
 refine joinD_inv q λss hss hl hr=>?_
 refine cps λ_ KK=>?_
 obtain ⟨ps,hps,hm⟩:=strsD_vals rs hss
 refine KK ?_
 have hvs:vs=(strValues ps).toArray:=hps▸rfl
 refine hr▸?_
 rw [← hm] at hl ⊢
 refine call_meets F.slot_str_join (typeIs_str _ _ _) F.entry_str_join (F.args_str_join_2 _ _) (meets_str_join_list x t a ps ?_) ⟨⟨_,ho,rfl,n,hvs▸rfl⟩,?_⟩
 ·have:(ps.map (·.1)).toArray.foldl (·+·.length+x.length) 0=(ps.map (·.1)).foldl (·+·.length+x.length) 0:=by simp
  refine this.symm▸?_
  exact decide_eq_false (Nat.not_lt.mpr (Nat.le_trans hl.1 lim_size))
 ·match ps,hl with
  | [],hl=>exact ⟨Nat.le_trans hl.2.2 lim_size,NewD.val (.str _ _ hl.2.1)⟩
  | [p],hl=>exact NewD.val (.str _ _ hl.2.1)
  | p::p'::r,hl=>exact ⟨Nat.le_trans hl.2.2 lim_size,NewD.val (.str _ _ hl.2.1)⟩
inductive SplitI (x y:Str) (r:PyData):Prop
 | few:(decide (x.length < y.length)||decide (strKind x < strKind y))=true->.list [.str x]=r->SplitI x y r
 | no:(decide (x.length < y.length)||decide (strKind x < strKind y))=false->(y.length==0)=false->(occurrences x y 0 x.length (x.length+1)).isEmpty=true->.list [.str x]=r->SplitI x y r
 | yes:(decide (x.length < y.length)||decide (strKind x < strKind y))=false->(y.length==0)=false->x.length≤lim->(occurrences x y 0 x.length (x.length+1)).isEmpty=false->(partsBetween x (occurrences x y 0 x.length (x.length+1)) y.length).length≤lim∧(partsBetween x (occurrences x y 0 x.length (x.length+1)) y.length).all PyData.strOk=true ->
  .list ((partsBetween x (occurrences x y 0 x.length (x.length+1)) y.length).map .str)=r->SplitI x y r
theorem splitD_inv {x y:Str} {r:PyData} (q:splitD x y=some r):SplitI x y r:=by
 refine iteo q λhl q=>?_
 cases h1:(decide (x.length < y.length)||decide (strKind x < strKind y)) with
 | true=>exact .few h1 (sos ((if_pos h1).symm.trans q))
 | false =>
  have q:=(if_neg (h1.symm▸Bool.false_ne_true)).symm.trans q
  cases h2:(occurrences x y 0 x.length (x.length+1)).isEmpty with
  | true=>exact .no h1 hl.2 h2 (sos ((if_pos h2).symm.trans q))
  | false =>
   have q:=(if_neg (h2.symm▸Bool.false_ne_true)).symm.trans q
   exact ite_inv q λh3 e=>.yes h1 hl.2 hl.1 h2 h3 e
theorem split_ok {x y:Str} {r:PyData} {v u:Value} {as bs:List Addr} {P:Addr->Prop} (ra:RD s.heap v (.str x) as) (rb:RD s.heap u (.str y) bs) (q:splitD x y=some r):wpAny (model prog w) A (call (.builtin "str.split") [v,u]) (NewD s r P) noE s:=by
 refine cps λ_ KK=>?_
 obtain ⟨t,e1,_,hx⟩:=ra.str_
 obtain ⟨u,e2,_,_⟩:=rb.str_
 refine KK ?_
 refine e1.symm▸e2.symm▸?_
 cases splitD_inv q with
 | few h1 e=>exact e▸call_meets F.slot_str_split (typeIs_str _ _ _) F.entry_str_split (F.args_str_split_2 _ _) (meets_str_split_cannot_occur x y t u h1) (NewD.newList (.cons (.str _ _ hx) .nil))
 | no h1 h0 h2 e=>exact e▸call_meets F.slot_str_split (typeIs_str _ _ _) F.entry_str_split (F.args_str_split_2 _ _) (meets_str_split_not_found x y t u h1 h0 h2) (NewD.newList (.cons (.str _ _ hx) .nil))
 | yes h1 h0 hl h2 h3 e=>exact e▸call_meets F.slot_str_split (typeIs_str _ _ _) F.entry_str_split (F.args_str_split_2 _ _) (meets_str_split_sep x y t u h1 h0 h2 (Nat.le_trans hl lim_size) (Nat.le_trans h3.1 lim_size)) (NewD.newList (RDs.strsFrom _ _ h3.2))
theorem m1_ok (m:M1) {d e r:PyData} {v u:Value} {as bs:List Addr} {P:Addr->Prop} (x:RD s.heap v d as) (y:RD s.heap u e bs) (q:m.f d e=some r):wpAny (model prog w) A (call (.builtin m.id) [v,u]) (NewD s r P) noE s:=by
 cases d with
 | str z=>cases m with
  | join=>cases e with
   | list l=>exact join_ok x y q
   | _=>exact nos q
  | split=>cases e with
   | str z'=>exact split_ok x y q
   | _=>exact nos q
  | count=>cases e with
   | str z' =>
    refine cps λ_ KK=>?_
    obtain ⟨t,e1,_,hx⟩:=x.str_
    obtain ⟨u,e2,_,_⟩:=y.str_
    refine KK ?_
    refine e1.symm▸e2.symm▸(sos q)▸?_
    exact call_gives F.slot_str_count (typeIs_str _ _ _) F.entry_str_count (F.args_str_count_2 _ _) (gives_str_count z z' t u) (NewD.val (.int _ _))
   | _=>exact nos q
  | index=>cases e with
   | str z' =>
    refine cps λ_ KK=>?_
    obtain ⟨t,e1,_,hx⟩:=x.str_
    obtain ⟨u,e2,_,_⟩:=y.str_
    refine KK ?_
    refine e1.symm▸e2.symm▸?_
    have q:(match occurrences z z' 0 z.length 1 with | i::_=>some (PyData.int i) | []=>none)=some r:=q
    cases ho:occurrences z z' 0 z.length 1 with
    | nil=>rw [ho] at q; exact nos q
    | cons i rest =>
     replace q:=ho▸q
     refine (sos q)▸?_
     exact call_gives F.slot_str_index (typeIs_str _ _ _) F.entry_str_index (F.args_str_index_2 _ _) (gives_str_index z z' t u i rest ho) (NewD.val (.int _ _))
   | _=>exact nos q
 | _=>cases m<;>exact nos q
noncomputable def isStrD:PyData->Bool
 | .str _=>true
 | _=>false
theorem isStrD_inv {d:PyData} (q:isStrD d=true):∃x,d=.str x:=by
 cases d with
 | str x=>exact ⟨x,rfl⟩
 | _=>exact absurd q Bool.false_ne_true
theorem m1_get' (m:M1) {d:PyData} {v:Value} {as:List Addr} {pl:Sem Bool} {Q:Value×List Value->Shared->Prop} (x:RD s.heap v d as) (q:isStrD d=true) (h:Q (.builtin m.id,[v]) s):wpAny (model prog w) A (getMethod v m.name pl) Q noE s:=by
 obtain ⟨y,hd⟩:=isStrD_inv q
 obtain ⟨t,e,_,_⟩:=(hd▸x:RD s.heap v (.str y) as).str_
 rw [e] at h ⊢
 cases m with
 | join=>exact GM.join h
 | split=>exact GM.split h
 | count=>exact GM.count h
 | index=>exact GM.index h
noncomputable def meth1 (m:M1) (Fo Fe:EF):NF:=bindE Fo λa=>match a with
 | .dat d=>if isStrD d then bindE Fe λb=>map2 m.f (.dat d) b else λ_=>none
 | _=>λ_=>none
theorem meth1_inv {m:M1} {Fe:EF} {a:PV} {σ:St} {r:PyData×List MO} {C:Prop} (q:(match a with | .dat d=>if isStrD d then bindE Fe λb=>map2 m.f (.dat d) b else λ_=>none | _=>λ_=>none:NF) σ=some r)
  (k:∀d,a=.dat d->isStrD d=true->bindE Fe (λb=>map2 m.f (.dat d) b) σ=some r->C):C:=by
 cases a with
 | dat d =>
  have q:(if isStrD d then bindE Fe λb=>map2 m.f (.dat d) b else λ_=>none:NF) σ=some r:=q
  cases h:isStrD d with
  | true=>rw [if_pos h] at q; exact k d rfl h q
  | false=>rw [if_neg (h.symm▸Bool.false_ne_true)] at q; exact nos q
 | _=>exact nos q
theorem EvN.meth1 (m:M1) {o e:Expr} {apos pos:Pos} {Fo Fe:EF} (ho:Ev prog w K fx o Fo) (he:Ev prog w K fx e Fe) (mc:MC fx.env o m.name apos [e] pos) (hs:∀env,starEach [e] env=[(false,eval e env)]:=by intro _; rfl) :
  EvN prog w K fx (.Call (.Attribute o m.name apos) [e] [] pos) (Mine.meth1 m Fo Fe):=.mk λA ρ Z σ s d hp' Rm R q=>by
 obtain ⟨pl,mc⟩:=mc
 refine MethodCall_ (ho.then Rm R q λa va h1 ρ_1 s_1 e1 x_1 v_1 R_1=>meth1_inv e1 λd_0 ha hd e1=>?_) mc
 replace v_1:=ha▸v_1
 obtain ⟨as,ra,qa⟩:=id v_1
 exact m1_get' m ra hd (callWith_method1 (wpAny_items_cons (he.then Rm R_1 e1 λb vb h2 ρ_2 s_2 e2 x_2 v_2 R_2=>wpAny_items_nil (map2_inv e2 λx y hx hy hd' hh =>
  (VR.ext (Z:=Z) x_2 (λ_ h=>nin h) v_1).elim λas' ra'=>(rd_RD R_2.hr v_2 hy).elim λbs rb =>
  wpAny_mono (m1_ok m (sos hx▸ra'.1) rb.1 hd') (λv s_3 n=>⟨_,_,λ_=>False,x_1.trans x_2,hh▸R_2.hr,n,λc hc=>hc.elim⟩) λ_ _ q=>q)) (hs _)) (hs _) rfl)
end
theorem RDs.erase {h:Heap} {vs:List Value} {ds:List PyData} {as:List Addr} (r:RDs h vs ds as):∀k,∃bs,RDs h (vs.eraseIdx k) (ds.eraseIdx k) bs∧∀a∈bs,a∈as :=
 RDs.ind (Q:=λvs ds as=>∀k,∃bs,RDs h (vs.eraseIdx k) (ds.eraseIdx k) bs∧∀a∈bs,a∈as) (λk=>⟨[],.nil,λ_ h=>h⟩)
  (λ{v vs d ds as bs} x r ih k=>match k with
   | 0=>⟨bs,r,λa ha=>List.mem_append_right _ ha⟩
   | k+1=>(ih k).elim λcs q=>⟨as++cs,.cons x q.1,λa ha=>(List.mem_append.mp ha).elim (λha=>List.mem_append_left _ ha) λha=>List.mem_append_right _ (q.2 a ha)⟩) r
section
variable {prog:Program} {w:World} {K:Addr->Option Obj} {fx:Fx} {A:Around}
theorem Post.setList {ρ:Rho} {Z:List Addr} {s:Shared} {hp:List MO} {i:Nat} {r:Addr} {h':Heap} {vs:Array Value} {n:Nat} {ds:List PyData} {as:List Addr} {pv:PV} {v:Value} (H:HR ρ Z hp s.heap) (hi:ρ[i]?=some (r,r)) (sb:Heap.SameBut r s.heap h')
  (e:h'.get? r=some { cls:=.type "list",dict:=none,data:=.seq vs n,slots:=#[] }) (rs:RDs s.heap vs.toList ds as) (q:∀a∈as,a∉muts ρ∧a∉Z) (V:VR ρ Z h' pv v):Post ρ Z s pv (hp.set i (.lst ds)) v { s with heap:=h' }:=by
 have hr:r∈muts ρ:=List.mem_map_of_mem (f:=Prod.snd) (List.mem_of_getElem? hi)
 have k:∀a o,a≠r->s.heap.get? a=some o->h'.get? a=some o:=λa o ha e=>sb.extBut a o ha e
 refine ⟨ρ,⟨⟨[],by simp,λ_ h=>nin h⟩,λb o hb _ e=>k b o (λq=>hb (q▸hr)) e,λb o' e'=>?_,rfl,rfl,λ_ _ e=>e,λh=>h⟩,V,H.set hi k ⟨rfl,_,vs,n,as,e,rfl,rfl,rfl,rfl,rs.keep λa ha o e=>k a o (λm=>(q a ha).1 (m▸hr)) e,q⟩⟩
 by_cases hb:b=r
 ·exact ⟨_,hb▸e⟩
 ·exact ⟨o',k b o' hb e'⟩
theorem mapSeq_plain (f:Array Value->Array Value) (vs:Array Value) (n:Nat):∃n',Obj.mapSeq f { cls:=.type "list",dict:=none,data:=.seq vs n,slots:=#[] }={ cls:=.type "list",dict:=none,data:=.seq (f vs) n',slots:=#[] }:=⟨_,rfl⟩
theorem getMethod_listOf {l:Addr} {o:Obj} {s:Shared} {name:Str} {id:String} {pl:Sem Bool} {Q:Value×List Value->Shared->Prop} (slot:Slot "list" name id) (ty:typeOf (.builtin id)=pure (.type "method_descriptor")) (ho:s.heap.get? l=some o) (hc:o.cls=.type "list") (hd:o.dict=none)
  (h:Q (.builtin id,[.ref l]) s):wpAny (model prog w) A (getMethod (.ref l) name pl) Q noE s :=
 getMethod_builtin ⟨o,ho,hc⟩ PySem.F.plainAttrs_list slot ty (λa e=>by cases e; exact ⟨o,ho,hd⟩) h
theorem HR.list {ρ:Rho} {Z:List Addr} {h:Heap} {hp:List MO} (H:HR ρ Z hp h) {i:Nat} {l:List PyData} (hl:hp[i]?=some (.lst l)) {r b:Addr} (hr:ρ[i]?=some (r,b)) :
  r=b∧∃vs n as,h.get? r=some { cls:=.type "list",dict:=none,data:=.seq vs n,slots:=#[] }∧RDs h vs.toList l as∧∀a∈as,a∉muts ρ∧a∉Z:=by
 obtain ⟨e,o,vs,n,as,ho,h1,h2,h3,h4,rs,q⟩:=H.lst hl hr
 exact ⟨e,vs,n,as,e▸obj_list h1 h2 h3 h4▸ho,rs,q⟩
theorem lstM {β:Type} {o:Option MO} {f:List PyData->Option β} {r:β} {C:Prop} (e:(match o with | some (.lst l)=>f l | _=>none)=some r) (k:∀l,o=some (.lst l)->f l=some r->C):C:=by
 cases o with
 | none=>exact nos e
 | some mo=>cases mo with
  | lst l=>exact k l rfl e
  | _=>exact nos e
noncomputable def appF (i:Nat):PV->St->Option (PV×List MO):=λb σ=>match b with
 | .dat d=>match σ.hp[i]? with
  | some (.lst l)=>if l.length≤lim then some (.dat .none,σ.hp.set i (.lst (l++[d]))) else none
  | _=>none
 | _=>none
noncomputable def isLst (hp:List MO) (i:Nat):Bool:=match hp[i]? with
 | some (.lst _)=>true
 | _=>false
theorem isLst_eq {hp:List MO} {i:Nat} (h:isLst hp i=true):∃l,hp[i]?=some (.lst l):=by
 unfold isLst at h
 cases e:hp[i]? with
 | none=>rw [e] at h; exact absurd h Bool.false_ne_true
 | some mo =>
  replace h:=e▸h
  cases mo with
  | lst l=>exact ⟨l,rfl⟩
  | _=>exact absurd h Bool.false_ne_true
theorem appF_inv {i:Nat} {b:PV} {σ:St} {pv:PV} {hp':List MO} {C:Prop} (e:appF i b σ=some (pv,hp')) (k:∀d l,b=.dat d->σ.hp[i]?=some (.lst l)->l.length≤lim->.dat .none=pv->σ.hp.set i (.lst (l++[d]))=hp'->C):C:=by
 cases b with
 | dat d=>exact lstM e λl hl e=>ite_inv e λhlen e=>k d l rfl hl hlen (Prod.mk.inj e).1 (Prod.mk.inj e).2
 | _=>exact nos e
noncomputable def appendF (Fo Fe:EF):EF:=bindE Fo λa σ=>match a with
 | .obj i=>if isLst σ.hp i then bindE Fe (appF i) σ else none
 | _=>none
theorem append_list {ρ ρ_2:Rho} {Z:List Addr} {s s_2:Shared} {loc:Loc} {hp:List MO} {i:Nat} {r:Addr} {l:List PyData} {d:PyData} {v:Value} (R_2:SR K fx ρ_2 Z ⟨loc,hp⟩ s_2) (x:Ext [] ρ s ρ_2 s_2) (hl:hp[i]?=some (.lst l)) (hr_2:ρ_2[i]?=some (r,r)) (hlen:l.length≤lim) (V:VR ρ_2 Z s_2.heap (.dat d) v) :
  wpAny (model prog w) A (call (.builtin "list.append") [.ref r,v]) (Post ρ Z s (.dat .none) (hp.set i (.lst (l++[d])))) noE s_2:=by
 refine cps λ_ KK=>?_
 obtain ⟨_,vs,n,as,ho,rs,qa⟩:=R_2.hr.list hl hr_2
 obtain ⟨bs,rb,qb⟩:=V
 refine KK ?_
 have e3:=rs.length
 replace e3:=Array.length_toList▸e3
 exact wpAny_list_append_plain (hsz:=e3.symm▸Nat.le_trans hlen (by decide)) ⟨n,ho⟩ λh' hl' sb=>hl'.elim λn' hl'=>Post.trans x (Post.setList (as:=as++(bs++[])) R_2.hr hr_2 sb hl' (Array.toList_push.symm▸rs.append (.cons rb .nil))
  (λa ha=>(List.mem_append.mp ha).elim (qa a) λha=>qb a (by rwa [List.append_nil] at ha)) ⟨[],.none,λ_ h=>nin h⟩)
theorem Ev.append {o e:Expr} {apos pos:Pos} {Fo Fe:EF} (ho:Ev prog w K fx o Fo) (he:Ev prog w K fx e Fe) (mc:MC fx.env o "append" apos [e] pos) (hs:∀env,starEach [e] env=[(false,eval e env)]:=by intro _; rfl) :
  Ev prog w K fx (.Call (.Attribute o "append" apos) [e] [] pos) (appendF Fo Fe):=.mk λA ρ Z σ s pv hp' Rm R q=>by
 obtain ⟨pl,mc⟩:=mc
 refine MethodCall_ (ho.then Rm R q λa va h1 ρ_1 s_1 e1 x_1 v_1 R_1=>?_) mc
 cases a with
 | obj i =>
  exact iteo e1 λhi e1=>by
   refine cps λ_ KK=>?_
   obtain ⟨l0,hl0⟩:=isLst_eq hi
   obtain ⟨r,b,hr,hv⟩:=v_1
   obtain ⟨hrb,vs0,n0,as0,ho0,_,_⟩:=R_1.hr.list hl0 hr
   refine KK ?_
   replace hr:=hrb.symm▸hr
   refine hv.symm▸?_
   exact getMethod_listOf PySem.F.slot_list_append PySem.F.type_list_append ho0 rfl rfl (callWith_method1 (wpAny_items_cons (he.then Rm R_1 e1 λb vb h2 ρ_2 s_2 e2 x_2 v_2 R_2=>wpAny_items_nil (appF_inv e2 λd l hd hl hlen hpv hhp =>
    hpv▸hhp▸append_list R_2 (x_1.trans x_2) hl (x_2.old hr) hlen (hd▸v_2))) (hs _)) (hs _) rfl)
 | _=>exact nos e1
noncomputable def popAt (i k:Nat) (l:List PyData) (hp:List MO):Option (PV×List MO):=if l.length≤lim then match l[k]? with
 | some d=>some (.dat d,hp.set i (.lst (l.eraseIdx k)))
 | none=>none else none
noncomputable def popF (Fo:EF) (first:Bool):EF:=bindE Fo λa σ=>match a with
 | .obj i=>match σ.hp[i]? with
  | some (.lst l)=>popAt i (if first then 0 else l.length - 1) l σ.hp
  | _=>none
 | _=>none
theorem popAt_inv {i k:Nat} {l:List PyData} {hp:List MO} {pv:PV} {hp':List MO} {C:Prop} (e:popAt i k l hp=some (pv,hp')) (c:∀d,l.length≤lim->l[k]?=some d->.dat d=pv->hp.set i (.lst (l.eraseIdx k))=hp'->C):C:=by
 refine iteo e λhl e=>?_
 have e:(match l[k]? with | some d=>some (PV.dat d,hp.set i (.lst (l.eraseIdx k))) | none=>none)=some (pv,hp'):=e
 cases h:l[k]? with
 | none=>rw [h] at e; exact nos e
 | some d=>rw [h] at e; exact c d hl h (sop e).1 (sop e).2
theorem erase_list (vs:Array Value) (k:Nat):(vs.eraseIdxIfInBounds k).toList=vs.toList.eraseIdx k:=by
 rw [Array.eraseIdxIfInBounds]
 by_cases h:k < vs.size
 ·rw [dif_pos h,Array.toList_eraseIdx]
 ·rw [dif_neg h,List.eraseIdx_of_length_le (by rw [Array.length_toList]; exact Nat.le_of_not_lt h)]
theorem Post.pop {ρ:Rho} {Z:List Addr} {s:Shared} {hp hp':List MO} {i k:Nat} {r:Addr} {vs:Array Value} {n:Nat} {l:List PyData} {as:List Addr} {pv:PV} (H:HR ρ Z hp s.heap) (hi:ρ[i]?=some (r,r))
  (ho:s.heap.get? r=some { cls:=.type "list",dict:=none,data:=.seq vs n,slots:=#[] }) (rs:RDs s.heap vs.toList l as) (q:∀a∈as,a∉muts ρ∧a∉Z) (e:popAt i k l hp=some (pv,hp')) :
  ∃y,vs[k]?=some y∧Post ρ Z s pv hp' y { s with heap:=s.heap.update r (Obj.mapSeq λxs=>xs.eraseIdxIfInBounds k) }:=popAt_inv e λd _ hd hpv hhp=>by
 refine cps λ_ KK=>?_
 obtain ⟨y,bs,hy,ry,qy⟩:=rs.get k d hd
 rw [Array.getElem?_toList] at hy
 obtain ⟨n',hm⟩:=mapSeq_plain (λxs=>xs.eraseIdxIfInBounds k) vs n
 have hr:r∈muts ρ:=List.mem_map_of_mem (f:=Prod.snd) (List.mem_of_getElem? hi)
 have sb:Heap.SameBut r s.heap (s.heap.update r (Obj.mapSeq λxs=>xs.eraseIdxIfInBounds k)):=Heap.SameBut.update ..
 have e':(s.heap.update r (Obj.mapSeq λxs=>xs.eraseIdxIfInBounds k)).get? r=some { cls:=.type "list",dict:=none,data:=.seq (vs.eraseIdxIfInBounds k) n',slots:=#[] }:=by
  rw [Heap.get?_update_self _ ho (by rw [hm]; rfl),hm]
 obtain ⟨cs,rc,qc⟩:=rs.erase k
 refine KK ?_
 exact ⟨y,hy,hpv▸hhp▸Post.setList H hi sb e' (by rw [erase_list]; exact rc) (λa ha=>q a (qc a ha)) ⟨bs,ry.keep λa ha o e=>sb.extBut a o (λm=>(q a (qy a ha)).1 (m▸hr)) e,λa ha=>q a (qy a ha)⟩⟩
theorem popAt_len {i k:Nat} {l:List PyData} {hp:List MO} {r:PV×List MO} (e:popAt i k l hp=some r):l.length≤lim:=iteo e λh _=>h
theorem pop_list {o:Expr} {apos pos:Pos} {args:List Expr} {Fo:EF} {first:Bool} (ho:Ev prog w K fx o Fo) (mc:MC fx.env o "pop" apos args pos) {ρ:Rho} {Z:List Addr} {σ:St} {s:Shared} {pv:PV} {hp':List MO} (Rm:Room A fx.k) (R:SR K fx ρ Z σ s) (q:popF Fo first σ=some (pv,hp')) {Q:Value->Shared->Prop}
  (k:∀r vs n l (s_1:Shared) y i h1 as,s_1.heap.get? r=some { cls:=.type "list",dict:=none,data:=.seq vs n,slots:=#[] }->l.length≤lim->vs.size=l.length->vs[if first then 0 else l.length - 1]?=some y->popAt i (if first then 0 else l.length - 1) l h1=some (pv,hp')->RDs s_1.heap vs.toList l as ->
   Post ρ Z s pv hp' y { s_1 with heap:=s_1.heap.update r (Obj.mapSeq λxs=>xs.eraseIdxIfInBounds (if first then 0 else l.length - 1)) }->wpAny (model prog w) A (callWith pos (.builtin "list.pop") [.ref r] (backTo pos (starEach args fx.env)) []) Q noE s_1):wpAny (model prog w) A (eval (.Call (.Attribute o "pop" apos) args [] pos) fx.env) Q noE s:=by
 obtain ⟨pl,mc⟩:=mc
 refine MethodCall_ (ho.then Rm R q λa va h1 ρ_1 s_1 e1 x_1 v_1 R_1=>?_) mc
 cases a with
 | obj i =>
  exact lstM e1 λl hl e1=>by
   refine cps λ_ KK=>?_
   obtain ⟨r,b,hr,hv⟩:=v_1
   obtain ⟨hrb,vs,n,as,ho,rs,qa⟩:=R_1.hr.list hl hr
   have e3:=rs.length
   replace e3:=Array.length_toList▸e3
   replace hr:=hrb.symm▸hr
   obtain ⟨y,hy,P⟩:=Post.pop R_1.hr hr ho rs qa e1
   refine KK ?_
   refine hv.symm▸?_
   exact getMethod_listOf PySem.F.slot_list_pop PySem.F.type_list_pop ho rfl rfl (k r vs n l s_1 y i h1 as ho (popAt_len e1) e3 hy e1 rs (Post.trans x_1 P))
 | _=>exact nos e1
theorem Post.toks {ρ:Rho} {Z:List Addr} {s s':Shared} {pv:PV} {hp':List MO} {v:Value} {t:Nat} (p:Post ρ Z s pv hp' v s'):Post ρ Z s pv hp' v { s' with toks:=t } :=
 Exists.elim p λρ' p=>⟨ρ',p.1.trans (Ext.of_keep (h:=s'.heap) λ_ _ e=>e),p.2⟩
theorem Ev.pop0 {o:Expr} {apos pos cp:Pos} {kk:Nat} {Fo:EF} (ho:Ev prog w K fx o Fo) (mc:MC fx.env o "pop" apos [.Constant (.int 0) kk cp] pos) :
  Ev prog w K fx (.Call (.Attribute o "pop" apos) [.Constant (.int 0) kk cp] [] pos) (popF Fo true):=.mk λA ρ Z σ s pv hp' Rm R q =>
 pop_list ho mc Rm R q λr vs n l s_1 y i h1 as ho hl e3 hy e1 rs P=>by
  have hpos:0 < vs.size:=(Array.getElem?_eq_some_iff.mp hy).1
  exact callWith_method1 (wpAny_items_cons (wpAny_Constant_int (wpAny_items_nil (call_meets PySem.F.slot_list_pop ⟨_,ho,rfl⟩ PySem.F.entry_list_pop (PySem.F.args_list_pop_2 _ _) (PySem.MeetsSeq.list_pop_at r vs n 0 s_1.toks 0 y (by decide) (by unfold seqIndex?; simp [hpos]) hy (e3.symm▸Nat.le_trans hl (by decide))) ⟨ho,P.toks⟩))) rfl) rfl rfl
end
end Mine
end
section
open PySem PySem.Calls PySem.W PyProof.Rows
namespace Mine
noncomputable def FinP (fx:Fx) (ρ:Rho) (Z:List Addr) (s:Shared) (fl:Fl) (σ':St) (f:Flow) (s':Shared):Prop:=∃ρ',Ext fx.own ρ s ρ' s'∧HR ρ' Z σ'.hp s'.heap∧FlR ρ' Z s'.heap fl f
structure ExsFin (prog:Program) (w:World) (K:Addr->Option Obj) (fx:Fx) (st:List Stmt) (F:XF):Prop where
 run:∀(A:Around) (ρ:Rho) (Z:List Addr) (σ:St) (s:Shared) (fl:Fl) (σ':St),Room A fx.k->SR K fx ρ (fx.own++Z) σ s->(∀a∈fx.own,a∉Z)->F σ=some (fl,σ') ->
  wpAny (model prog w) A (execs st fx.env) (FinP fx ρ Z s fl σ') noE s
theorem FlR.weak {ρ:Rho} {Z Z':List Addr} {h:Heap} (hZ:∀a∈Z',a∈Z) {fl:Fl} {f:Flow} (x:FlR ρ Z h fl f):FlR ρ Z' h fl f:=by
 cases fl with
 | ret pv=>exact x.elim λv q=>⟨v,q.1,q.2.weak hZ⟩
 | _=>exact x
theorem PostX.fin {K:Addr->Option Obj} {fx:Fx} {ρ:Rho} {Z:List Addr} {s s':Shared} {fl:Fl} {σ':St} {f:Flow} (p:PostX K fx ρ (fx.own++Z) s fl σ' f s'):FinP fx ρ Z s fl σ' f s' :=
 p.elim λρ' q=>⟨ρ',q.1,q.2.1.hr.weak λa h=>List.mem_append_right _ h,q.2.2.weak λa h=>List.mem_append_right _ h⟩
theorem FinP.trans {fx:Fx} {ρ ρ_1:Rho} {Z X:List Addr} {s s_1 s':Shared} {fl:Fl} {σ':St} {f:Flow} (x:Ext X ρ s ρ_1 s_1) (hX:∀a∈X,a∈fx.own) (p:FinP fx ρ_1 Z s_1 fl σ' f s'):FinP fx ρ Z s fl σ' f s':=p.elim λρ' q=>⟨ρ',(x.weak hX).trans q.1,q.2⟩
theorem Exs.fin {prog:Program} {w:World} {K:Addr->Option Obj} {fx:Fx} {st:List Stmt} {F:XF} (h:Exs prog w K fx st F):ExsFin prog w K fx st F:=.mk λA ρ Z σ s fl σ' Rm R _ q =>
 wpAny_mono (h.run A ρ _ σ s fl σ' Rm R q) (λf s' p=>p.fin) λ_ _ q=>q
theorem ExsFin.cons {prog:Program} {w:World} {K:Addr->Option Obj} {fx:Fx} {st:Stmt} {rest:List Stmt} {F G:XF} (h:Ex prog w K fx st F) (k:ExsFin prog w K fx rest G):ExsFin prog w K fx (st::rest) (seqF F G):=.mk λA ρ Z σ s fl σ' Rm R ho e =>
 wpAny_execs_cons (seqF_inv e (λσ_1 e1 e2=>wpAny_mono (h.run A ρ _ σ s _ _ Rm R e1) (λf s_1 p=>by
  refine cps λ_ KK=>?_
  obtain ⟨ρ_1,x_1,R_1,q⟩:=p
  refine KK ?_
  refine (show f=.next from q).symm▸?_
  exact wpAny_mono (k.run A ρ_1 Z σ_1 s_1 _ _ Rm R_1 ho e2) (λf s_2 p=>p.trans x_1 λ_ h=>h) λ_ _ q=>q) λ_ _ q=>q)
  λe1 hn=>wpAny_mono (h.run A ρ _ σ s _ _ Rm R e1) (λf s_1 p=>by
   have p:=p.fin
   cases fl with
   | next=>exact absurd rfl hn
   | ret pv=>obtain ⟨ρ_1,x_1,R_1,v,hf,r⟩:=p; rw [hf]; exact ⟨ρ_1,x_1,R_1,v,rfl,r⟩
   | brk=>obtain ⟨ρ_1,x_1,R_1,q⟩:=p; rw [show f=.brk from q]; exact ⟨ρ_1,x_1,R_1,rfl⟩
   | cont=>obtain ⟨ρ_1,x_1,R_1,q⟩:=p; rw [show f=.cont from q]; exact ⟨ρ_1,x_1,R_1,rfl⟩) λ_ _ q=>q)
noncomputable def CallP (ρ:Rho) (Z:List Addr) (s:Shared) (pv:PV) (hp':List MO) (r:Result) (s':Shared):Prop:=match r with | .ok (.ret v)=>Post ρ Z s pv hp' v s' | .ok _=>False | .error e=>noE e s'
structure FnC (prog:Program) (w:World) (K:Addr->Option Obj) (a:Addr) (k:Nat) (G:FnF):Prop where
 run:∀(A:Around) (ρ:Rho) (Z:List Addr) (hp:List MO) (s:Shared) (ps:List PV) (vs:List Value) (pv:PV) (hp':List MO),Room A k->HR ρ Z hp s.heap->TopOK K s.heap->OffK K ρ Z->VRs ρ Z s.heap ps vs->G ps hp=some (pv,hp') ->
  codeAny (model prog w) A (.call (.ref a) ⟨vs,[]⟩) (CallP ρ Z s pv hp') s
theorem CallP.elim {ρ:Rho} {Z:List Addr} {s s':Shared} {pv:PV} {hp':List MO} {r:Result} {C:Prop} (p:CallP ρ Z s pv hp' r s') (k:∀v,r=.ok (.ret v)->Post ρ Z s pv hp' v s'->C):C:=by
 cases r with
 | ok f=>cases f with
  | ret v=>exact k v rfl p
  | _=>exact False.elim p
 | error e=>exact False.elim p
theorem FnC.ok {prog:Program} {w:World} {K:Addr->Option Obj} {a:Addr} {k:Nat} {G:FnF} (h:FnC prog w K a k G):FnOK prog w K a k G:=.mk λA ρ Z hp s ps vs pv hp' Rm H top off V q=>wpAny_call (h.run A ρ Z hp s ps vs pv hp' Rm H top off V q)
noncomputable def PV.closed (n:Nat):PV->Bool
 | .dat _=>true
 | .obj i=>decide (i < n)
 | .strm i=>decide (i < n)
noncomputable def MO.closed (n:Nat):MO->Bool
 | .lst _=>true
 | .ins _ ats=>ats.all λp=>p.2.closed n
 | .cit i _ _=>decide (i < n)
 | .tab _ _=>true
noncomputable def trunc (n:Nat) (pv:PV) (hp:List MO):Option (PV×List MO):=if pv.closed n&&((hp.take n).all (MO.closed n)&&decide (n≤hp.length)) then some (pv,hp.take n) else none
noncomputable def argLoc (ps:List PV) (n:Nat):Loc:=ps.map some++List.replicate n none
noncomputable def fnF (np N:Nat) (keep:Bool) (B:XF):FnF:=λps hp=>if ps.length==np then match B ⟨argLoc ps N,hp⟩ with
 | some (.ret pv,σ)=>if keep then some (pv,σ.hp) else trunc hp.length pv σ.hp
 | some (.next,σ)=>if keep then some (.dat .none,σ.hp) else trunc hp.length (.dat .none) σ.hp
 | _=>none else none
section
variable {ρ:Rho} {Z:List Addr} {h:Heap} {n:Nat}
theorem get_of_append {ρ e:Rho} {i:Nat} {p:Addr×Addr} (hi:i < ρ.length) (h:(ρ++e)[i]?=some p):ρ[i]?=some p:=by rwa [List.getElem?_append_left hi] at h
theorem notin_of_append {e:Rho} {b:Addr} (h:b∉muts (ρ++e)):b∉muts ρ:=λq=>h (by rw [muts_append]; exact List.mem_append_left _ q)
theorem foot_forget {e:Rho} {as:List Addr} (q:∀a∈as,a∉muts (ρ++e)∧a∉Z):∀a∈as,a∉muts ρ∧a∉Z:=λa ha=>⟨notin_of_append (q a ha).1,(q a ha).2⟩
theorem VR.forget {e:Rho} {p:PV} {v:Value} (c:p.closed ρ.length=true) (x:VR (ρ++e) Z h p v):VR ρ Z h p v:=by
 cases p with
 | dat d=>exact x.elim λas q=>⟨as,q.1,foot_forget q.2⟩
 | obj i=>exact x.elim λr q=>q.elim λb q=>⟨r,b,get_of_append (of_decide_eq_true c) q.1,q.2⟩
 | strm i=>exact x.elim λr q=>q.elim λb q=>q.elim λa q=>q.elim λfs q=>⟨r,b,a,fs,get_of_append (of_decide_eq_true c) q.1,q.2.1,q.2.2.1,foot_forget q.2.2.2⟩
theorem MR.forget {e:Rho} {r b:Addr} {mo:MO} (c:mo.closed ρ.length=true) (x:MR (ρ++e) Z h r b mo):MR ρ Z h r b mo:=by
 cases mo with
 | lst l =>
  obtain ⟨hr,o,vs,n,as,ho,h1,h2,h3,h4,rs,q⟩:=x
  exact ⟨hr,o,vs,n,as,ho,h1,h2,h3,h4,rs,foot_forget q⟩
 | ins C ats =>
  obtain ⟨hr,hz,o,mA,ho,h1,h2,h3,h4,h5,h6,h7⟩:=x
  exact ⟨notin_of_append hr,hz,o,mA,ho,h1,h2,h3,h4,h5,λp hp=>(h6 p hp).elim λv q=>⟨v,q.1,q.2.forget (List.all_eq_true.mp c p hp)⟩,h7⟩
 | cit i f dn =>
  obtain ⟨hr,m,t,x,y,h1,h2,h3,h4,h5⟩:=x
  exact ⟨hr,m,t,x,y,get_of_append (of_decide_eq_true c) h1,notin_of_append h2,h3,h4,h5⟩
 | tab _ _=>exact x
theorem Ext.forget {X:List Addr} {e:Rho} {s s':Shared} (x:Ext X ρ s (ρ++e) s'):Ext X ρ s ρ s':=⟨⟨[],by simp,λ_ h=>nin h⟩,x.heap,x.live,x.drawn,x.os,x.gens,x.bare⟩
theorem and3 {a b c:Bool} {C:Prop} (h:(a&&(b&&c))=true) (k:a=true->b=true->c=true->C):C:=by
 cases a with
 | false=>exact nft h
 | true=>cases b with
  | false=>exact nft h
  | true=>exact k rfl rfl h
theorem trunc_inv {n:Nat} {pv pv':PV} {hp hp':List MO} {C:Prop} (e:Mine.trunc n pv hp=some (pv',hp')) (k:pv.closed n=true->(hp.take n).all (MO.closed n)=true->n≤hp.length->pv=pv'->hp.take n=hp'->C):C :=
 ite_inv e λc e=>and3 c λc1 c2 c3=>k c1 c2 (of_decide_eq_true c3) (Prod.mk.inj e).1 (Prod.mk.inj e).2
theorem Post.cut {s s':Shared} {pv:PV} {hp:List MO} {v:Value} (p:Post ρ Z s pv hp v s') (c1:pv.closed ρ.length=true) (c2:(hp.take ρ.length).all (MO.closed ρ.length)=true) (c3:ρ.length≤hp.length):Post ρ Z s pv (hp.take ρ.length) v s':=by
 refine cps λ_ KK=>?_
 obtain ⟨ρ',x,V,H⟩:=p
 obtain ⟨e,he,_⟩:=x.more
 refine KK ?_
 subst he
 exact ⟨ρ,x.forget,V.forget c1,HR.forget (hp':=hp.drop ρ.length) ((congrArg (λl=>HR (ρ++e) Z l s'.heap) (List.take_append_drop ρ.length hp)).mpr H) (by rw [List.length_take]; exact (Nat.min_eq_left c3).symm) λi mo r b hi hm=>hm.forget (List.all_eq_true.mp c2 mo (List.mem_of_getElem? hi))⟩
theorem Post.trunc {s s':Shared} {pv pv':PV} {hp hp_0 hp':List MO} {v:Value} (H0:ρ.length=hp_0.length) (p:Post ρ Z s pv hp v s') (e:trunc hp_0.length pv hp=some (pv',hp')):Post ρ Z s pv' hp' v s' :=
 trunc_inv e λc1 c2 c3 e1 e2=>by
  refine e1▸e2▸?_
  rw [← H0] at c1 c2 c3 ⊢
  exact p.cut c1 c2 c3
theorem bindL_step {kind:Str->Option NameKind} {x n:Str} {v:Value} {m:Str->Option Value} (h:n≠x):(if kind n=some .local then λy=>if y=n then some v else m y else m) x=m x:=by
 split
 ·exact if_neg λq=>h q.symm
 ·rfl
theorem bindL_other {kind:Str->Option NameKind} {x:Str}:∀(binds:List (Str×Value)) (m:Str->Option Value),(∀p∈binds,p.1≠x)->bindL kind binds m x=m x
 | [],m,_=>rfl
 | p::r,m,h=>(bindL_other r _ λp hp=>h p (List.mem_cons_of_mem _ hp)).trans (bindL_step (h p (List.mem_cons_self ..)))
theorem bindC_step {kind:Str->Option NameKind} {x n:Str} {v:Value} {m:Str->Option Value} (h:n≠x):(if kind n=some .local then m else λy=>if y=n then some v else m y) x=m x:=by
 split
 ·rfl
 ·exact if_neg λq=>h q.symm
theorem bindC_other {kind:Str->Option NameKind} {x:Str}:∀(binds:List (Str×Value)) (m:Str->Option Value),(∀p∈binds,p.1≠x)->bindC kind binds m x=m x
 | [],m,_=>rfl
 | p::r,m,h=>(bindC_other r _ λp hp=>h p (List.mem_cons_of_mem _ hp)).trans (bindC_step (h p (List.mem_cons_self ..)))
theorem bind_at {f:List (Str×Value)->(Str->Option Value)->Str->Option Value} {st:Str->Value->(Str->Option Value)->Str->Option Value} (hf:∀n v r m,f ((n,v)::r) m=f r (st n v m)) {x:Str} (h1:∀v m,st x v m x=some v) (ho:∀r m,(∀p∈r,p.1≠x)->f r m x=m x) :
  ∀(names:List Str) (vs:List Value) (m:Str->Option Value) (i:Nat) (v:Value),names.Nodup->names[i]?=some x->vs[i]?=some v->f (names.zip vs) m x=some v
 | [],_,_,i,_,_,h,_=>nos h
 | n::ns,[],_,i,_,_,_,h=>nos h
 | n::ns,u::us,m,0,v,hn,h,h'=>by
  have e:n=x:=sos h
  have e':u=v:=sos h'
  subst e
  show f ((n,u)::ns.zip us) m n=_
  rw [hf,ho _ _ λp hp q=>(List.nodup_cons.mp hn).1 (q▸(List.of_mem_zip (a:=p.1) (b:=p.2) hp).1),h1,e']
 | n::ns,u::us,m,i+1,v,hn,h,h'=>(congrFun (hf n u (ns.zip us) m) x).trans (bind_at hf h1 ho ns us _ i v (List.nodup_cons.mp hn).2 h h')
theorem bindL_at {kind:Str->Option NameKind} {x:Str} (hk:kind x=some .local) (names:List Str) (vs:List Value) (m:Str->Option Value) (i:Nat) (v:Value):names.Nodup->names[i]?=some x->vs[i]?=some v->bindL kind (names.zip vs) m x=some v :=
 bind_at (f:=bindL kind) (st:=λn v m=>if kind n=some .local then λy=>if y=n then some v else m y else m) (λ_ _ _ _=>rfl) (λv m=>by rw [if_pos hk,if_pos rfl]) bindL_other names vs m i v
theorem bindC_at {kind:Str->Option NameKind} {x:Str} (hk:kind x≠some .local) (names:List Str) (vs:List Value) (m:Str->Option Value) (i:Nat) (v:Value):names.Nodup->names[i]?=some x->vs[i]?=some v->bindC kind (names.zip vs) m x=some v :=
 bind_at (f:=bindC kind) (st:=λn v m=>if kind n=some .local then m else λy=>if y=n then some v else m y) (λ_ _ _ _=>rfl) (λv m=>by rw [if_neg hk,if_pos rfl]) bindC_other names vs m i v
theorem cellsFrom_some:∀(names:List (Str×NameKind)) (n m:Nat) (acc:List (Str×Addr)) (acc':List (Str×Addr)) (x:Str),((acc.lookup x).isSome=(acc'.lookup x).isSome)->((cellsFrom n names acc).lookup x).isSome=((cellsFrom m names acc').lookup x).isSome
 | [],_,_,_,_,_,h=>h
 | (y,k)::r,n,m,acc,acc',x,h=>by
  unfold cellsFrom
  split
  ·exact cellsFrom_some r _ _ _ _ x (by
    rw [List.lookup_cons,List.lookup_cons]
    cases x==y
    ·exact h
    ·rfl)
  ·exact cellsFrom_some r _ _ _ _ x h
end
noncomputable def ffx (fd:FuncData) (a:Addr) (vs:List (Nat×Str)) (k:Nat) (L:Addr):Fx:=⟨callEnvC fd L a,fd.scope,vs,L::fd.scope.names.filterMap (λx=>(cellsFrom (L+1) fd.scope.names []).lookup x.1),k⟩
theorem cellsFrom_mem:∀(names:List (Str×NameKind)) (n:Nat) (acc:List (Str×Addr)) (x:Str) (c:Addr),(x,c)∈cellsFrom n names acc->(∃k,(x,k)∈names)∨(x,c)∈acc
 | [],_,_,_,_,h=>.inr h
 | (y,k)::r,n,acc,x,c,h=>by
  unfold cellsFrom at h
  split at h
  ·rcases cellsFrom_mem r _ _ x c h with ⟨k',q⟩ | q
   ·exact .inl ⟨k',List.mem_cons_of_mem _ q⟩
   ·rcases List.mem_cons.mp q with q | q
    ·cases q; exact .inl ⟨k,List.mem_cons_self ..⟩
    ·exact .inr q
  ·rcases cellsFrom_mem r _ _ x c h with ⟨k',q⟩ | q
   ·exact .inl ⟨k',List.mem_cons_of_mem _ q⟩
   ·exact .inr q
theorem ffx_cell {fd:FuncData} {a L c:Addr} {vs:List (Nat×Str)} {k:Nat} {x:Str} (hk:fd.scope.names.lookup x=some .cell) (h:(ffx fd a vs k L).env.cells.lookup x=some c):StoreOK (ffx fd a vs k L) x:=by
 refine .inr ⟨c,hk,h,List.mem_cons_of_mem _ ?_⟩
 rcases cellsFrom_mem _ _ _ x c (mem_of_lookup h) with ⟨k',q⟩ | q
 ·exact List.mem_filterMap.mpr ⟨(x,k'),q,h⟩
 ·exact nin q
noncomputable def fnChk (sc:Scope) (names:List Str) (vs:List (Nat×Str)):Bool :=
 sc.kind==.function&&(!sc.isGenerator&&(!sc.isCoroutine&&(
 names.all (λx=>match sc.names.lookup x with
  | some .local=>true
  | some .cell=>((cellsFrom 0 sc.names []).lookup x).isSome
  | _=>false)&&(decide names.Nodup&&(
 vs.all (λp=>vs.all λq=>p.2 != q.2||p.1==q.1) &&
 vs.all (λp=>decide (names.length≤p.1)||names[p.1]?==some p.2))))))
section
variable {prog:Program} {w:World} {K:Addr->Option Obj} {mg mb:Str->Option Value}
theorem argLoc_get {ps:List PV} {n i:Nat} {pv:PV} (h:(argLoc ps n)[i]?=some (some pv)):ps[i]?=some pv:=by
 unfold argLoc at h
 by_cases hi:i < ps.length
 ·replace h:=(List.getElem?_map)▸(List.getElem?_append_left ((List.length_map ..).symm▸hi))▸h
  cases q:ps[i]? with
  | none=>rw [q] at h; exact nos h
  | some p=>rw [q] at h; rw [sos (sos h)]
 ·replace h:=(List.getElem?_replicate)▸(List.getElem?_append_right ((List.length_map ..).symm▸Nat.le_of_not_lt hi))▸h
  exact ite_inv h λ_ e=>nos e
theorem VRs.get {ρ:Rho} {Z:List Addr} {h:Heap} {ps:List PV} {vs:List Value} (V:VRs ρ Z h ps vs):∀(i:Nat) (p:PV),ps[i]?=some p->∃v,vs[i]?=some v∧VR ρ Z h p v :=
 VRs.rec (motive:=λps vs _=>∀(i:Nat) (p:PV),ps[i]?=some p->∃v,vs[i]?=some v∧VR ρ Z h p v) (λ_ _ e=>nos e) (λx _ ih i p e=>match i,e with
  | 0,e=>⟨_,rfl,sos e▸x⟩
  | i+1,e=>ih i p e) V
theorem Room.deeper {A:Around} {k:Nat} {env:Env} (h:Room A (k+1)):Room (A.deeper env) k :=
 ⟨h.handled,by have:=h.depth; show A.depth+1+k < 900; lia,by have:=h.units; show A.units+3+40*k < 9000; (exact ar6 (by assumption) (by decide))⟩
theorem and7 {a b c d e f g:Bool} {C:Prop} (h:(a&&(!b&&(!c&&(d&&(e&&(f&&g))))))=true) (k:a=true->b=false->c=false->d=true->e=true->f=true->g=true->C):C:=by
 simp only [Bool.and_eq_true,Bool.not_eq_true'] at h
 exact k h.1 h.2.1 h.2.2.1 h.2.2.2.1 h.2.2.2.2.1 h.2.2.2.2.2.1 h.2.2.2.2.2.2
theorem kind_chk {sc:Scope} {x:Str} (h:(match sc.names.lookup x with
  | some .local=>true
  | some .cell=>((cellsFrom 0 sc.names []).lookup x).isSome
  | _=>false)=true):sc.names.lookup x=some .local∨(sc.names.lookup x=some .cell∧∀L,((cellsFrom L sc.names []).lookup x).isSome=true):=by
 cases e:sc.names.lookup x with
 | none=>rw [e] at h; exact nft h
 | some k =>
  rw [e] at h
  cases k with
  | «local»=>exact .inl rfl
  | cell=>exact .inr ⟨rfl,λL=>by rw [cellsFrom_some _ L 0 [] [] x rfl]; exact h⟩
  | _=>exact nft h
noncomputable def retF (keep:Bool) (n:Nat) (pv:PV) (hp:List MO):Option (PV×List MO):=if keep then some (pv,hp) else trunc n pv hp
theorem fnF_inv {np N:Nat} {keep:Bool} {B:XF} {ps:List PV} {hp:List MO} {pv:PV} {hp':List MO} {C:Prop} (q:fnF np N keep B ps hp=some (pv,hp'))
  (k:∀fl pv_1 σ,ps.length=np->B ⟨argLoc ps N,hp⟩=some (fl,σ)->(fl=.ret pv_1∨(fl=.next∧pv_1=.dat .none))->retF keep hp.length pv_1 σ.hp=some (pv,hp')->C):C:=by
 unfold fnF at q
 refine iteo q λhl q=>?_
 cases h:B ⟨argLoc ps N,hp⟩ with
 | none=>rw [h] at q; exact nos q
 | some x =>
  obtain ⟨fl,σ⟩:=x
  rw [h] at q
  cases fl with
  | ret pv_1=>exact k _ pv_1 σ (eq_of_beq hl) h (.inl rfl) q
  | next=>exact k _ _ σ (eq_of_beq hl) h (.inr ⟨rfl,rfl⟩) q
  | _=>exact nos q
theorem FlR.val {ρ:Rho} {Z:List Addr} {h:Heap} {fl:Fl} {f:Flow} {pv:PV} (e:fl=.ret pv∨(fl=.next∧pv=.dat .none)) (r:FlR ρ Z h fl f):(∃v,f=.ret v∧VR ρ Z h pv v)∨(f=.next∧VR ρ Z h pv .none):=by
 rcases e with rfl | ⟨rfl,rfl⟩
 ·exact .inl r
 ·exact .inr ⟨r,[],.none,λ_ h=>nin h⟩
theorem FnC.of_bodyF {a:Addr} {o:Obj} {fd:FuncData} {body:List Stmt} {names:List Str} {vars:List (Nat×Str)} {k N:Nat} {B:XF} (keep:Bool) (gl:Gl K mg mb) (ho:K a=some o) (hdata:o.data=.func fd) (hbody:fd.body=.stmts body)
  (hcd:∀h,TopOK K h->h.CodeRec fd.code fd.qualname) (hbind:∀vs:List Value,vs.length=names.length->bindArgs fd ⟨vs,[]⟩=pure (names.zip vs)) (hclo:fd.closure=[]) (hg:fd.globals=mainGlobals) (hbi:fd.builtins=builtinsNs)
  (chk:fnChk fd.scope names vars=true) (hb:∀L,ExsFin prog w K (ffx fd a vars k L) body B):FnC prog w K a (k+1) (fnF names.length N keep B):=.mk λA ρ Z hp s ps vs pv hp' Rm H top off V q=>by
 unfold fnChk at chk
 refine and7 chk λc1 c2 c3 c4 c5 c6 c7=>?_
 have hk:fd.scope.kind=.function:=eq_of_beq c1
 refine fnF_inv q λfl pv_1 σ_1 hlen hB hfl q=>?_
 have hvl:vs.length=names.length:=V.length.symm.trans hlen
 have kinds:∀x∈names,fd.scope.names.lookup x=some .local∨(fd.scope.names.lookup x=some .cell∧∀L,((cellsFrom L fd.scope.names []).lookup x).isSome=true):=λx hx=>kind_chk (List.all_eq_true.mp c4 x hx)
 refine codeAny_call_cells (R:=CallP ρ Z s pv hp') (binds:=names.zip vs) (Nat.lt_of_le_of_lt (Nat.le_add_right _ _) (Nat.lt_trans Rm.depth (by decide))) (top a o ho) hdata (gl.lim _ top) (hcd _ top) hbody (hbind vs hvl) hclo (λx hx=>(kinds _ (List.of_mem_zip (a:=x.1) (b:=x.2) hx).1).imp id λh=>⟨h.1,h.2 _⟩) (λs_1 ic=>?_) c3 c2 hk
 obtain ⟨h_1,tk,rfl,kp⟩:=ic.done
 have own_fresh:∀b∈(ffx fd a vars k s.heap.objs.size).own,s.heap.get? b=none:=λb hb=>by
  rcases List.mem_cons.mp hb with rfl | hb
  ·exact Heap.get?_none_of_le (Nat.le_refl _)
  ·obtain ⟨p,hp,hl⟩:=List.mem_filterMap.mp hb
   exact Heap.get?_none_of_le (Nat.le_of_lt (ic.above p.1 b (mem_of_lookup hl)))
 have own_off:∀b∈(ffx fd a vars k s.heap.objs.size).own,b∉Z:=λb hb q=>by
  obtain ⟨o,e⟩:=H.liveZ b q
  rw [own_fresh b hb] at e; cases e
 have own_live:∀b∈(ffx fd a vars k s.heap.objs.size).own,∃o,h_1.get? b=some o:=λb hb=>by
  rcases List.mem_cons.mp hb with rfl | hb
  ·exact Ns.live ic.toInCall.ns
  ·obtain ⟨p,hp,hl⟩:=List.mem_filterMap.mp hb
   obtain ⟨o,e,_⟩:=ic.cell p.1 b hl
   exact ⟨o,e⟩
 have H_1:=H.more (h':=h_1) own_fresh kp own_live
 have fr:∀b∈(ffx fd a vars k s.heap.objs.size).own,b∉muts ρ:=λb hb=>(H.fresh (own_fresh b hb)).1
 have cellOwn:∀n c,(cellsFrom (s.heap.objs.size+1) fd.scope.names []).lookup n=some c->c∈(ffx fd a vars k s.heap.objs.size).own:=λn c h=>by
  rcases cellsFrom_mem _ _ _ n c (mem_of_lookup h) with ⟨k',q⟩ | q
  ·exact List.mem_cons_of_mem _ (List.mem_filterMap.mpr ⟨(n,k'),q,h⟩)
  ·exact nin q
 have er:EnvR (ffx fd a vars k s.heap.objs.size) ρ ((ffx fd a vars k s.heap.objs.size).own++Z) (argLoc ps N) h_1:=by
  refine ⟨⟨_,_,ic.toInCall.ns,ic.cell,λi x pv hi hl=>?_⟩,hk,rfl,λi j x hi hj=>?_,hg,hbi,List.mem_cons_self ..,λa h=>List.mem_append_left _ h,fr _ (List.mem_cons_self ..),λn c h=>⟨fr _ (cellOwn n c h),λq=>?_⟩,λn n' c h h'=>name_of_addr ic.apart (mem_of_lookup h) (mem_of_lookup h')⟩
  ·have hp:=argLoc_get hl
   obtain ⟨v,hv,hr⟩:=V.get i pv hp
   have hi':i < names.length:=hlen▸(List.getElem?_eq_some_iff.mp hp).1
   have hn:names[i]?=some x:=by
    rcases (Bool.or_eq_true _ _).mp (List.all_eq_true.mp c7 _ (lookup_mem hi)) with h | h
    ·exact absurd (of_decide_eq_true h) (Nat.not_le.mpr hi')
    ·exact eq_of_beq h
   have hx:x∈names:=List.mem_of_getElem? hn
   refine ⟨v,?_,(VR.fresh (Z':=(ffx fd a vars k s.heap.objs.size).own++Z) (λb hb=>(List.mem_append.mp hb).elim (λh=>.inr (own_fresh b h)) .inl) hr).keep kp⟩
   have nd:names.Nodup:=of_decide_eq_true c5
   unfold slotV
   rcases kinds x hx with e | ⟨e,hs⟩
   ·have e':(ffx fd a vars k s.heap.objs.size).env.kindOf x=some .local:=e
    refine e'.symm▸?_
    exact bindL_at e' names vs _ i v nd hn hv
   ·have e':(ffx fd a vars k s.heap.objs.size).env.kindOf x=some .cell:=e
    refine e'.symm▸?_
    obtain ⟨c,hc⟩:=Option.isSome_iff_exists.mp (hs (s.heap.objs.size+1))
    have hc':(ffx fd a vars k s.heap.objs.size).env.cells.lookup x=some c:=hc
    show (List.lookup x (ffx fd a vars k s.heap.objs.size).env.cells).bind _=_
    refine hc'.symm▸?_
    have e'':(callEnvC fd s.heap.objs.size a).kindOf x=some .cell:=e
    exact bindC_at (by rw [e'']; decide) names vs _ i v nd hn hv
  ·have:=List.all_eq_true.mp (List.all_eq_true.mp c6 _ (lookup_mem hi)) _ (lookup_mem hj)
   simpa using this
  ·have:=ic.above n c (mem_of_lookup h)
   replace this:=q▸this
   exact Nat.lt_irrefl _ this
 have offZ:∀b,K b≠none->b∉muts ρ∧b∉(ffx fd a vars k s.heap.objs.size).own++Z:=λb hb=>⟨(off b hb).1,λm=>(List.mem_append.mp m).elim (λm=>by
  cases e:K b with
  | none=>exact hb e
  | some o=>have:=top b o e; rw [own_fresh b m] at this; cases this) (off b hb).2⟩
 have R:SR K (ffx fd a vars k s.heap.objs.size) ρ ((ffx fd a vars k s.heap.objs.size).own++Z) ⟨argLoc ps N,hp⟩ { s with heap:=h_1,toks:=tk }:=⟨H_1,er,λb o e=>kp b o (top b o e),offZ⟩
 have x_1:Ext [] ρ s ρ { s with heap:=h_1,toks:=tk }:=Ext.of_keep kp
 refine wpAny_mono ((hb _).run (A.deeper (callEnvC fd s.heap.objs.size a)) ρ _ _ _ _ _ Rm.deeper R own_off hB) (λf s' p=>?_) λ_ _ q=>q.elim
 obtain ⟨ρ',x',H',r⟩:=p
 have fin:∀v,VR ρ' Z s'.heap pv_1 v->Post ρ Z s pv hp' v s':=λv V'=>by
  have P:Post ρ Z s pv_1 σ_1.hp v s':=⟨ρ',((x_1.weak noX).trans x').shrink λb h=>.inr (own_fresh b h),V',H'⟩
  cases keep with
  | true=>exact (sop q).1▸(sop q).2▸P
  | false=>exact P.trunc H.len q
 rcases r.val hfl with ⟨v,e,V'⟩ | ⟨e,V'⟩
 ·rw [e]; exact fin v V'
 ·rw [e]; exact fin .none V'
end
section
variable {prog:Program} {w:World} {K:Addr->Option Obj} {fx:Fx} {mg mb:Str->Option Value} {A:Around}
noncomputable def callF (G:LF) (H:FnF):EF:=λσ=>match G σ with
 | some (ps,hp)=>H ps hp
 | none=>none
theorem callF_inv {G:LF} {H:FnF} {σ:St} {r:PV×List MO} {C:Prop} (q:callF G H σ=some r) (k:∀ps hp,G σ=some (ps,hp)->H ps hp=some r->C):C:=by
 unfold callF at q
 cases h:G σ with
 | none=>rw [h] at q; exact nos q
 | some x=>rw [h] at q; exact k x.1 x.2 h q
theorem Ev.call (gl:Gl K mg mb) {f:Str} {a:Addr} {o:Obj} {fd:FuncData} {e:Expr} {es:List Expr} {pos np:Pos} {G:LF} {H:FnF} {k:Nat} (he:EvL prog w K fx (e::es) G) (hf:FnOK prog w K a k H) (hK:k≤fx.k) (ho:K a=some o) (hdata:o.data=.func fd)
  (hk:fx.sc.names.lookup f=some .globalImplicit) (hg:mg f=some (.ref a)) (hd:(f==("__debug__":Str))=false:=by decide)
  (hs:∀env,starEach (e::es) env=(false,eval e env)::starEach es env:=by intro _; rfl) (hp:∀env,(backTo pos (starEach es env)).any (·.1)=false:=by intro _; rfl) :
  Ev prog w K fx (.Call (.Name f np) (e::es) [] pos) (callF G H):=.mk λA ρ Z σ s pv hp' Rm R q=>by
 refine callF_inv q λps hp1 e1 q=>?_
 refine Call_ (global_name gl R hk (.inl hg) ?_ hd)
 refine callWith_function (o:=o) (fd:=fd) ?_
 have hh:=he.run pos A ρ Z σ s _ _ Rm R e1
 rw [hs] at hh ⊢
 refine evalArgs_plain (wpAny_mono hh (λvs s_1 p=>?_) λ_ _ q=>q)
 refine cps λ_ KK=>?_
 obtain ⟨ρ_1,x_1,V,H_1⟩:=p
 refine KK ?_
 have R_1:=R.next x_1 H_1
 exact ⟨⟨R_1.top a o ho,hdata⟩,wpAny_mono (hf.run A ρ_1 Z hp1 s_1 ps vs pv hp' (Rm.mono hK) H_1 R_1.top R_1.off V q) (λv s_2 p=>p.trans x_1) λ_ _ q=>q⟩
theorem HR.ins {ρ:Rho} {Z:List Addr} {h:Heap} {hp:List MO} (H:HR ρ Z hp h) {i:Nat} {C:Addr} {ats:List (Nat×PV)} (hi:hp[i]?=some (.ins C ats)) {r b:Addr} (hr:ρ[i]?=some (r,b)):MRi ρ Z h r b C ats:=by
 refine cps λ_ KK=>?_
 obtain ⟨r',b',hr',hm⟩:=H.at_ i _ hi
 obtain ⟨rfl,rfl⟩:=sop (hr.symm.trans hr')
 refine KK ?_
 exact hm
theorem RD.handed {h:Heap} {v d as} (r:RD h v d as):handedOut v=pure v :=
 (RD.ind (h:=h) (P:=λv _ _=>handedOut v=pure v) (Q:=λ_ _ _=>True) rfl (λ_=>rfl) (λ_ _=>rfl) (λ_ _ _=>rfl) (λ_ _ _ _ _ _=>rfl) (λ_ _ _ _=>rfl) trivial λ_ _=>trivial).1 r
theorem VR.handed {ρ:Rho} {Z:List Addr} {h:Heap} {p:PV} {v:Value} (x:VR ρ Z h p v):handedOut v=pure v:=by
 cases p with
 | dat d=>exact x.elim λas r=>r.1.handed
 | obj i=>obtain ⟨r,b,_,e⟩:=x; rw [e]; rfl
 | strm i=>obtain ⟨r,b,a,fs,_,e,_⟩:=x; rw [e]; rfl
noncomputable def attrOf (C:Addr) (j:Nat) (a:PV) (σ:St):Option (PV×List MO):=match a with
 | .obj i=>match σ.hp[i]? with
  | some (.ins C' ats)=>if C'=C then match ats.lookup j with
   | some pv=>some (pv,σ.hp)
   | none=>none else none
  | _=>none
 | _=>none
theorem insOf_inv {α:Type} {a:PV} {hp:List MO} {r:α} {f:Nat->Addr->List (Nat×PV)->Option α} {C:Prop} (q:(match a with
 | .obj i=>match hp[i]? with
  | some (.ins C' ats)=>f i C' ats
  | _=>none
 | _=>none)=some r) (k:∀i C' ats,a=.obj i->hp[i]?=some (.ins C' ats)->f i C' ats=some r->C):C:=by
 cases a with
 | obj i =>
  have q:(match hp[i]? with | some (.ins C' ats)=>f i C' ats | _=>none)=some r:=q
  cases h:hp[i]? with
  | none=>rw [h] at q; exact nos q
  | some mo=>cases mo with
   | ins C' ats=>rw [h] at q; exact k i C' ats rfl h q
   | _=>rw [h] at q; exact nos q
 | _=>exact nos q
theorem look_inv {α:Type} {o:Option PV} {hp:α} {r:PV×α} {C:Prop} (q:(match o with
   | some pv=>some (pv,hp)
   | none=>none)=some r) (k:∀pv,o=some pv->(pv,hp)=r->C):C:=by
 cases o with
 | none=>exact nos q
 | some pv=>exact k pv rfl (sos q)
theorem attrOf_inv {C:Addr} {j:Nat} {a pv:PV} {σ:St} {hp':List MO} {P:Prop} (q:attrOf C j a σ=some (pv,hp')) (k:∀i ats,a=.obj i->σ.hp[i]?=some (.ins C ats)->ats.lookup j=some pv->hp'=σ.hp->P):P :=
 insOf_inv q λi C' ats ha hi q=>iteo q λhC q=>look_inv q λp hl e=>k i ats ha (hC▸hi) (hl.trans (congrArg some (Prod.mk.inj e).1)) (Prod.mk.inj e).2.symm
inductive InsR (K:Addr->Option Obj) (ρ:Rho) (Z:List Addr) (h:Heap) (C r b:Addr) (ats:List (Nat×PV)) (mN:Str->Option Value):Prop
 | mk (o:Obj) (mA:Str->Option Value) (nm q:Str) (N:Addr) (bs:List Value) (sn:List Str) (sub:List Value) (col:Option Bool) (dd:Option Addr) (k0 k1 k2 k3 k5:Option Value):h.get? r=some o->o.cls=.ref C->(∀c,o.data≠.cls c)->o.dict=some b->b≠r->h.Ns1 b mA ->
  (∀p∈ats,∃v,mA (an p.1)=some v∧VR ρ Z h p.2 v)->(∀x,(∀p∈ats,x≠an p.1)->mA x=none)->r∉muts ρ->r∉Z->b∈muts ρ->h.get? C=some (excClassObj nm q C N bs [.type "object"] true sn sub false col dd k0 k1 k2 k3 k5 "object.__new__")->h.Ns N mN->InsR K ρ Z h C r b ats mN
theorem HR.insR {ρ:Rho} {Z:List Addr} {h:Heap} {hp:List MO} (H:HR ρ Z hp h) (top:TopOK K h) {C:Addr} {mN:Str->Option Value} (cl:ClsOK K C mN) {i:Nat} {ats:List (Nat×PV)} (hi:hp[i]?=some (.ins C ats)) {r b:Addr} (hr:ρ[i]?=some (r,b)):InsR K ρ Z h C r b ats mN:=by
 refine cps λ_ KK=>?_
 obtain ⟨hrm,hrz,o,mA,ho,h1,h2,h3,h4,h5,h6,h7⟩:=H.ins hi hr
 obtain ⟨nm,qn,N,bs,sn,sub,col,dd,k0,k1,k2,k3,k5,hK,hNs⟩:=cl.ex
 refine KK ?_
 exact ⟨o,mA,nm,qn,N,bs,sn,sub,col,dd,k0,k1,k2,k3,k5,ho,h1,h2,h3,h4,h5,h6,h7,hrm,hrz,List.mem_map_of_mem (f:=Prod.snd) (List.mem_of_getElem? hr),top _ _ hK,hNs h top⟩
theorem getAttr_ok {C:Addr} {mN:Str->Option Value} (cl:ClsOK K C mN) {j:Nat} (hN:mN (an j)=none) (hB:typeLookup (.type "object") (an j)=pure none) {a pv:PV} {va:Value} {ρ:Rho} {Z:List Addr} {σ:St} {s:Shared} {hp':List MO} (H:HR ρ Z σ.hp s.heap) (top:TopOK K s.heap)
  (V:VR ρ Z s.heap a va) (q:attrOf C j a σ=some (pv,hp')):wpAny (model prog w) A (getAttr va (an j) true) (λv s'=>hp'=σ.hp∧VR ρ Z s.heap pv v∧s'={ s with toks:=s.toks+1 }) noE s:=by
 refine attrOf_inv q λi ats ha hi hl hhp=>?_
 replace V:=ha▸V
 refine cps λ_ KK=>?_
 obtain ⟨r,b,hr,hva⟩:=V
 obtain ⟨o,mA,nm,qn,N,bs,sn,sub,col,dd,k0,k1,k2,k3,k5,ho,h1,h2,h3,h4,h5,h6,h7,hrm,hrz,hbm,hC,hNs⟩:=H.insR top cl hi hr
 obtain ⟨v,hv,hV⟩:=h6 _ (lookup_mem hl)
 refine KK ?_
 refine hva.symm▸?_
 exact load_attr (g:=s.gens) (d:=s.drawn) (t:=s.toks) (os:=s.os) hC hNs cl.ga hN hB ⟨o,ho,h1,h2,.inr ⟨b,h3,h4,h5⟩⟩ hv hV.handed ⟨hhp,hV,rfl⟩
theorem Ev.attr {C:Addr} {mN:Str->Option Value} (cl:ClsOK K C mN) {j:Nat} {x attr:Str} {np pos:Pos} {Fo:EF} (hx:attr=an j) (hN:mN (an j)=none) (hB:typeLookup (.type "object") (an j)=pure none) (ho:Ev prog w K fx (.Name x np) Fo) :
  Ev prog w K fx (.Attribute (.Name x np) attr pos) (bindE Fo (attrOf C j)):=.mk λA ρ Z σ s pv hp' Rm R q=>by
 subst hx
 refine Attribute_name (ho.then Rm R q λa va h1 ρ_1 s_1 e1 x_1 v_1 R_1=>?_)
 refine wpAny_mono (getAttr_ok cl hN hB R_1.hr R_1.top v_1 e1) (λv s_2 p=>?_) λ_ _ q=>q
 rw [p.1,p.2.2]
 exact Post.trans x_1 (Post.of_toks R_1.hr p.2.1)
noncomputable def setA (ats:List (Nat×PV)) (j:Nat) (pv:PV):List (Nat×PV):=(j,pv)::ats.filter λp=>p.1 != j
noncomputable def setOf (C:Addr) (j:Nat) (a pv:PV) (σ:St):Option St:=match a with
 | .obj i=>match σ.hp[i]? with
  | some (.ins C' ats)=>if C'=C∧j≤9∧ats.length≤lim∧ats.all (λp=>decide (p.1≤9))=true then some ⟨σ.loc,σ.hp.set i (.ins C (setA ats j pv))⟩ else none
  | _=>none
 | _=>none
theorem an_inj {i j:Nat} (hi:i≤9) (hj:j≤9) (h:an i=an j):i=j:=by
 have:∀i,i≤9->∀j,j≤9->an i=an j->i=j:=by decide +kernel
 exact this i hi j hj h
theorem obj_eq {a b:Obj} (h1:a.cls=b.cls) (h2:a.data=b.data) (h3:a.slots=b.slots) (h4:a.dict=b.dict):a=b:=by
 cases a; cases b; simp_all
theorem setOf_inv {C:Addr} {j:Nat} {a pv:PV} {σ σ':St} {P:Prop} (q:setOf C j a pv σ=some σ') (k:∀i ats,a=.obj i->σ.hp[i]?=some (.ins C ats)->j≤9->ats.length≤lim->ats.all (λp=>decide (p.1≤9))=true->⟨σ.loc,σ.hp.set i (.ins C (setA ats j pv))⟩=σ'->P):P :=
 insOf_inv q λi C' ats ha hi q=>ite_inv q λhC e=>k i ats ha (hC.1▸hi) hC.2.1 hC.2.2.1 hC.2.2.2 e
theorem setA_ok {j:Nat} (hj:j≤9) {ρ:Rho} {Z:List Addr} {h':Heap} {ats:List (Nat×PV)} {mA:Str->Option Value} {pv:PV} {v:Value} (hall:ats.all (λp=>decide (p.1≤9))=true) (U:VR ρ Z h' pv v)
  (h6:∀p∈ats,∃v,mA (an p.1)=some v∧VR ρ Z h' p.2 v) (h7:∀x,(∀p∈ats,x≠an p.1)->mA x=none) :
  (∀p∈setA ats j pv,∃u,(if an p.1=an j then some v else mA (an p.1))=some u∧VR ρ Z h' p.2 u)∧∀x,(∀p∈setA ats j pv,x≠an p.1)->(if x=an j then some v else mA x)=none:=by
 constructor
 ·intro p hp
  rcases List.mem_cons.mp hp with rfl | hp
  ·exact ⟨v,if_pos rfl,U⟩
  ·have hm:=List.mem_filter.mp hp
   exact (h6 p hm.1).elim λu q=>⟨u,(if_neg λq=>ne_of_beq_false (Bool.not_eq_true' _▸hm.2) (an_inj (of_decide_eq_true (List.all_eq_true.mp hall p hm.1)) hj q)).trans q.1,q.2⟩
 ·intro x hx
  have hxj:=hx (j,pv) (List.mem_cons_self ..)
  refine (if_neg hxj).symm▸?_
  refine h7 x λp hp=>?_
  by_cases hpj:p.1=j
  ·rw [hpj]; exact hxj
  ·exact hx p (List.mem_cons_of_mem _ (List.mem_filter.mpr ⟨hp,bne_iff_ne.mpr hpj⟩))
theorem setAttr_ok {C:Addr} {mN:Str->Option Value} (cl:ClsOK K C mN) {j:Nat} (hN:mN (an j)=none) (hB:typeLookup (.type "object") (an j)=pure none) {a pv:PV} {va v:Value} {ρ:Rho} {Z:List Addr} {σ σ':St} {s:Shared} (H:HR ρ Z σ.hp s.heap) (top:TopOK K s.heap) (off:OffK K ρ Z)
  (V:VR ρ Z s.heap a va) (U:VR ρ Z s.heap pv v) (q:setOf C j a pv σ=some σ'):wpAny (model prog w) A (setAttr va (an j) v) (λ_ s'=>σ'.loc=σ.loc∧Ext [] ρ s ρ s'∧HR ρ Z σ'.hp s'.heap) noE s:=by
 refine setOf_inv q λi ats ha hi hj hlen hall hσ=>?_
 rw [← hσ]
 rw [ha] at V
 refine cps λ_ KK=>?_
 obtain ⟨r,b,hr,hva⟩:=V
 refine KK ?_
 rw [hva]
 refine cps λ_ KK=>?_
 obtain ⟨o,mA,nm,qn,N,bs,sn,sub,col,dd,k0,k1,k2,k3,k5,ho,h1,h2,h3,h4,h5,h6,h7,hrm,hrz,hbm,hC,hNs⟩:=H.insR top cl hi hr
 refine KK ?_
 have hrC:r≠C:=λq=>by
  rw [q,hC] at ho
  rw [← sos ho] at h1
  exact nomatch h1
 refine store_attr (g:=s.gens) (d:=s.drawn) (os:=s.os) (ns:=ats.map λp=>an p.1) PySem.F.store_object hC hNs cl.sa hN hB hrC ⟨o,ho,h1,h2,.inr ⟨b,h3,h4,h5⟩⟩ (λh' tk' I' hk hsame=>?_) (λy hy=>?_) (by rw [List.length_map]; exact Nat.le_trans hlen (by decide))
 ·refine cps λ_ KK=>?_
  obtain ⟨o_1,ho_1,s1,s2,s3,s4⟩:=hsame o ho
  refine KK ?_
  have hoo:o_1=o:=obj_eq s1 s2 s3 ((s4 b h3).trans h3.symm)
  rw [hoo] at ho_1
  have k:∀a o,a≠b->s.heap.get? a=some o->h'.get? a=some o:=λa o' ha e=>by
   by_cases q:a=r
   ·rw [q] at e ⊢
    exact ho_1.trans (ho.symm.trans e)
   ·exact hk a o' q (λo_0 dx e1 e2=>by rw [sos (ho.symm.trans e1),e2] at h3; rw [sos h3]; exact ha) e
  have hns:h'.Ns1 b (λy=>if y=an j then some v else mA y):=by
   refine cps λ_ KK=>?_
   obtain ⟨o_2,ho_2,_,_,hdict⟩:=I'
   refine KK ?_
   rw [← sos (ho_1.symm.trans ho_2)] at hdict
   rcases hdict with ⟨e,_⟩ | ⟨d',e,_,hn⟩
   ·exact nos (e.symm.trans h3)
   ·rw [← sos (e.symm.trans h3)]; exact hn
  have stepV:∀{p:PV} {u:Value},VR ρ Z s.heap p u->VR ρ Z h' p u:=λx=>VR.map (λ_ _ e=>e) (λa o h1 h2 e=>⟨k a o (λq=>h1 (q▸hbm)) e,h1,h2⟩) x
  have hs:=setA_ok hj hall (stepV U) (λp hp=>(h6 p hp).elim λu q=>⟨u,q.1,stepV q.2⟩) h7
  refine ⟨rfl,⟨⟨[],(List.append_nil _).symm,λ_ h=>nin h⟩,λa o ha _ e=>k a o (λq=>ha (q▸hbm)) e,λa o' e=>?_,rfl,rfl,λ_ _ e=>e,λh=>h⟩,H.set hr k ⟨hrm,hrz,o,_,ho_1,h1,h2,h3,h4,hns,hs.1,hs.2⟩⟩
  by_cases q:a=b
  ·exact hns.elim λob x=>x.elim λ_ x=>x.elim λ_ x=>⟨ob,q▸x.1⟩
  ·exact ⟨o',k a o' q e⟩
 ·refine Classical.byContradiction λhn=>hy (h7 y λp hp e=>hn ?_)
  rw [e]; exact List.mem_map.mpr ⟨p,hp,rfl⟩
noncomputable def setAttrX (Fo Fe:EF) (C:Addr) (j:Nat):XF:=bindX Fe λpv σ=>bindX Fo (λa σ=>match setOf C j a pv σ with
 | some σ'=>some (.next,σ')
 | none=>none) σ
theorem St.eta {σ:St} {l:Loc} (h:σ.loc=l):σ=⟨l,σ.hp⟩:=h▸rfl
theorem setAX_inv {o:Option St} {r:Fl×St} {C:Prop} (q:(match o with
 | some σ'=>some (Fl.next,σ')
 | none=>none)=some r) (k:∀σ',o=some σ'->(.next,σ')=r->C):C:=by
 cases o with
 | none=>exact nos q
 | some σ'=>exact k σ' rfl (sos q)
theorem Ex.setAttr {C:Addr} {mN:Str->Option Value} (cl:ClsOK K C mN) {j:Nat} {attr:Str} {o e:Expr} {p p':Pos} {Fo Fe:EF} (hx:attr=an j) (hN:mN (an j)=none) (hB:typeLookup (.type "object") (an j)=pure none) (ho:Ev prog w K fx o Fo) (he:Ev prog w K fx e Fe) (hs:swapsWith e (some (.Attribute o attr p)) p'.line fx.env=pure false) :
  Ex prog w K fx (.Assign [.Attribute o attr p] e p') (setAttrX Fo Fe C j):=.mk λA ρ Z σ s fl σ' Rm R q=>by
 subst hx
 refine plainObj_wpAny_Assign_Attribute (he.thenX Rm R q λpv v h1 ρ_1 s_1 e1 x_1 v_1 R_1=>ho.thenX Rm R_1 e1 λa va h2 ρ_2 s_2 e2 x_2 v_2 R_2=>setAX_inv e2 λσ_2 hσ e=>?_) hs
 refine wpAny_mono (setAttr_ok cl hN hB R_2.hr R_2.top R_2.off v_2 (v_1.ext x_2 noX) hσ) (λ_ s_3 p=>?_) λ_ _ q=>q
 obtain ⟨hl,x_3,H_3⟩:=p
 have R_3:=R_2.next x_3 H_3
 refine PostX.eq (congrArg some e) ⟨ρ_2,((x_1.trans x_2).trans x_3).weak noX,?_,rfl⟩
 rw [show σ_2=⟨σ.loc,σ_2.hp⟩ from St.eta hl]
 exact R_3
end
section
variable {prog:Program} {w:World} {K:Addr->Option Obj} {fx:Fx} {mg mb:Str->Option Value} {A:Around}
noncomputable def iopD:Operator->PyData->PyData->Option PyData
 | .Add,.int a,.int b=>some (.int (a+b))
 | .Sub,.int a,.int b=>some (.int (a - b))
 | .Add,.str x,.str y=>if x.cps.size+y.cps.size≤lim then some (.str ⟨⟨x.cps.toList++y.cps.toList⟩⟩) else none
 | _,_,_=>none
theorem str_app (x y:Str):x++y=⟨⟨x.cps.toList++y.cps.toList⟩⟩:=by
 show Str.append x y=_
 unfold Str.append
 congr 1
 rw [← Array.toList_inj,Array.toList_append]
theorem iopD_inv {op:Operator} {a b d:PyData} (e:iopD op a b=some d):(op=.Add∧IntI (λx y=>.int (x+y)) (λ_ _=>True) a b d)∨(op=.Sub∧IntI (λx y=>.int (x - y)) (λ_ _=>True) a b d)∨(op=.Add∧StrI (λx y=>.str ⟨⟨x.cps.toList++y.cps.toList⟩⟩) (λx y=>x.cps.size+y.cps.size≤lim) a b d):=by
 cases op with
 | Add=>cases a with
  | int x=>cases b with
   | int y=>exact .inl ⟨rfl,x,y,rfl,rfl,trivial,(sos e).symm⟩
   | _=>exact nos e
  | str x=>cases b with
   | str y=>exact ite_inv e λh q=>.inr (.inr ⟨rfl,x,y,rfl,rfl,h,q.symm⟩)
   | _=>exact nos e
  | _=>exact nos e
 | Sub=>cases a with
  | int x=>cases b with
   | int y=>exact .inr (.inl ⟨rfl,x,y,rfl,rfl,trivial,(sos e).symm⟩)
   | _=>exact nos e
  | _=>exact nos e
 | _=>exact nos e
theorem iop_ok {s:Shared} {op:Operator} {a b d:PyData} {va vb:Value} {as bs:List Addr} {P:Addr->Prop} (ra:RD s.heap va a as) (rb:RD s.heap vb b bs) (e:iopD op a b=some d):wpAny (model prog w) A (inplaceOp op va vb) (NewD s d P) noE s:=by
 rcases iopD_inv e with ⟨ho,x,y,h1,h2,_,h3⟩ | ⟨ho,x,y,h1,h2,_,h3⟩ | ⟨ho,x,y,h1,h2,hl,h3⟩<;>rw [ho,h3]<;>rw [h1] at ra<;>rw [h2] at rb
 ·exact RD.int2 (C:=λva vb=>wpAny (model prog w) A (inplaceOp .Add va vb) (NewD s (.int (x+y)) P) noE s) ra rb λt u=>iadd_int (NewD.val (.int _ _))
 ·exact RD.int2 (C:=λva vb=>wpAny (model prog w) A (inplaceOp .Sub va vb) (NewD s (.int (x - y)) P) noE s) ra rb λt u=>isub_int (NewD.val (.int _ _))
 ·refine cps λ_ KK=>?_
  obtain ⟨t,ha,_,hx⟩:=ra.str_
  obtain ⟨u,hb,_,hy⟩:=rb.str_
  refine KK ?_
  refine ha.symm▸hb.symm▸?_
  refine PyProof.Rows.iadd_str (λt' tk=>?_) (Nat.le_trans hl (by decide))
  rw [str_app]
  exact NewD.val (.str _ _ (strOk_append hx hy))
theorem iopI {α:Type} {hp:List MO} {op:Operator} {a b:PV} {f:PyData->Option α} {r:α} {C:Prop} (q:(match rd hp a,rd hp b with
  | some x,some y=>match iopD op x y with
   | some d=>f d
   | none=>none
  | _,_=>none)=some r) (k:∀x y d,rd hp a=some x->rd hp b=some y->iopD op x y=some d->f d=some r->C):C:=by
 cases h1:rd hp a with
 | none=>rw [h1] at q; exact nos q
 | some x=>cases h2:rd hp b with
  | none=>rw [h1,h2] at q; exact nos q
  | some y =>
   replace q:=h2▸h1▸q
   have q:(match iopD op x y with | some d=>f d | none=>none)=some r:=q
   cases h3:iopD op x y with
   | none=>rw [h3] at q; exact nos q
   | some d=>rw [h3] at q; exact k x y d h1 h2 h3 q
theorem SR.iop {ρ:Rho} {Z:List Addr} {σ:St} {s:Shared} (R:SR K fx ρ Z σ s) {op:Operator} {a b:PV} {x y d:PyData} {va vb:Value} (V:VR ρ Z s.heap a va) (U:VR ρ Z s.heap b vb) (hx:rd σ.hp a=some x) (hy:rd σ.hp b=some y) (e:iopD op x y=some d) {Q:Value->Shared->Prop}
  (k:∀v ρ' s',Ext [] ρ s ρ' s'->VR ρ' Z s'.heap (.dat d) v->SR K fx ρ' Z σ s'->Q v s'):wpAny (model prog w) A (inplaceOp op va vb) Q noE s:=by
 refine cps λ_ KK=>?_
 obtain ⟨as,ra,qa⟩:=rd_RD R.hr V hx
 obtain ⟨bs,rb,qb⟩:=rd_RD R.hr U hy
 refine KK ?_
 exact wpAny_mono (iop_ok (P:=λ_=>False) ra rb e) (λv s_2 n=>(n.post R.hr (λ_ h=>h.elim)).elim λρ_2 p=>k v ρ_2 s_2 p.1 p.2.1 (R.next p.1 p.2.2)) λ_ _ q=>q
noncomputable def augF (i:Nat) (op:Operator) (Fe:EF):XF:=λσ=>match getV σ.loc i with
 | some a=>bindX Fe (λb σ=>match rd σ.hp a,rd σ.hp b with
  | some x,some y=>match iopD op x y with
   | some d=>some (.next,⟨σ.loc.set i (some (.dat d)),σ.hp⟩)
   | none=>none
  | _,_=>none) σ
 | none=>none
theorem augF_inv {i:Nat} {op:Operator} {Fe:EF} {σ:St} {r:Fl×St} {C:Prop} (q:augF i op Fe σ=some r) (k:∀a,getV σ.loc i=some a->bindX Fe (λb σ=>match rd σ.hp a,rd σ.hp b with
  | some x,some y=>match iopD op x y with
   | some d=>some (.next,⟨σ.loc.set i (some (.dat d)),σ.hp⟩)
   | none=>none
  | _,_=>none) σ=some r->C):C:=by
 unfold augF at q
 cases h:getV σ.loc i with
 | none=>rw [h] at q; exact nos q
 | some a=>rw [h] at q; exact k a h q
theorem Ex.aug {x:Str} {i:Nat} {p p':Pos} {op:Operator} {e:Expr} {Fe:EF} (hv:fx.vars.lookup i=some x) (ok:StoreOK fx x) (he:Ev prog w K fx e Fe) (hd:(x==("__debug__":Str))=false:=by decide) (hd':(x==("__classdict__":Str))=false:=by decide) :
  Ex prog w K fx (.AugAssign (.Name x p) op e p') (augF i op Fe):=.mk λA ρ Z σ s fl σ' Rm R q=>augF_inv q λa ha q=>by
 refine wpAny_AugAssign_Name ?_
 refine cps λ_ KK=>?_
 obtain ⟨m,cm,hn,hc,hvs⟩:=R.er.ex
 obtain ⟨va,hs,r⟩:=hvs i x _ hv (getV_eq ha)
 refine KK ?_
 have rest:wpAny (model prog w) A (eval e fx.env) (λv s_2=>wpAny (model prog w) A (inplaceOp op va v) (λr s_3=>wpAny (model prog w) A (storeName fx.env x r) (λ_=>PostX K fx ρ Z s fl σ' .next) noE s_3) noE s_2) noE s :=
  he.thenX Rm R q λb vb h1 ρ_1 s_1 e1 x_1 v_1 R_1=>iopI e1 λdx dy d hx hy hd e2=>R_1.iop (r.ext x_1 noX) v_1 hx hy hd λv ρ_2 s_2 x_2 v_2 R_2 =>
   R_2.store hv ok v_2 λs_3 x_3 R_3=>PostX.eq e2 ⟨ρ_2,((x_1.trans x_2).weak noX).trans x_3,R_3,rfl⟩
 rcases slot_cases hs with ⟨hk,hm⟩ | ⟨hk | hk,c,hl,hm⟩
 ·exact wpAny_loadName_local R.er.fn hk hn hm rest
 ·exact wpAny_loadName_cell R.er.fn hk hl (hm▸hc x c hl) rest
 ·exact wpAny_loadName_free R.er.fn hk hl (hm▸hc x c hl) rest hd'
noncomputable def augAttrX (Fo Fe:EF) (C:Addr) (j:Nat) (op:Operator):XF:=bindX Fo λa σ=>match attrOf C j a σ with
 | some (old,hp)=>bindX Fe (λb σ=>match rd σ.hp old,rd σ.hp b with
  | some x,some y=>match iopD op x y with
   | some d=>match setOf C j a (.dat d) σ with
    | some σ'=>some (.next,σ')
    | none=>none
   | none=>none
  | _,_=>none) ⟨σ.loc,hp⟩
 | none=>none
theorem bind1_inv {γ:Type} {o:Option (PV×List MO)} {f:PV->List MO->Option γ} {r:γ} {C:Prop} (q:(match o with
 | some (x,y)=>f x y
 | none=>none)=some r) (k:∀x y,o=some (x,y)->f x y=some r->C):C:=by
 cases o with
 | none=>exact nos q
 | some x=>exact k x.1 x.2 rfl q
theorem Ex.augAttr {C:Addr} {mN:Str->Option Value} (cl:ClsOK K C mN) {j:Nat} {attr:Str} {o e:Expr} {p p':Pos} {op:Operator} {Fo Fe:EF} (hx:attr=an j) (hN:mN (an j)=none) (hB:typeLookup (.type "object") (an j)=pure none) (ho:Ev prog w K fx o Fo) (he:Ev prog w K fx e Fe) :
  Ex prog w K fx (.AugAssign (.Attribute o attr p) op e p') (augAttrX Fo Fe C j op):=.mk λA ρ Z σ s fl σ' Rm R q=>by
 subst hx
 refine wpAny_AugAssign_AttributeAny (ho.thenX Rm R q λa va h1 ρ_1 s_1 e1 x_1 v_1 R_1=>bind1_inv e1 λold hp ha e1=>?_)
 refine wpAny_mono (getAttr_ok cl hN hB R_1.hr R_1.top v_1 ha) (λvo s_2 p=>?_) λ_ _ q=>q
 obtain ⟨hh,V,hs⟩:=p
 replace e1:=hh▸e1
 refine hs.symm▸?_
 have x_2:Ext [] ρ_1 s_1 ρ_1 { s_1 with toks:=s_1.toks+1 }:=Ext.of_keep (h:=s_1.heap) λ_ _ e=>e
 exact he.thenX Rm (R_1.next x_2 R_1.hr) e1 λb vb h2 ρ_3 s_3 e2 x_3 v_3 R_3=>iopI e2 λdx dy d hx hy hd e2=>setAX_inv e2 λσ_2 hσ e2=>R_3.iop (V.ext (x_2.trans x_3) noX) v_3 hx hy hd λv ρ_4 s_4 x_4 v_4 R_4 =>
  wpAny_mono (setAttr_ok cl hN hB R_4.hr R_4.top R_4.off (((v_1.ext x_2 noX).ext x_3 noX).ext x_4 noX) v_4 hσ) (λ_ s_5 p=>PostX.eq (congrArg some e2) ⟨ρ_4,((((x_1.trans x_2).trans x_3).trans x_4).trans p.2.1).weak noX,(St.eta p.1)▸R_4.next p.2.1 p.2.2,rfl⟩) λ_ _ q=>q
noncomputable def insOf (C:Addr) (name:Str) (i:Nat) (hp:List MO):Bool:=match hp[i]? with
 | some (.ins C' ats)=>decide (C'=C)&&ats.all (λp=>decide (name≠an p.1))
 | _=>false
theorem insOf_eq {C:Addr} {name:Str} {i:Nat} {hp:List MO} (h:insOf C name i hp=true):∃ats,hp[i]?=some (.ins C ats)∧∀p∈ats,name≠an p.1:=by
 unfold insOf at h
 cases e:hp[i]? with
 | none=>rw [e] at h; exact nft h
 | some mo=>cases mo with
  | ins C' ats =>
   rw [e] at h
   have h:=(Bool.and_eq_true _ _).mp h
   exact ⟨ats,congrArg (λc=>some (MO.ins c ats)) (of_decide_eq_true h.1),λp hp=>of_decide_eq_true (List.all_eq_true.mp h.2 p hp)⟩
  | _=>rw [e] at h; exact nft h
theorem getMethod_ins {C:Addr} {mN:Str->Option Value} (cl:ClsOK K C mN) {name:Str} {f:Addr} {of:Obj} {y:Option Value} (hf:mN name=some (.ref f)) (hof:K f=some of) (hfc:of.cls=.type "function") (hB:typeLookup (.type "object") name=pure y)
  {pl:Sem Bool} {i:Nat} {ρ:Rho} {Z:List Addr} {hp:List MO} {s:Shared} {va:Value} {Q:Value×List Value->Shared->Prop} (H:HR ρ Z hp s.heap) (top:TopOK K s.heap) (V:VR ρ Z s.heap (.obj i) va) (hi:insOf C name i hp=true) (hQ:Q (.ref f,[va]) s) :
  wpAny (model prog w) A (getMethod va name pl) Q noE s:=by
 obtain ⟨ats,hi,hne⟩:=insOf_eq hi
 obtain ⟨r,b,hr,hva⟩:=V
 rw [hva] at hQ ⊢
 obtain ⟨o,mA,nm,qn,N,bs,sn,sub,col,dd,k0,k1,k2,k3,k5,ho,h1,h2,h3,h4,h5,h6,h7,hrm,hrz,hbm,hC,hNs⟩:=H.insR top cl hi hr
 exact method_of (g:=s.gens) (d:=s.drawn) (t:=s.toks) (os:=s.os) hC hNs cl.ga cl.gh hf (top _ _ hof) hfc hB ⟨o,ho,h1,h2,.inr ⟨b,h3,h4,h5⟩⟩ (h7 name hne) hQ
noncomputable def methF (Fo:EF) (C:Addr) (name:Str) (G:LF) (H:FnF):EF:=bindE Fo λa σ=>match a with
 | .obj i=>if insOf C name i σ.hp then match G σ with
  | some (ps,hp)=>H (.obj i::ps) hp
  | none=>none else none
 | _=>none
theorem bindPs_inv {γ:Type} {o:Option (List PV×List MO)} {f:List PV->List MO->Option γ} {r:γ} {C:Prop} (q:(match o with
 | some (x,y)=>f x y
 | none=>none)=some r) (k:∀x y,o=some (x,y)->f x y=some r->C):C:=by
 cases o with
 | none=>exact nos q
 | some x=>exact k x.1 x.2 rfl q
theorem methG_inv {C:Addr} {name:Str} {G:LF} {H:FnF} {a:PV} {σ:St} {r:PV×List MO} {P:Prop} (q:(match a with
 | .obj i=>if insOf C name i σ.hp then match G σ with
  | some (ps,hp)=>H (.obj i::ps) hp
  | none=>none else none
 | _=>none)=some r) (k:∀i ps hp,a=.obj i->insOf C name i σ.hp=true->G σ=some (ps,hp)->H (.obj i::ps) hp=some r->P):P:=by
 cases a with
 | obj i=>exact iteo q λhi q=>bindPs_inv q λps hp e q=>k i ps hp rfl hi e q
 | _=>exact nos q
theorem Ev.meth {C:Addr} {mN:Str->Option Value} (cl:ClsOK K C mN) {name:Str} {f:Addr} {of:Obj} {fd:FuncData} {y:Option Value} {o e:Expr} {es:List Expr} {apos pos:Pos} {Fo:EF} {G:LF} {H:FnF} {k:Nat} (hf:mN name=some (.ref f)) (hof:K f=some of) (hfc:of.cls=.type "function") (hdata:of.data=.func fd)
  (hB:typeLookup (.type "object") name=pure y) (ho:Ev prog w K fx o Fo) (he:EvL prog w K fx (e::es) G) (hH:FnOK prog w K f k H) (hK:k≤fx.k) (mc:MC fx.env o name apos (e::es) pos)
  (hs:∀env,starEach (e::es) env=(false,eval e env)::starEach es env:=by intro _; rfl) :
  Ev prog w K fx (.Call (.Attribute o name apos) (e::es) [] pos) (methF Fo C name G H):=.mk λA ρ Z σ s pv hp' Rm R q=>by
 obtain ⟨pl,mc⟩:=mc
 refine MethodCall_ (ho.then Rm R q λa va h1 ρ_1 s_1 e1 x_1 v_1 R_1=>methG_inv e1 λi ps hp1 ha hi eG e1=>?_) mc
 replace v_1:=ha▸v_1
 refine getMethod_ins cl hf hof hfc hB R_1.hr R_1.top v_1 hi ?_
 refine callWith_function (o:=of) (fd:=fd) ?_
 have hh:=he.run pos A ρ_1 Z _ s_1 _ _ Rm R_1 eG
 rw [hs] at hh ⊢
 refine evalArgs_plain (wpAny_mono hh (λvs s_2 p=>?_) λ_ _ q=>q)
 refine cps λ_ KK=>?_
 obtain ⟨ρ_2,x_2,V,H_2⟩:=p
 refine KK ?_
 have R_2:=R_1.next x_2 H_2
 exact ⟨⟨R_2.top f of hof,hdata⟩,wpAny_mono (hH.run A ρ_2 Z hp1 s_2 (.obj i::ps) (va::vs) pv hp' (Rm.mono hK) H_2 R_2.top R_2.off (.cons (v_1.ext x_2 noX) V) e1) (λv s_3 p=>p.trans (x_1.trans x_2)) λ_ _ q=>q⟩
noncomputable def meth0F (Fo:EF) (C:Addr) (name:Str) (H:FnF):EF:=bindE Fo λa σ=>match a with
 | .obj i=>if insOf C name i σ.hp then H [.obj i] σ.hp else none
 | _=>none
theorem meth0_inv {C:Addr} {name:Str} {H:FnF} {a:PV} {hp:List MO} {r:PV×List MO} {P:Prop} (q:(match a with
 | .obj i=>if insOf C name i hp then H [.obj i] hp else none
 | _=>none)=some r) (k:∀i,a=.obj i->insOf C name i hp=true->H [.obj i] hp=some r->P):P:=by
 cases a with
 | obj i=>exact iteo q λhi q=>k i rfl hi q
 | _=>exact nos q
theorem Ev.meth0 {C:Addr} {mN:Str->Option Value} (cl:ClsOK K C mN) {name:Str} {f:Addr} {of:Obj} {fd:FuncData} {y:Option Value} {o:Expr} {apos pos:Pos} {Fo:EF} {H:FnF} {k:Nat} (hf:mN name=some (.ref f)) (hof:K f=some of) (hfc:of.cls=.type "function") (hdata:of.data=.func fd)
  (hB:typeLookup (.type "object") name=pure y) (ho:Ev prog w K fx o Fo) (hH:FnOK prog w K f k H) (hK:k≤fx.k) (mc:MC fx.env o name apos [] pos) :
  Ev prog w K fx (.Call (.Attribute o name apos) [] [] pos) (meth0F Fo C name H):=.mk λA ρ Z σ s pv hp' Rm R q=>by
 obtain ⟨pl,mc⟩:=mc
 refine MethodCall_ (ho.then Rm R q λa va h1 ρ_1 s_1 e1 x_1 v_1 R_1=>meth0_inv e1 λi ha hi e1=>?_) mc
 replace v_1:=ha▸v_1
 refine getMethod_ins cl hf hof hfc hB R_1.hr R_1.top v_1 hi ?_
 refine callWith_meth0 (o:=of) (fd:=fd) hdata (R_1.top f of hof) ?_
 exact wpAny_mono (hH.run A ρ_1 Z h1 s_1 [.obj i] [va] pv hp' (Rm.mono hK) R_1.hr R_1.top R_1.off (.cons v_1 .nil) e1) (λv s_3 p=>p.trans x_1) λ_ _ q=>q
inductive ClsAt (h:Heap) (C:Addr):Prop
 | mk (nm q:Str) (N:Addr) (bs:List Value) (sn:List Str) (sub:List Value) (col:Option Bool) (dd:Option Addr) (k0 k1 k2 k3 k5:Option Value) :
  h.get? C=some (excClassObj nm q C N bs [.type "object"] true sn sub false col dd k0 k1 k2 k3 k5 "object.__new__")->ClsAt h C
theorem callWith_clsT {env:Env} {pos:Pos} {e:Expr} {rest:List Expr} {s:Shared} {C:Addr} {Q:Value->Shared->Prop}
  (h:wpAny (model prog w) A (spliced (backTo pos (starEach (e::rest) env))) (λvs s_1=>ClsAt s_1.heap C∧wpAny (model prog w) A (call (.ref C) vs) Q noE s_1) noE s)
  (he:starEach (e::rest) env=(false,eval e env)::starEach rest env) (hplain:(backTo pos (starEach rest env)).any (·.1)=false) :
  wpAny (model prog w) A (callWith pos (.ref C) [] (backTo pos (starEach (e::rest) env)) []) Q noE s:=by
 rw [he] at h ⊢
 have hst:((backTo pos ((false,eval e env)::starEach rest env)).any (λx=>x.fst)||([]:List (Option Str×Sem Value)).any λx=>x.fst.isNone)=false:=by
  show ((false||(backTo pos (starEach rest env)).any (·.1))||false)=false
  rw [hplain]; rfl
 skip
 refine wpAny_bind (wpAny_holding (Calls.evalArgs_plain (wpAny_mono h (λvs s_1 h_1=>?_) λ_ _ x=>x)))
 refine cps λ_ KK=>?_
 obtain ⟨hh,g,d,t,os⟩:=s_1
 obtain ⟨⟨nm,q,N,bs,sn,sub,col,dd,k0,k1,k2,k3,k5,hC⟩,h_2⟩:=h_1
 refine KK ?_
 have f1:=tc_lookup
 have hT:(⟨hh,g,d,t,os⟩:Shared).TypeIs (.ref C) "type":=⟨_,hC,rfl⟩
 refine wpAny_bind (wpAny_standAt ?_)
 skip
 skip
 repeat (any_goals (first | assumption | with_reducible refine wpAny_loadPart_at hC ?_ | with_reducible refine wpAny_load' hC ?_ | wp_step))
 rw [if_pos (by rfl),hst]
 show wpAny _ _ (call (.ref C) vs [] >>= λr=>do holding [r] point; pure r) _ _ _
 exact wpAny_bind (wpAny_mono h_2 (λr s' hr=>wpAny_bind (wpAny_holding (wpAny_point (wpAny_pure hr)))) λ_ _ x=>x)
noncomputable def newF (C:Addr) (G:LF) (H:FnF):EF:=λσ=>match G σ with
 | some (ps,hp)=>match H (.obj hp.length::ps) (hp++[.ins C []]) with
  | some (.dat .none,hp')=>some (.obj hp.length,hp')
  | _=>none
 | none=>none
theorem newF_inv {C:Addr} {G:LF} {H:FnF} {σ:St} {pv:PV} {hp':List MO} {P:Prop} (q:newF C G H σ=some (pv,hp')) (k:∀ps hp,G σ=some (ps,hp)->H (.obj hp.length::ps) (hp++[.ins C []])=some (.dat .none,hp')->pv=.obj hp.length->P):P:=by
 unfold newF at q
 cases h:G σ with
 | none=>rw [h] at q; exact nos q
 | some x =>
  rw [h] at q
  have q:(match H (.obj x.2.length::x.1) (x.2++[.ins C []]) with | some (.dat .none,hp')=>some (PV.obj x.2.length,hp') | _=>none)=some (pv,hp'):=q
  cases h2:H (.obj x.2.length::x.1) (x.2++[.ins C []]) with
  | none=>rw [h2] at q; exact nos q
  | some y =>
   obtain ⟨u,hp2⟩:=y
   rw [h2] at q
   cases u with
   | dat d=>cases d with
    | none=>exact k x.1 x.2 h ((sop q).2▸h2) (sop q).1.symm
    | _=>exact nos q
   | _=>exact nos q
theorem Room.under1 {C:Addr} {vs:List Value} {k:Nat} (h:Room A (k+1)):Room (A.under (.builtin "type.__call__" ⟨.ref C::vs,[]⟩)) k :=
 ⟨h.handled,by have:=h.depth; show A.depth+1+k < 900; lia,by have:=h.units; show A.units+1+40*k < 9000; (exact ar6 (by assumption) (by decide))⟩
theorem HR.made {ρ:Rho} {Z:List Addr} {h h':Heap} {hp:List MO} (H:HR ρ Z hp h) {C x dx:Addr} (M:Heap.MadeObj h h' x dx C):HR (ρ++[(x,dx)]) Z (hp++[.ins C []]) h':=by
 have hxm:=H.fresh M.newX
 refine cps λ_ KK=>?_
 obtain ⟨o,ho,hc,hnc,hdict⟩:=M.inst
 refine KK ?_
 have hod:=M.dict o ho
 have hd:dx≠x∧h'.Ns1 dx (λ_=>none):=by
  rcases hdict with ⟨e,_⟩ | ⟨d',e,h1,h2⟩
  ·exact nos (e.symm.trans hod)
  ·rw [← sos (e.symm.trans hod)]; exact ⟨h1,h2⟩
 refine H.push M.newD M.keeps ⟨λq=>?_,hxm.2,o,_,ho,hc,hnc,hod,hd.1,hd.2,(λ_ h=>nin h),λ_ _=>rfl⟩
 rw [muts_append,List.mem_append] at q
 exact q.elim hxm.1 λq=>hd.1 (List.mem_singleton.mp q).symm
theorem Ev.new (gl:Gl K mg mb) {C:Addr} {mN:Str->Option Value} (cl:ClsOK K C mN) {cn:Str} {f:Addr} {of:Obj} {e:Expr} {es:List Expr} {pos np:Pos} {G:LF} {H:FnF} {k:Nat} (hi:mN "__init__"=some (.ref f)) (hof:K f=some of) (hfc:of.cls=.type "function")
  (he:EvL prog w K fx (e::es) G) (hH:FnOK prog w K f k H) (hK:k+1≤fx.k) (hk:fx.sc.names.lookup cn=some .globalImplicit) (hg:mg cn=some (.ref C)) (hd:(cn==("__debug__":Str))=false:=by decide)
  (hs:∀env,starEach (e::es) env=(false,eval e env)::starEach es env:=by intro _; rfl) (hp:∀env,(backTo pos (starEach es env)).any (·.1)=false:=by intro _; rfl) :
  Ev prog w K fx (.Call (.Name cn np) (e::es) [] pos) (newF C G H):=.mk λA ρ Z σ s pv hp' Rm R q=>newF_inv q λps hp1 eG eH hpv=>by
 refine Call_ (global_name gl R hk (.inl hg) ?_ hd)
 refine callWith_clsT (wpAny_mono (he.run pos A ρ Z σ s _ _ Rm R eG) (λvs s_1 p=>?_) λ_ _ q=>q) (hs _) (hp _)
 refine cps λ_ KK=>?_
 obtain ⟨ρ_1,x_1,V,H_1⟩:=p
 have R_1:=R.next x_1 H_1
 obtain ⟨nm,qn,N,bs,sn,sub,col,dd,k0,k1,k2,k3,k5,hK',hNs⟩:=cl.ex
 refine KK ?_
 refine ⟨⟨nm,qn,N,bs,sn,sub,col,dd,k0,k1,k2,k3,k5,R_1.top _ _ hK'⟩,?_⟩
 refine wpAny_call_obj_init (h:=s_1.heap) (g:=s_1.gens) (d:=s_1.drawn) (t:=s_1.toks) (os:=s_1.os) F.objNew (R_1.top _ _ hK') (hNs _ R_1.top) hi (R_1.top _ _ hof) hfc λh' x dx M=>?_
 have H_2:=H_1.made M
 have x_2:Ext [] ρ_1 s_1 (ρ_1++[(x,dx)]) { s_1 with heap:=h' }:=⟨⟨_,rfl,λp hp=>(List.mem_singleton.mp hp).symm▸M.newD⟩,λb o _ _ e=>M.keeps b o e,λb o e=>⟨o,M.keeps b o e⟩,rfl,rfl,λ_ _ e=>e,λh=>h⟩
 have R_2:=R_1.next x_2 H_2
 have Vx:VR (ρ_1++[(x,dx)]) Z h' (.obj hp1.length) (.ref x):=⟨x,dx,by rw [← H_1.len,List.getElem?_append_right (Nat.le_refl _),Nat.sub_self]; rfl,rfl⟩
 refine wpAny_mono (hH.run _ _ Z _ _ (.obj hp1.length::ps) (.ref x::vs) _ _ (Rm.mono hK).under1 H_2 R_2.top R_2.off (.cons Vx (V.ext x_2 noX)) eH) (λv s_3 p=>?_) λ_ _ q=>q
 refine cps λ_ KK=>?_
 obtain ⟨ρ_3,x_3,⟨as,rv,_⟩,H_3⟩:=p
 refine KK ?_
 exact ⟨rv.none_.1,ρ_3,(x_1.trans x_2).trans x_3,hpv▸Vx.ext x_3 noX,H_3⟩
end
section
variable {prog:Program} {w:World} {K:Addr->Option Obj} {fx:Fx} {mg mb:Str->Option Value} {A:Around}
noncomputable def nameTs:List (Nat×Str×Pos)->List Expr
 | []=>[]
 | (_,x,p)::r=>.Name x p::nameTs r
noncomputable def setAll:List Nat->List PV->Loc->Loc
 | i::is,p::ps,loc=>setAll is ps (loc.set i (some p))
 | _,_,loc=>loc
inductive OpsOK (prog:Program) (w:World) (A:Around) (fx:Fx):List Nat->List (Value->Sem Unit)->Prop
 | nil:OpsOK prog w A fx [] []
 | cons {i is x op ops}:fx.vars.lookup i=some x->StoreOK fx x->(∀(v:Value) (s:Shared) (Q:Unit->Shared->Prop),wpAny (model prog w) A (storeName fx.env x v) Q noE s->wpAny (model prog w) A (op v) Q noE s)->OpsOK prog w A fx is ops->OpsOK prog w A fx (i::is) (op::ops)
theorem storeAll_ok {is:List Nat} {ops:List (Value->Sem Unit)} (x:OpsOK prog w A fx is ops):∀{ps:List PV} {vs:List Value} {ρ:Rho} {Z:List Addr} {σ:St} {s:Shared},SR K fx ρ Z σ s->VRs ρ Z s.heap ps vs->is.length=ps.length ->
  wpAny (model prog w) A (assignInOrder ops vs) (λ_ s'=>Ext fx.own ρ s ρ s'∧SR K fx ρ Z ⟨setAll is ps σ.loc,σ.hp⟩ s') noE s:=by
 induction x with
 | nil =>
  intro ps vs ρ Z σ s R V hl
  cases V with
  | nil=>exact wpAny_assignInOrder_none ⟨Ext.refl _ _ _,R⟩
  | cons=>exact nomatch hl
 | cons hv ok h r ih =>
  intro ps vs ρ Z σ s R V hl
  cases V with
  | nil=>exact nomatch hl
  | cons v V=>exact wpAny_assignInOrder_more (h _ _ _ (R.store hv ok v λs_1 x_1 R_1=>wpAny_mono (ih R_1 (V.ext x_1 R.er.ownZ) (Nat.succ.inj hl)) (λ_ s_2 q=>⟨x_1.trans q.1,q.2⟩) λ_ _ q=>q))
theorem VRs.append {ρ:Rho} {Z:List Addr} {h:Heap} {a b:List PV} {c d:List Value} (x:VRs ρ Z h a c) (y:VRs ρ Z h b d):VRs ρ Z h (a++b) (c++d) :=
 VRs.rec (motive:=λa c _=>VRs ρ Z h (a++b) (c++d)) y (λu _ ih=>.cons u ih) x
theorem VRs.rev {ρ:Rho} {Z:List Addr} {h:Heap} {ps:List PV} {vs:List Value} (V:VRs ρ Z h ps vs):VRs ρ Z h ps.reverse vs.reverse :=
 VRs.rec (motive:=λps vs _=>VRs ρ Z h ps.reverse vs.reverse) .nil (λu _ ih=>by rw [List.reverse_cons,List.reverse_cons]; exact ih.append (.cons u .nil)) V
theorem VRs.keep {ρ:Rho} {Z:List Addr} {h h':Heap} (k:∀a o,h.get? a=some o->h'.get? a=some o) {ps:List PV} {vs:List Value} (V:VRs ρ Z h ps vs):VRs ρ Z h' ps vs :=
 VRs.rec (motive:=λps vs _=>VRs ρ Z h' ps vs) .nil (λu _ ih=>.cons (u.keep k) ih) V
noncomputable def namesOK (prog:Program) (w:World) (A:Around) (fx:Fx):List (Nat×Str×Pos)->Prop
 | []=>True
 | (i,x,_)::r=>fx.vars.lookup i=some x∧StoreOK fx x∧namesOK prog w A fx r
theorem ops_names:∀{ts:List (Nat×Str×Pos)},namesOK prog w A fx ts->OpsOK prog w A fx (ts.map (·.1)) ((assignEach (nameTs ts) fx.env).map (·.2))
 | [],_=>.nil
 | (i,x,p)::r,h=>.cons h.1 h.2.1 (λv s Q hq=>wpAny_assign_Name hq) (ops_names h.2.2)
theorem each_star:∀(ts:List (Nat×Str×Pos)) (env:Env),(assignEach (nameTs ts) env).findIdx? (·.1)=none
 | [],_=>rfl
 | (i,x,p)::r,env=>by
  show (((false,_)::assignEach (nameTs r) env).findIdx? (·.1))=none
  rw [List.findIdx?_cons,if_neg Bool.false_ne_true,each_star r env]
  rfl
theorem each_len:∀(ts:List (Nat×Str×Pos)) (env:Env),(assignEach (nameTs ts) env).length=ts.length
 | [],_=>rfl
 | (i,x,p)::r,env=>congrArg (·+1) (each_len r env)
noncomputable def tupX (is:List Nat) (G:LF):XF:=λσ=>match G σ with
 | some (ps,hp)=>if is.length=ps.length∧ps.length≤lim then some (.next,⟨setAll is ps σ.loc,hp⟩) else none
 | none=>none
theorem Ex.tup {ts:List (Nat×Str×Pos)} {es:List Expr} {k k':Nat} {p p' pos:Pos} {G:LF} (hn:∀A,namesOK prog w A fx ts) (he:EvL prog w K fx es G) (hw:swappedStores [.Tuple (nameTs ts) k p] (.Tuple es k' p') fx.env=pure none)
  (hs:swapsWithSole [.Tuple (nameTs ts) k p] (.Tuple es k' p') pos.line fx.env=pure false:=by rfl):Ex prog w K fx (.Assign [.Tuple (nameTs ts) k p] (.Tuple es k' p') pos) (tupX (ts.map (·.1)) G):=.mk λA ρ Z σ s fl σ' Rm R q=>by
 refine bindPs_inv q λps hp e1 q=>ite_inv q λhl e=>?_
 refine wpAny_Assign_stores (wpAny_Tuple (wpAny_mono (he.run p' A ρ Z σ s _ _ Rm R e1) (λvs s_1 P=>?_) λ_ _ q=>q)) hs hw
 refine cps λ_ KK=>?_
 obtain ⟨ρ_1,x_1,V,H_1⟩:=P
 refine KK ?_
 have hlen:=V.length
 refine ⟨hlen▸Nat.le_trans hl.2 (by decide),?_⟩
 have R_1:=R.next x_1 H_1
 have k1:∀b o,s_1.heap.get? b=some o->(s_1.heap.push { cls:=.type "tuple",data:=.seq vs.toArray }).get? b=some o:=λb o e=>Heap.get?_push_of_some _ e
 show wpAny _ A (PySem.assign (.Tuple (nameTs ts) k p) fx.env _) _ _ _
 refine wpAny_assign_Tuple (items:=vs.toArray) Rm.handled ⟨_,Heap.get?_push_size _ rfl,rfl,_,rfl⟩ (by rw [each_len,List.size_toArray,← hlen,← hl.1,List.length_map]) (each_star _ _) λh' eb=>?_
 have k2:∀b o,s_1.heap.get? b=some o->h'.get? b=some o:=λb o e=>ExtBut.keepAll eb b o (k1 b o e)
 refine List.toList_toArray.symm▸?_
 exact wpAny_mono (storeAll_ok (ops_names (hn A)) (s:={ s_1 with heap:=h' }) (R_1.keep (t:=s_1.toks) k2) (V.keep k2) hl.1) (λ_ s_3 q=>PostX.eq (congrArg some e) ⟨ρ_1,((x_1.trans (Ext.of_keep (t:=s_1.toks) k2)).weak noX).trans q.1,q.2,rfl⟩) λ_ _ q=>q
theorem OpsOK.append {is js:List Nat} {a b:List (Value->Sem Unit)} (x:OpsOK prog w A fx is a) (y:OpsOK prog w A fx js b):OpsOK prog w A fx (is++js) (a++b) :=
 OpsOK.rec (motive:=λis a _=>OpsOK prog w A fx (is++js) (a++b)) y (λh1 h2 h3 _ ih=>.cons h1 h2 h3 ih) x
theorem ops_rev:∀{ts:List (Nat×Str×Pos)},namesOK prog w A fx ts->OpsOK prog w A fx (ts.map (·.1)).reverse ((ts.map (·.2.1)).reverse.map λn=>bindName fx.env n)
 | [],_=>.nil
 | (i,x,p)::r,h=>by
  rw [List.map_cons,List.map_cons,List.reverse_cons,List.reverse_cons,List.map_append]
  exact (ops_rev h.2.2).append (.cons h.1 h.2.1 (λv s Q hq=>wpAny_bindName hq) .nil)
noncomputable def tupRX (is:List Nat) (G:LF):XF:=λσ=>match G σ with
 | some (ps,hp)=>if is.length=ps.length∧ps.length≤lim then some (.next,⟨setAll is.reverse ps.reverse σ.loc,hp⟩) else none
 | none=>none
theorem Ex.tupR {ts:List (Nat×Str×Pos)} {es:List Expr} {k k':Nat} {p p' pos:Pos} {G:LF} (hn:∀A,namesOK prog w A fx ts) (he:EvL prog w K fx es G) (hw:swappedStores [.Tuple (nameTs ts) k p] (.Tuple es k' p') fx.env=pure (some (ts.map (·.2.1))))
  (hs:swapsWithSole [.Tuple (nameTs ts) k p] (.Tuple es k' p') pos.line fx.env=pure false:=by rfl):Ex prog w K fx (.Assign [.Tuple (nameTs ts) k p] (.Tuple es k' p') pos) (tupRX (ts.map (·.1)) G):=.mk λA ρ Z σ s fl σ' Rm R q=>by
 refine bindPs_inv q λps hp e1 q=>ite_inv q λhl e=>?_
 rw [exec_Assign_arm]
 refine wpAny_bind (wpAny_standAt ?_)
 refine hs.symm▸?_
 refine wpAny_bind (wpAny_pure ?_)
 rw [if_neg (by decide)]
 refine wpAny_bind (wpAny_Tuple (wpAny_mono (he.run p' A ρ Z σ s _ _ Rm R e1) (λvs s_1 P=>?_) λ_ _ q=>q))
 refine cps λ_ KK=>?_
 obtain ⟨ρ_1,x_1,V,H_1⟩:=P
 refine KK ?_
 have hlen:=V.length
 refine ⟨hlen▸Nat.le_trans hl.2 (by decide),?_⟩
 have R_1:=R.next x_1 H_1
 have k1:∀b o,s_1.heap.get? b=some o->(s_1.heap.push { cls:=.type "tuple",data:=.seq vs.toArray }).get? b=some o:=λb o e=>Heap.get?_push_of_some _ e
 refine hw.symm▸?_
 refine wpAny_bind (wpAny_pure ?_)
 skip
 skip
 refine wpAny_bind (wpAny_rule (wpAny_bind ?_))
 refine (show (ts.map (·.2.1)).length=vs.toArray.size by rw [List.length_map,List.size_toArray,← hlen,← hl.1,List.length_map]).symm▸?_
 refine wpAny_unpackItems_tuple (items:=vs.toArray) Rm.handled ⟨_,Heap.get?_push_size _ rfl,rfl,_,rfl⟩ λh' eb=>?_
 have k2:∀b o,s_1.heap.get? b=some o->h'.get? b=some o:=λb o e=>ExtBut.keepAll eb b o (k1 b o e)
 refine List.toList_toArray.symm▸?_
 exact wpAny_bind (wpAny_mono (storeAll_ok (ops_rev (hn A)) (s:={ s_1 with heap:=h' }) (R_1.keep (t:=s_1.toks) k2) (V.keep k2).rev (List.length_reverse.symm▸List.length_reverse.symm▸hl.1)) (λ_ s_3 q=>wpAny_pure (PostX.eq (congrArg some e) ⟨ρ_1,((x_1.trans (Ext.of_keep (t:=s_1.toks) k2)).weak noX).trans q.1,q.2,rfl⟩)) λ_ _ q=>q)
noncomputable def asgF (F:EF) (T:PyData->Loc->Option Loc):XF:=bindX F λpv σ=>match pv with
 | .dat d=>match T d σ.loc with
  | some loc=>some (.next,⟨loc,σ.hp⟩)
  | none=>none
 | _=>none
theorem asgF_inv {T:PyData->Loc->Option Loc} {pv:PV} {σ:St} {r:Fl×St} {C:Prop} (q:(match pv with
 | .dat d=>match T d σ.loc with
  | some loc=>some (Fl.next,(⟨loc,σ.hp⟩:St))
  | none=>none
 | _=>none)=some r) (k:∀d loc,pv=.dat d->T d σ.loc=some loc->(.next,⟨loc,σ.hp⟩)=r->C):C:=by
 cases pv with
 | dat d =>
  have q:(match T d σ.loc with | some loc=>some (Fl.next,(⟨loc,σ.hp⟩:St)) | none=>none)=some r:=q
  cases h:T d σ.loc with
  | none=>rw [h] at q; exact nos q
  | some loc=>rw [h] at q; exact k d loc rfl h (sos q)
 | _=>exact nos q
theorem Ex.assignT {tg e:Expr} {pos:Pos} {F:EF} {T:PyData->Loc->Option Loc} (ht:As prog w K fx tg T) (he:Ev prog w K fx e F) (hs:swapsWithSole [tg] e pos.line fx.env=pure false) (hw:swappedStores [tg] e fx.env=pure none)
  (hea:(assignEach [tg] fx.env).map (·.2)=[PySem.assign tg fx.env]:=by rfl):Ex prog w K fx (.Assign [tg] e pos) (asgF F T):=.mk λA ρ Z σ s fl σ' Rm R q=>by
 refine wpAny_Assign_stores (he.thenX Rm R q λpv v h1 ρ_1 s_1 e1 x_1 v_1 R_1=>asgF_inv e1 λd loc hp hT e=>?_) hs hw
 refine hea.symm▸?_
 skip
 exact wpAny_mono (ht.run A ρ_1 Z _ s_1 d v loc Rm R_1 (hp▸v_1) hT) (λ_ s_2 p=>PostX.eq (congrArg some e) ⟨ρ_1,(x_1.weak noX).trans p.1,p.2,rfl⟩) λ_ _ q=>q
noncomputable def set3 (i j k:Nat) (F:EF):XF:=bindX F λpv σ=>some (.next,⟨((σ.loc.set i (some pv)).set j (some pv)).set k (some pv),σ.hp⟩)
theorem Ex.chain3 {x y z:Str} {i j k:Nat} {px py pz pos:Pos} {e:Expr} {F:EF} (hi:fx.vars.lookup i=some x) (oi:StoreOK fx x) (hj:fx.vars.lookup j=some y) (oj:StoreOK fx y) (hk:fx.vars.lookup k=some z) (ok:StoreOK fx z) (he:Ev prog w K fx e F) :
  Ex prog w K fx (.Assign [.Name x px,.Name y py,.Name z pz] e pos) (set3 i j k F):=.mk λA ρ Z σ s fl σ' Rm R q=>by
 refine wpAny_Assign_three (he.thenX Rm R q λpv v h1 ρ_1 s_1 e1 x_1 v_1 R_1=>?_)
 refine wpAny_assign_Name (R_1.store hi oi v_1 λs_2 x_2 R_2=>?_)
 refine wpAny_assign_Name (R_2.store hj oj (VR.ext x_2 R.er.ownZ v_1) λs_3 x_3 R_3=>?_)
 exact wpAny_assign_Name (R_3.store hk ok (VR.ext x_3 R.er.ownZ (VR.ext x_2 R.er.ownZ v_1)) λs_4 x_4 R_4=>PostX.eq e1 ⟨ρ_1,(((x_1.weak noX).trans x_2).trans x_3).trans x_4,R_4,rfl⟩)
theorem setItem_plain {s:Shared} {l:Addr} {items:Array Value} {n:Nat} {k:Int} {j:Nat} {t:Tok} {v:Value} {Q:Unit->Shared->Prop} (ho:s.heap.get? l=some { cls:=.type "list",dict:=none,data:=.seq items n,slots:=#[] })
  (hk:k=(j:Int)) (h0:0≤k) (hfit:k < 2 ^ 63) (hj:j < items.size) (hQ:Q () { s with heap:=s.heap.update l (Obj.mapSeq (·.setIfInBounds j v)) }):wpAny (model prog w) A (setItem (.ref l) (.int k t) v) Q noE s:=by
 have hl:s.heap.IsList l items:=⟨_,ho,rfl,n,rfl⟩
 have hd:(Data.seq items n)=.seq items n:=rfl
 unfold setItem
 try with_reducible refine wpAny_holding ?_
 first | refine wpAny_bind (wpAny_pure ?_) | skip
 refine wpAny_bind (wpAny_sequenceKey hl.typeIs (by decide) ?_)
 refine wpAny_bind (wpAny_callSpecial?_slot (name:=Str.ofString "__setitem__") hl.typeIs slot_list_setitem
  (wpAny_call_entry slot_list_setitem hl.typeIs entry_list_setitem ?_ (args_list_setitem _ _ _)))
 show wpAny _ _ (Builtin.List.listSubscript? (.int k t) >>= _) _ _ s
 refine wpAny_bind (wpAny_listSubscript_int (fitsIndex_of h0 hfit) ?_)
 clear hfit h0
 subst hk
 skip
 refine wpAny_bind (wpAny_bind (wpAny_seqItemAt ho hd (wpAny_pure ?_)))
 refine (Array.getElem?_eq_getElem hj).symm▸?_
 skip
 refine wpAny_bind (wpAny_setSeqItemAt ho hd ?_)
 first
  | exact wpAny_bind (wpAny_pure (wpAny_pure ⟨.none,rfl,wpAny_pure hQ⟩))
  | exact wpAny_pure ⟨.none,rfl,wpAny_pure hQ⟩
theorem RDs.set {h:Heap} {v:Value} {d:PyData} {bs:List Addr} (r:RD h v d bs) {vs:List Value} {ds:List PyData} {as:List Addr} (rs:RDs h vs ds as):∀k,∃cs,RDs h (vs.set k v) (ds.set k d) cs∧∀a∈cs,a∈as∨a∈bs :=
 RDs.ind (Q:=λvs ds as=>∀k,∃cs,RDs h (vs.set k v) (ds.set k d) cs∧∀a∈cs,a∈as∨a∈bs) (λ_=>⟨[],.nil,λ_ h=>nin h⟩)
  (λx rr ih k=>by
   cases k with
   | zero=>exact ⟨_,.cons r rr,λa ha=>(List.mem_append.mp ha).elim .inr λh=>.inl (List.mem_append_right _ h)⟩
   | succ k=>exact (ih k).elim λcs q=>⟨_,.cons x q.1,λa ha=>(List.mem_append.mp ha).elim (λh=>.inl (List.mem_append_left _ h)) λh=>(q.2 a h).imp_left λh=>List.mem_append_right _ h⟩) rs
noncomputable def setItX (Fe Fo Fi:EF):XF:=bindX Fe λe σ=>bindX Fo (λa σ=>bindX Fi (λb σ=>match a,b,e with
 | .obj i,.dat (.int k),.dat d=>match σ.hp[i]? with
  | some (.lst l)=>if 0≤k∧k.toNat < l.length∧l.length≤lim then some (.next,⟨σ.loc,σ.hp.set i (.lst (l.set k.toNat d))⟩) else none
  | _=>none
 | _,_,_=>none) σ) σ
theorem setIt_inv {a b e:PV} {σ:St} {r:Fl×St} {C:Prop} (q:(match a,b,e with
 | .obj i,.dat (.int k),.dat d=>match σ.hp[i]? with
  | some (.lst l)=>if 0≤k∧k.toNat < l.length∧l.length≤lim then some (Fl.next,(⟨σ.loc,σ.hp.set i (.lst (l.set k.toNat d))⟩:St)) else none
  | _=>none
 | _,_,_=>none)=some r) (c:∀i k d l,a=.obj i->b=.dat (.int k)->e=.dat d->σ.hp[i]?=some (.lst l)->0≤k->k.toNat < l.length->l.length≤lim->(.next,⟨σ.loc,σ.hp.set i (.lst (l.set k.toNat d))⟩)=r->C):C:=by
 cases a with
 | obj i=>cases b with
  | dat x=>cases x with
   | int k=>cases e with
    | dat d =>
     have q:(match σ.hp[i]? with | some (.lst l)=>if 0≤k∧k.toNat < l.length∧l.length≤lim then some (Fl.next,(⟨σ.loc,σ.hp.set i (.lst (l.set k.toNat d))⟩:St)) else none | _=>none)=some r:=q
     cases h:σ.hp[i]? with
     | none=>rw [h] at q; exact nos q
     | some mo=>cases mo with
      | lst l=>rw [h] at q; exact ite_inv q λhk e=>c i k d l rfl rfl rfl h hk.1 hk.2.1 hk.2.2 e
      | _=>rw [h] at q; exact nos q
    | _=>exact nos q
   | _=>exact nos q
  | _=>exact nos q
 | _=>exact nos q
theorem Ex.setItem {o i e:Expr} {p pos:Pos} {Fe Fo Fi:EF} (he:Ev prog w K fx e Fe) (ho:Ev prog w K fx o Fo) (hi:Ev prog w K fx i Fi) (hs:swapsWith e (some (.Subscript o i p)) pos.line fx.env=pure false) :
  Ex prog w K fx (.Assign [.Subscript o i p] e pos) (setItX Fe Fo Fi):=.mk λA ρ Z σ s fl σ' Rm R q=>by
 refine wpAny_Assign_Subscript (he.thenX Rm R q λe ve h1 ρ_1 s_1 e1 x_1 v_1 R_1=>ho.thenX Rm R_1 e1 λa va h2 ρ_2 s_2 e2 x_2 v_2 R_2=>hi.thenX Rm R_2 e2 λb vb h3 ρ_3 s_3 e3 x_3 v_3 R_3=>setIt_inv e3 λi k d l ha hb he hl hk0 hk1 hk2 ee=>?_) hs
 replace v_2:=ha▸v_2
 replace v_3:=hb▸v_3
 replace v_1:=he▸v_1
 refine cps λ_ KK=>?_
 obtain ⟨r,b,hr,hva⟩:=v_2.ext x_3 (noX (Y:=Z))
 obtain ⟨hrb,vs,n,as,ho,rs,qa⟩:=R_3.hr.list hl hr
 obtain ⟨bs,rv,qb⟩:=(v_1.ext x_2 (noX (Y:=Z))).ext x_3 (noX (Y:=Z))
 obtain ⟨_,rk,_⟩:=v_3
 obtain ⟨t,hvb,_⟩:=rk.int_
 refine KK ?_
 refine hva.symm▸hvb.symm▸hrb.symm▸?_
 rw [hrb] at hr ho
 have e4:=rs.length
 replace e4:=Array.length_toList▸e4
 refine setItem_plain ho (Int.toNat_of_nonneg hk0).symm hk0 (Int.lt_of_le_of_lt (Int.toNat_le.mp (Nat.le_trans (Nat.le_of_lt hk1) hk2)) (by decide)) (e4▸hk1) ?_
 refine cps λ_ KK=>?_
 obtain ⟨n',hm⟩:=mapSeq_plain (·.setIfInBounds k.toNat ve) vs n
 obtain ⟨cs,rc,qc⟩:=RDs.set rv rs k.toNat
 have e':(s_3.heap.update b (Obj.mapSeq (·.setIfInBounds k.toNat ve))).get? b=some { cls:=.type "list",dict:=none,data:=.seq (vs.setIfInBounds k.toNat ve) n',slots:=#[] }:=by
  rw [Heap.get?_update_self _ ho (by rw [hm]; rfl),hm]
 obtain ⟨ρ_4,x_4,_,H_4⟩:=Post.setList (pv:=.dat .none) (v:=.none) R_3.hr hr (Heap.SameBut.update ..) e' (ds:=l.set k.toNat d) (Array.toList_setIfInBounds.symm▸rc) (λa ha=>(qc a ha).elim (qa a) (qb a)) ⟨[],.none,λ_ h=>nin h⟩
 refine KK ?_
 exact PostX.eq (congrArg some ee) ⟨ρ_4,(((x_1.trans x_2).trans x_3).trans x_4).weak noX,R_3.next x_4 H_4,rfl⟩
end
end Mine
end
section
open PySem PySem.Sre
namespace Mine
theorem step_exec {m:M} (ho:m.outcome=none) (ha:m.answer=none) (hp:m.pc < m.code.size):m.step=m.exec:=by
 unfold M.step
 refine ho.symm▸ha.symm▸?_
 simp only [Option.isSome_none,Bool.false_eq_true,if_false,hp,if_true]
theorem ex_lit_yes {m:M} {c:Nat} (h1:m.code.getD m.pc 0=16) (h2:m.code.getD (m.pc+1) 0=c) (hl:m.pos < m.lim) (hc:m.text.getD m.pos 0=c) :
  ∃sn,m.exec={ m with seen:=sn,pc:=m.pc+2,pos:=m.pos+1 }:=by
 have e:ops[m.code.getD m.pc 0]?=some .LITERAL:=by rw [h1]; rfl
 refine ⟨m.seen.add (m.code.getD m.pc 0),?_⟩
 unfold M.exec M.word
 simp only [Nat.add_zero,e]
 rw [if_neg (Nat.not_le.mpr hl)]
 unfold accepts itemWidth
 simp only [e,h2,hc,beq_self_eq_true]
theorem ex_lit_no {m:M} {c:Nat} (h1:m.code.getD m.pc 0=16) (h2:m.code.getD (m.pc+1) 0=c) (hc:m.lim≤m.pos∨m.text.getD m.pos 0≠c) :
  ∃sn,m.exec={ m with seen:=sn,answer:=some false }:=by
 have e:ops[m.code.getD m.pc 0]?=some .LITERAL:=by rw [h1]; rfl
 refine ⟨m.seen.add (m.code.getD m.pc 0),?_⟩
 unfold M.exec M.word
 simp only [Nat.add_zero,e]
 by_cases hl:m.pos ≥ m.lim
 ·rw [if_pos hl]; rfl
 ·rw [if_neg hl]
  have hc:m.text.getD m.pos 0≠c:=hc.resolve_left hl
  have hb:(m.text.getD m.pos 0==c)=false:=by simpa using hc
  unfold accepts
  simp only [e,h2,hb]
  rfl
theorem ex_jump {m:M} {k:Nat} (h1:m.code.getD m.pc 0=15) (h2:m.code.getD (m.pc+1) 0=k) :
  ∃sn,m.exec={ m with seen:=sn,pc:=m.pc+1+k }:=by
 have e:ops[m.code.getD m.pc 0]?=some .JUMP:=by rw [h1]; rfl
 refine ⟨m.seen.add (m.code.getD m.pc 0),?_⟩
 unfold M.exec M.word
 simp only [Nat.add_zero,e]
 simp only [h2]
theorem ex_success {m:M} (h1:m.code.getD m.pc 0=1) (hw:m.wholeText=false) (hm:m.mustAdvance=false) :
  ∃sn,m.exec={ m with seen:=sn,handed:=m.pos,answer:=some true }:=by
 have e:ops[m.code.getD m.pc 0]?=some .SUCCESS:=by rw [h1]; rfl
 refine ⟨m.seen.add (m.code.getD m.pc 0),?_⟩
 unfold M.exec M.word
 simp only [Nat.add_zero,e]
 simp only [hw,hm,Bool.false_and,Bool.or_false,Bool.and_false,Bool.false_eq_true,if_false]
 rfl
theorem runFor_done {n:Nat} {m:M} (h:m.outcome.isSome=true):m.runFor n=m:=by
 cases n with
 | zero=>rfl
 | succ n=>unfold M.runFor; rw [if_pos h]
theorem runFor_add:∀(a b:Nat) (m:M),m.runFor (a+b)=(m.runFor a).runFor b
 | 0,b,m=>by rw [Nat.zero_add]; rfl
 | a+1,b,m=>by
  refine (show a+1+b=(a+b)+1 by (exact Nat.add_right_comm _ _ _)).symm▸?_
  cases h:m.outcome.isSome with
  | true=>rw [runFor_done h,runFor_done h,runFor_done h]
  | false =>
   show (if m.outcome.isSome=true then m else M.runFor (a+b) m.step)=M.runFor b (if m.outcome.isSome=true then m else M.runFor a m.step)
   refine h.symm▸?_
   simp only [Bool.false_eq_true,if_false]
   exact runFor_add a b m.step
noncomputable def Runs (n:Nat) (m m':M):Prop:=m.runFor n=m'
theorem Runs.one {m m':M} (ho:m.outcome=none) (h:m.step=m'):Runs 1 m m':=by
 unfold Runs M.runFor
 refine ho.symm▸?_
 simp only [Option.isSome_none,Bool.false_eq_true,if_false]
 refine h.symm▸?_
 rfl
theorem Runs.trans {a b:Nat} {m m' m'':M} (h:Runs a m m') (k:Runs b m' m''):Runs (a+b) m m'':=by
 unfold Runs at *
 rw [runFor_add,h,k]
theorem Runs.exec {m m':M} (ho:m.outcome=none) (ha:m.answer=none) (hp:m.pc < m.code.size) (h:m.exec=m'):Runs 1 m m':=Runs.one ho ((step_exec ho ha hp).trans h)
theorem Runs.back {m m':M} {yes:Bool} {f:Sre.Frame} {rest:List Sre.Frame} (ho:m.outcome=none) (ha:m.answer=some yes) (hf:m.frames=f::rest)
  (h:M.resume { m with outcome:=none,answer:=none,frames:=rest,weight:=m.weight - (1+f.kept.marks.size),pc:=f.pc,pos:=f.pos,outermost:=f.outermost } f yes=m'):Runs 1 m m':=by
 refine Runs.one ho ?_
 unfold M.step
 refine ho.symm▸ha.symm▸hf.symm▸?_
 simp only [Option.isSome_none,Bool.false_eq_true,if_false]
 exact h
theorem Runs.out {m:M} {yes:Bool} (ho:m.outcome=none) (ha:m.answer=some yes) (hf:m.frames=[]):Runs 1 m { m with outcome:=some (if yes then .matched else .failed) }:=by
 refine Runs.one ho ?_
 unfold M.step
 refine ho.symm▸ha.symm▸hf.symm▸?_
 simp only [Option.isSome_none,Bool.false_eq_true,if_false]
noncomputable abbrev st (code text:Array Nat) (lim start lastStart:Nat) (sn:Seen) (pc pos handed:Nat) (out:Bool) (frames:List Sre.Frame) (weight:Nat) (ans:Option Bool):M :=
 { code,text,lim,start,lastStart,pc,pos,handed,outermost:=out,marks:=#[],frames,weight,answer:=ans,seen:=sn }
noncomputable abbrev frN (pc pos:Nat) (out:Bool):Sre.Frame:={ wait:=.nextStart,pc,pos,outermost:=out }
noncomputable abbrev frB (pc pos:Nat) (out:Bool) (k:Sre.Kept):Sre.Frame:={ wait:=.nextBranch,pc,pos,outermost:=out,kept:=k }
section
variable {text:Array Nat} {s ls:Nat}
theorem yes_end {start h:Nat} {sn:Seen} {pcB posB pcN posN:Nat} {o1 o2:Bool} {k:Sre.Kept} {pc pos wt:Nat} {o:Bool} :
  ∃m',Runs 3 (st code2 text text.size start ls sn pc pos h o [frB pcB posB o1 k,frN pcN posN o2] wt (some true)) m'∧m'.outcome=some .matched∧m'.start=start∧m'.handed=h :=
 ⟨_,(Runs.back rfl rfl rfl rfl).trans ((Runs.back rfl rfl rfl rfl).trans (Runs.out rfl rfl rfl)),rfl,rfl,rfl⟩
theorem branch0 (sn:Seen):∃sn',Runs 1 (st code2 text text.size s ls sn 10 s s true [frN 10 s true] 1 none) (st code2 text text.size s ls sn' 12 s s true [frB 11 s true {},frN 10 s true] 2 none) :=
 ⟨_,Runs.exec rfl rfl (show (10:Nat) < 36 by decide) rfl⟩
theorem lit_yes {pc pos h c:Nat} {sn:Seen} {o:Bool} {fs:List Sre.Frame} {wt start:Nat} (hp:pc < 36) (h1:code2.getD pc 0=16) (h2:code2.getD (pc+1) 0=c) (hl:pos < text.size) (hc:text.getD pos 0=c) :
  ∃sn',Runs 1 (st code2 text text.size start ls sn pc pos h o fs wt none) (st code2 text text.size start ls sn' (pc+2) (pos+1) h o fs wt none):=by
 obtain ⟨sn',e⟩:=ex_lit_yes (m:=st code2 text text.size start ls sn pc pos h o fs wt none) h1 h2 hl hc
 exact ⟨sn',Runs.exec rfl rfl hp e⟩
theorem lit_no {pc pos h c:Nat} {sn:Seen} {o:Bool} {fs:List Sre.Frame} {wt start:Nat} (hp:pc < 36) (h1:code2.getD pc 0=16) (h2:code2.getD (pc+1) 0=c) (hc:text.size≤pos∨text.getD pos 0≠c) :
  ∃sn',Runs 1 (st code2 text text.size start ls sn pc pos h o fs wt none) (st code2 text text.size start ls sn' pc pos h o fs wt (some false)):=by
 obtain ⟨sn',e⟩:=ex_lit_no (m:=st code2 text text.size start ls sn pc pos h o fs wt none) h1 h2 hc
 exact ⟨sn',Runs.exec rfl rfl hp e⟩
theorem jump {pc pos h k:Nat} {sn:Seen} {o:Bool} {fs:List Sre.Frame} {wt start:Nat} (hp:pc < 36) (h1:code2.getD pc 0=15) (h2:code2.getD (pc+1) 0=k) :
  ∃sn',Runs 1 (st code2 text text.size start ls sn pc pos h o fs wt none) (st code2 text text.size start ls sn' (pc+1+k) pos h o fs wt none):=by
 obtain ⟨sn',e⟩:=ex_jump (m:=st code2 text text.size start ls sn pc pos h o fs wt none) h1 h2
 exact ⟨sn',Runs.exec rfl rfl hp e⟩
theorem success {pos h:Nat} {sn:Seen} {o:Bool} {fs:List Sre.Frame} {wt start pc:Nat} (hp:pc < 36) (h1:code2.getD pc 0=1) :
  ∃sn',Runs 1 (st code2 text text.size start ls sn pc pos h o fs wt none) (st code2 text text.size start ls sn' pc pos pos o fs wt (some true)):=by
 obtain ⟨sn',e⟩:=ex_success (m:=st code2 text text.size start ls sn pc pos h o fs wt none) h1 rfl rfl
 exact ⟨sn',Runs.exec rfl rfl hp e⟩
theorem to_end {pc pos h:Nat} {sn:Seen} {o1 o2:Bool} {k:Sre.Kept} {pcB posB pcN posN wt start:Nat} (hp:pc < 36) (h1:code2.getD pc 0=15) (h2:pc+1+code2.getD (pc+1) 0=35) :
  ∃m',Runs 5 (st code2 text text.size start ls sn pc pos h true [frB pcB posB o1 k,frN pcN posN o2] wt none) m'∧m'.outcome=some .matched∧m'.start=start∧m'.handed=pos:=by
 refine cps λ_ KK=>?_
 obtain ⟨sn1,r1⟩:=jump (text:=text) (ls:=ls) (pos:=pos) (h:=h) (sn:=sn) (o:=true) (fs:=[frB pcB posB o1 k,frN pcN posN o2]) (wt:=wt) (start:=start) hp h1 rfl
 rw [h2] at r1
 obtain ⟨sn2,r2⟩:=success (text:=text) (ls:=ls) (pos:=pos) (h:=h) (sn:=sn1) (o:=true) (fs:=[frB pcB posB o1 k,frN pcN posN o2]) (wt:=wt) (start:=start) (pc:=35) (by decide) rfl
 obtain ⟨m',r3,q⟩:=yes_end (text:=text) (ls:=ls) (start:=start) (h:=pos) (sn:=sn2) (pcB:=pcB) (posB:=posB) (pcN:=pcN) (posN:=posN) (o1:=o1) (o2:=o2) (k:=k) (pc:=35) (pos:=pos) (wt:=wt) (o:=true)
 refine KK ?_
 exact ⟨m',r1.trans (r2.trans r3),q⟩
theorem alt1 {sn:Seen} {pc pos h:Nat} {o:Bool}:∃sn',Runs 1 (st code2 text text.size s ls sn pc pos h o [frB 11 s true {},frN 10 s true] 2 (some false)) (st code2 text text.size s ls sn' 19 s s true [frB 18 s true {},frN 10 s true] 2 none) :=
 ⟨_,Runs.back rfl rfl rfl rfl⟩
theorem alt2 {sn:Seen} {pc pos h:Nat} {o:Bool}:∃sn',Runs 1 (st code2 text text.size s ls sn pc pos h o [frB 18 s true {},frN 10 s true] 2 (some false)) (st code2 text text.size s ls sn' 24 s s true [frB 23 s true {},frN 10 s true] 2 none) :=
 ⟨_,Runs.back rfl rfl rfl rfl⟩
noncomputable abbrev frL (pc pos:Nat) (out:Bool) (k:Sre.Kept):Sre.Frame:={ wait:=.lookNot,pc,pos,outermost:=out,kept:=k }
theorem look {sn:Seen} {pos h:Nat} {fs:List Sre.Frame} {start:Nat}:∃sn',Runs 1 (st code2 text text.size start ls sn 26 pos h true fs 2 none) (st code2 text text.size start ls sn' 29 pos pos false (frL 26 pos true {}::fs) 3 none) :=
 ⟨_,Runs.exec rfl rfl (show (26:Nat) < 36 by decide) rfl⟩
theorem lookNo {sn:Seen} {pc pos p h:Nat} {o:Bool} {fs:List Sre.Frame} {start:Nat}:∃sn',Runs 1 (st code2 text text.size start ls sn pc p h o (frL 26 pos true {}::fs) 3 (some false)) (st code2 text text.size start ls sn' 32 pos h true fs 2 none) :=
 ⟨_,Runs.back rfl rfl rfl rfl⟩
theorem at_nl {sn:Seen} (hl:s < text.size) (hc:text.getD s 0=10∨text.getD s 0=13) :
  ∃n m',n≤16∧Runs n (st code2 text text.size s ls sn 10 s s true [frN 10 s true] 1 none) m'∧m'.outcome=some .matched∧m'.start=s ∧
   m'.handed=(if text.getD s 0=13∧s+1 < text.size∧text.getD (s+1) 0=10 then s+2 else s+1):=by
 obtain ⟨sn1,r1⟩:=branch0 (text:=text) (s:=s) (ls:=ls) sn
 by_cases h13:text.getD s 0=13
 ·obtain ⟨sn2,r2⟩:=lit_yes (text:=text) (ls:=ls) (pc:=12) (h:=s) (sn:=sn1) (o:=true) (fs:=[frB 11 s true {},frN 10 s true]) (wt:=2) (start:=s) (by decide) rfl rfl hl h13
  by_cases h10:s+1 < text.size∧text.getD (s+1) 0=10
  ·refine cps λ_ KK=>?_
   obtain ⟨sn3,r3⟩:=lit_yes (text:=text) (ls:=ls) (pc:=14) (h:=s) (sn:=sn2) (o:=true) (fs:=[frB 11 s true {},frN 10 s true]) (wt:=2) (start:=s) (by decide) rfl rfl h10.1 h10.2
   obtain ⟨m',r4,q1,q2,q3⟩:=to_end (text:=text) (ls:=ls) (pc:=16) (pos:=s+2) (h:=s) (sn:=sn3) (o1:=true) (o2:=true) (k:={}) (pcB:=11) (posB:=s) (pcN:=10) (posN:=s) (wt:=2) (start:=s) (by decide) rfl rfl
   refine KK ?_
   exact ⟨_,m',by decide,r1.trans (r2.trans (r3.trans r4)),q1,q2,by rw [if_pos ⟨h13,h10⟩]; exact q3⟩
  ·have hn:text.size≤s+1∨text.getD (s+1) 0≠10:=by
    by_cases h:s+1 < text.size
    ·exact .inr λq=>h10 ⟨h,q⟩
    ·exact .inl (by (exact Nat.le_of_not_lt (by assumption)))
   refine cps λ_ KK=>?_
   obtain ⟨sn3,r3⟩:=lit_no (text:=text) (ls:=ls) (pc:=14) (h:=s) (sn:=sn2) (o:=true) (fs:=[frB 11 s true {},frN 10 s true]) (wt:=2) (start:=s) (by decide) rfl rfl hn
   obtain ⟨sn4,r4⟩:=alt1 (text:=text) (s:=s) (ls:=ls) (sn:=sn3) (pc:=14) (pos:=s+1) (h:=s) (o:=true)
   obtain ⟨sn5,r5⟩:=lit_no (text:=text) (ls:=ls) (pc:=19) (pos:=s) (h:=s) (sn:=sn4) (o:=true) (fs:=[frB 18 s true {},frN 10 s true]) (wt:=2) (start:=s) (by decide) rfl rfl (.inr (by rw [h13]; decide))
   obtain ⟨sn6,r6⟩:=alt2 (text:=text) (s:=s) (ls:=ls) (sn:=sn5) (pc:=19) (pos:=s) (h:=s) (o:=true)
   obtain ⟨sn7,r7⟩:=lit_yes (text:=text) (ls:=ls) (pc:=24) (h:=s) (sn:=sn6) (o:=true) (fs:=[frB 23 s true {},frN 10 s true]) (wt:=2) (start:=s) (by decide) rfl rfl hl h13
   obtain ⟨sn8,r8⟩:=look (text:=text) (ls:=ls) (sn:=sn7) (pos:=s+1) (h:=s) (fs:=[frB 23 s true {},frN 10 s true]) (start:=s)
   obtain ⟨sn9,r9⟩:=lit_no (text:=text) (ls:=ls) (pc:=29) (pos:=s+1) (h:=s+1) (sn:=sn8) (o:=false) (fs:=frL 26 (s+1) true {}::[frB 23 s true {},frN 10 s true]) (wt:=3) (start:=s) (by decide) rfl rfl hn
   obtain ⟨sn10,r10⟩:=lookNo (text:=text) (ls:=ls) (sn:=sn9) (pc:=29) (pos:=s+1) (p:=s+1) (h:=s+1) (o:=false) (fs:=[frB 23 s true {},frN 10 s true]) (start:=s)
   obtain ⟨m',r11,q1,q2,q3⟩:=to_end (text:=text) (ls:=ls) (pc:=32) (pos:=s+1) (h:=s+1) (sn:=sn10) (o1:=true) (o2:=true) (k:={}) (pcB:=23) (posB:=s) (pcN:=10) (posN:=s) (wt:=2) (start:=s) (by decide) rfl rfl
   refine KK ?_
   exact ⟨_,m',by decide,r1.trans (r2.trans (r3.trans (r4.trans (r5.trans (r6.trans (r7.trans (r8.trans (r9.trans (r10.trans r11))))))))),q1,q2,by rw [if_neg (λq=>h10 q.2)]; exact q3⟩
 ·have h10:text.getD s 0=10:=hc.resolve_right h13
  refine cps λ_ KK=>?_
  obtain ⟨sn2,r2⟩:=lit_no (text:=text) (ls:=ls) (pc:=12) (pos:=s) (h:=s) (sn:=sn1) (o:=true) (fs:=[frB 11 s true {},frN 10 s true]) (wt:=2) (start:=s) (by decide) rfl rfl (.inr h13)
  obtain ⟨sn3,r3⟩:=alt1 (text:=text) (s:=s) (ls:=ls) (sn:=sn2) (pc:=12) (pos:=s) (h:=s) (o:=true)
  obtain ⟨sn4,r4⟩:=lit_yes (text:=text) (ls:=ls) (pc:=19) (h:=s) (sn:=sn3) (o:=true) (fs:=[frB 18 s true {},frN 10 s true]) (wt:=2) (start:=s) (by decide) rfl rfl hl h10
  obtain ⟨m',r5,q1,q2,q3⟩:=to_end (text:=text) (ls:=ls) (pc:=21) (pos:=s+1) (h:=s) (sn:=sn4) (o1:=true) (o2:=true) (k:={}) (pcB:=18) (posB:=s) (pcN:=10) (posN:=s) (wt:=2) (start:=s) (by decide) rfl rfl
  refine KK ?_
  exact ⟨_,m',by decide,r1.trans (r2.trans (r3.trans (r4.trans r5))),q1,q2,by rw [if_neg (λq=>h13 q.1)]; exact q3⟩
noncomputable def nl2:List Nat->Nat->Option (Nat×Nat)
 | [],_=>none
 | [c],s=>if c==10||c==13 then some (s,s+1) else none
 | c::c'::r,s=>if c==10||c==13 then some (s,if c==13&&c'==10 then s+2 else s+1) else nl2 (c'::r) (s+1)
theorem inSet2 (c:Nat) (sn:Seen):∃sn',inSet code2 c code2.size 5 true sn=.ok (c==10||c==13,sn'):=by
 by_cases h1:c=10
 ·subst h1
  exact ⟨_,rfl⟩
 ·by_cases h2:c=13
  ·subst h2
   exact ⟨_,rfl⟩
  ·have e1:(c==10)=false:=by simpa using h1
   have e2:(c==13)=false:=by simpa using h2
   refine ⟨((sn.add 16).add 16).add 0,?_⟩
   show (if (c==10)=true then _ else (if (c==13)=true then _ else _))=_
   refine e1.symm▸e2.symm▸?_
   rfl
theorem getD_drop {text:Array Nat} {s c:Nat} {r:List Nat} (h:text.toList.drop s=c::r):s < text.size∧text.getD s 0=c∧text.toList.drop (s+1)=r:=by
 have hs:s < text.toList.length:=by
  rcases Nat.lt_or_ge s text.toList.length with q | q
  ·exact q
  ·rw [List.drop_eq_nil_of_le q] at h; cases h
 rw [List.drop_eq_getElem_cons hs] at h
 injection h with h1 h2
 have hs':s < text.size:=by simpa using hs
 exact ⟨hs',by rw [← h1]; simp [Array.getD,hs'],h2⟩
theorem admitted2 {m:M} (hc:m.code=code2) (ht:m.text=text) (hl:m.lim=text.size):∀(l:List Nat) (s fuel:Nat) (sn:Seen),text.toList.drop s=l->l.length < fuel->∃sn',M.admitted m fuel s sn=.ok ((nl2 l s).map (·.1),sn')
 | [],s,fuel+1,sn,hd,_=>by
  have hs:text.size≤s:=by
   have:=List.drop_eq_nil_iff.mp hd
   simpa using this
  refine ⟨sn,?_⟩
  unfold M.admitted
  rw [if_pos (by rw [hl]; exact hs)]
  rfl
 | c::r,s,fuel+1,sn,hd,hf=>by
  obtain ⟨h1,h2,h3⟩:=getD_drop hd
  obtain ⟨sn1,e1⟩:=inSet2 c sn
  unfold M.admitted
  rw [if_neg (by rw [hl]; exact Nat.not_le.mpr h1),hc,ht,h2,e1]
  cases hb:(c==10||c==13) with
  | true =>
   refine ⟨sn1,?_⟩
   cases r with
   | nil=>simp [nl2,hb]
   | cons c' r=>simp [nl2,hb]
  | false =>
   obtain ⟨sn2,e2⟩:=admitted2 hc ht hl r (s+1) fuel sn1 h3 (by simp only [List.length_cons] at hf; (exact Nat.le_of_lt_succ (by assumption)))
   refine ⟨sn2,?_⟩
   dsimp only
   rw [e2]
   cases r with
   | nil=>simp [nl2,hb]
   | cons c' r=>simp [nl2,hb]
theorem ge_size {text:Array Nat} {s:Nat} (h:text.toList.drop s=[]):text.size≤s:=List.drop_eq_nil_iff.mp h
theorem crlf_b {c c':Nat}:(c==13&&c'==10)=true↔c=13∧c'=10:=by rw [Bool.and_eq_true,beq_iff_eq,beq_iff_eq]
theorem nl_b {c:Nat} (h:(c==10||c==13)=true):c=10∨c=13:=by rwa [Bool.or_eq_true,beq_iff_eq,beq_iff_eq] at h
inductive NlAt (text:Array Nat) (b e:Nat):Prop
 | mk:b < text.size->(text.getD b 0=10∨text.getD b 0=13)->e=(if text.getD b 0=13∧b+1 < text.size∧text.getD (b+1) 0=10 then b+2 else b+1)->NlAt text b e
theorem ite_iff {α:Type} {c d:Prop} [Decidable c] [Decidable d] (h:c↔d) (x y:α):(if c then x else y)=if d then x else y:=by
 by_cases q:c
 ·exact (if_pos q).symm▸(if_pos (h.mp q)).symm▸rfl
 ·exact (if_neg q).symm▸(if_neg λp=>q (h.mpr p)).symm▸rfl
theorem ite_or {α:Type} {c:Prop} [Decidable c] {x:α} {o:Option α} {y:α} {C:Prop} (e:(if c then some x else o)=some y) (k1:c->x=y->C) (k2:¬ c->o=some y->C):C:=by
 by_cases h:c
 ·rw [if_pos h] at e; exact k1 h (sos e)
 ·rw [if_neg h] at e; exact k2 h e
theorem nl2_spec:∀(l:List Nat) (s b e:Nat),text.toList.drop s=l->nl2 l s=some (b,e)->NlAt text b e
 | [],s,b,e,_,h=>nos h
 | [c],s,b,e,hd,h=>by
  obtain ⟨h1,h2,h3⟩:=getD_drop hd
  refine ite_inv (show (if (c==10||c==13)=true then some (s,s+1) else none)=some (b,e) from h) λhc q=>?_
  obtain ⟨rfl,rfl⟩:=Prod.mk.inj q
  exact ⟨h1,h2.symm▸nl_b hc,(if_neg λq=>Nat.not_le.mpr q.2.1 (ge_size h3)).symm⟩
 | c::c'::r,s,b,e,hd,h=>by
  obtain ⟨h1,h2,h3⟩:=getD_drop hd
  obtain ⟨h4,h5,_⟩:=getD_drop h3
  refine ite_or (show (if (c==10||c==13)=true then some (s,if (c==13&&c'==10)=true then s+2 else s+1) else nl2 (c'::r) (s+1))=some (b,e) from h) (λhc q=>?_) λ_ h=>nl2_spec (c'::r) (s+1) b e h3 h
  obtain ⟨rfl,rfl⟩:=Prod.mk.inj q
  refine ⟨h1,h2.symm▸nl_b hc,?_⟩
  refine h2.symm▸h5.symm▸?_
  exact ite_iff (crlf_b.trans ⟨λq=>⟨q.1,h4,q.2⟩,λq=>⟨q.1,q.2.2⟩⟩) _ _
noncomputable def SrEnd (o:Option (Nat×Nat)) (m':M):Prop:=match o with
  | some (b,e)=>m'.outcome=some .matched∧m'.start=b∧m'.handed=e
  | none=>m'.outcome=some .failed
noncomputable def Sr (m:M) (o:Option (Nat×Nat)):Prop:=∃n m',n≤16∧Runs n m m'∧SrEnd o m'
theorem att2 {p:Nat} {o:Option (Nat×Nat)} {sn:Seen} {sn':Seen} (ho:∀b e,o=some (b,e)->NlAt text b e) (ea:M.admitted (st code2 text text.size p text.size sn 10 p p true [] 0 none) (text.size+1 - p) p sn=.ok (o.map (·.1),sn')) :
  Sr (M.attemptFrom (st code2 text text.size p text.size sn 10 p p true [] 0 none) p true) o:=by
 unfold M.attemptFrom
 rw [show (st code2 text text.size p text.size sn 10 p p true [] 0 none).hasFirstSet=true from rfl,if_neg (by decide)]
 have ea':M.admitted (st code2 text text.size p text.size sn 10 p p true [] 0 none) ((st code2 text text.size p text.size sn 10 p p true [] 0 none).lim+1 - p) p (st code2 text text.size p text.size sn 10 p p true [] 0 none).seen=_:=ea
 refine ea'.symm▸?_
 cases o with
 | none=>exact ⟨1,_,by decide,Runs.out (yes:=false) rfl rfl rfl,rfl⟩
 | some be =>
  refine cps λ_ KK=>?_
  obtain ⟨h1,h2,h3⟩:=ho _ _ rfl
  obtain ⟨n,m',hle,hr,q1,q2,q3⟩:=at_nl (ls:=text.size) (sn:=sn') h1 h2
  refine KK ?_
  exact ⟨n,m',hle,hr,q1,q2,q3.trans h3.symm⟩
theorem search2 {p:Nat} (hp:p≤text.size):Sr (forSearch code2 text 0 p text.size false) (nl2 (text.toList.drop p) p):=by
 by_cases h0:text.size - p < 1
 ·refine (List.drop_eq_nil_of_le (show text.toList.length≤p from Nat.le_of_sub_eq_zero (Nat.lt_one_iff.mp h0))).symm▸?_
  have e:∃m:M,forSearch code2 text 0 p text.size false=m.say false∧m.outcome=none∧m.frames=[]:=by
   unfold forSearch; exact ⟨_,if_pos (by rw [Bool.or_eq_true]; exact .inr (decide_eq_true h0)),rfl,rfl⟩
  obtain ⟨m,e,h1,h2⟩:=e
  refine e.symm▸?_
  exact ⟨1,_,by decide,Runs.out (yes:=false) h1 rfl h2,rfl⟩
 ·have hF:forSearch code2 text 0 p text.size false=M.attemptFrom (st code2 text text.size p text.size (({}:Seen).add 14) 10 p p true [] 0 none) p true:=by
   unfold forSearch
   rw [if_neg (by simp; exact ⟨hp,by show 1≤_; (exact Nat.le_of_not_lt (by assumption))⟩)]
   rfl
  obtain ⟨sn,ea⟩:=admitted2 (m:=st code2 text text.size p text.size (({}:Seen).add 14) 10 p p true [] 0 none) (text:=text) rfl rfl rfl (text.toList.drop p) p (text.size+1 - p) (({}:Seen).add 14) rfl (List.length_drop.symm▸(Nat.succ_sub hp).symm▸Nat.lt_succ_self _)
  refine hF.symm▸?_
  exact att2 (λb e h=>nl2_spec _ p b e rfl h) ea
end
theorem ex_at {m:M} {k:Nat} {b:Bool} (h1:m.code.getD m.pc 0=6) (h2:m.code.getD (m.pc+1) 0=1) (hb:(m.pos==0||m.text.getD (m.pos - 1) 0==10)=b) :
  ∃sn,m.exec=(if b then { m with seen:=sn,pc:=m.pc+2 } else { m with seen:=sn,answer:=some false }):=by
 have e:ops[m.code.getD m.pc 0]?=some .AT:=by rw [h1]; rfl
 refine ⟨(m.seen.add (m.code.getD m.pc 0)).add (43+1),?_⟩
 unfold M.exec M.word
 simp only [Nat.add_zero,e,h2]
 unfold M.isAt
 simp only [hb]
 cases b<;>rfl
section
variable {text:Array Nat}
noncomputable def bol (text:Array Nat) (s:Nat):Bool:=s==0||text.getD (s - 1) 0==10
noncomputable def fnd1:List Nat->Bool->Nat->Option Nat
 | [],_,_=>none
 | c::r,b,s=>if b&&c==46 then some s else fnd1 r (c==10) (s+1)
theorem next1 {s pc pos h:Nat} {sn:Seen} {o o':Bool} (hs:s < text.size):∃sn',Runs 1 (st code1 text text.size s text.size sn pc pos h o [frN 5 s o'] 1 (some false)) (st code1 text text.size (s+1) text.size sn' 5 (s+1) (s+1) false [frN 5 (s+1) false] 1 none):=by
 refine ⟨sn,Runs.back rfl rfl rfl ?_⟩
 show (if s < text.size then _ else _)=_
 rw [if_pos hs]
 rfl
theorem last1 {s pc pos h:Nat} {sn:Seen} {o o':Bool} (hs:¬ s < text.size):∃m',Runs 2 (st code1 text text.size s text.size sn pc pos h o [frN 5 s o'] 1 (some false)) m'∧m'.outcome=some .failed:=by
 refine ⟨_,(Runs.back (m':=st code1 text text.size s text.size sn 5 s h o' [] 0 (some false)) rfl rfl rfl ?_).trans (Runs.out rfl rfl rfl),rfl⟩
 show (if s < text.size then _ else _)=_
 rw [if_neg hs]
 rfl
theorem from1:∀(l:List Nat) (s:Nat) (sn:Seen) (o:Bool),text.toList.drop s=l->s≤text.size->∃n m',n≤4*l.length+6∧Runs n (st code1 text text.size s text.size sn 5 s s o [frN 5 s o] 1 none) m'∧(match fnd1 l (bol text s) s with
  | some b=>m'.outcome=some .matched∧m'.start=b∧m'.handed=b+1
  | none=>m'.outcome=some .failed):=λl=>by
 induction l with
 | nil =>
  intro s sn o hd hs
  have he:text.size≤s:=by
   have:=List.drop_eq_nil_iff.mp hd
   simpa using this
  obtain ⟨sn1,e1⟩:=ex_at (m:=st code1 text text.size s text.size sn 5 s s o [frN 5 s o] 1 none) (k:=0) (b:=bol text s) rfl rfl rfl
  have r1:=Runs.exec rfl rfl (show (5:Nat) < 10 by decide) e1
  cases hb:bol text s with
  | false =>
   replace r1:=hb▸r1
   obtain ⟨m',r2,q⟩:=last1 (text:=text) (s:=s) (pc:=5) (pos:=s) (h:=s) (sn:=sn1) (o:=o) (o':=o) (by lia)
   exact ⟨_,m',by decide,r1.trans r2,q⟩
  | true =>
   replace r1:=hb▸r1
   refine cps λ_ KK=>?_
   obtain ⟨sn2,e2⟩:=ex_lit_no (m:=st code1 text text.size s text.size sn1 7 s s o [frN 5 s o] 1 none) rfl rfl (.inl he)
   have r2:=Runs.exec rfl rfl (show (7:Nat) < 10 by decide) e2
   obtain ⟨m',r3,q⟩:=last1 (text:=text) (s:=s) (pc:=7) (pos:=s) (h:=s) (sn:=sn2) (o:=o) (o':=o) (by lia)
   refine KK ?_
   exact ⟨_,m',by decide,r1.trans (r2.trans r3),q⟩
 | cons c r ih =>
  intro s sn o hd hs
  refine cps λ_ KK=>?_
  obtain ⟨h1,h2,h3⟩:=getD_drop hd
  have hbn:bol text (s+1)=(c==10):=by
   unfold bol
   rw [Nat.add_sub_cancel,h2]
   simp
  obtain ⟨sn1,e1⟩:=ex_at (m:=st code1 text text.size s text.size sn 5 s s o [frN 5 s o] 1 none) (k:=0) (b:=bol text s) rfl rfl rfl
  refine KK ?_
  have r1:=Runs.exec rfl rfl (show (5:Nat) < 10 by decide) e1
  unfold fnd1
  cases hb:bol text s with
  | false =>
   replace r1:=hb▸r1
   refine cps λ_ KK=>?_
   obtain ⟨sn2,r2⟩:=next1 (text:=text) (s:=s) (pc:=5) (pos:=s) (h:=s) (sn:=sn1) (o:=o) (o':=o) h1
   obtain ⟨n,m',hn,r3,q⟩:=ih (s+1) sn2 false h3 h1
   refine KK ?_
   replace q:=hbn▸q
   rw [Bool.false_and,if_neg (by decide)]
   exact ⟨_,m',by simp only [List.length_cons]; lia,r1.trans (r2.trans r3),q⟩
  | true =>
   replace r1:=hb▸r1
   by_cases hc:c=46
   ·obtain ⟨sn2,e2⟩:=ex_lit_yes (m:=st code1 text text.size s text.size sn1 7 s s o [frN 5 s o] 1 none) rfl rfl h1 (h2.trans hc)
    have r2:=Runs.exec rfl rfl (show (7:Nat) < 10 by decide) e2
    obtain ⟨sn3,e3⟩:=ex_success (m:=st code1 text text.size s text.size sn2 9 (s+1) s o [frN 5 s o] 1 none) rfl rfl rfl
    have r3:=Runs.exec rfl rfl (show (9:Nat) < 10 by decide) e3
    have r4:Runs 2 (st code1 text text.size s text.size sn3 9 (s+1) (s+1) o [frN 5 s o] 1 (some true)) _:=(Runs.back rfl rfl rfl rfl).trans (Runs.out rfl rfl rfl)
    refine hc.symm▸?_
    refine ⟨_,_,?_,r1.trans (r2.trans (r3.trans r4)),?_⟩
    ·simp only [List.length_cons]; (exact Nat.le_add_left _ _)
    ·exact ⟨rfl,rfl,rfl⟩
   ·refine cps λ_ KK=>?_
    obtain ⟨sn2,e2⟩:=ex_lit_no (m:=st code1 text text.size s text.size sn1 7 s s o [frN 5 s o] 1 none) rfl rfl (.inr (λq=>hc (h2.symm.trans q)))
    have r2:=Runs.exec rfl rfl (show (7:Nat) < 10 by decide) e2
    obtain ⟨sn3,r3⟩:=next1 (text:=text) (s:=s) (pc:=7) (pos:=s) (h:=s) (sn:=sn2) (o:=o) (o':=o) h1
    obtain ⟨n,m',hn,r4,q⟩:=ih (s+1) sn3 false h3 h1
    refine KK ?_
    replace q:=hbn▸q
    have hcb:(c==46)=false:=by simpa using hc
    rw [hcb,Bool.and_false,if_neg (by decide)]
    exact ⟨_,m',by simp only [List.length_cons]; lia,r1.trans (r2.trans (r3.trans r4)),q⟩
theorem search1 {p:Nat} (hp:p≤text.size):∃n m',n≤4*text.size+6∧Runs n (forSearch code1 text 0 p text.size false) m'∧(match fnd1 (text.toList.drop p) (bol text p) p with
  | some b=>m'.outcome=some .matched∧m'.start=b∧m'.handed=b+1
  | none=>m'.outcome=some .failed):=by
 by_cases h0:text.size - p < 1
 ·have hd:text.toList.drop p=[]:=List.drop_eq_nil_of_le (by simp; lia)
  rw [hd]
  refine ⟨1,_,by (exact Nat.succ_pos _),Runs.out (m:=forSearch code1 text 0 p text.size false) (yes:=false) ?_ ?_ ?_,?_⟩
  all_goals (unfold forSearch; rw [if_pos (by simp; right; exact h0)]; rfl)
 ·have hF:forSearch code1 text 0 p text.size false=st code1 text text.size p text.size (({}:Seen).add 14) 5 p p true [frN 5 p true] 1 none:=by
   unfold forSearch
   rw [if_neg (by simp; exact ⟨hp,by show 1≤_; (exact Nat.le_of_not_lt (by assumption))⟩)]
   rfl
  rw [hF]
  refine cps λ_ KK=>?_
  obtain ⟨n,m',hn,r,q⟩:=from1 (text:=text) (text.toList.drop p) p (({}:Seen).add 14) true rfl hp
  refine KK ?_
  refine ⟨n,m',?_,r,q⟩
  rw [List.length_drop,Array.length_toList] at hn
  lia
end
end Mine
end
section
open PySem PySem.Sre PySem.Builtin.Re PySem.Calls
namespace Mine
theorem slot_re_sub:Slot "re.Pattern" "sub" "re.Pattern.sub" :=
 .of (owner:="re.Pattern") (n:="sub") (by rw [typeLookup_type,builtinLookup_eq_fast]; kernel_rfl) (by decide +kernel) (by decide +kernel) (by decide +kernel)
  (by first | exact .inl (by decide +kernel) | exact .inr (by decide +kernel)) (by rw [isSubtype_type]; kernel_rfl)
theorem type_re_sub:typeOf (.builtin "re.Pattern.sub")=pure (.type "method_descriptor"):=by show builtinType _=_; rw [builtinType_eq_fast]; kernel_rfl
theorem plainAttrs_re:PlainAttrs "re.Pattern" :=
 ⟨⟨"object.__getattribute__",by rw [typeLookup_type,builtinLookup_eq_fast]; kernel_rfl,by decide +kernel⟩,by rw [typeLookup_type,builtinLookup_eq_fast]; kernel_rfl⟩
theorem entry_re_sub:entryFor table "re.Pattern.sub"=some Builtin.«re.Pattern.sub»:=entryFor_of_tree (by kernel_rfl)
theorem entry_re_loop:entryFor table "re.Pattern.sub.loop"=some Builtin.«re.Pattern.sub.loop»:=entryFor_of_tree (by kernel_rfl)
theorem plain_re_loop:plainId "re.Pattern.sub.loop"=true:=by decide +kernel
theorem args_re_sub (a b c:Value):argsOk "re.Pattern.sub" ⟨[a,b,c],[]⟩:=by unfold argsOk; kernel_rfl
section
variable {prog:Program} {w:World} {A:Around} {E:Value->Shared->Prop} {s:Shared}
theorem drive_ok {M_0:Model}:∀(turns n:Nat) (m m':M) (Q:M->Shared->Prop),Runs n m m'->m'.outcome.isSome=true->n < turns->Q m' s->wpAny M_0 A (reDrive turns m) Q E s
 | 0,n,m,m',Q,_,_,h,_=>by lia
 | turns+1,n,m,m',Q,hr,ho,hlt,hQ=>by
  unfold reDrive reTurnSteps
  dsimp only
  cases h4:(m.runFor 4).outcome.isSome with
  | true =>
   rw [if_pos rfl]
   have:m.runFor 4=m':=by
    by_cases hn:n≤4
    ·have e:m.runFor (n+(4 - n))=(m.runFor n).runFor (4 - n):=runFor_add _ _ _
     rw [show n+(4 - n)=4 by (exact Nat.add_sub_of_le (by assumption)),show m.runFor n=m' from hr,runFor_done ho] at e
     exact e
    ·have e:m.runFor (4+(n - 4))=(m.runFor 4).runFor (n - 4):=runFor_add _ _ _
     rw [show 4+(n - 4)=n by omega,show m.runFor n=m' from hr,runFor_done h4] at e
     exact e.symm
   rw [this]
   exact wpAny_pure hQ
  | false =>
   rw [if_neg (by decide)]
   have hn:4 < n:=by
    rcases Nat.lt_or_ge 4 n with q | q
    ·exact q
    ·exfalso
     have e:m.runFor (n+(4 - n))=(m.runFor n).runFor (4 - n):=runFor_add _ _ _
     rw [show n+(4 - n)=4 by (exact Nat.add_sub_of_le (by assumption)),show m.runFor n=m' from hr,runFor_done ho] at e
     rw [e,ho] at h4
     exact ntf h4
   have hr':Runs (n - 4) (m.runFor 4) m':=by
    have e:m.runFor (4+(n - 4))=(m.runFor 4).runFor (n - 4):=runFor_add _ _ _
    rw [show 4+(n - 4)=n by omega,show m.runFor n=m' from hr] at e
    exact e.symm
   exact wpAny_bind (wpAny_rule (drive_ok turns (n - 4) _ m' Q hr' ho (by omega) hQ))
theorem toEnd_ok {M_0:Model} {n:Nat} {m m':M} {Q:Option M->Shared->Prop} (hr:Runs n m m') (hn:n < 2 ^ 64) (ho:m'.outcome=some .matched∨m'.outcome=some .failed) (hQ:Q (if m'.outcome matches some .matched then some m' else none) s):wpAny M_0 A (reRunToEnd m) Q E s:=by
 skip
 refine wpAny_bind (drive_ok (2 ^ 64) n m m' _ hr (by rcases ho with h | h<;>rw [h]<;>rfl) hn ?_)
 refine wpAny_bind (wpAny_forIn_list _ (λ_ _ s'=>s'=s) _ (λi rest b s' h=>?_) (λb s' h=>?_) _ _ rfl)
 ·subst h
  split
  ·exact wpAny_bind (wpAny_rule (wpAny_pure rfl))
  ·exact wpAny_pure rfl
 ·subst h
  rcases ho with h | h
  ·rw [h] at hQ ⊢
   exact wpAny_pure hQ
  ·rw [h] at hQ ⊢
   exact wpAny_pure hQ
end
end Mine
end
section
open PySem PySem.Sre PySem.Builtin.Re PySem.Calls PyProof.Rows open Builtin Builtin.Str
namespace Mine
theorem Pat.keep {h h':Heap} {pa ca:Addr} {code:Array Nat} (P:Pat h pa ca code) (k:∀o,h.get? pa=some o->h'.get? pa=some o) (k':∀o,h.get? ca=some o->h'.get? ca=some o):Pat h' pa ca code:=by
 refine cps λ_ KK=>?_
 obtain ⟨o,oc,x,t,t1,t2,t3,fl,vs,n,h1,h2,h3,h4,h5,h6,h7⟩:=P.ex
 refine KK ?_
 exact ⟨o,oc,x,t,t1,t2,t3,fl,vs,n,k _ h1,h2,h3,h4,k' _ h5,h6,h7⟩
section
variable {prog:Program} {w:World} {A:Around} {s:Shared}
theorem whole_ok {M_0:Model} {E:Value->Shared->Prop} {pa ca:Addr} {code:Array Nat} (P:Pat s.heap pa ca code) {x:PySem.Str} {t:Tok} {Q:ReTarget->Shared->Prop}
  (hQ:Q { pattern:=.ref pa,string:=.str x t,code,text:=x.cps,kind:=0,groups:=0,pos:=0,lim:=x.cps.size } s):wpAny M_0 A (reWholeTarget (.ref pa) (.str x t)) Q E s:=by
 refine cps λ_ KK=>?_
 obtain ⟨o,oc,y,t0,t1,t2,t3,fl,vs,n,h1,h2,h3,h4,h5,h6,h7⟩:=P.ex
 refine KK ?_
 skip
 refine wpAny_bind (wpAny_fieldsOf h1 h4 ?_)
 refine wpAny_bind (m:=reTextOf (.str x t)) (wpAny_pure ?_)
 refine wpAny_bind (m:=reNoCollectionInside (.str x t) 0) (wpAny_pure ?_)
 skip
 skip
 refine wpAny_bind (wpAny_bind (wpAny_seqItems h5 h6 (wpAny_pure ?_)))
 refine (show ((some vs:Option (Array Value)).getD #[])=vs from rfl).symm▸h7.symm▸?_
 exact wpAny_pure hQ
noncomputable def piecesF (nx:Nat->Option (Nat×Nat)) (x:PySem.Str) (r:PySem.Str):Nat->Nat->List PySem.Str
 | 0,_=>[]
 | f+1,p=>match nx p with
  | none=>if p < x.cps.size then [⟨x.cps.extract p x.cps.size⟩] else []
  | some (b,e)=>(if p < b then [⟨x.cps.extract p b⟩] else [])++r::piecesF nx x r f e
structure Finds (code:Array Nat) (text:Array Nat) (nx:Nat->Option (Nat×Nat)):Prop where
 run:∀p,p≤text.size->∃n m',n < 2 ^ 64∧Runs n (forSearch code text 0 p text.size false) m'∧(match nx p with
  | some (b,e)=>m'.outcome=some .matched∧m'.start=b∧m'.handed=e
  | none=>m'.outcome=some .failed)
 mono:∀p b e,nx p=some (b,e)->p≤b∧b < e∧e≤text.size
theorem push_plain {D:Addr} {vs:Array Value} {v:Value} {Q:Unit->Shared->Prop} {E:Value->Shared->Prop} {M_0:Model} (hl:s.heap.PlainList D vs) (hsz:vs.size≤sizeLine) (hQ:∀h',h'.PlainList D (vs.push v)->Heap.SameBut D s.heap h'->Q () { s with heap:=h' }) :
  wpAny M_0 A (updateSeq D (·.push v)) Q E s:=by
 obtain ⟨n,ho⟩:=hl
 obtain ⟨n',hm⟩:=mapSeq_plain (·.push v) vs n
 refine wpAny_updateSeq ho rfl (hQ _ ⟨n',?_⟩ (Heap.SameBut.update ..)) (hz:=hsz) (_hz':=by rw [Array.size_push]; (exact Nat.lt_succ_of_le (by assumption)))
 rw [Heap.get?_update_self _ ho (by rw [hm]; rfl),hm]
theorem strValues_append (a b:List (PySem.Str×Tok)):strValues (a++b)=strValues a++strValues b:=List.map_append
theorem join_txt {D:Addr} {ps:List (PySem.Str×Tok)} {t:Tok} {Q:Value->Shared->Prop} (hl:s.heap.IsList D (strValues ps).toArray) (hlen:tooLong ((ps.map (·.1)).toArray.foldl (·+·.length+Str.empty.length) 0)=false) (hsz:(glued Str.empty (ps.map (·.1))).length≤sizeLine)
  (hQ:∀t' k,Q (.str (glued Str.empty (ps.map (·.1))) t') { s with toks:=k }):wpAny (model prog w) A (call (.builtin "str.join") [.str Str.empty t,.ref D]) Q noE s:=by
 refine call_meets PySem.F.slot_str_join (typeIs_str _ _ _) PySem.F.entry_str_join (PySem.F.args_str_join_2 _ _) (meets_str_join_list Str.empty t D ps hlen) ⟨hl,?_⟩
 match ps,hsz,hQ with
 | [],hsz,hQ=>exact ⟨hsz,hQ _ _⟩
 | [p],hsz,hQ=>exact hQ p.2 s.toks
 | p::p'::r,hsz,hQ=>exact ⟨hsz,hQ _ _⟩
noncomputable def LoopQ (prog:Program) (w:World) (A:Around) (R:Result->Shared->Prop):Fin->Shared->Prop:=λfin s'=>match fin with | .done f=>R (.ok f) s' | .again c'=>c'.quiet=true∧codeAny (model prog w) A c' R s'
noncomputable def KeepD (D:Addr) (h h':Heap):Prop:=∀b o,b≠D->h.get? b=some o->h'.get? b=some o
structure Fits (R:Result->Shared->Prop) (D:Addr) (s:Shared) (L:List PySem.Str):Prop where
 hg:(glued Str.empty L).length≤lim
 ht:tooLong (L.toArray.foldl (·+·.length+Str.empty.length) 0)=false
 hR:∀t' h' tk,KeepD D s.heap h'->R (.ok (.ret (.str (glued Str.empty L) t'))) { s with heap:=h',toks:=tk }
theorem Finds.no {code text:Array Nat} {nx:Nat->Option (Nat×Nat)} (F:Finds code text nx) {p:Nat} (hp:p≤text.size) (hn:nx p=none):∃n m',n < 2 ^ 64∧Runs n (forSearch code text 0 p text.size false) m'∧m'.outcome=some .failed:=by
 have:=F.run p hp
 rwa [hn] at this
theorem Finds.yes {code text:Array Nat} {nx:Nat->Option (Nat×Nat)} (F:Finds code text nx) {p b e:Nat} (hp:p≤text.size) (hn:nx p=some (b,e)):∃n m',n < 2 ^ 64∧Runs n (forSearch code text 0 p text.size false) m'∧m'.outcome=some .matched∧m'.start=b∧m'.handed=e:=by
 have:=F.run p hp
 rwa [hn] at this
noncomputable def gapF (x:PySem.Str) (p b:Nat):List PySem.Str:=if p < b then [⟨x.cps.extract p b⟩] else []
theorem piecesF_no {nx:Nat->Option (Nat×Nat)} {x r:PySem.Str} {f p:Nat} (hn:nx p=none):piecesF nx x r (f+1) p=gapF x p x.cps.size:=by show (match nx p with | none=>gapF x p x.cps.size | some (b,e)=>gapF x p b++r::piecesF nx x r f e)=_; rw [hn]
theorem piecesF_yes {nx:Nat->Option (Nat×Nat)} {x r:PySem.Str} {f p b e:Nat} (hn:nx p=some (b,e)):piecesF nx x r (f+1) p=gapF x p b++r::piecesF nx x r f e:=by show (match nx p with | none=>gapF x p x.cps.size | some (b,e)=>gapF x p b++r::piecesF nx x r f e)=_; rw [hn]
theorem re_fin {x:PySem.Str} {D:Addr} {R:Result->Shared->Prop} {ps:List (PySem.Str×Tok)} {h':Heap} {tk:Nat} (fi:Fits R D s (ps.map (·.1))) (hl:h'.PlainList D (strValues ps).toArray) (hk:KeepD D s.heap h') :
  wpAny (model prog w) A.in1 (do
   let joiner ← reSlice x.cps 0 0 0
   let text ← if ((← seqItems? (.ref D)).getD #[]).isEmpty then pure joiner
    else call (.builtin "str.join") [joiner,.ref D]
   ret text) (LoopQ prog w A R) (λe s'=>R (.error e) s') { s with heap:=h',toks:=tk }:=by
 refine wpAny_bind (m:=reSlice x.cps 0 0 0) ?_
 have e0:reSlice x.cps 0 0 0=mkStr Str.empty:=by
  unfold reSlice
  refine (show (x.cps.extract 0 0)=#[] by simp).symm▸?_
  rfl
 refine e0.symm▸?_
 refine wpAny_mkStr ?_ (by decide)
 obtain ⟨n',ho⟩:=hl
 refine wpAny_bind (wpAny_seqItems ho rfl ?_)
 refine (show ((some (strValues ps).toArray:Option (Array Value)).getD #[])=(strValues ps).toArray from rfl).symm▸?_
 cases ps with
 | nil=>exact wpAny_pure (fi.hR _ h' _ hk)
 | cons q ps =>
  rw [if_neg (by simp [strValues])]
  exact wpAny_bind (wpAny_mono (join_txt (s:={ s with heap:=h',toks:=_ }) ⟨_,ho,rfl,n',rfl⟩ fi.ht (Nat.le_trans fi.hg (by show 1048576≤2 ^ 24; decide)) (Q:=λv s''=>LoopQ prog w A R (.done (.ret v)) s'') (λt' k=>fi.hR t' h' k hk)) (λv s'' h=>wpAny_pure h) λ_ _ (q:False)=>q.elim)
theorem plain_snoc {h:Heap} {D:Addr} {ps:List (PySem.Str×Tok)} {r:PySem.Str} {u:Tok} (hl:h.PlainList D ((strValues ps).toArray.push (.str r u))):h.PlainList D (strValues (ps++[(r,u)])).toArray:=by
 rw [strValues_append]
 simpa [strValues] using hl
theorem str_size {ps:List (PySem.Str×Tok)} {n:Nat} (h:ps.length≤n):(strValues ps).toArray.size≤n:=by rw [List.size_toArray]; unfold strValues; rw [List.length_map]; exact h
theorem re_gap {x:PySem.Str} {D:Addr} {m:Sem Fin} {Q:Fin->Shared->Prop} {E:Value->Shared->Prop} {ps:List (PySem.Str×Tok)} {p b:Nat} (hl:s.heap.PlainList D (strValues ps).toArray) (hps:ps.length≤sizeLine) (hx:x.cps.size≤lim)
  (k:∀ps' h' tk,ps'.map (·.1)=ps.map (·.1)++gapF x p b->ps'.length≤ps.length+1->h'.PlainList D (strValues ps').toArray->KeepD D s.heap h'->wpAny (model prog w) A.in1 m Q E { s with heap:=h',toks:=tk }) :
  wpAny (model prog w) A.in1 (if p < b then reSlice x.cps 0 p b >>= λv=>updateSeq D (·.push v) >>= λ_=>m else m) Q E s:=by
 by_cases hlt:p < b
 ·rw [if_pos hlt]
  refine wpAny_bind (m:=reSlice x.cps 0 p b) (wpAny_mkStr ?_ (by show (x.cps.extract p b).size≤2 ^ 24; rw [Array.size_extract]; exact Nat.le_trans (Nat.sub_le _ _) (Nat.le_trans (Nat.min_le_right _ _) (Nat.le_trans hx (by decide)))))
  exact wpAny_bind (push_plain hl (str_size hps) λh' hl' sb=>k (ps++[(⟨x.cps.extract p b⟩,s.toks)]) h' _ (by rw [List.map_append]; unfold gapF; rw [if_pos hlt]; rfl) (by rw [List.length_append]; exact Nat.le_refl _) (plain_snoc hl') λb o hb e=>sb.extBut b o hb e)
 ·rw [if_neg hlt]
  exact k ps s.heap s.toks (by unfold gapF; rw [if_neg hlt,List.append_nil]) (Nat.le_succ _) hl λ_ _ _ e=>e
noncomputable def loopTail (pa D:Addr) (x r:PySem.Str) (t u:Tok) (n:Int) (e:Nat) (b:Bool):Sem Fin:=updateSeq D (·.push (.str r u)) >>= λ_=>again (.builtin "re.Pattern.sub.loop" ⟨[.ref pa,.str x t,.str r u,rawInt 0,rawInt 0,rawInt n,rawInt e,rawInt e,.bool b,.ref D,.bool false],[]⟩)
theorem re_loop {pa ca D:Addr} {code:Array Nat} {x r:PySem.Str} {t u:Tok} {nx:Nat->Option (Nat×Nat)} {R:Result->Shared->Prop} (F:Finds code x.cps nx) (hpD:pa≠D) (hcD:ca≠D) (hx:x.cps.size≤lim) :
  ∀(f p:Nat) (n:Int) (ps:List (PySem.Str×Tok)) (s:Shared),x.cps.size - p < f->p≤x.cps.size->Pat s.heap pa ca code->s.heap.PlainList D (strValues ps).toArray->ps.length+2*f≤4*lim->Fits R D s (ps.map (·.1)++piecesF nx x r f p) ->
   codeAny (model prog w) A (.builtin "re.Pattern.sub.loop" ⟨[.ref pa,.str x t,.str r u,rawInt 0,rawInt 0,rawInt n,rawInt p,rawInt p,.bool false,.ref D,.bool false],[]⟩) R s
 | 0,p,n,ps,s,hf,_,_,_,_,_=>absurd hf (Nat.not_lt_zero _)
 | f+1,p,n,ps,s,hf,hp,P,hl,hsz,fi=>by
  have hps:ps.length≤sizeLine:=by show _≤2 ^ 24; exact Nat.le_trans (Nat.le_add_right _ _) (Nat.le_trans hsz (by decide))
  refine codeAny_builtin entry_re_loop ?_
  refine (Around.under_plainId plain_re_loop _).symm▸?_
  skip
  skip
  refine wpAny_bind (whole_ok P ?_)
  skip
  refine wpAny_bind (m:=reLiteralCannotBeTurned (.str r u)) (wpAny_pure ?_)
  skip
  skip
  rw [Int.toNat_natCast]
  cases hn:nx p with
  | none =>
   refine cps λ_ KK=>?_
   obtain ⟨k,m',hk,hr,hq⟩:=F.no hp hn
   refine KK ?_
   refine wpAny_bind (toEnd_ok hr hk (.inr hq) ?_)
   refine hq.symm▸?_
   replace fi:=(piecesF_no hn)▸fi
   exact re_gap hl hps hx λps' h' tk hm _ hl' hk'=>re_fin (x:=x) (hm▸fi) hl' hk'
  | some be =>
   refine cps λ_ KK=>?_
   obtain ⟨b,e⟩:=be
   obtain ⟨k,m',hk,hr,q1,q2,q3⟩:=F.yes hp hn
   obtain ⟨m1,m2,m3⟩:=F.mono p _ _ hn
   refine KK ?_
   refine wpAny_bind (toEnd_ok hr hk (.inl q1) ?_)
   refine q1.symm▸?_
   replace fi:=(piecesF_yes hn)▸fi
   show wpAny _ _ (if p < m'.start then reSlice x.cps 0 p m'.start >>= λv=>updateSeq D (·.push v) >>= λ_=>loopTail pa D x r t u (n+1) m'.handed (m'.handed==m'.start) else loopTail pa D x r t u (n+1) m'.handed (m'.handed==m'.start)) _ _ _
   refine q2.symm▸q3.symm▸(show (e==b)=false from beq_false_of_ne (Nat.ne_of_gt m2)).symm▸?_
   refine re_gap hl hps hx λps' h' tk hm hl2 hl' hk'=>?_
   refine wpAny_bind (push_plain hl' (str_size (by show _≤2 ^ 24; unfold lim at hsz; lia)) λh'' hl'' sb=>wpAny_pure ⟨plainId_quiet plain_re_loop _,?_⟩)
   have hk'':KeepD D s.heap h'':=λb o hb e=>sb.extBut b o hb (hk' b o hb e)
   have e1:(ps'++[(r,u)]).map (·.1)++piecesF nx x r f e=ps.map (·.1)++(gapF x p b++r::piecesF nx x r f e):=by
    rw [List.map_append,hm,List.append_assoc,List.append_assoc]; rfl
   refine re_loop F hpD hcD hx f e (n+1) (ps'++[(r,u)]) { s with heap:=h'',toks:=tk } (by (exact ar5 (by assumption) (Nat.lt_of_le_of_lt (by assumption) (by assumption)) (by assumption))) m3 (P.keep (λo=>hk'' pa o hpD) (λo=>hk'' ca o hcD)) (plain_snoc hl'') (by rw [List.length_append,List.length_singleton]; lia) ?_
   refine e1.symm▸?_
   exact ⟨fi.hg,fi.ht,λt' h_3 tk_3 hk_3=>fi.hR t' h_3 tk_3 λb o hb e=>hk_3 b o hb (hk'' b o hb e)⟩
end
theorem glued_fold:∀(l:List PySem.Str) (a:Array Nat),(l.foldl (λacc p=>acc++Str.empty.cps++p.cps) a).toList=a.toList++(l.map λx=>x.cps.toList).flatten
 | [],a=>(List.append_nil _).symm
 | x::r,a=>by rw [List.foldl_cons,glued_fold r]; simp [Str.empty]
theorem glued_list (ss:List PySem.Str):(glued Str.empty ss).cps.toList=(ss.map λx=>x.cps.toList).flatten:=by
 cases ss with
 | nil=>rfl
 | cons x r=>exact glued_fold r x.cps
theorem ext_list (x:Array Nat) (a b:Nat):(x.extract a b).toList=(x.toList.drop a).take (b - a):=by simp [List.extract]
theorem gap_list (x:PySem.Str) (p b:Nat):((gapF x p b).map λy=>y.cps.toList).flatten=(x.cps.toList.drop p).take (b - p):=by
 unfold gapF
 by_cases h:p < b
 ·rw [if_pos h]
  exact (List.append_nil _).trans (ext_list _ _ _)
 ·rw [if_neg h,Nat.sub_eq_zero_of_le (Nat.le_of_not_lt h)]
  rfl
theorem pieces_flat {x r:PySem.Str} {nx:Nat->Option (Nat×Nat)} {G:Nat->List Nat} (h0:∀p,nx p=none->G p=x.cps.toList.drop p) (h1:∀p b e,nx p=some (b,e)->p≤b∧b < e∧e≤x.cps.size∧G p=(x.cps.toList.drop p).take (b - p)++(r.cps.toList++G e)) :
  ∀(f p:Nat),x.cps.size - p < f->((piecesF nx x r f p).map λy=>y.cps.toList).flatten=G p
 | 0,p,h=>absurd h (Nat.not_lt_zero _)
 | f+1,p,h=>by
  cases hn:nx p with
  | none=>rw [piecesF_no hn,gap_list,h0 p hn,List.take_of_length_le (List.length_drop.symm▸Array.length_toList.symm▸Nat.le_refl _)]
  | some be =>
   obtain ⟨m1,m2,m3,hG⟩:=h1 p be.1 be.2 hn
   rw [piecesF_yes (b:=be.1) (e:=be.2) hn,hG,List.map_append,List.flatten_append,List.map_cons,List.flatten_cons,pieces_flat h0 h1 f be.2 (by (exact ar5 (by assumption) (Nat.lt_of_le_of_lt (by assumption) (by assumption)) (by assumption))),gap_list]
noncomputable def sub2L:List Nat->List Nat
 | []=>[]
 | [c]=>if c==10||c==13 then [13,10] else [c]
 | c::c'::r=>if c==10||c==13 then 13::10::(if c==13&&c'==10 then sub2L r else sub2L (c'::r)) else c::sub2L (c'::r)
theorem sub_step {b s:Nat} (h:s+1≤b):b - s=(b - (s+1))+1:=by (exact ar7 (by assumption))
theorem le_step {e s n:Nat} (h:e≤s+1+n):e≤s+(n+1):=by lia
theorem ite_no {α:Type} {c:Prop} [Decidable c] {x:α} {o:Option α} {C:Prop} (e:(if c then some x else o)=none) (k:¬ c->o=none->C):C:=by
 by_cases h:c
 ·rw [if_pos h] at e; exact nso e
 ·rw [if_neg h] at e; exact k h e
theorem sub2_none:∀(l:List Nat) (s:Nat),nl2 l s=none->sub2L l=l
 | [],_,_=>rfl
 | [c],s,h=>ite_no (show (if (c==10||c==13)=true then some (s,s+1) else none)=none from h) λhc _=>if_neg hc
 | c::c'::r,s,h=>ite_no (show (if (c==10||c==13)=true then some (s,if (c==13&&c'==10)=true then s+2 else s+1) else nl2 (c'::r) (s+1))=none from h) λhc h=>by
  rw [sub2L.eq_3,if_neg hc,sub2_none (c'::r) (s+1) h]
inductive Fnd (S:List Nat->List Nat) (w l:List Nat) (s b e:Nat):Prop
 | mk:s≤b->b < e->e≤s+l.length->S l=l.take (b - s)++(w++sub2L (l.drop (e - s)))->Fnd S w l s b e
theorem sub2_some:∀(l:List Nat) (s b e:Nat),nl2 l s=some (b,e)->Fnd sub2L [13,10] l s b e
 | [],_,_,_,h=>nos h
 | [c],s,b,e,h=>ite_inv (show (if (c==10||c==13)=true then some (s,s+1) else none)=some (b,e) from h) λhc q=>by
  refine ((Prod.mk.inj q).1)▸((Prod.mk.inj q).2)▸?_
  exact ⟨Nat.le_refl _,Nat.lt_succ_self _,Nat.le_refl _,by rw [Nat.sub_self,Nat.add_sub_cancel_left]; exact if_pos hc⟩
 | c::c'::r,s,b,e,h=>ite_or (show (if (c==10||c==13)=true then some (s,if (c==13&&c'==10)=true then s+2 else s+1) else nl2 (c'::r) (s+1))=some (b,e) from h) (λhc q=>by
  refine ((Prod.mk.inj q).1)▸((Prod.mk.inj q).2)▸?_
  by_cases q:(c==13&&c'==10)=true
  ·refine (if_pos q).symm▸?_
   exact ⟨Nat.le_refl _,Nat.lt_add_of_pos_right (by decide),Nat.add_le_add_left (Nat.le_add_left 2 _) s,by rw [sub2L.eq_3,if_pos hc,if_pos q,Nat.sub_self,Nat.add_sub_cancel_left]; rfl⟩
  ·refine (if_neg q).symm▸?_
   exact ⟨Nat.le_refl _,Nat.lt_succ_self _,Nat.add_le_add_left (Nat.le_add_left 1 _) s,by rw [sub2L.eq_3,if_pos hc,if_neg q,Nat.sub_self,Nat.add_sub_cancel_left]; rfl⟩) λhc h=>by
  obtain ⟨h1,h2,h3,h4⟩:=sub2_some (c'::r) (s+1) b e h
  refine ⟨Nat.le_of_succ_le h1,h2,le_step h3,?_⟩
  rw [sub2L.eq_3,if_neg hc,h4,sub_step h1,sub_step (Nat.le_trans h1 (Nat.le_of_lt h2))]
  rfl
theorem len2 {a n:Nat} (h:a≤2*n):a+1≤2*(n+1):=Nat.succ_le_succ (Nat.le_succ_of_le h)
theorem len3 {a n:Nat} (h:a≤2*n):a+1+1≤2*(n+1):=Nat.succ_le_succ (Nat.succ_le_succ h)
theorem sub2_len:∀(l:List Nat),(sub2L l).length≤2*l.length
 | []=>Nat.le_refl _
 | [c]=>by
  by_cases h:(c==10||c==13)=true
  ·rw [show sub2L [c]=[13,10] from if_pos h]; exact Nat.le_refl _
  ·rw [show sub2L [c]=[c] from if_neg h]; exact Nat.le_succ 1
 | c::c'::r=>by
  rw [sub2L.eq_3]
  by_cases h:(c==10||c==13)=true
  ·rw [if_pos h]
   by_cases h2:(c==13&&c'==10)=true
   ·rw [if_pos h2]; exact len3 (Nat.le_succ_of_le (Nat.le_succ_of_le (sub2_len r)))
   ·rw [if_neg h2]; exact len3 (sub2_len (c'::r))
  ·rw [if_neg h]; exact len2 (sub2_len (c'::r))
noncomputable def sub1L:Bool->List Nat->List Nat
 | _,[]=>[]
 | b,c::r=>if b&&c==46 then 46::46::sub1L false r else c::sub1L (c==10) r
theorem sub1_none:∀(l:List Nat) (b:Bool) (s:Nat),fnd1 l b s=none->sub1L b l=l
 | [],_,_,_=>rfl
 | c::r,b,s,h=>ite_no (show (if (b&&c==46)=true then some s else fnd1 r (c==10) (s+1))=none from h) λhc h=>by
  exact (show sub1L b (c::r)=c::sub1L (c==10) r from if_neg hc).symm▸(sub1_none r _ (s+1) h).symm▸rfl
inductive Fnd1 (b:Bool) (l:List Nat) (s k:Nat):Prop
 | mk:s≤k->k+1≤s+l.length->l[k - s]?=some 46->sub1L b l=l.take (k - s)++([46,46]++sub1L false (l.drop (k+1 - s)))->Fnd1 b l s k
theorem sub1_some:∀(l:List Nat) (b:Bool) (s k:Nat),fnd1 l b s=some k->Fnd1 b l s k
 | [],_,_,_,h=>nos h
 | c::r,b,s,k,h=>ite_or (show (if (b&&c==46)=true then some s else fnd1 r (c==10) (s+1))=some k from h) (λhc q=>by
  refine q▸?_
  have h46:c=46:=eq_of_beq ((Bool.and_eq_true _ _).mp hc).2
  exact ⟨Nat.le_refl _,Nat.add_le_add_left (Nat.le_add_left 1 _) s,by rw [Nat.sub_self,h46]; rfl,by rw [Nat.sub_self,Nat.add_sub_cancel_left]; exact if_pos hc⟩) λhc h=>by
  obtain ⟨h1,h2,h3,h4⟩:=sub1_some r _ (s+1) k h
  refine ⟨Nat.le_of_succ_le h1,le_step h2,(sub_step h1).symm▸h3,?_⟩
  refine (show sub1L b (c::r)=c::sub1L (c==10) r from if_neg hc).symm▸h4.symm▸(sub_step h1).symm▸(sub_step (Nat.le_succ_of_le h1)).symm▸?_
  rfl
theorem sub1_len:∀(l:List Nat) (b:Bool),(sub1L b l).length≤2*l.length
 | [],_=>Nat.le_refl _
 | c::r,b=>by
  by_cases h:(b&&c==46)=true
  ·rw [show sub1L b (c::r)=46::46::sub1L false r from if_pos h]; exact len3 (sub1_len r false)
  ·rw [show sub1L b (c::r)=c::sub1L (c==10) r from if_neg h]; exact len2 (sub1_len r _)
noncomputable def nx2 (text:Array Nat) (p:Nat):Option (Nat×Nat):=nl2 (text.toList.drop p) p
noncomputable def nx1 (text:Array Nat) (p:Nat):Option (Nat×Nat):=(fnd1 (text.toList.drop p) (bol text p) p).map λb=>(b,b+1)
theorem drop_inv {α:Type} {text:Array Nat} {p:Nat} {f:List Nat->Option α} {y:α} (h0:f []=none) (h:f (text.toList.drop p)=some y):p≤text.size:=by
 refine Nat.le_of_not_lt λq=>?_
 rw [List.drop_eq_nil_of_le (show text.toList.length≤p from Nat.le_of_lt q),h0] at h
 exact nos h
theorem end_le {text:Array Nat} {p e:Nat} (hp:p≤text.size) (h:e≤p+(text.toList.drop p).length):e≤text.size:=by
 rwa [List.length_drop,Array.length_toList,Nat.add_sub_cancel' hp] at h
theorem finds2 (text:Array Nat) (hs:text.size≤lim):Finds code2 text (nx2 text) where
 run:=λp hp=>(search2 (text:=text) hp).elim λn q=>q.elim λm' q=>⟨n,m',Nat.lt_of_le_of_lt q.1 (by decide),q.2.1,q.2.2⟩
 mono:=λp b e h=>(sub2_some _ p b e h).rec λh1 h2 h3 _=>⟨h1,h2,end_le (drop_inv (f:=λl=>nl2 l p) rfl h) h3⟩
theorem nx1_inv {text:Array Nat} {p b e:Nat} (h:nx1 text p=some (b,e)):fnd1 (text.toList.drop p) (bol text p) p=some b∧b+1=e:=by
 obtain ⟨k,hk,hke⟩:=Option.map_eq_some_iff.mp h
 exact ⟨hk.trans (congrArg some (Prod.mk.inj hke).1),(Prod.mk.inj hke).1▸(Prod.mk.inj hke).2⟩
theorem finds1 (text:Array Nat) (hs:text.size≤lim):Finds code1 text (nx1 text) where
 run:=λp hp=>by
  obtain ⟨n,m',hn,hr,hq⟩:=search1 (text:=text) hp
  refine ⟨n,m',by unfold lim at hs; lia,hr,?_⟩
  unfold nx1
  cases hf:fnd1 (text.toList.drop p) (bol text p) p with
  | none=>rw [hf] at hq; exact hq
  | some b=>rw [hf] at hq; exact hq
 mono:=λp b e h=>by
  obtain ⟨hk,he⟩:=nx1_inv h
  obtain ⟨h1,h2,h3,_⟩:=sub1_some _ _ p _ hk
  refine he▸?_
  exact ⟨h1,Nat.lt_succ_self _,end_le (drop_inv (f:=λl=>fnd1 l (bol text p) p) rfl hk) h2⟩
noncomputable def G2 (text:Array Nat) (p:Nat):List Nat:=sub2L (text.toList.drop p)
noncomputable def G1 (text:Array Nat) (p:Nat):List Nat:=sub1L (bol text p) (text.toList.drop p)
theorem flat2 (x:PySem.Str) (hs:x.cps.size≤lim):((piecesF (nx2 x.cps) x ⟨⟨[13,10]⟩⟩ (x.cps.size+1) 0).map λy=>y.cps.toList).flatten=sub2L x.cps.toList:=by
 refine pieces_flat (G:=G2 x.cps) (λp h=>sub2_none _ p h) (λp b e h=>?_) (x.cps.size+1) 0 (Nat.lt_succ_self _)
 obtain ⟨m1,m2,m3⟩:=(finds2 x.cps hs).mono p b e h
 obtain ⟨_,_,_,h4⟩:=sub2_some _ p b e h
 refine ⟨m1,m2,m3,?_⟩
 unfold G2
 exact h4.symm▸List.drop_drop.symm▸(Nat.add_sub_cancel' (Nat.le_trans m1 (Nat.le_of_lt m2))).symm▸rfl
theorem bol_dot {x:Array Nat} {b:Nat} (h:x[b]?=some 46):bol x (b+1)=false:=by
 obtain ⟨hlt,he⟩:=Array.getElem?_eq_some_iff.mp h
 have e:x.getD b 0=46:=he▸dif_pos hlt
 unfold bol
 rw [Nat.add_sub_cancel,e]
 rfl
theorem flat1 (x:PySem.Str) (hs:x.cps.size≤lim):((piecesF (nx1 x.cps) x ⟨⟨[46,46]⟩⟩ (x.cps.size+1) 0).map λy=>y.cps.toList).flatten=sub1L true x.cps.toList:=by
 refine pieces_flat (G:=G1 x.cps) (λp h=>sub1_none _ _ p (Option.map_eq_none_iff.mp h)) (λp b e h=>?_) (x.cps.size+1) 0 (Nat.lt_succ_self _)
 obtain ⟨m1,m2,m3⟩:=(finds1 x.cps hs).mono p b e h
 obtain ⟨hk,he⟩:=nx1_inv h
 obtain ⟨_,_,h3,h4⟩:=sub1_some _ _ p _ hk
 refine ⟨m1,m2,m3,?_⟩
 rw [List.getElem?_drop,Nat.add_sub_cancel' m1,Array.getElem?_toList] at h3
 unfold G1
 exact h4.symm▸he.symm▸List.drop_drop.symm▸(Nat.add_sub_cancel' (Nat.le_trans m1 (Nat.le_of_lt m2))).symm▸he▸(bol_dot h3).symm▸rfl
theorem str_no_call:typeLookup (.type "str") "__call__"=pure none:=by rw [typeLookup_type,builtinLookup_eq_fast]; kernel_rfl
theorem re_named (r x:Value):reNamed "re.Pattern.sub" "sub" ["repl","string","count"] 2 [r,x] []=pure [some r,some x,none]:=by kernel_rfl
structure SubOK (code:Array Nat) (nx:Array Nat->Nat->Option (Nat×Nat)) (r:PySem.Str) (f:List Nat->List Nat):Prop where
 finds:∀text:Array Nat,text.size≤lim->Finds code text (nx text)
 flat:∀x:PySem.Str,x.cps.size≤lim->((piecesF (nx x.cps) x r (x.cps.size+1) 0).map λy=>y.cps.toList).flatten=f x.cps.toList
 len:∀l,(f l).length≤2*l.length
 plain:r.cps.contains 92=false
theorem sub2_ok:SubOK code2 nx2 ⟨⟨[13,10]⟩⟩ sub2L:=⟨finds2,flat2,sub2_len,by decide +kernel⟩
theorem sub1_ok:SubOK code1 nx1 ⟨⟨[46,46]⟩⟩ (sub1L true):=⟨finds1,flat1,λl=>sub1_len l true,by decide +kernel⟩
theorem fold_len (ss:List PySem.Str):ss.toArray.foldl (·+·.length+Str.empty.length) 0=((ss.map λy=>y.cps.toList).flatten).length:=by
 have main:∀(l:List PySem.Str) (n:Nat),l.foldl (λa y=>a+y.length+Str.empty.length) n=n+((l.map λy=>y.cps.toList).flatten).length:=by
  intro l
  induction l with
  | nil=>intro n; simp
  | cons y r ih =>
   intro n
   rw [List.foldl_cons,ih,List.map_cons,List.flatten_cons,List.length_append]
   have:Str.empty.length=0:=rfl
   have h2:y.cps.toList.length=y.length:=by show _=y.cps.size; exact Array.length_toList
   lia
 have:=main ss 0
 simp only [Nat.zero_add] at this
 refine this▸?_
 simp
section
variable {prog:Program} {w:World} {A:Around}
theorem meets_re_sub {pa ca:Addr} {code:Array Nat} {nx:Array Nat->Nat->Option (Nat×Nat)} {f:List Nat->List Nat} {r x:PySem.Str} {t u:Tok} (S:SubOK code nx r f) (hx:4*x.cps.size≤lim) :
  Meets (Builtin.«re.Pattern.sub» ⟨[.ref pa,.str r u,.str x t],[]⟩) (λ_ R s=>Pat s.heap pa ca code∧∀t' h' tk,(∀b o,s.heap.get? b=some o->h'.get? b=some o)->R (.ok (.ret (.str ⟨⟨f x.cps.toList⟩⟩ t'))) { s with heap:=h',toks:=tk }):=by
 intro prog w A R s ⟨P,hR⟩
 have hx1:x.cps.size≤lim:=by lia
 skip
 show wpAny _ _ (reNamed "re.Pattern.sub" "sub" ["repl","string","count"] 2 [.str r u,.str x t] [] >>= _) _ _ _
 rw [re_named]
 refine wpAny_bind (wpAny_pure ?_)
 refine wpAny_bind (m:=(pure 0:Sem Int)) (wpAny_pure ?_)
 refine wpAny_bind (wpAny_specialOf (typeIs_str _ _ _) str_no_call ?_)
 refine wpAny_bind (m:=asStr? (.str r u)) (wpAny_pure ?_)
 refine wpAny_bind (m:=(pure (!r.cps.contains 92):Sem Bool)) (wpAny_pure ?_)
 refine S.plain.symm▸?_
 refine wpAny_bind (m:=(pure (Value.str r u,(0:Int)):Sem (Value×Int))) (wpAny_pure ?_)
 refine wpAny_bind (wpAny_holding (whole_ok P ?_))
 refine wpAny_bind (wpAny_newList ?_ (by show 0≤_; (exact Nat.le_add_left _ _)))
 refine wpAny_pure ⟨plainId_quiet plain_re_loop _,?_⟩
 refine cps λ_ KK=>?_
 obtain ⟨o,oc,y,t0,t1,t2,t3,fl,vs,n,h1,h2,h3,h4,h5,h6,h7⟩:=P.ex
 refine KK ?_
 have kp:∀b o,s.heap.get? b=some o->(s.heap.push { cls:=.type "list",data:=.seq ([]:List Value).toArray }).get? b=some o:=λb o e=>Heap.get?_push_of_some _ e
 have hp:pa≠s.heap.objs.size:=Nat.ne_of_lt (Heap.lt_size h1)
 have hc:ca≠s.heap.objs.size:=Nat.ne_of_lt (Heap.lt_size h5)
 have fl:=S.flat x hx1
 have hg:(glued Str.empty (piecesF (nx x.cps) x r (x.cps.size+1) 0))=⟨⟨f x.cps.toList⟩⟩:=by
  rw [← fl,← glued_list]
 have hlen:(f x.cps.toList).length≤2*x.cps.size:=by
  have:=S.len x.cps.toList
  rwa [show x.cps.toList.length=x.cps.size from Array.length_toList] at this
 refine re_loop (S.finds x.cps hx1) hp hc hx1 (x.cps.size+1) 0 0 [] { s with heap:=s.heap.push { cls:=.type "list",data:=.seq ([]:List Value).toArray } } (by (exact Nat.le_refl _)) (Nat.zero_le _) (P.keep (λo e=>kp _ o e) λo e=>kp _ o e) ⟨0,Heap.get?_push_size _ rfl⟩ (by simp only [List.length_nil]; unfold lim at *; lia) ?_
 rw [List.map_nil,List.nil_append]
 refine ⟨?_,?_,λt' h' tk hk=>?_⟩
 ·refine hg.symm▸?_
  exact Nat.le_trans hlen (Nat.le_trans (Nat.mul_le_mul_right _ (by decide)) hx)
 ·rw [fold_len,fl]
  exact decide_eq_false (Nat.not_lt.mpr (Nat.le_trans hlen (Nat.le_trans (Nat.le_trans (Nat.mul_le_mul_right _ (by decide)) hx) (by decide))))
 ·refine hg.symm▸?_
  exact hR t' h' tk λb o e=>hk b o (λq=>Nat.lt_irrefl _ (Heap.lt_size (q▸e))) (kp b o e)
noncomputable def reD (f:List Nat->List Nat) (x:PySem.Str):Option PyData:=if 4*x.cps.size≤lim∧PyData.strOk (⟨⟨f x.cps.toList⟩⟩:PySem.Str)=true then some (.str ⟨⟨f x.cps.toList⟩⟩) else none
theorem re_sub_ok {s:Shared} {pa ca:Addr} {code:Array Nat} {nx:Array Nat->Nat->Option (Nat×Nat)} {f:List Nat->List Nat} {r x:PySem.Str} {t u:Tok} {d:PyData} {P:Addr->Prop} (S:SubOK code nx r f) (hP:Pat s.heap pa ca code) (e:reD f x=some d) :
  wpAny (model prog w) A (call (.builtin "re.Pattern.sub") [.ref pa,.str r u,.str x t]) (NewD s d P) noE s:=by
 refine ite_inv e λh e=>?_
 refine cps λ_ KK=>?_
 obtain ⟨o,oc,y,t0,t1,t2,t3,fl,vs,n,h1,h2,h3,h4,h5,h6,h7⟩:=id hP.ex
 refine KK ?_
 exact call_meets slot_re_sub ⟨o,h1,h2⟩ entry_re_sub (args_re_sub _ _ _) (meets_re_sub S h.1) ⟨hP,λt' h' tk k=>e▸⟨h',tk,[],rfl,k,.str _ _ h.2,(λ_ h=>nin h),(λ_ h=>nos h)⟩⟩
end
end Mine
end
section
open PySem PySem.Calls PySem.W PyProof.Rows
namespace Mine
section
variable {prog:Program} {w:World} {K:Addr->Option Obj} {fx:Fx} {mg mb:Str->Option Value} {A:Around}
theorem Ev.globStr (gl:Gl K mg mb) {x y:Str} {t:Tok} {pos:Pos} {l:List Nat} (hk:fx.sc.names.lookup x=some .globalImplicit) (hg:mg x=some (.str y t)) (hy:y=⟨⟨l⟩⟩) (ho:PyData.strOk y=true) (hd:(x==("__debug__":Str))=false:=by decide) :
  Ev prog w K fx (.Name x pos) (λσ=>some (.dat (.str ⟨⟨l⟩⟩),σ.hp)):=.mk λA ρ Z σ s pv hp' _ R e=>by
 cases e
 subst hy
 exact global_name gl R hk (.inl hg) (Post.of_toks (t:=s.toks) R.hr ⟨[],.str _ _ ho,λ_ h=>nin h⟩) hd
noncomputable def subNF (r:Str) (f:List Nat->List Nat) (F1 F2:EF):NF:=bindE F1 λa=>bindE F2 λb σ=>match a,b with
 | .dat (.str r'),.dat (.str x)=>if r'=r then match reD f x with
  | some d=>some (d,σ.hp)
  | none=>none else none
 | _,_=>none
theorem subN_inv {r:Str} {f:List Nat->List Nat} {a b:PV} {σ:St} {d:PyData} {hp':List MO} {C:Prop} (e:(match a,b with
  | .dat (.str r'),.dat (.str x)=>if r'=r then match reD f x with
   | some d=>some (d,σ.hp)
   | none=>none else none
  | _,_=>none)=some (d,hp')) (k:∀x,a=.dat (.str r)->b=.dat (.str x)->reD f x=some d->hp'=σ.hp->C):C:=by
 cases a with
 | dat u=>cases u with
  | str r'=>cases b with
   | dat v=>cases v with
    | str x =>
     refine iteo (show (if r'=r then (match reD f x with | some d=>some (d,σ.hp) | none=>none) else none)=some (d,hp') from e) λhr e=>?_
     cases h:reD f x with
     | none=>rw [h] at e; exact nos e
     | some d'=>rw [h] at e; exact k x (hr▸rfl) rfl ((sop e).1▸h) (sop e).2.symm
    | _=>exact nos e
   | _=>exact nos e
  | _=>exact nos e
 | _=>exact nos e
theorem EvN.reSub (gl:Gl K mg mb) {g:Str} {pa ca:Addr} {code:Array Nat} {nx:Array Nat->Nat->Option (Nat×Nat)} {f:List Nat->List Nat} {r:Str} {e1 e2:Expr} {np apos pos:Pos} {F1 F2:EF} (S:SubOK code nx r f) (hP:∀h,TopOK K h->Pat h pa ca code)
  (hk:fx.sc.names.lookup g=some .globalImplicit) (hg:mg g=some (.ref pa)) (h1:Ev prog w K fx e1 F1) (h2:Ev prog w K fx e2 F2) (mc:MC fx.env (.Name g np) "sub" apos [e1,e2] pos) (hd:(g==("__debug__":Str))=false:=by decide)
  (hs:∀env,starEach [e1,e2] env=(false,eval e1 env)::starEach [e2] env:=by intro _; rfl) (hs2:∀env,starEach [e2] env=[(false,eval e2 env)]:=by intro _; rfl) :
  EvN prog w K fx (.Call (.Attribute (.Name g np) "sub" apos) [e1,e2] [] pos) (subNF r f F1 F2):=.mk λA ρ Z σ s d hp' Rm R q=>by
 obtain ⟨pl,mc⟩:=mc
 refine MethodCall_ (global_name gl R hk (.inl hg) ?_ hd) mc
 obtain ⟨o,oc,y,t0,t1,t2,t3,fl,vs,n,e1',e2',e3',_⟩:=(hP s.heap R.top).ex
 refine getMethod_builtin ⟨o,e1',e2'⟩ plainAttrs_re slot_re_sub type_re_sub (λa e=>by cases e; exact ⟨o,e1',e3'⟩) ?_
 refine callWith_method1 (wpAny_items_cons (h1.then Rm R q λa va hp1 ρ_1 s_1 q1 x_1 v_1 R_1=>wpAny_items_cons (h2.then Rm R_1 q1 λb vb hp2 ρ_2 s_2 q2 x_2 v_2 R_2=>wpAny_items_nil ?_) (hs2 _)) (hs _)) (hs _) (by rw [hs2]; rfl)
 refine subN_inv q2 λx ha hb hd' hh=>?_
 refine cps λ_ KK=>?_
 obtain ⟨as,ra,_⟩:=VR.ext (Z:=Z) x_2 (noX) (ha▸v_1:VR ρ_1 Z s_1.heap (.dat (.str r)) va)
 obtain ⟨bs,rb,_⟩:=(hb▸v_2:VR ρ_2 Z s_2.heap (.dat (.str x)) vb)
 obtain ⟨t,ea,_⟩:=ra.str_
 obtain ⟨u,eb,_⟩:=rb.str_
 refine KK ?_
 refine ea.symm▸eb.symm▸hh.symm▸?_
 exact wpAny_mono (re_sub_ok (P:=λ_=>False) S (hP _ R_2.top) hd') (λv s_3 n=>⟨_,_,_,x_1.trans x_2,R_2.hr,n,λ_ h=>h.elim⟩) λ_ _ q=>q
end
section
variable {prog:Program} {w:World} {A:Around} {E:Value->Shared->Prop} {s:Shared}
theorem pyNext_genQ {a:Addr} {g n:Nat} {gs:GenState} {P:Nat->Shared->Shared->Prop} {Y:Protocol} {Q:Option Value->Shared->Prop} (hh:A.handled=none)
  (hl:s.heap.NoLimit) (hroom:A.depth < recursionLimit)
  (hg:s.heap.IsGen a g) (hgs:s.gens[g]?=some gs)
  (hgo:gs.Goes (model prog w) A.in1 (λn s_0 r s_1=>r=.ok (.ret .none)∧P n s_0 s_1) Y n (.send .none) (s.setGen g .running))
  (hY:∀v s_1 gs',gs'.bare=true->Y (n - 1) (s.setGen g .running) v s_1 (λr' s''=>match n with
    | 0=>False
    | m+1=>gs'.Goes (model prog w) A.in1 (λn s_0 r s_1=>r=.ok (.ret .none)∧P n s_0 s_1) Y m r' s'')->Q (some v) (s_1.setGen g gs'))
  (hP:∀s_1,P n (s.setGen g .running) s_1->∀h',(∀b o,s_1.heap.get? b=some o->h'.get? b=some o)->Q none { s_1.setGen g .finished with heap:=h' }) :
  wpAny (model prog w) A (pyNext (.ref a)) Q E s:=by
 skip
 refine wpAny_bind (wpAny_attempt (wpAny_callSpecial?_slot (name:=Str.ofString "__next__") hg.typeIs slot_gen_next
  (wpAny_call_entry slot_gen_next hg.typeIs entry_gen_next ?_ (args_gen_next _))))
 show wpAny _ A.in1 (Builtin.Generator.genWake (.ref a) (.send .none)) _ _ s
 unfold Builtin.Generator.genWake
 refine wpAny_bind (wpAny_holding (wpAny_genNumber hg (wpAny_bind (wpAny_genState hgs ?_))))
 cases gs with
 | running=>exact hgo.elim
 | finished=>exact hgo.elim
 | _ =>
  refine wpAny_bind (wpAny_roomToWake hl hroom ?_)
  skip
  refine wpAny_resumeQ hgs hgo (λx s_1 hx=>?_) (λv s_1 gs' hb hv=>?_)
  ·obtain ⟨rfl,hp⟩:=hx
   show wpAny _ A.in1 (newExc (.type "StopIteration") [] >>= _) _ _ _
   refine wpAny_bind ?_
   simp only [newExc,newTuple]
   refine wpAny_bind (wpAny_newObj_type ?_ (by size_fits))
   refine wpAny_bind (m:=firstArgMember _ _) (wpAny_of_eq (a:=Value.none) (by first | rfl | (simp only [firstArgMember]; rfl)) ?_)
   refine wpAny_newObj_type ?_ (by size_fits)
   simp only [raiseNew]
   refine wpAny_bind (wpAny_bind (wpAny_handled ?_))
   first | rw [show A.in1.handled=none from hh] | rw [hh]
   refine wpAny_throw ?_
   refine wpAny_bind (wpAny_isInstance (T:="StopIteration") (b:=true) ⟨_,Heap.get?_push_size _ rfl,rfl⟩ isSubtype_stop ?_)
   exact wpAny_pure (hP s_1 hp _ λb o hb=>Heap.get?_push_of_some _ (Heap.get?_push_of_some _ hb))
  ·exact wpAny_pure ⟨v,rfl,wpAny_pure (hY v s_1 gs' hb hv)⟩
end
section
variable {prog:Program} {w:World} {A:Around} {R:GenEnd} {Y:Protocol} {n:Nat} {s_0:Shared} {c:Code} {fs:List PySem.Frame} {s:Shared} {env:Env}
 {K:Flow->Sem Fin} {H:Value->Sem Fin} {gd:Bool->Bool} {lv:List Value->List Value}
theorem seg_For {target iter:Expr} {body:List Stmt} {pos:Pos}
  (h:wpAny (model prog w) (A.over c fs) (eval iter env) (λx s_1=>wpAny (model prog w) (A.over c fs) (pyIter x) (λit s_2=>∀p,Seg (model prog w) A R Y n s_0 (.forLoop target it body [] env) ((model prog w).den (.forLoop target it body [] env))
   (.ret (λr=>((match r with | .ok f=>(.pure f:Sem Flow) | .error e=>.raise e).onRaise λ(x:Value)=>do
    if (← field x 1)==Value.none then unsupported "frame.own-activation:exception-without-traceback"
    setFlight x env.frame).wrap K H gd lv) none (gd false) (lv []) c p []::fs) s_2) noE s_1) noE s)
  (hs:∀x,foldedSetIterable iter env x=pure x:=by intro _; rfl) :
  Seg (model prog w) A R Y n s_0 c ((exec (.For target iter body [] pos) env).wrap K H gd lv) fs s:=by
 rw [exec_For]
 refine seg_bind_wrap (wpAny_standAt ?_)
 refine seg_bind_wrap (wpAny_mono h (λx s_1 h_1=>?_) λ_ _ q=>q.elim)
 refine seg_bind_wrap (wpAny_of_eq (hs x) ?_)
 refine seg_bind_wrap (wpAny_standAt ?_)
 refine seg_bind_wrap (wpAny_holding (wpAny_mono h_1 (λit s_2 h_2=>?_) λ_ _ q=>q.elim))
 exact seg_call h_2
theorem seg_forTurn {target:Expr} {it:Value} {body:List Stmt}
  (h:wpAny (model prog w) (A.over (.forLoop target it body [] env) fs) (pyNext it) (λr s_1=>match r with
   | none=>Seg (model prog w) A R Y n s_0 (.forLoop target it body [] env) (.pure (.again (.block [] env))) fs s_1
   | some v=>wpAny (model prog w) (A.over (.forLoop target it body [] env) fs) (letOwnedTupleGo target it v) (λ_ s_2=>wpAny (model prog w) (A.over (.forLoop target it body [] env) fs) (assign target env v) (λ_ s_3 =>
     Seg (model prog w) A R Y n s_0 (.forLoop target it body [] env) ((execs body env).wrap (λf=>match f with
      | .next | .cont=>.pure (.again (.forLoop target it body [] env))
      | .brk=>.pure (.done .next)
      | .ret v=>.pure (.done (.ret v))) (λe=>(do noteFrame e env; theTreesLotGoes e:Sem Unit).wrap (λ_=>.raise e) .raise id id) id id) fs s_3) noE s_2) noE s_1) noE s) :
  Seg (model prog w) A R Y n s_0 (.forLoop target it body [] env) ((model prog w).den (.forLoop target it body [] env)) fs s:=by
 show Seg _ A R Y n s_0 _ ((forTurn target it body [] env).onRaise (λx=>do noteFrame x env; theTreesLotGoes x)) fs s
 skip
 rw [Sem.onRaise_eq_wrap]
 refine seg_bind_wrap (wpAny_standAt ?_)
 refine seg_bind_wrap (wpAny_onRaise (wpAny_mono h (λr s_1 h_1=>?_) λ_ _ q=>q.elim))
 cases r with
 | none=>exact h_1
 | some v =>
  refine seg_bind_wrap (wpAny_mono h_1 (λ_ s_2 h_2=>?_) λ_ _ q=>q.elim)
  refine seg_bind_wrap (wpAny_mono h_2 (λ_ s_3 h_3=>?_) λ_ _ q=>q.elim)
  rw [Sem.bind_eq_wrap',Sem.wrap_wrap]
  rw [Sem.wrap_congr (execs body env) _ _ (K':=λf=>match f with
      | .next | .cont=>.pure (.again (.forLoop target it body [] env))
      | .brk=>.pure (.done .next)
      | .ret v=>.pure (.done (.ret v))) (H':=(λe=>(do noteFrame e env; theTreesLotGoes e:Sem Unit).wrap (λ_=>.raise e) .raise id id))
    (λf=>by cases f<;>rfl)
    (λe=>by first | exact Sem.bind_eq_wrap _ _ | (show (do noteFrame e env; theTreesLotGoes e:Sem Unit).bind (λ_=>.raise e)=_; rw [Sem.bind_eq_wrap]))]
  exact h_3
end
noncomputable def scalD:PyData->Bool
 | .none=>true
 | .bool _=>true
 | .int _=>true
 | .str _=>true
 | _=>false
theorem RD.scal {h h':Heap} {v:Value} {d:PyData} {as:List Addr} (r:RD h v d as) (q:scalD d=true):RD h' v d []∧as=[]:=by
 cases r with
 | none=>exact ⟨.none,rfl⟩
 | bool b=>exact ⟨.bool b,rfl⟩
 | int i t=>exact ⟨.int i t,rfl⟩
 | str x t hx=>exact ⟨.str x t hx,rfl⟩
 | _=>exact nft q
noncomputable def scalLoc (loc:Loc):Prop:=∀(i:Nat) (pv:PV),loc[i]?=some (some pv)->∃d,pv=PV.dat d∧scalD d=true
inductive YBI (K:Addr->Option Obj) (ow:List Addr) (out:List PyData) (n:Nat) (s_0:Shared) (v:Value) (s':Shared) (kap:Resume->Shared->Prop):Prop
 | mk (T:Addr) (d:PyData):v=.ref T->out[out.length - 1 - n]?=some d->RD s'.heap (.ref T) d [T]->s_0.heap.get? T=none->T∉ow->Ext ow [] s_0 [] s'->(∀b∈ow,∃o,s'.heap.get? b=some o) ->
  (∀s'':Shared,(∀b∈ow,∀o,s'.heap.get? b=some o->s''.heap.get? b=some o)->TopOK K s''.heap->kap (.send .none) s'')->YBI K ow out n s_0 v s' kap
abbrev YB (K:Addr->Option Obj) (ow:List Addr) (out:List PyData):Protocol:=YBI K ow out
noncomputable def RB (ow:List Addr):GenEnd:=λn s_0 r s_1=>r=.ok (.ret .none)∧(n=0∧Ext ow [] s_0 [] s_1)
section
variable {prog:Program} {w:World} {K:Addr->Option Obj} {fx:Fx} {A:Around} {R:GenEnd} {Y:Protocol} {n:Nat} {s_0:Shared} {c:Code} {fs:List PySem.Frame} {s:Shared} {ow:List Addr} {loc loc':Loc}
 {K':Flow->Sem Fin} {H:Value->Sem Fin} {gd:Bool->Bool} {lv:List Value->List Value}
theorem rho_nil {ρ:Rho} {Z:List Addr} {h:Heap} (H:HR ρ Z [] h):ρ=[]:=by
 have:=H.len
 cases ρ with
 | nil=>rfl
 | cons a r=>cases this
theorem SR.wake {s s'':Shared} (R:SR K fx [] ow ⟨loc,[]⟩ s) (hs:scalLoc loc) (hc:fx.env.cells=[]) (k:∀b∈ow,∀o,s.heap.get? b=some o->s''.heap.get? b=some o) (top:TopOK K s''.heap):SR K fx [] ow ⟨loc,[]⟩ s'':=by
 refine cps λ_ KK=>?_
 obtain ⟨m,cm,hn,hcm,hv⟩:=R.er.ex
 refine KK ?_
 refine ⟨⟨rfl,List.nodup_nil,(λb hb=>nin hb),λa ha=>?_,λi mo e=>by simp at e⟩,⟨⟨m,cm,Ns.keep hn λo e=>k _ (R.er.ownZ _ R.er.lown) o e,λn c e=>?_,λi x pv hi hl=>?_⟩,R.er.fn,R.er.sc,R.er.vinj,R.er.glob,R.er.bi,R.er.lown,R.er.ownZ,R.er.lmut,R.er.cell,R.er.inj⟩,top,R.off⟩
 ·obtain ⟨o,e⟩:=R.hr.liveZ a ha
  exact ⟨o,k a ha o e⟩
 ·rw [hc] at e; cases e
 ·refine cps λ_ KK=>?_
  obtain ⟨v,hs',r⟩:=hv i x pv hi hl
  obtain ⟨d,rfl,hd⟩:=hs i pv hl
  obtain ⟨as,r,q⟩:=r
  refine KK ?_
  exact ⟨v,hs',[],(r.scal hd).1,λ_ h=>nin h⟩
theorem seg_ex {st:Stmt} {F:XF} (h:Ex prog w K fx st F) (Rm:Room (A.over c fs) fx.k) (R0:SR K fx [] ow ⟨loc,[]⟩ s) (q:F ⟨loc,[]⟩=some (.next,⟨loc',[]⟩))
  (k:∀s',Ext fx.own [] s [] s'->SR K fx [] ow ⟨loc',[]⟩ s'->Seg (model prog w) A R Y n s_0 c (K' .next) fs s'):Seg (model prog w) A R Y n s_0 c ((exec st fx.env).wrap K' H gd lv) fs s:=by
 refine seg_wrap (wpAny_mono (h.run _ [] ow _ s _ _ Rm R0 q) (λf s' p=>?_) λ_ _ q=>q.elim)
 obtain ⟨ρ',x,R',rfl⟩:=p
 obtain rfl:=rho_nil R'.hr
 exact k s' x R'
theorem seg_if {test:Expr} {body orelse:List Stmt} {pos:Pos} {F:BF} {b:Bool} (h:Tr prog w K fx test F) (Rm:Room (A.over c fs) fx.k) (R0:SR K fx [] ow ⟨loc,[]⟩ s) (q:F ⟨loc,[]⟩=some (b,[]))
  (k:∀s',Ext [] [] s [] s'->SR K fx [] ow ⟨loc,[]⟩ s'->Seg (model prog w) A R Y n s_0 c ((execs (if b then body else orelse) fx.env).wrap K' H gd lv) fs s') :
  Seg (model prog w) A R Y n s_0 c ((exec (.If test body orelse pos) fx.env).wrap K' H gd lv) fs s:=by
 rw [exec_If]
 refine seg_bind_wrap (wpAny_standAt ?_)
 refine seg_bind_wrap (wpAny_mono (h.run _ [] ow _ s _ _ Rm R0 q) (λb' s' p=>?_) λ_ _ q=>q.elim)
 obtain ⟨rfl,ρ',x,H'⟩:=p
 obtain rfl:=rho_nil H'
 have:=k s' x (R0.next x H')
 cases b'<;>exact this
theorem seg_yieldPair {es:List Expr} {kk:Nat} {tp yp pos:Pos} {G:LF} {a b:PyData} {out:List PyData} (h:EvL prog w K fx es G) (Rm:Room (A.over c fs) fx.k) (R0:SR K fx [] ow ⟨loc,[]⟩ s) (hs:scalLoc loc) (hcl:fx.env.cells=[]) (q:G ⟨loc,[]⟩=some ([.dat a,.dat b],[]))
  (ha:scalD a=true) (hb:scalD b=true) (hfs:splitAtGen fs=none) (hgd:gd false=false) (hfg:fs.any Frame.guarded=false) (hout:out[out.length - 1 - n]?=some (.tuple [a,b])) (xs:Ext ow [] s_0 [] s)
  (hco:fx.env.scope.isCoroutine=false) (hi:interactive fx.env=false)
  (k:∀s'',SR K fx [] ow ⟨loc,[]⟩ s''->(∀s',Ext [] [] s [] s'->(∀b∈ow,∀o,s'.heap.get? b=some o->s''.heap.get? b=some o)->True)->(∀b∈ow,∀o,s.heap.get? b=some o->s''.heap.get? b=some o)->Seg (model prog w) A R (YB K ow out) n s'' c (K' .next) fs s'') :
  Seg (model prog w) A R (YB K ow out) (n+1) s_0 c ((exec (.Expr (.Yield (some (.Tuple es kk tp)) yp) pos) fx.env).wrap K' H gd lv) fs s:=by
 refine seg_Expr_Yield hfs hgd hfg ?_ hco hi
 refine wpAny_Tuple (wpAny_mono (h.run tp _ [] ow _ s _ _ Rm R0 q) (λvs s_1 p=>?_) λ_ _ q=>q.elim)
 refine cps λ_ KK=>?_
 obtain ⟨ρ_1,x_1,V,H_1⟩:=p
 obtain rfl:=rho_nil H_1
 obtain ⟨v1,r1,rfl,⟨as1,ra,_⟩,V⟩:=V.uncons
 obtain ⟨v2,r2,rfl,⟨as2,rb,_⟩,V⟩:=V.uncons
 refine KK ?_
 cases V.unnil
 refine ⟨by show 2≤2 ^ 24; decide,λkap hk=>?_⟩
 have k1:∀b o,s_1.heap.get? b=some o->(s_1.heap.push { cls:=.type "tuple",data:=.seq ([v1,v2]:List Value).toArray }).get? b=some o:=λb o e=>Heap.get?_push_of_some _ e
 have x_2:Ext [] [] s_1 [] { s_1 with heap:=s_1.heap.push { cls:=.type "tuple",data:=.seq ([v1,v2]:List Value).toArray } }:=Ext.of_keep (t:=s_1.toks) k1
 have R_1:=R0.next x_1 H_1
 have R_2:SR K fx [] ow ⟨loc,[]⟩ { s_1 with heap:=s_1.heap.push { cls:=.type "tuple",data:=.seq ([v1,v2]:List Value).toArray } }:=R_1.next x_2 (R_1.hr.keep k1)
 have fT:s_1.heap.get? s_1.heap.objs.size=none:=Heap.get?_none_of_le (Nat.le_refl _)
 have xa:Ext ow [] s_0 [] { s_1 with heap:=s_1.heap.push { cls:=.type "tuple",data:=.seq ([v1,v2]:List Value).toArray } }:=xs.trans ((x_1.trans x_2).weak noX)
 refine ⟨s_1.heap.objs.size,.tuple [a,b],rfl,hout,?_,?_,(R_1.hr.fresh fT).2,xa,R_2.hr.liveZ,λs'' hkeep top=>hk _ _ ?_⟩
 ·have r1:=(ra.scal (h':=s_1.heap.push { cls:=.type "tuple",data:=.seq ([v1,v2]:List Value).toArray }) ha).1
  have r2:=(rb.scal (h':=s_1.heap.push { cls:=.type "tuple",data:=.seq ([v1,v2]:List Value).toArray }) hb).1
  exact .tuple (Heap.get?_push_size _ rfl) rfl rfl (.cons r1 (.cons r2 .nil))
 ·cases e:s_0.heap.get? s_1.heap.objs.size with
  | none=>rfl
  | some o =>
   obtain ⟨o1,e1⟩:=(xs.trans (x_1.weak noX)).live _ o e
   rw [fT] at e1; cases e1
 ·exact k s'' (R_2.wake hs hcl hkeep top) (λ_ _ _=>trivial) λb hb o e=>hkeep b hb o (k1 b o (x_1.heap b o (λh=>nin h) List.not_mem_nil e))
end
noncomputable def genIf (P:Nat->Pos):Stmt:=.If (.Name "escape" (P 0)) [.Expr (.Yield (some (.Tuple [.Name "pos" (P 1),.BinOp (.Constant (.str "\\") 0 (P 2)) .Add (.Name "ch" (P 3)) (P 4)] 0 (P 5))) (P 6)) (P 7),.Assign [.Name "escape" (P 8)] (.Constant (.bool false) 0 (P 9)) (P 10)]
 [.If (.Compare (.Name "ch" (P 11)) [.Eq] [.Constant (.str "\\") 0 (P 12)] (P 13)) [.Assign [.Name "escape" (P 14)] (.Constant (.bool true) 0 (P 15)) (P 16)] [.Expr (.Yield (some (.Tuple [.Name "pos" (P 17),.Name "ch" (P 18)] 0 (P 19))) (P 20)) (P 21)] (P 22)] (P 23)
noncomputable def genTg (P:Nat->Pos):Expr:=.Tuple [.Name "pos" (P 24),.Name "ch" (P 25)] 0 (P 26)
noncomputable def genIt (P:Nat->Pos):Expr:=.Call (.Name "enumerate" (P 27)) [.Name "addr" (P 28)] [] (P 29)
noncomputable def genLast (P:Nat->Pos):Stmt:=.If (.Name "escape" (P 31)) [.Expr (.Yield (some (.Tuple [.Name "pos" (P 32),.Constant (.str "\\") 0 (P 33)] 0 (P 34))) (P 35)) (P 36)] [] (P 37)
noncomputable def genBody (P:Nat->Pos):List Stmt:=[.Assign [.Name "pos" (P 38)] (.Constant (.int 0) 0 (P 39)) (P 40),.Assign [.Name "escape" (P 41)] (.Constant (.bool false) 0 (P 42)) (P 43),.For (genTg P) (genIt P) [genIf P] [] (P 30),genLast P]
noncomputable def gF:List Nat->Nat->Bool->List PyData
 | [],i,esc=>if esc then [.tuple [.int ((i:Int) - 1),.str ⟨⟨[92]⟩⟩]] else []
 | c::r,i,esc=>if esc then .tuple [.int i,.str ⟨⟨[92,c]⟩⟩]::gF r (i+1) false else if c==92 then gF r (i+1) true else .tuple [.int i,.str ⟨⟨[c]⟩⟩]::gF r (i+1) false
structure GF (prog:Program) (w:World) (K:Addr->Option Obj) (fx:Fx):Prop where
 v0:fx.vars.lookup 0=some "addr"
 v1:fx.vars.lookup 1=some "pos"
 v2:fx.vars.lookup 2=some "escape"
 v3:fx.vars.lookup 3=some "ch"
 s1:StoreOK fx "pos"
 s2:StoreOK fx "escape"
 s3:StoreOK fx "ch"
 k:1≤fx.k
 cells:fx.env.cells=[]
 co:fx.env.scope.isCoroutine=false
 int_:interactive fx.env=false
noncomputable def L4 (a:Str) (p:Int) (e:Bool) (ch:Option PV):Loc:=[some (.dat (.str a)),some (.dat (.int p)),some (.dat (.bool e)),ch]
noncomputable def scalO:Option PV->Bool
 | none=>true
 | some (.dat d)=>scalD d
 | _=>false
theorem L4_scal {a:Str} {p:Int} {e:Bool} {ch:Option PV} (h:scalO ch=true):scalLoc (L4 a p e ch):=λi pv hi=>by
 unfold L4 at hi
 match i,hi with
 | 0,hi=>cases hi; exact ⟨_,rfl,rfl⟩
 | 1,hi=>cases hi; exact ⟨_,rfl,rfl⟩
 | 2,hi=>cases hi; exact ⟨_,rfl,rfl⟩
 | 3,hi =>
  have hi:some ch=some (some pv):=hi
  cases hi
  cases pv with
  | dat d=>exact ⟨d,rfl,h⟩
  | _=>exact nft h
 | i+4,hi=>simp at hi
section
variable {prog:Program} {w:World} {K:Addr->Option Obj} {fx:Fx} {P:Nat->Pos} {A:Around} {n:Nat} {ow:List Addr} {out:List PyData} {a:Str}
theorem str92:PyData.strOk ("\\":Str)=true:=by decide +kernel
theorem gf_pair1 (g:GF prog w K fx):EvL prog w K fx [.Name "pos" (P 1),.BinOp (.Constant (.str "\\") 0 (P 2)) .Add (.Name "ch" (P 3)) (P 4)]
  (consL (nameF 1) (consL (datF (bindE (λσ=>some (.dat (.str ⟨⟨[92]⟩⟩),σ.hp)) λa=>bindE (nameF 3) λb=>map2 (binD .Add) a b)) nilL)) :=
 .cons (.name g.v1) (.cons (EvN.bin (Ev.str (by rfl) str92) (.name g.v3)).dat .nil)
theorem gf_pair2 (g:GF prog w K fx):EvL prog w K fx [.Name "pos" (P 17),.Name "ch" (P 18)] (consL (nameF 1) (consL (nameF 3) nilL)):=.cons (.name g.v1) (.cons (.name g.v3) .nil)
theorem gf_pair3 (g:GF prog w K fx):EvL prog w K fx [.Name "pos" (P 32),.Constant (.str "\\") 0 (P 33)] (consL (nameF 1) (consL (λσ=>some (.dat (.str ⟨⟨[92]⟩⟩),σ.hp)) nilL)):=.cons (.name g.v1) (.cons (Ev.str (by rfl) str92) .nil)
end
section
variable {prog:Program} {w:World} {K:Addr->Option Obj} {fx:Fx} {P:Nat->Pos} {A:Around} {ow:List Addr} {out:List PyData} {a:Str}
noncomputable abbrev genFs (H:Flow->Sem Fin) (Hx:Value->Sem Fin) (env:Env) (c:Code) (p:Pos):List PySem.Frame :=
 [.ret (λr=>((match r with | .ok f=>(.pure f:Sem Flow) | .error e=>.raise e).onRaise λ(x:Value)=>do
    if (← field x 1)==Value.none then unsupported "frame.own-activation:exception-without-traceback"
    setFlight x env.frame).wrap H Hx id id) none (id false) (id []) c p []]
theorem gen_loop (g:GF prog w K fx) {e it:Addr} {Jx:IS->Rho->List Addr->Shared->Prop} (hA:A.handled=none) {fs:List PySem.Frame} (hfs:splitAtGen fs=none) (hfg:fs.any Frame.guarded=false)
  (Rm:Room (A.over (.forLoop (genTg P) (.ref e) [genIf P] [] fx.env) fs) fx.k)
  (W:Iter prog w (A.over (.forLoop (genTg P) (.ref e) [genIf P] [] fx.env) fs) (.ref e) (genTg P) [e,it] (λ_=>False) stepI Jx) (Wd:∀s,Jx (.rem []) [] ow s->wpAny (model prog w) (A.over (.forLoop (genTg P) (.ref e) [genIf P] [] fx.env) fs) (pyNext (.ref e)) (λr s'=>r=none∧∃h',s'={ s with heap:=h' }∧(∀b o,b∉[e,it]->s.heap.get? b=some o->h'.get? b=some o)∧∀b∈[e,it],∃o,h'.get? b=some o) noE s)
  (hwo:∀b∈[e,it],b∈ow) (offw:Off fx [e,it]) (hown:∀b∈fx.own,b∈ow∧b∉[e,it])
  (Jw:∀is s s'',Jx is [] ow s->(∀b∈ow,∀o,s.heap.get? b=some o->s''.heap.get? b=some o)->Jx is [] ow s'') {R:GenEnd}
  (hend:∀i esc p ch s_0 s pre,out=pre++gF [] i esc->(esc=true->p=(i:Int) - 1)->scalO ch=true->SR K fx [] ow ⟨L4 a p esc ch,[]⟩ s->Ext ow [] s_0 [] s ->
   Seg (model prog w) A R (YB K ow out) (gF [] i esc).length s_0 (.forLoop (genTg P) (.ref e) [genIf P] [] fx.env) (.pure (.again (.block [] fx.env))) fs s) :
  ∀(l:List Nat) (i:Nat) (esc:Bool) (p:Int) (ch:Option PV) (s_0 s:Shared) (pre:List PyData),(∀c∈l,c < 0x110000)->out=pre++gF l i esc->(esc=true->p=(i:Int) - 1)->scalO ch=true->SR K fx [] ow ⟨L4 a p esc ch,[]⟩ s->Jx (.rem (enumF i (chars l))) [] ow s->Ext ow [] s_0 [] s ->
   Seg (model prog w) A R (YB K ow out) (gF l i esc).length s_0 (.forLoop (genTg P) (.ref e) [genIf P] [] fx.env) ((model prog w).den (.forLoop (genTg P) (.ref e) [genIf P] [] fx.env)) fs s
 | [],i,esc,p,ch,s_0,s,pre,hl,ho,hp,hc,R0,J,x0=>by
  refine seg_forTurn (wpAny_mono (Wd s J) (λr s_1 q=>?_) λ_ _ q=>q.elim)
  obtain ⟨rfl,h',rfl,kd,lv⟩:=q
  have xe:Ext [e,it] [] s [] { s with heap:=h' }:=Ext.of_off (t:=s.toks) kd lv
  have R1:SR K fx [] ow ⟨L4 a p esc ch,[]⟩ { s with heap:=h' }:=R0.extX xe hwo offw (R0.hr.chg (t:=s.toks) hwo kd lv)
  exact hend i esc p ch s_0 _ pre ho hp hc R1 (x0.trans (xe.weak hwo))
 | c::r,i,esc,p,ch,s_0,s,pre,hl,ho,hp,hc,R0,J,x0=>by
  refine seg_forTurn (wpAny_mono (W.next (l:=.rem (.tuple [.int i,.str ⟨⟨[c]⟩⟩]::enumF (i+1) (chars r))) (hp:=[]) rfl J R0.hr hwo) (λr_1 s_1 q=>?_) λ_ _ q=>q.elim)
  obtain ⟨v,rfl,q⟩:=q
  refine wpAny_mono q (λ_ s_2 q=>?_) λ_ _ q=>q.elim
  obtain ⟨ρ',x,H',V,J'⟩:=q
  obtain rfl:=rho_nil H'
  have R2:SR K fx [] ow ⟨L4 a p esc ch,[]⟩ s_2:=R0.extG x hwo offw H'
  refine wpAny_mono ((As.tup2 g.v1 g.s1 g.v3 g.s3).run _ [] ow _ s_2 _ v (L4 a i esc (some (.dat (.str ⟨⟨[c]⟩⟩)))) Rm R2 V rfl) (λ_ s_3 q=>?_) λ_ _ q=>q.elim
  obtain ⟨x3,R3⟩:=q
  have J3:=W.ext J' x3 hown
  have x03:Ext ow [] s_0 [] s_3:=by
   have xx:Ext ow [] s [] s_2:=x.ext (λb hb=>.inl (hwo b hb)) λ_ _ _ f=>f
   exact (x0.trans xx).trans (x3.weak λb hb=>(hown b hb).1)
  refine seg_execs_cons ?_
  refine seg_if (Tr.val (Ev.name g.v2)) Rm R3 (b:=esc) rfl λs_4 x4 R4=>?_
  have x4':Ext ow [] s_0 [] s_4:=x03.trans (x4.weak noX)
  have J4:=W.ext J3 x4 (λ_ h=>nin h)
  have hidx:∀(y:PyData) (ys:List PyData),out=pre++y::ys->out[out.length - 1 - ys.length]?=some y:=λy ys h=>by
   refine h.symm▸List.length_append.symm▸List.length_cons.symm▸(show pre.length+(ys.length+1) - 1 - ys.length=pre.length from (show pre.length+ys.length - ys.length=pre.length from Nat.add_sub_cancel _ _)).symm▸?_
   simp
  cases esc with
  | true =>
   have hg:gF (c::r) i true=.tuple [.int i,.str ⟨⟨[92,c]⟩⟩]::gF r (i+1) false:=rfl
   rw [hg] at ho ⊢
   refine seg_execs_cons ?_
   refine seg_yieldPair (gf_pair1 g) Rm R4 (L4_scal rfl) g.cells (a:=.int i) (b:=.str ⟨⟨[92,c]⟩⟩) rfl rfl rfl hfs rfl hfg (hidx _ _ ho) x4' g.co g.int_ λs_5 R5 _ hk5=>?_
   refine seg_execs_cons ?_
   refine seg_ex (Ex.assign g.v2 g.s2 Ev.bool rfl) Rm R5 (loc':=L4 a i false (some (.dat (.str ⟨⟨[c]⟩⟩)))) rfl λs_6 x6 R6=>?_
   refine seg_again rfl ?_
   refine gen_loop g hA hfs hfg Rm W Wd hwo offw hown Jw hend r (i+1) false i (some (.dat (.str ⟨⟨[c]⟩⟩))) s_5 s_6 (pre++[.tuple [.int i,.str ⟨⟨[92,c]⟩⟩]]) (λc hc=>hl c (List.mem_cons_of_mem _ hc)) (by rw [ho]; simp) (λh=>nft h) rfl R6 (W.ext (Jw _ _ _ J4 hk5) x6 hown) (x6.weak λb hb=>(hown b hb).1)
  | false =>
   refine seg_execs_cons ?_
   by_cases h92:c=92
   ·subst h92
    refine seg_if (Tr.cmp (.name g.v3) (Ev.str (by rfl) str92) g.k) Rm R4 (b:=true) (by rfl) λs_5 x5 R5=>?_
    refine seg_execs_cons ?_
    refine seg_ex (Ex.assign g.v2 g.s2 Ev.bool rfl) Rm R5 (loc':=L4 a i true (some (.dat (.str ⟨⟨[92]⟩⟩)))) rfl λs_6 x6 R6=>?_
    refine seg_again rfl ?_
    refine gen_loop g hA hfs hfg Rm W Wd hwo offw hown Jw hend r (i+1) true i (some (.dat (.str ⟨⟨[92]⟩⟩))) s_0 s_6 pre (λc hc=>hl c (List.mem_cons_of_mem _ hc)) ho (λ_=>by lia) rfl R6 (W.ext (W.ext J4 x5 (λ_ h=>nin h)) x6 hown) ((x4'.trans (x5.weak noX)).trans (x6.weak λb hb=>(hown b hb).1))
   ·have hg:gF (c::r) i false=.tuple [.int i,.str ⟨⟨[c]⟩⟩]::gF r (i+1) false:=by
     show (if (c==92)=true then _ else _)=_
     rw [if_neg (by simpa using h92)]
    rw [hg] at ho ⊢
    refine seg_if (Tr.cmp (.name g.v3) (Ev.str (by rfl) str92) g.k) Rm R4 (b:=false) ?_ λs_5 x5 R5=>?_
    ·have e1:cmpD .Eq (.str ⟨⟨[c]⟩⟩) (.str ⟨⟨[92]⟩⟩)=some false:=by
      show some (([c]:List Nat)==[92])=some false
      congr 1
      simpa using h92
     show cmpT .Eq (.dat (.str ⟨⟨[c]⟩⟩)) (.dat (.str ⟨⟨[92]⟩⟩)) ⟨_,[]⟩=_
     skip
     show (match cmpD .Eq (.str ⟨⟨[c]⟩⟩) (.str ⟨⟨[92]⟩⟩) with
      | some d=>some (d,[])
      | none=>none)=_
     exact e1.symm▸rfl
    refine seg_execs_cons ?_
    refine seg_yieldPair (gf_pair2 g) Rm R5 (L4_scal rfl) g.cells (a:=.int i) (b:=.str ⟨⟨[c]⟩⟩) rfl rfl rfl hfs rfl hfg (hidx _ _ ho) (x4'.trans (x5.weak noX)) g.co g.int_ λs_6 R6 _ hk6=>?_
    refine seg_again rfl ?_
    exact gen_loop g hA hfs hfg Rm W Wd hwo offw hown Jw hend r (i+1) false i (some (.dat (.str ⟨⟨[c]⟩⟩))) s_6 s_6 (pre++[.tuple [.int i,.str ⟨⟨[c]⟩⟩]]) (λc hc=>hl c (List.mem_cons_of_mem _ hc)) (by rw [ho]; simp) (λh=>nft h) rfl R6 (Jw _ _ _ (W.ext J4 x5 (λ_ h=>nin h)) hk6) (Ext.refl _ _ _)
end
section
variable {prog:Program} {w:World} {A:Around} {E:Value->Shared->Prop} {s:Shared}
theorem nextOf_ascii_endL {it:Addr} {x:Str} {t:Tok} {i:Nat} {Q:Value->Shared->Prop} (hh:A.handled=none)
  (hit:s.heap.IsStrIter it "str_ascii_iterator" x t i) (hx:x.cps[i]?=none)
  (hE:∀h' e,Heap.ExtBut it s.heap h'->(∃o,h'.get? it=some o)->(∃o,h'.get? e=some o∧o.cls=.type "StopIteration")->E (.ref e) { s with heap:=h' }) :
  wpAny (model prog w) A (Builtin.SmallTypes.nextOf (.ref it)) Q E s:=by
 obtain ⟨o,ho,hc,hd⟩:=id hit
 skip
 refine wpAny_bind (wpAny_callSpecial?_slot (name:=Str.ofString "__next__") hit.typeIs PySem.F.slot_str_ascii_iterator_next
  (wpAny_call_entry PySem.F.slot_str_ascii_iterator_next hit.typeIs PySem.F.entry_str_ascii_iterator_next ?_ (PySem.F.args_str_ascii_iterator_next_1 _)))
 show wpAny _ _ (field (.ref it) 0 >>= _) _ _ s
 refine wpAny_bind (wpAny_field ho hd (x:=.str x t) rfl ?_)
 show wpAny _ _ (field (.ref it) 1 >>= _) _ _ s
 refine wpAny_bind (wpAny_field ho hd (x:=.int i 0) rfl ?_)
 simp only [Int.toNat_natCast,hx]
 refine wpAny_bind (wpAny_rule (wpAny_bind (wpAny_setField ho hd (by simp) (wpAny_bind (wpAny_letGo ?_)))))
 skip
 refine wpAny_bind ?_
 simp only [newExc,newTuple]
 refine wpAny_bind (wpAny_newObj_type ?_ (by size_fits))
 refine wpAny_bind (m:=firstArgMember _ _) (wpAny_of_eq (a:=Value.none) (by first | rfl | (simp only [firstArgMember]; rfl)) ?_)
 refine wpAny_newObj_type ?_ (by size_fits)
 simp only [raiseNew]
 refine wpAny_bind (wpAny_handled ?_)
 first | rw [show A.in1.handled=none from hh] | rw [hh]
 refine wpAny_bind (wpAny_pure (wpAny_throw ?_))
 exact hE _ _ (((Heap.SameBut.update ..).extBut.push _).push _) ⟨_,Heap.get?_push_of_some _ (Heap.get?_push_of_some _ (Heap.get?_update_self _ ho (Obj.isFreed_of_fields (Obj.data_mapFields hd _))))⟩ ⟨_,Heap.get?_push_size _ rfl,rfl⟩
theorem nextOf_wide_endL {it:Addr} {x:Str} {t:Tok} {i:Nat} {Q:Value->Shared->Prop} (hh:A.handled=none)
  (hit:s.heap.IsStrIter it "str_iterator" x t i) (hx:x.cps[i]?=none)
  (hE:∀h' e,Heap.ExtBut it s.heap h'->(∃o,h'.get? it=some o)->(∃o,h'.get? e=some o∧o.cls=.type "StopIteration")->E (.ref e) { s with heap:=h' }) :
  wpAny (model prog w) A (Builtin.SmallTypes.nextOf (.ref it)) Q E s:=by
 obtain ⟨o,ho,hc,hd⟩:=id hit
 skip
 refine wpAny_bind (wpAny_callSpecial?_slot (name:=Str.ofString "__next__") hit.typeIs PySem.F.slot_str_iterator_next
  (wpAny_call_entry PySem.F.slot_str_iterator_next hit.typeIs PySem.F.entry_str_iterator_next ?_ (PySem.F.args_str_iterator_next_1 _)))
 show wpAny _ _ (field (.ref it) 0 >>= _) _ _ s
 refine wpAny_bind (wpAny_field ho hd (x:=.str x t) rfl ?_)
 show wpAny _ _ (field (.ref it) 1 >>= _) _ _ s
 refine wpAny_bind (wpAny_field ho hd (x:=.int i 0) rfl ?_)
 simp only [Int.toNat_natCast,hx]
 refine wpAny_bind (wpAny_rule (wpAny_bind (wpAny_setField ho hd (by simp) (wpAny_bind (wpAny_letGo ?_)))))
 skip
 refine wpAny_bind ?_
 simp only [newExc,newTuple]
 refine wpAny_bind (wpAny_newObj_type ?_ (by size_fits))
 refine wpAny_bind (m:=firstArgMember _ _) (wpAny_of_eq (a:=Value.none) (by first | rfl | (simp only [firstArgMember]; rfl)) ?_)
 refine wpAny_newObj_type ?_ (by size_fits)
 simp only [raiseNew]
 refine wpAny_bind (wpAny_handled ?_)
 first | rw [show A.in1.handled=none from hh] | rw [hh]
 refine wpAny_bind (wpAny_pure (wpAny_throw ?_))
 exact hE _ _ (((Heap.SameBut.update ..).extBut.push _).push _) ⟨_,Heap.get?_push_of_some _ (Heap.get?_push_of_some _ (Heap.get?_update_self _ ho (Obj.isFreed_of_fields (Obj.data_mapFields hd _))))⟩ ⟨_,Heap.get?_push_size _ rfl,rfl⟩
theorem enum_endL {e it:Addr} {i:Int} {old:Value} {Q:Option Value->Shared->Prop} (he:IsEnum s.heap e it i old)
  (D:∀(Q:Value->Shared->Prop) (E:Value->Shared->Prop),(∀h' e,Heap.ExtBut it s.heap h'->(∃o,h'.get? it=some o)->(∃o,h'.get? e=some o∧o.cls=.type "StopIteration")->E (.ref e) { s with heap:=h' })->wpAny (model prog w) A.in1 (Builtin.SmallTypes.nextOf (.ref it)) Q E s)
  (hQ:∀h',Heap.ExtBut it s.heap h'->(∃o,h'.get? it=some o)->Q none { s with heap:=h' }):wpAny (model prog w) A (pyNext (.ref e)) Q E s:=by
 have hT:s.TypeIs (.ref e) "enumerate":=⟨_,he,rfl⟩
 skip
 refine wpAny_bind (wpAny_attempt (wpAny_callSpecial?_slot (name:=Str.ofString "__next__") hT PySem.F.slot_enumerate_next
  (wpAny_call_entry PySem.F.slot_enumerate_next hT PySem.F.entry_enumerate_next ?_ (PySem.F.args_enumerate_next_1 _))))
 show wpAny _ _ (field (.ref e) 2 >>= _) _ _ _
 refine wpAny_bind (wpAny_field he rfl (x:=.ref it) rfl ?_)
 refine wpAny_bind (D _ _ λh' x he' hl hx'=>?_)
 obtain ⟨o,ho,hc⟩:=hx'
 refine wpAny_bind (wpAny_isInstance (T:="StopIteration") (b:=true) ⟨o,ho,hc⟩ isSubtype_stop ?_)
 exact wpAny_pure (hQ _ he' hl)
end
section
variable {prog:Program} {w:World} {K:Addr->Option Obj} {fx:Fx} {P:Nat->Pos} {A:Around} {ow:List Addr} {out:List PyData} {a:Str}
noncomputable abbrev genK (f:Flow):Sem Fin:=.pure (.done (.ret (match f with | .ret v=>v | _=>.none)))
theorem gen_end (g:GF prog w K fx) {c:Code} {Hx:Value->Sem Fin} (Rm:Room (A.over c []) fx.k) {i:Nat} {esc:Bool} {p:Int} {ch:Option PV} {s_0 s:Shared} {pre:List PyData}
  (ho:out=pre++gF [] i esc) (hp:esc=true->p=(i:Int) - 1) (hc:scalO ch=true) (R0:SR K fx [] ow ⟨L4 a p esc ch,[]⟩ s) (x0:Ext ow [] s_0 [] s) :
  Seg (model prog w) A (RB ow) (YB K ow out) (gF [] i esc).length s_0 c ((execs [genLast P] fx.env).wrap genK Hx id id) [] s:=by
 refine seg_execs_cons ?_
 refine seg_if (Tr.val (Ev.name g.v2)) Rm R0 (b:=esc) rfl λs_1 x1 R1=>?_
 cases esc with
 | true =>
  have hp':=hp rfl
  subst hp'
  have hout:out[out.length - 1 - 0]?=some (.tuple [.int ((i:Int) - 1),.str ⟨⟨[92]⟩⟩]):=by
   rw [ho]
   show (pre++[_])[(pre++[_]).length - 1 - 0]?=_
   rw [List.length_append]
   simp
  refine seg_execs_cons ?_
  refine seg_yieldPair (gf_pair3 g) Rm R1 (L4_scal hc) g.cells (a:=.int ((i:Int) - 1)) (b:=.str ⟨⟨[92]⟩⟩) rfl rfl rfl rfl rfl rfl hout (x0.trans (x1.weak noX)) g.co g.int_ λs_2 R2 _ hk=>?_
  exact seg_end (.ok (.ret .none)) ⟨rfl,rfl,Ext.refl _ _ _⟩
 | false =>
  exact seg_end (.ok (.ret .none)) ⟨rfl,rfl,x0.trans (x1.weak noX)⟩
theorem gen_after {c cl:Code} {H:Flow->Sem Fin} {Hx:Value->Sem Fin} {R:GenEnd} {Y:Protocol} {n:Nat} {s_0 s:Shared} {p:Pos}
  (h:Seg (model prog w) A R Y n s_0 c (H .next) [] s):Seg (model prog w) A R Y n s_0 cl (.pure (.again (.block [] fx.env))) (genFs H Hx fx.env c p) s:=by
 refine seg_again rfl ?_
 exact seg_leaf (.ok .next) h
end
section
variable {K:Addr->Option Obj} {fx:Fx} {ρ ρ':Rho} {Z:List Addr} {σ:St} {s s':Shared} {prog:Program} {w:World} {A:Around}
theorem SR.storeS (R:SR K fx ρ Z σ s) {i:Nat} {x:Str} {pv:PV} {v:Value} (hv:fx.vars.lookup i=some x) (ok:StoreOK fx x) (r:VR ρ Z s.heap pv v) {Q:Unit->Shared->Prop}
  (hQ:∀s',Ext fx.own ρ s ρ s'->SR K fx ρ Z ⟨σ.loc.set i (some pv),σ.hp⟩ s'->s'.heap.objs.size=s.heap.objs.size->Q () s'):wpAny (model prog w) A (storeName fx.env x v) Q noE s:=by
 obtain ⟨m,cm,hn,hc,hvs⟩:=R.er.ex
 have hne:∀j y,j≠i->fx.vars.lookup j=some y->y≠x:=λj y hj e q=>hj (R.er.vinj j i x (q▸e) hv)
 rcases ok with hk | ⟨c,hk,hl,hco⟩
 ·refine wpAny_storeName_local hk hn (λh' hn' sb=>?_) (by rw [R.er.fn]; rfl)
  have k:∀b o,b∉Z->s.heap.get? b=some o->h'.get? b=some o:=λb o hb e=>sb.extBut b o (λq=>hb (q▸R.er.ownZ _ R.er.lown)) e
  have hx:=R.own1 (t:=s.toks+1) (loc':=σ.loc.set i (some pv)) R.er.lown sb (Ns.live hn') ⟨⟨_,cm,hn',λn c e=>?_,λj y p hj hl=>?_⟩,R.er.fn,R.er.sc,R.er.vinj,R.er.glob,R.er.bi,R.er.lown,R.er.ownZ,R.er.lmut,R.er.cell,R.er.inj⟩
  ·exact hQ _ hx.1 hx.2 sb.1
  ·obtain ⟨o,ho,hd⟩:=hc n c e
   exact ⟨o,sb.extBut c o (R.er.cell n c e).2 ho,hd⟩
  ·rcases set_get hl with ⟨rfl,rfl⟩ | ⟨hij,hl⟩
   ·replace hj:=hv▸hj
    cases hj
    refine ⟨v,?_,r.own k⟩
    unfold slotV
    refine hk.symm▸?_
    simp
   ·obtain ⟨u,hu,hr⟩:=hvs j y p hj hl
    refine ⟨u,?_,hr.own k⟩
    have:y≠x:=hne j y (λq=>hij q.symm) hj
    unfold slotV at hu ⊢
    split at hu<;>simp_all
 ·refine wpAny_storeName_cell R.er.fn hk hl (hc x c hl) λh' hc' sb=>?_
  have k:∀b o,b∉Z->s.heap.get? b=some o->h'.get? b=some o:=λb o hb e=>sb.extBut b o (λq=>hb (q▸R.er.ownZ _ hco)) e
  have hx:=R.own1 (t:=s.toks) (loc':=σ.loc.set i (some pv)) hco sb (let ⟨o,e,_⟩:=hc'; ⟨o,e⟩) ⟨⟨m,λn=>if n=x then some v else cm n,Ns.keep hn λo e=>sb.extBut _ o (λq=>(R.er.cell x c hl).2 q.symm) e,λn c' e=>?_,λj y p hj hl'=>?_⟩,R.er.fn,R.er.sc,R.er.vinj,R.er.glob,R.er.bi,R.er.lown,R.er.ownZ,R.er.lmut,R.er.cell,R.er.inj⟩
  ·exact hQ _ hx.1 hx.2 sb.1
  ·by_cases q:n=x
   ·subst q
    replace e:=hl▸e
    cases e
    simpa using hc'
   ·have:c'≠c:=λq'=>q (R.er.inj n x c (q'▸e) hl)
    obtain ⟨o,ho,hd⟩:=hc n c' e
    exact ⟨o,sb.extBut c' o this ho,by simpa [q] using hd⟩
  ·rcases set_get hl' with ⟨rfl,rfl⟩ | ⟨hij,hl'⟩
   ·replace hj:=hv▸hj
    cases hj
    refine ⟨v,?_,r.own k⟩
    unfold slotV
    refine hk.symm▸?_
    simp [hl]
   ·obtain ⟨u,hu,hr⟩:=hvs j y p hj hl'
    refine ⟨u,?_,hr.own k⟩
    have:y≠x:=hne j y (λq=>hij q.symm) hj
    unfold slotV at hu ⊢
    split at hu<;>simp_all
end
theorem strOk_lt {x:Str} (h:PyData.strOk x=true):∀c∈x.cps.toList,c < 0x110000:=by
 unfold PyData.strOk at h
 rw [← Array.all_toList,List.all_eq_true] at h
 exact λc hc=>of_decide_eq_true (h c hc)
section
variable {prog:Program} {w:World} {K:Addr->Option Obj} {fx:Fx} {P:Nat->Pos} {A:Around} {mg mb:Str->Option Value} {a:Str}
theorem nameS {ρ:Rho} {Z:List Addr} {σ:St} {s:Shared} {i:Nat} {x:Str} {pos:Pos} {pv:PV} (R:SR K fx ρ Z σ s) (hv:fx.vars.lookup i=some x) (hp:getV σ.loc i=some pv) (hd:(x==("__debug__":Str))=false:=by decide) (hd':(x==("__classdict__":Str))=false:=by decide) :
  wpAny (model prog w) A (eval (.Name x pos) fx.env) (λv s'=>s'=s∧VR ρ Z s.heap pv v) noE s:=by
 refine cps λ_ KK=>?_
 obtain ⟨m,cm,hn,hc,hvs⟩:=R.er.ex
 obtain ⟨v,hs,r⟩:=hvs i x _ hv (getV_eq hp)
 refine KK ?_
 refine wpAny_Name ?_ hd
 rcases slot_cases hs with ⟨hk,hm⟩ | ⟨hk | hk,c,hl,hm⟩
 ·exact wpAny_loadName_local R.er.fn hk hn hm ⟨rfl,r⟩
 ·exact wpAny_loadName_cell R.er.fn hk hl (hm▸hc x c hl) ⟨rfl,r⟩
 ·exact wpAny_loadName_free R.er.fn hk hl (hm▸hc x c hl) ⟨rfl,r⟩ hd'
noncomputable abbrev gA (A:Around) (P:Nat->Pos) (B:Addr) (fx:Fx) (H:Flow->Sem Fin) (Hx:Value->Sem Fin) (p:Pos):Around:=A.over (.forLoop (genTg P) (.ref (B+1)) [genIf P] [] fx.env) (genFs H Hx fx.env (.func (genBody P) fx.env) p)
structure GenIt (prog:Program) (w:World) (a:Str) (B:Addr) (t:Tok) (T:String):Prop where
 draws:∀A':Around,A'.handled=none->Draws prog w A' B [B] a.cps.size (λi v=>∃c u,a.cps[i]?=some c∧v=.str ⟨#[c]⟩ u) (λi h=>h.IsStrIter B T a t i)
 ends:∀(A':Around) (s:Shared) (i:Nat) (Q:Value->Shared->Prop) (E:Value->Shared->Prop),A'.handled=none->s.heap.IsStrIter B T a t i->a.cps[i]?=none->(∀h' e,Heap.ExtBut B s.heap h'->(∃o,h'.get? B=some o)->(∃o,h'.get? e=some o∧o.cls=.type "StopIteration")->E (.ref e) { s with heap:=h' })->wpAny (model prog w) A' (Builtin.SmallTypes.nextOf (.ref B)) Q E s
theorem gen_walk (g:GF prog w K fx) {C:Addr} (hown:fx.own=[C]) (hA:A.handled=none) {p:Pos} {t:Tok} {T:String} {B:Addr} {s2:Shared} {h:Heap} {H:Flow->Sem Fin} {Hx:Value->Sem Fin} {s0:Shared}
  (Rm2:Room (gA A P B fx H Hx p) fx.k) (R2:SR K fx [] [C] ⟨L4 a 0 false none,[]⟩ s2) (hok:PyData.strOk a=true) {old:Value} (he:IsEnum h (B+1) B 0 old) (hit:h.IsStrIter B T a t 0) (keep:∀b o,s2.heap.get? b=some o->h.get? b=some o) (fB:s2.heap.get? B=none) (fB1:s2.heap.get? (B+1)=none)
  (it:GenIt prog w a B t T)
  (hend:∀i esc p ch s_0 s pre,gF a.cps.toList 0 false=pre++gF [] i esc->(esc=true->p=(i:Int) - 1)->scalO ch=true->SR K fx [] [B+1,B,C] ⟨L4 a p esc ch,[]⟩ s->Ext [B+1,B,C] [] s_0 [] s->Seg (model prog w) A (RB [B+1,B,C]) (YB K [B+1,B,C] (gF a.cps.toList 0 false)) (gF [] i esc).length s_0 (.func (genBody P) fx.env) (H .next) [] s)
  (x0:Ext [B+1,B,C] [] s0 [] { s2 with heap:=h }):Seg (model prog w) A (RB [B+1,B,C]) (YB K [B+1,B,C] (gF a.cps.toList 0 false)) (gF a.cps.toList 0 false).length s0 (.forLoop (genTg P) (.ref (B+1)) [genIf P] [] fx.env) ((model prog w).den (.forLoop (genTg P) (.ref (B+1)) [genIf P] [] fx.env)) (genFs H Hx fx.env (.func (genBody P) fx.env) p) { s2 with heap:=h }:=by
 have hh:(gA A P B fx H Hx p).handled=none:=hA
 have hz:a.cps.size=(enumF 0 (chars a.cps.toList)).length:=by rw [enumF_length,chars,List.length_map,Array.length_toList]
 have hb1:B+1∈[B+1,B,C]:=List.mem_cons_self ..
 have hb0:B∈[B+1,B,C]:=List.mem_cons_of_mem _ (List.mem_cons_self ..)
 have hx:PyData.strOk a=true:=hok
 have lv:∀(i:Nat) (h:Heap),((∃old,IsEnum h (B+1) B i old)∧h.IsStrIter B T a t i)->∀b∈[B+1,B],∃o,h.get? b=some o:=λi h q=>all2 (q.1.elim λ_ e=>⟨_,e⟩) (q.2.elim λo e=>⟨o,e.1⟩)
 have W:=Iter.walksT (A:=gA A P B fx H Hx p) (h_0:=s2.heap) (fd:=[]) (ds:=enumF 0 (chars a.cps.toList)) (elts:=[.Name "pos" (P 24),.Name "ch" (P 25)]) (k:=0) (pos:=P 26) (WalksT.enumerateD (A:=gA A P B fx H Hx p) (it.draws (gA A P B fx H Hx p).in1 hh) (B+1) (Nat.succ_ne_self _) (λq=>Nat.succ_ne_self _ (List.mem_singleton.mp q)) (List.mem_singleton_self _)) hz.symm lv (λi xs d h hv hd kd=>by
  refine cps λ_ KK=>?_
  obtain ⟨t',y,hy',rfl⟩:=hv
  obtain ⟨y',hy,rfl⟩:=enumF_get _ 0 i hd
  obtain ⟨bs,rb,qb⟩:=sign_RD hx (h:=h) hy' hy
  refine KK ?_
  rw [show ((0+i:Nat):Int)=(i:Int) by rw [Nat.zero_add]]
  exact ⟨_,[]++(bs++[]),rfl,.cons (.int _ _) (.cons rb .nil),λb hb=>qb b ((List.append_nil bs)▸hb)⟩)
 have R4:SR K fx [] ([B+1,B]++[C]) ⟨L4 a 0 false none,[]⟩ { s2 with heap:=h }:=R2.more (s':={ s2 with heap:=h }) (all2 fB1 fB) keep (all2 ⟨_,he⟩ (hit.elim λo q=>⟨o,q.1⟩))
 have nC:C∉[B+1,B]:=λq=>(R2.hr.liveZ C (List.mem_singleton_self _)).elim λo e=>nos ((all2 (P:=λx=>s2.heap.get? x=none) fB1 fB C q).symm.trans e)
 refine gen_loop g (e:=B+1) (it:=B) hA rfl rfl Rm2 W (λs J=>?_) (all2 hb1 hb0) (R2.offFresh (all2 fB1 fB)) (hown.symm▸all1 ⟨List.mem_cons_of_mem _ (List.mem_cons_of_mem _ (List.mem_cons_self ..)),nC⟩) (λis s s'' J k=>?_) (λi esc p ch s_0 s pre h1 h2 h3 h4 h5=>gen_after (hend i esc p ch s_0 s pre h1 h2 h3 h4 h5)) a.cps.toList 0 false 0 none s0 { s2 with heap:=h } [] (strOk_lt hok) rfl (λh=>nft h) rfl R4 ⟨⟨0,⟨⟨_,he⟩,hit⟩,rfl,Nat.zero_le _⟩,(λb hb=>nin hb),(λb hb=>nin hb),λb hb=>⟨List.not_mem_nil,λq=>absurd hb q⟩⟩ x0
 ·refine cps λ_ KK=>?_
  obtain ⟨⟨i,⟨⟨old,e1⟩,e2⟩,hl,hin⟩,_⟩:=J
  refine KK ?_
  have hn:a.cps[i]?=none:=Array.getElem?_eq_none (hz▸List.drop_eq_nil_iff.mp hl.symm)
  exact enum_endL e1 (λQ E k=>it.ends _ _ i Q E hh e2 hn k) λh' he' hl'=>⟨rfl,h',rfl,λb o hb e=>he' b o (λq=>hb (q▸List.mem_cons_of_mem _ (List.mem_cons_self ..))) e,all2 ⟨_,he' _ _ (Nat.succ_ne_self _) e1⟩ hl'⟩
 ·cases is with
  | trk=>exact J.elim
  | rem l =>
   refine cps λ_ KK=>?_
   obtain ⟨⟨i,⟨⟨old,e1⟩,o2,e2,e3⟩,hl,hin⟩,hd,od,op⟩:=J
   refine KK ?_
   exact ⟨⟨i,⟨⟨old,k _ hb1 _ e1⟩,o2,k _ hb0 _ e2,e3⟩,hl,hin⟩,(λb hb=>nin hb),od,op⟩
theorem gen_body (g:GF prog w K fx) (gl:Gl K mg mb) (hk:fx.sc.names.lookup ("enumerate":Str)=some .globalImplicit) (hg:mg "enumerate"=none) (hb:mb "enumerate"=some (.type "enumerate")) {C:Addr} (hown:fx.own=[C]) (hA:A.handled=none)
  (Rm1:Room (A.over (.func (genBody P) fx.env) []) fx.k) (Rm2:∀e p H Hx,Room (A.over (.forLoop (genTg P) (.ref e) [genIf P] [] fx.env) (genFs H Hx fx.env (.func (genBody P) fx.env) p)) fx.k) {s:Shared}
  (R0:SR K fx [] [C] ⟨[some (.dat (.str a)),none,none,none],[]⟩ s) (hok:PyData.strOk a=true) :
  Seg (model prog w) A (RB [s.heap.objs.size+1,s.heap.objs.size,C]) (YB K [s.heap.objs.size+1,s.heap.objs.size,C] (gF a.cps.toList 0 false)) (gF a.cps.toList 0 false).length s (.func (genBody P) fx.env) ((model prog w).den (.func (genBody P) fx.env)) [] s:=by
 refine seg_func ?_
 refine seg_execs_cons (seg_wrap (wpAny_Assign_Name (wpAny_Constant_int ?_) rfl))
 have x0:Ext [] [] s [] { s with toks:=s.toks+1 }:=Ext.of_keep (h:=s.heap) λ_ _ e=>e
 have R0':SR K fx [] [C] ⟨[some (.dat (.str a)),none,none,none],[]⟩ { s with toks:=s.toks+1 }:=R0.next x0 R0.hr
 refine wpAny_mono (R0'.storeS g.v1 g.s1 (pv:=.dat (.int 0)) ⟨[],.int _ _,λ_ h=>nomatch h⟩ (Q:=λ_ s'=>Ext fx.own [] { s with toks:=s.toks+1 } [] s'∧SR K fx [] [C] ⟨[some (.dat (.str a)),some (.dat (.int 0)),none,none],[]⟩ s'∧s'.heap.objs.size=s.heap.objs.size) λs' x R z=>⟨x,R,z⟩) (λ_ s1 q=>?_) λ_ _ q=>q.elim
 have x1:=q.1
 have R1:=q.2.1
 refine seg_execs_cons (seg_wrap (wpAny_Assign_Name (wpAny_Constant_bool ?_) rfl))
 refine wpAny_mono (R1.storeS g.v2 g.s2 (pv:=.dat (.bool false)) ⟨[],.bool _,λ_ h=>nomatch h⟩ (Q:=λ_ s'=>Ext fx.own [] s1 [] s'∧SR K fx [] [C] ⟨L4 a 0 false none,[]⟩ s'∧s'.heap.objs.size=s1.heap.objs.size) λs' x R z=>⟨x,R,z⟩) (λ_ s2 q2=>?_) λ_ _ q=>q.elim
 have R2:=q2.2.1
 have hz:s2.heap.objs.size=s.heap.objs.size:=q2.2.2.trans q.2.2
 have x02:Ext fx.own [] s [] s2:=((x0.weak noX).trans x1).trans q2.1
 refine seg_execs_cons (seg_For ?_)
 skip
 refine Call_ (global_name gl R2 hk (.inr ⟨hg,hb⟩) ?_ (by decide))
 refine callWith_val (.inr ⟨_,rfl⟩) (wpAny_items_cons (wpAny_mono (nameS R2 g.v0 rfl) (λv s3 p=>wpAny_items_nil ?_) λ_ _ q=>q) rfl) rfl rfl
 have es:s3=s2:=p.1
 refine cps λ_ KK=>?_
 obtain ⟨as,ra,_⟩:=p.2
 obtain ⟨t,hv,_,hx⟩:=ra.str_
 refine KK ?_
 refine hv.symm▸es.symm▸?_
 refine call_enumerate_str λh he hit hsz keep=>wpAny_pyIter_enum (s:={ s2 with heap:=h }) he λp=>?_
 rw [hz] at he hit ⊢
 have fB:s2.heap.get? s.heap.objs.size=none:=Heap.get?_none_of_le (Nat.le_of_eq hz)
 have fB1:s2.heap.get? (s.heap.objs.size+1)=none:=Heap.get?_none_of_le (Nat.le_succ_of_le (Nat.le_of_eq hz))
 have xs:Ext [s.heap.objs.size+1,s.heap.objs.size,C] [] s [] { s2 with heap:=h }:=(x02.weak (hown.symm▸all1 (List.mem_cons_of_mem _ (List.mem_cons_of_mem _ (List.mem_cons_self ..))))).trans (Ext.of_keep (t:=s2.toks) keep)
 have it:GenIt prog w a s.heap.objs.size t (strIterType a):=by
  unfold strIterType
  cases ha:a.cps.all (· < 128) with
  | false=>exact ⟨λA' h=>Draws.strWide h _ a t,λA' s i Q E h hi hn k=>nextOf_wide_endL h hi hn k⟩
  | true=>exact ⟨λA' h=>Draws.strAscii h _ a t,λA' s i Q E h hi hn k=>nextOf_ascii_endL h hi hn k⟩
 exact gen_walk g hown hA (Rm2 _ _ _ _) R2 hok he hit keep fB fB1 it (λi esc p ch s_0 s pre h1 h2 h3 h4 h5=>gen_end g Rm1 h1 h2 h3 h4 h5) xs
end
noncomputable def gvars:List (Nat×Str):=[(0,"addr"),(1,"pos"),(2,"escape"),(3,"ch")]
noncomputable def gfx (fd:FuncData) (a:Addr) (k:Nat) (L:Addr):Fx:=⟨newEnv fd.scope L fd.globals [] (fd.qualname++".<locals>.") (some a) fd.code none fd.builtins,fd.scope,gvars,[L],k⟩
theorem AllBare.set {gens:Array GenState} {g:Nat} {st:GenState} (h:AllBare gens) (hb:st.bare=true):AllBare (gens.setIfInBounds g st):=λy hy=>by
 rcases Array.mem_or_eq_of_mem_setIfInBounds hy with q | rfl
 ·exact h y q
 ·exact hb
theorem setGen_other {s:Shared} {g g':Nat} {st:GenState} (h:g'≠g):(s.setGen g st).gens[g']?=s.gens[g']?:=by
 skip
 exact (Array.getElem?_setIfInBounds_ne (λq=>h q.symm)).symm▸rfl
theorem HR.moreX {ρ:Rho} {wr Z:List Addr} {hp:List MO} {h h':Heap} (H:HR ρ Z hp h) (hw:∀a∈wr,h.get? a=none) (k:∀a o,a∉Z->h.get? a=some o->h'.get? a=some o) (lv:∀a∈wr++Z,∃o,h'.get? a=some o):HR ρ (wr++Z) hp h' :=
 ⟨H.len,H.nodup,λb hb m=>(List.mem_append.mp m).elim (λm=>by obtain ⟨o,e⟩:=H.live b hb; rw [hw b m] at e; cases e) (H.offZ b hb),lv,λi mo e =>
  let ⟨r,b,hr,hm⟩:=H.at_ i mo e
  have hb:b∉wr++Z:=λm=>(List.mem_append.mp m).elim (λm=>by obtain ⟨o,e⟩:=hm.live; rw [hw b m] at e; cases e) (H.offZ b (List.mem_map_of_mem (f:=Prod.snd) (List.mem_of_getElem? hr)))
  ⟨r,b,hr,(MR.more (h':=h) hw (λ_ _ e=>e) hm).own (λa o ha=>k a o λq=>ha (List.mem_append_right _ q)) hb⟩⟩
section
variable (prog:Program) (w:World) (K:Addr->Option Obj) (A:Around) (P:Nat->Pos) (fx:Fx) (e:Addr) (gi:Nat) (a:Str) (C:Addr)
structure GJ (l:List PyData) (wr:List Addr) (ρ:Rho) (Z:List Addr) (s:Shared):Prop where
 gen:s.heap.IsGen e gi
 eoff:e∉muts ρ∧e∉Z
 woff:∀b∈wr,b∉muts ρ∧∃o,s.heap.get? b=some o
 top:TopOK K s.heap
 off:OffK K ρ Z
 pre:∃pre,gF a.cps.toList 0 false=pre++l
 st:∃gs,s.gens[gi]?=some gs∧((gs=.fresh (.func (genBody P) fx.env)∧wr=[C]∧l=gF a.cps.toList 0 false∧SR K fx [] [C] ⟨[some (.dat (.str a)),none,none,none],[]⟩ s) ∨
  (∀s'':Shared,(∀b∈wr,∀o,s.heap.get? b=some o->s''.heap.get? b=some o)->TopOK K s''.heap->gs.Goes (model prog w) A.in1 (RB wr) (YB K wr (gF a.cps.toList 0 false)) l.length (.send .none) s''))
noncomputable def JG:IS->List Addr->Rho->List Addr->Shared->Prop
 | .rem l=>GJ prog w K A P fx e gi a C l
 | .trk _ _=>λ_ _ _ _=>False
end
section
variable {prog:Program} {w:World} {K:Addr->Option Obj} {A:Around} {P:Nat->Pos} {fx:Fx} {e:Addr} {gi:Nat} {a:Str} {C:Addr} {l:List PyData} {wr:List Addr} {ρ ρ':Rho} {Z Z' X:List Addr} {s s':Shared} {mg mb:Str->Option Value}
theorem scal0:scalLoc [some (.dat (.str a)),none,none,none]:=λi pv hi=>by
 match i,hi with
 | 0,hi=>cases hi; exact ⟨_,rfl,rfl⟩
 | i+4,hi=>simp at hi
theorem GJ.ext (g:GF prog w K fx) (J:GJ prog w K A P fx e gi a C l wr ρ Z s) (x:Ext X ρ s ρ' s') (hX:∀a∈X,a∈Z∧a∉wr):GJ prog w K A P fx e gi a C l wr ρ' Z s':=by
 obtain ⟨o,nm,qn,ho,hr⟩:=id J.gen
 have kw:∀b∈wr,∀o,s.heap.get? b=some o->s'.heap.get? b=some o:=λb hb o e=>x.heap b o (J.woff b hb).1 (λq=>(hX b q).2 hb) e
 have tp:TopOK K s'.heap:=λb o hb=>x.heap b o (J.off b (hb.symm▸λq=>nso q)).1 (λq=>(J.off b (hb.symm▸λq=>nso q)).2 (hX b q).1) (J.top b o hb)
 refine ⟨⟨o,nm,qn,x.heap e o J.eoff.1 (λq=>J.eoff.2 (hX e q).1) ho,hr⟩,⟨x.notin ho J.eoff.1,J.eoff.2⟩,λb hb=>?_,tp,λb hb=>?_,J.pre,?_⟩
 ·obtain ⟨h1,o,h2⟩:=J.woff b hb
  exact ⟨x.notin h2 h1,o,kw b hb o h2⟩
 ·refine ⟨?_,(J.off b hb).2⟩
  cases q:K b with
  | none=>exact absurd q hb
  | some o=>exact x.notin (J.top b o q) (J.off b hb).1
 ·obtain ⟨gs,hgs,h⟩:=J.st
  refine ⟨gs,x.gens gi gs hgs,?_⟩
  rcases h with ⟨rfl,rfl,hl,R⟩ | h
  ·exact .inl ⟨rfl,rfl,hl,R.wake scal0 g.cells kw tp⟩
  ·exact .inr λs'' k t=>h s'' (λb hb o e=>k b hb o (kw b hb o e)) t
theorem GJ.more (g:GF prog w K fx) (J:GJ prog w K A P fx e gi a C l wr ρ Z s) (hZ:∀a∈Z',a∈Z∨s.heap.get? a=none) (k:∀b o,s.heap.get? b=some o->s'.heap.get? b=some o) (kg:∀(g:Nat) (st:GenState),s.gens[g]?=some st->s'.gens[g]?=some st):GJ prog w K A P fx e gi a C l wr ρ Z' s':=by
 have tp:TopOK K s'.heap:=λb o hb=>k b o (J.top b o hb)
 refine ⟨J.gen.keeps k,⟨J.eoff.1,λq=>?_⟩,λb hb=>let ⟨h1,o,h2⟩:=J.woff b hb; ⟨h1,o,k b o h2⟩,tp,λb hb=>⟨(J.off b hb).1,λq=>?_⟩,J.pre,?_⟩
 ·rcases hZ e q with q | q
  ·exact J.eoff.2 q
  ·obtain ⟨o,nm,qn,ho,hr⟩:=J.gen; rw [q] at ho; cases ho
 ·rcases hZ b q with q | q
  ·exact (J.off b hb).2 q
  ·cases h:K b with
   | none=>exact absurd h hb
   | some o=>have:=J.top b o h; rw [q] at this; cases this
 ·obtain ⟨gs,hgs,h⟩:=J.st
  refine ⟨gs,kg gi gs hgs,?_⟩
  rcases h with ⟨rfl,rfl,hl,R⟩ | h
  ·exact .inl ⟨rfl,rfl,hl,R.wake scal0 g.cells (λb _ o e=>k b o e) tp⟩
  ·exact .inr λs'' k' t=>h s'' (λb hb o e=>k' b hb o (k b o e)) t
theorem Room.gen1 {k:Nat} {body:List Stmt} {env:Env} (h:Room A (k+1)):Room (A.in1.over (.func body env) []) k :=
 ⟨h.handled,by have:=h.depth; show A.depth+0+1+k < 900; lia,by have:=h.units; show A.units+1+0+3+40*k < 9000; lia⟩
theorem Room.gen2 {k:Nat} {e:Addr} {p:Pos} {H:Flow->Sem Fin} {Hx:Value->Sem Fin} {body:List Stmt} {env:Env} (h:Room A (k+1)):Room (A.in1.over (.forLoop (genTg P) (.ref e) [genIf P] [] env) (genFs H Hx env (.func body env) p)) k :=
 ⟨h.handled,by have:=h.depth; show A.depth+(1+0)+0+k < 900; lia,by have:=h.units; show A.units+1+(3+0)+0+40*k < 9000; lia⟩
inductive GGo (prog:Program) (w:World) (K:Addr->Option Obj) (A:Around) (gi:Nat) (a:Str) (l:List PyData) (wr:List Addr) (s:Shared):Prop
 | mk (gs:GenState) (w_2:List Addr):s.gens[gi]?=some gs->(∀b∈w_2,s.heap.get? b=none)->gs.Goes (model prog w) A.in1 (RB (w_2++wr)) (YB K (w_2++wr) (gF a.cps.toList 0 false)) l.length (.send .none) (s.setGen gi .running)->GGo prog w K A gi a l wr s
theorem GJ.goes (g:GF prog w K fx) (gl:Gl K mg mb) (hk:fx.sc.names.lookup ("enumerate":Str)=some .globalImplicit) (hg:mg "enumerate"=none) (hb:mb "enumerate"=some (.type "enumerate")) (hown:fx.own=[C]) (Rm:Room A (fx.k+1)) (hok:PyData.strOk a=true)
  (J:GJ prog w K A P fx e gi a C l wr ρ Z s):GGo prog w K A gi a l wr s:=by
 obtain ⟨gs,hgs,h⟩:=J.st
 rcases h with ⟨rfl,rfl,rfl,R⟩ | h
 ·refine ⟨_,[s.heap.objs.size+1,s.heap.objs.size],hgs,λb hb=>?_,rfl,?_⟩
  ·exact all2 (P:=λb=>s.heap.get? b=none) (Heap.get?_none_of_le (Nat.le_succ _)) (Heap.get?_none_of_le (Nat.le_refl _)) b hb
  ·have R':SR K fx [] [C] ⟨[some (.dat (.str a)),none,none,none],[]⟩ (s.setGen gi .running):=R.wake scal0 g.cells (λ_ _ _ e=>e) J.top
   exact gen_body g gl hk hg hb hown (A:=A.in1) Rm.handled Rm.gen1 (λ_ _ _ _=>Rm.gen2) R' hok
 ·exact ⟨gs,[],hgs,(λ_ h=>nin h),h _ (λ_ _ _ e=>e) J.top⟩
end
section
variable {prog:Program} {w:World} {K:Addr->Option Obj} {A:Around} {P:Nat->Pos} {fx:Fx} {e:Addr} {gi:Nat} {a:Str} {C:Addr} {mg mb:Str->Option Value} {tg:Expr}
theorem JG.rem_ {l:IS} {wr:List Addr} {ρ:Rho} {Z:List Addr} {s:Shared} {Q:IS->Prop} (J:JG prog w K A P fx e gi a C l wr ρ Z s) (k:∀l,GJ prog w K A P fx e gi a C l wr ρ Z s->Q (.rem l)):Q l:=by
 cases l with
 | rem l=>exact k l J
 | trk=>exact J.elim
theorem off_app {h:Heap} {w_2 wr:List Addr} (hw_2:∀b∈w_2,h.get? b=none) {b:Addr} {o:Obj} (hb:b∉wr) (e:h.get? b=some o):b∉w_2++wr:=λq=>(List.mem_append.mp q).elim (λq=>nos ((hw_2 b q).symm.trans e)) hb
theorem tail_at {out pre l:List PyData} {d d':PyData} (hpre:out=pre++d::l) (hd:out[out.length - 1 - ((d::l).length - 1)]?=some d'):d=d':=by
 rw [hpre,List.length_append] at hd
 have hd:(pre++d::l)[pre.length+l.length - l.length]?=some d':=hd
 rw [Nat.add_sub_cancel,List.getElem?_append_right (Nat.le_refl _),Nat.sub_self] at hd
 exact sos hd
theorem setGen_at {s:Shared} {g:Nat} {st:GenState} (h:g < s.gens.size):(s.setGen g st).gens[g]?=some st:=by
 show (s.gens.setIfInBounds g st)[g]?=_
 rw [Array.getElem?_setIfInBounds_self,if_pos h]
theorem gen_ext {s s_1:Shared} {st:GenState} {W wr:List Addr} {ρ:Rho} (x:Ext W [] (s.setGen gi .running) [] s_1) (hb:st.bare=true) (off:∀b o,b∉wr->s.heap.get? b=some o->b∉W):ExtG wr (λx=>x=gi) ρ s ρ (s_1.setGen gi st) :=
 ⟨⟨⟨[],(List.append_nil _).symm,λ_ h=>nin h⟩,λb o _ hb e=>x.heap b o List.not_mem_nil (off b o hb e) e,x.live,x.drawn,x.os,λ_ _ e=>e,λh=>h⟩,λg' st hg' e=>(setGen_other hg').trans (x.gens g' st ((setGen_other hg').trans e)),λh=>AllBare.set (x.bare (AllBare.set h rfl)) hb⟩
theorem genIter (g:GF prog w K fx) (gl:Gl K mg mb) (hk:fx.sc.names.lookup ("enumerate":Str)=some .globalImplicit) (hg:mg "enumerate"=none) (hb:mb "enumerate"=some (.type "enumerate")) (hown:fx.own=[C]) (Rm:Room A (fx.k+1)) (hok:PyData.strOk a=true) (ht:TgOK tg) :
  IterD prog w A (.ref e) tg (λx=>x=gi) stepI (JG prog w K A P fx e gi a C) where
 ext:=λ{l wr ρ Z s X ρ' s'} J x hX=>J.rem_ (Q:=λl=>JG prog w K A P fx e gi a C l wr ρ' Z s') λl J=>GJ.ext g J x hX
 more:=λ{l wr ρ Z Z' s s'} J hZ k kg=>J.rem_ (Q:=λl=>JG prog w K A P fx e gi a C l wr ρ Z' s') λl J=>GJ.more g J hZ k kg
 self:=λ{l wr hp r ρ Z s Q} _ J _ hQ=>J.rem_ (Q:=λ_=>wpAny (model prog w) A (pyIter (.ref e)) Q noE s) λl J=>wpAny_pyIter_gen J.gen hQ
 next:=λ{l wr hp d l' hp' ρ Z s} st J H hw=>by
  revert st
  refine J.rem_ (Q:=λl=>stepI l hp=some (some (d,l'),hp')->_) λl J st=>?_
  obtain ⟨hh,⟨_,q⟩ | ⟨d_1,l_1,hl,q⟩⟩:=stepI_rem st
  ·exact nos q.symm
  have q:=Prod.mk.inj (sos q)
  replace J:=q.1.symm▸hl▸J
  refine q.2.symm▸?_
  replace H:=hh▸H
  refine cps λ_ KK=>?_
  obtain ⟨gs,w_2,hgs,hw_2,hgo⟩:=GJ.goes g gl hk hg hb hown Rm hok J
  refine KK ?_
  refine pyNext_genQ (P:=λn s_0 s_1=>n=0∧Ext (w_2++wr) [] s_0 [] s_1) Rm.handled (gl.lim _ J.top) (Nat.lt_of_le_of_lt (Nat.le_add_right _ _) (Nat.lt_trans Rm.depth (by decide))) J.gen hgs hgo (λv s_1 gs' hbare hY=>?_) (λs_1 p=>nomatch p.1)
  refine cps λ_ KK=>?_
  obtain ⟨T,d',hv,hd,hr,hf,hTow,x,lv,hkap⟩:=hY
  obtain ⟨o,nm,qn,ho,hcl,hdt,hsl⟩:=id J.gen
  obtain ⟨pre,hpre⟩:=J.pre
  refine KK ?_
  have hdd:d=d':=tail_at hpre hd
  replace hr:=hdd.symm▸hr
  have offZ:∀b o,b∉Z->s.heap.get? b=some o->b∉w_2++wr:=λb o hb e=>off_app hw_2 (λq=>hb (hw b q)) e
  have xh:∀b o,b∉Z->s.heap.get? b=some o->s_1.heap.get? b=some o:=λb o hb e=>x.heap b o List.not_mem_nil (offZ b o hb e) e
  have kz:∀b o,K b=some o->b∉Z:=λb o hb=>(J.off b λq=>nos (q.symm.trans hb)).2
  have hgi:gi < s_1.gens.size:=(Array.getElem?_eq_some_iff.mp (x.gens gi _ (setGen_at (Array.getElem?_eq_some_iff.mp hgs).1))).1
  have H':HR ρ (w_2++Z) hp' (s_1.setGen gi gs').heap:=H.moreX hw_2 xh λb hb=>(List.mem_append.mp hb).elim (λq=>lv b (List.mem_append_left _ q)) λq=>(H.liveZ b q).elim λo e=>x.live b o e
  have J':GJ prog w K A P fx e gi a C l_1 (w_2++wr) ρ (w_2++Z) (s_1.setGen gi gs') :=
   ⟨⟨o,nm,qn,xh e o J.eoff.2 ho,hcl,hdt,hsl⟩,⟨J.eoff.1,off_app hw_2 J.eoff.2 ho⟩,λb hb=>⟨(List.mem_append.mp hb).elim (λq=>(H.fresh (hw_2 b q)).1) λq=>(J.woff b q).1,lv b hb⟩,λb o hb=>xh b o (kz b o hb) (J.top b o hb),λb hb=>⟨(J.off b hb).1,λq=>?_⟩,⟨pre++[d],by rw [hpre,List.append_assoc]; rfl⟩,gs',setGen_at hgi,.inr λs'' k t=>hkap s'' k t⟩
  ·exact ⟨.ref T,hv▸rfl,go_class ht (s:=s_1.setGen gi gs') (xh e o J.eoff.2 ho) hcl (by decide) ⟨ρ,w_2,hw_2,gen_ext x hbare λb o=>off_app hw_2,H',⟨[T],hr,all1 ⟨(H.fresh hf).1,λq=>(List.mem_append.mp q).elim (λq=>hTow (List.mem_append_left _ q)) (H.fresh hf).2⟩⟩,J'⟩⟩
  ·cases h:K b with
   | none=>exact absurd h hb
   | some o=>exact off_app hw_2 (kz b o h) (J.top b o h) q
 done:=λ{l wr hp hp' ρ Z s} st J H hw=>by
  revert st
  refine J.rem_ (Q:=λl=>stepI l hp=some (none,hp')->_) λl J st=>?_
  obtain ⟨hh,⟨hl,_⟩ | ⟨_,_,_,q⟩⟩:=stepI_rem st
  ·replace J:=hl▸J
   replace H:=hh▸H
   refine cps λ_ KK=>?_
   obtain ⟨gs,w_2,hgs,hw_2,hgo⟩:=GJ.goes g gl hk hg hb hown Rm hok J
   refine KK ?_
   refine pyNext_genQ (P:=λn s_0 s_1=>n=0∧Ext (w_2++wr) [] s_0 [] s_1) Rm.handled (gl.lim _ J.top) (Nat.lt_of_le_of_lt (Nat.le_add_right _ _) (Nat.lt_trans Rm.depth (by decide))) J.gen hgs hgo (λv s_1 gs' hbare hY=>?_) (λs_1 p h' keep=>?_)
   ·refine cps λ_ KK=>?_
    obtain ⟨T,d',hv,hd,hr,hf,hTow,x,lv,hkap⟩:=hY
    refine KK ?_
    exact (hkap s_1 (λ_ _ _ e=>e) λb o hb=>x.heap b o List.not_mem_nil (off_app hw_2 (λq=>(J.off b λq=>nos (q.symm.trans hb)).2 (hw b q)) (J.top b o hb)) (J.top b o hb)).elim
   ·exact ⟨rfl,ρ,s_1.setGen gi .finished,h',s_1.toks,gen_ext p.2 rfl λb o=>off_app hw_2,H.own (λb o hb e=>p.2.heap b o List.not_mem_nil (off_app hw_2 (λq=>hb (hw b q)) e) e) p.2.live,rfl,λb o _ e=>keep b o e⟩
  ·exact nos q
end
noncomputable def escF (G:LF):SF:=λσ=>match G σ with
 | some ([.dat (.str x)],hp)=>some ((.rem (gF x.cps.toList 0 false),(gF x.cps.toList 0 false).length+1),hp)
 | _=>none
structure GenOK (prog:Program) (w:World) (K:Addr->Option Obj) (mg mb:Str->Option Value) (a:Addr) (o:Obj) (fd:FuncData) (P:Nat->Pos) (k:Nat):Prop where
 at_:K a=some o
 data:o.data=.func fd
 body:fd.body=.stmts (genBody P)
 code:∀h,TopOK K h->h.CodeRec fd.code fd.qualname
 bind:∀v,bindArgs fd ⟨[v],[]⟩=pure [(("addr":Str),v)]
 glob:fd.globals=mainGlobals
 bi:fd.builtins=builtinsNs
 clo:fd.closure=[]
 gen:fd.scope.isGenerator=true
 co:fd.scope.isCoroutine=false
 kind:fd.scope.kind=.function
 nocell:∀x∈fd.scope.names,x.2≠.cell
 addr:fd.scope.names.lookup ("addr":Str)=some .local
 pos:fd.scope.names.lookup ("pos":Str)=some .local
 escape:fd.scope.names.lookup ("escape":Str)=some .local
 ch:fd.scope.names.lookup ("ch":Str)=some .local
 enum:fd.scope.names.lookup ("enumerate":Str)=some .globalImplicit
 mg:mg "enumerate"=none
 mb:mb "enumerate"=some (.type "enumerate")
 k:1≤k
theorem gvars_inj:∀(i j:Nat) (y:Str),gvars.lookup i=some y->gvars.lookup j=some y->i=j:=λi j y hi hj=>by
 have h:gvars.all (λp=>gvars.all λq=>p.2 != q.2||p.1==q.1)=true:=by decide +kernel
 rcases (Bool.or_eq_true _ _).mp (List.all_eq_true.mp (List.all_eq_true.mp h _ (lookup_mem hi)) _ (lookup_mem hj)) with e | e
 ·exact absurd rfl (bne_iff_ne.mp e)
 ·exact eq_of_beq e
section
variable {prog:Program} {w:World} {K:Addr->Option Obj} {fx:Fx} {mg mb:Str->Option Value}
theorem GenOK.gf {a:Addr} {o:Obj} {fd:FuncData} {P:Nat->Pos} {k:Nat} (G:GenOK prog w K mg mb a o fd P k) (L:Addr):GF prog w K (gfx fd a k L) where
 v0:=rfl
 v1:=rfl
 v2:=rfl
 v3:=rfl
 s1:=.inl G.pos
 s2:=.inl G.escape
 s3:=.inl G.ch
 k:=G.k
 cells:=rfl
 co:=G.co
 int_:=by
  skip
  skip
  show (fd.scope.kind==.module&&_)=false
  rw [G.kind]; rfl
theorem escF_inv {G:LF} {σ:St} {is:IS} {n:Nat} {hp':List MO} {Q:Prop} (q:escF G σ=some ((is,n),hp')) (k:∀x,G σ=some ([.dat (.str x)],hp')->.rem (gF x.cps.toList 0 false)=is->Q):Q:=by
 unfold escF at q
 cases h:G σ with
 | none=>rw [h] at q; exact nos q
 | some y =>
  obtain ⟨ps,hp⟩:=y
  replace q:=h▸q
  cases ps with
  | nil=>exact nos q
  | cons p ps=>cases ps with
   | cons _ _=>cases p with
    | dat d=>cases d<;>exact nos q
    | _=>exact nos q
   | nil=>cases p with
    | dat d=>cases d with
     | str x=>exact k x ((sop q).2▸h) (Prod.mk.inj (sop q).1).1
     | _=>exact nos q
    | _=>exact nos q
noncomputable def genObj (g:Nat) (fd:FuncData) (t:Nat):Obj:={ cls:=.type "generator",data:=.fields #[.int g 0,.str fd.name t,.str fd.qualname (t+1)] }
theorem kept_no {K:Addr->Option Obj} {h:Heap} (top:TopOK K h) {C:Addr} (fC:h.get? C=none) {b:Addr} (hb:K b≠none) (q:b∈[C]):False:=by
 rw [List.mem_singleton.mp q] at hb
 cases h:K C with
 | none=>exact hb h
 | some o=>exact nos (fC.symm.trans (top C o h))
theorem addr_slot {fd:FuncData} {a:Addr} {k C:Addr} {x:Str} {t:Tok} {ρ:Rho} {Z:List Addr} {h:Heap} (hA:fd.scope.names.lookup ("addr":Str)=some .local) (hok:PyData.strOk x=true) (i:Nat) (y:Str) (pv:PV) (hi:gvars.lookup i=some y) (hl:[some (.dat (.str x)),none,none,none][i]?=some (some pv)) :
  ∃v,slotV (gfx fd a k C).env (λy=>[(("addr":Str),Value.str x t)].reverse.lookup y) (λ_=>none) y=some v∧VR ρ Z h pv v:=by
 cases i with
 | zero =>
  refine (sos (sos hl))▸(sos (show some (("addr":Str))=some y from hi))▸?_
  refine ⟨.str x t,?_,[],.str _ _ hok,λ_ h=>nin h⟩
  unfold slotV
  refine (show (gfx fd a k C).env.kindOf "addr"=some .local from hA).symm▸?_
  rfl
 | succ i=>cases i with
  | zero=>exact nos (sos hl)
  | succ i=>cases i with
   | zero=>exact nos (sos hl)
   | succ i=>cases i with
    | zero=>exact nos (sos hl)
    | succ i=>exact nos hl
theorem gen_made {A:Around} {a:Addr} {o:Obj} {fd:FuncData} {P:Nat->Pos} {k:Nat} (gl:Gl K mg mb) (G:GenOK prog w K mg mb a o fd P k) {tg:Expr} (ht:TgOK tg) {ρ ρ_1:Rho} {Z:List Addr} {loc:Loc} {s s_1:Shared} {hp':List MO} {x:Str} {t:Tok} {C:Addr} {h':Heap} {is:IS}
  (his:.rem (gF x.cps.toList 0 false)=is) (Rm:Room A (k+1)) (x_1:Ext [] ρ s ρ_1 s_1) (R_1:SR K fx ρ_1 Z ⟨loc,hp'⟩ s_1) (hok:PyData.strOk x=true) (fC:s_1.heap.get? C=none) (fC1:s_1.heap.get? (C+1)=none) (kp1:∀b o,s_1.heap.get? b=some o->h'.get? b=some o) (hn:h'.Ns C (λy=>[(("addr":Str),Value.str x t)].reverse.lookup y))
  (hsz:h'.objs.size=C+1) {t1 t2:Nat}:PostI prog w A tg stepI ρ Z s is hp' (.ref (C+1)) ⟨h'.push (genObj s_1.gens.size fd t1),s_1.gens.push (.fresh (.func (genBody P) (gfx fd a k C).env)),s_1.drawn,t2,s_1.os⟩:=by
 have kp:∀b o,s_1.heap.get? b=some o->(h'.push (genObj s_1.gens.size fd t1)).get? b=some o:=λb o hb=>Heap.get?_push_of_some _ (kp1 b o hb)
 have H_1:=R_1.hr
 have hnC:(h'.push (genObj s_1.gens.size fd t1)).Ns C (λy=>[(("addr":Str),Value.str x t)].reverse.lookup y):=Ns.keep hn λo e=>Heap.get?_push_of_some _ e
 have tp:TopOK K (h'.push (genObj s_1.gens.size fd t1)):=λb o hb=>kp b o (R_1.top b o hb)
 have no:=λb hb=>kept_no R_1.top fC (b:=b) hb
 refine his▸?_
 refine ⟨ρ_1,s_1,[C],(λx=>x=s_1.gens.size),JG prog w K A P (gfx fd a k C) (C+1) s_1.gens.size x C,x_1,H_1,⟨⟨[],(List.append_nil _).symm,(λ_ h=>nin h)⟩,(λb o _ _ e=>kp b o e),(λb o e=>⟨o,kp b o e⟩),rfl,rfl,(λg st e=>?_),λh=>AllBare.push h rfl⟩,kp,all1 fC,all1 (Ns.live hnC),(λg hg=>hg.symm▸Array.getElem?_eq_none (Nat.le_refl _)),?_,genIter (G.gf C) gl G.enum G.mg G.mb rfl Rm hok ht⟩
 ·skip
  refine (Array.getElem?_push).symm▸(if_neg (Nat.ne_of_lt (Array.getElem?_eq_some_iff.mp e).1)).symm▸?_
  exact e
 ·refine ⟨⟨genObj s_1.gens.size fd t1,_,_,hsz▸Heap.get?_push_size _ rfl,rfl,rfl,rfl⟩,⟨(H_1.fresh fC1).1,λq=>(List.mem_append.mp q).elim (λq=>Nat.succ_ne_self _ (List.mem_singleton.mp q)) (H_1.fresh fC1).2⟩,all1 ⟨(H_1.fresh fC).1,Ns.live hnC⟩,tp,λb hb=>⟨(R_1.off b hb).1,λq=>(List.mem_append.mp q).elim (no b hb) (R_1.off b hb).2⟩,⟨[],rfl⟩,_,Array.getElem?_push_size,.inl ⟨rfl,rfl,rfl,?_⟩⟩
  exact ⟨⟨rfl,List.nodup_nil,(λb hb=>nin hb),all1 (Ns.live hnC),λi mo e=>nos e⟩,⟨⟨_,λ_=>none,hnC,(λn c e=>nos e),addr_slot G.addr hok⟩,G.kind,rfl,gvars_inj,G.glob,G.bi,List.mem_singleton_self _,λb hb=>hb,List.not_mem_nil,(λn c e=>nos e),λn n' c e=>nos e⟩,tp,λb hb=>⟨List.not_mem_nil,no b hb⟩⟩
theorem EvI.gen (gl:Gl K mg mb) {f:Str} {a:Addr} {o:Obj} {fd:FuncData} {P:Nat->Pos} {k:Nat} {e:Expr} {es:List Expr} {pos np:Pos} {F:LF} (G:GenOK prog w K mg mb a o fd P k) (he:EvL prog w K fx (e::es) F) {tg:Expr} (ht:TgOK tg) (hK:k+1≤fx.k)
  (hk:fx.sc.names.lookup f=some .globalImplicit) (hg:mg f=some (.ref a)) (hd:(f==("__debug__":Str))=false:=by decide)
  (hs:∀env,starEach (e::es) env=(false,eval e env)::starEach es env:=by intro _; rfl) (hp:∀env,(backTo pos (starEach es env)).any (·.1)=false:=by intro _; rfl) :
  EvI prog w K fx (.Call (.Name f np) (e::es) [] pos) tg stepI (escF F):=.mk λA ρ Z σ s is n hp' Rm R q=>by
 refine escF_inv q λx e1 his=>?_
 refine Call_ (global_name gl R hk (.inl hg) ?_ hd)
 refine callWith_function (o:=o) (fd:=fd) ?_
 have hh:=he.run pos A ρ Z σ s _ _ Rm R e1
 rw [hs] at hh ⊢
 refine evalArgs_plain (wpAny_mono hh (λvs s_1 p=>?_) λ_ _ q=>q)
 refine cps λ_ KK=>?_
 obtain ⟨ρ_1,x_1,V,H_1⟩:=p
 refine KK ?_
 have R_1:=R.next x_1 H_1
 refine ⟨⟨R_1.top a o G.at_,G.data⟩,?_⟩
 refine cps λ_ KK=>?_
 obtain ⟨v,r,hv,Vx,V⟩:=V.uncons
 obtain ⟨as,rx,_⟩:=id Vx
 obtain ⟨t,hx,_,hok⟩:=rx.str_
 refine KK ?_
 refine hv.symm▸V.unnil.symm▸hx.symm▸?_
 refine wpAny_call (codeAny_call_generator (R:=λr s'=>match r with
  | .ok (.ret v)=>wpAny (model prog w) A (pyIter v) (PostI prog w A tg stepI ρ Z s is hp') noE s'
  | .ok _=>False
  | .error e=>noE e s') (Nat.lt_of_le_of_lt (Nat.le_add_right _ _) (Nat.lt_trans Rm.depth (by decide))) (R_1.top a o G.at_) G.data G.co G.gen G.body (G.code _ R_1.top) ?_)
 refine (show bindArgs fd { pos:=[]++({ pos:=[Value.str x t] }:Args).pos }=pure [(("addr":Str),.str x t)] from G.bind _).symm▸?_
 refine wpAny_pure ?_
 refine wpAny_newFunctionEnv G.nocell (λy hy=>(List.mem_singleton.mp hy).symm▸G.addr) (λh' hn sb=>?_) G.kind
 have fC:s_1.heap.get? s_1.heap.objs.size=none:=Heap.get?_none_of_le (Nat.le_refl _)
 have kp1:∀b o,s_1.heap.get? b=some o->h'.get? b=some o:=λb o hb=>sb.extBut b o (λq=>nos ((q▸fC).symm.trans hb)) (Heap.get?_push_of_some _ hb)
 have hsz:h'.objs.size=s_1.heap.objs.size+1:=by rw [sb.1,Heap.size_push]
 refine ⟨gl.lim _ λb o hb=>kp1 b o (R_1.top b o hb),?_⟩
 refine (show newEnv fd.scope s_1.heap.objs.size fd.globals fd.closure (fd.qualname++".<locals>.") (some a) fd.code none fd.builtins=(gfx fd a k s_1.heap.objs.size).env by rw [G.clo]; rfl).symm▸?_
 skip
 refine hsz.symm▸?_
 exact wpAny_pyIter_gen (g:=s_1.gens.size) ⟨_,_,_,hsz▸Heap.get?_push_size _ rfl,rfl,rfl,rfl⟩ (gen_made gl G ht his (Rm.mono hK) x_1 R_1 hok fC (Heap.get?_none_of_le (Nat.le_succ _)) kp1 hn hsz)
end
end Mine
end
section
open PySem PySem.Calls open Sem (wp) open Builtin Builtin.ObjectAttr
namespace Mine
theorem fn_lk_ga:typeLookup (.type "function") "__getattribute__"=pure (some (.builtin "object.__getattribute__")):=by rw [typeLookup_type,builtinLookup_eq_fast]; kernel_rfl
theorem fn_lk_sa:typeLookup (.type "function") "__setattr__"=pure (some (.builtin "object.__setattr__")):=by rw [typeLookup_type,builtinLookup_eq_fast]; kernel_rfl
theorem fn_lk_getattr:typeLookup (.type "function") "__getattr__"=pure none:=by rw [typeLookup_type,builtinLookup_eq_fast]; kernel_rfl
theorem fn_lk_read:typeLookup (.type "function") "read"=pure none:=by rw [typeLookup_type,builtinLookup_eq_fast]; kernel_rfl
theorem fn_mro:mroOf (.type "function")=pure [.type "function",.type "object"]:=by kernel_rfl
theorem fn_slot_ga:Slot "function" "__getattribute__" "object.__getattribute__":=.of (owner:="object") (n:="__getattribute__") (by rw [typeLookup_type,builtinLookup_eq_fast]; kernel_rfl) (by decide +kernel) (by decide +kernel) (by decide +kernel)
  (by first | exact .inl (by decide +kernel) | exact .inr (by decide +kernel)) (by rw [isSubtype_type]; kernel_rfl)
theorem fn_slot_sa:Slot "function" "__setattr__" "object.__setattr__":=.of (owner:="object") (n:="__setattr__") (by rw [typeLookup_type,builtinLookup_eq_fast]; kernel_rfl) (by decide +kernel) (by decide +kernel) (by decide +kernel)
  (by first | exact .inl (by decide +kernel) | exact .inr (by decide +kernel)) (by rw [isSubtype_type]; kernel_rfl)
section
variable {prog:Program} {w:World} {A:Around} {E:Value->Shared->Prop} {h:Heap} {g:Array GenState} {d:Drawn} {t:Nat} {os:OsState} {x dx:Addr} {o:Obj} {fd:FuncData} {m:Str->Option Value} {v:Value}
theorem fn_load {tk:Tok} {Q:Fin->Shared->Prop} (hx:h.get? x=some o) (hc:o.cls=.type "function") (hf:o.data=.func fd) (hd:o.dict=some dx) (hn:h.Ns dx m) (hv:m "read"=some v) (hq:Q (.done (.ret v)) ⟨h,g,d,t,os⟩) :
  wpAny (model prog w) A (Builtin.«object.__getattribute__» ⟨[.ref x,.str "read" tk],[]⟩) Q E ⟨h,g,d,t,os⟩:=by
 unfold Builtin.«object.__getattribute__»
 repeat (first | (with_reducible refine wpAny_loadPart_at hx ?_; rw [hc]) | (with_reducible refine wpAny_of_eq fn_lk_read ?_) | wp_step)
 refine hf.symm▸?_
 unfold instanceDict
 repeat (first | (with_reducible refine wpAny_loadPart_at hx ?_; rw [hc]) | wp_step)
 refine hd.symm▸?_
 repeat (first | (with_reducible refine wpAny_nsGet hn ?_; rw [hv]) | wp_step)
 exact hq
theorem fn_getAttr {expr:Bool} {Q:Value->Shared->Prop} (hx:h.get? x=some o) (hc:o.cls=.type "function") (hf:o.data=.func fd) (hd:o.dict=some dx) (hn:h.Ns dx m) (hv:m "read"=some v) (hh:handedOut v=pure v) (hq:Q v ⟨h,g,d,t+1,os⟩) :
  wpAny (model prog w) A (getAttr (.ref x) "read" expr) Q E ⟨h,g,d,t,os⟩:=by
 have hT:(⟨h,g,d,t+1,os⟩:Shared).TypeIs (.ref x) "function":=⟨_,hx,hc⟩
 have f4:=fn_slot_ga.bind (.ref x)
 skip
 repeat (first | (with_reducible refine wpAny_loadPart_at hx ?_; rw [hc]) | (with_reducible refine wpAny_of_eq fn_lk_ga ?_) | wp_step)
 rw [show (expr&&onTheHeap (Value.builtin "object.__getattribute__"))=false by cases expr<;>rfl,if_neg Bool.false_ne_true]
 skip
 repeat (any_goals (first | assumption | wp_step))
 refine codeAny_call_builtin fn_slot_ga.plain F.entry_object_getattribute (fn_slot_ga.check _ _ _ _ _ _ _ _ hT (F.args_object_getattribute_2 _ _) (fn_load hx hc hf hd hn hv ?_))
 show wpAny _ _ (handedOut v) _ _ _
 refine hh.symm▸?_
 exact wpAny_pure hq
theorem fn_getMethod {pl:Sem Bool} {Q:Value×List Value->Shared->Prop} (hx:h.get? x=some o) (hc:o.cls=.type "function") (hf:o.data=.func fd) (hd:o.dict=some dx) (hn:h.Ns dx m) (hv:m "read"=some v) (hh:handedOut v=pure v) (hq:Q (v,[]) ⟨h,g,d,t+1,os⟩) :
  wpAny (model prog w) A (getMethod (.ref x) "read" pl) Q E ⟨h,g,d,t,os⟩:=by
 have hT:(⟨h,g,d,t,os⟩:Shared).TypeIs (.ref x) "function":=⟨_,hx,hc⟩
 skip
 refine wpAny_bind (wpAny_specialOf hT fn_slot_ga.lookup ?_)
 show wpAny _ A (if (Manifest.canonical "object.__getattribute__" != "object.__getattribute__")=true then _ else _) Q E _
 refine F.canon_object_ga.symm▸(if_neg Bool.false_ne_true).symm▸?_
 refine wpAny_bind (wpAny_specialOf hT fn_lk_getattr ?_)
 refine wpAny_bind (wpAny_specialOf hT fn_lk_read ?_)
 exact wpAny_bind (fn_getAttr hx hc hf hd hn hv hh (wpAny_pure hq))
theorem fn_store {tk:Tok} {Q:Fin->Shared->Prop} (hx:h.get? x=some o) (hc:o.cls=.type "function") (hf:o.data=.func fd) (hd:o.dict=none)
  (hq:∀h' dx t',h.get? dx=none->h'.Ns dx (λy=>if y="read" then some v else none)->h'.get? x=some { o with dict:=some dx }->(∀b o,b≠x->h.get? b=some o->h'.get? b=some o)->Q (.done (.ret .none)) ⟨h',g,d,t',os⟩) :
  wpAny (model prog w) A (Builtin.«object.__setattr__» ⟨[.ref x,.str "read" tk,v],[]⟩) Q E ⟨h,g,d,t,os⟩:=by
 have hpass:refuseLoop (.ref x) "__setattr__" [.type "function",.type "object"]=pure ():=by kernel_rfl
 skip
 repeat (first | rw [refuse_eq] | (rw [refuseLoop_ref,hpass]) | (with_reducible refine wpAny_loadPart_at hx ?_; rw [hc]) | (with_reducible refine wpAny_of_eq fn_mro ?_) | (with_reducible refine wpAny_of_eq fn_lk_read ?_) | wp_step)
 refine hd.symm▸hf.symm▸?_
 skip
 refine (show (!true||!typeHasDict (Value.type "function"))=false by decide +kernel).symm▸(if_neg Bool.false_ne_true).symm▸?_
 have hx_1:(h.push { cls:=.type "dict",data:=.dict #[] }).get? x=some o:=Heap.get?_push_of_some _ hx
 have hxs:x≠h.objs.size:=Nat.ne_of_lt (Heap.lt_size hx)
 refine wpAny_bind (wpAny_alloc' ?_)
 refine wpAny_bind (wpAny_update' hx_1 ?_)
 refine wpAny_pure ?_
 have hgd:((h.push { cls:=.type "dict",data:=.dict #[] }).update x λo=>{ cls:=o.cls,dict:=some h.objs.size,data:=o.data,slots:=o.slots }).get? h.objs.size
   = some { cls:=.type "dict",data:=.dict #[] } :=
  (Heap.get?_update_ne _ _ _ _ hxs.symm).trans (Heap.get?_push_at rfl rfl)
 have hnd:((h.push { cls:=.type "dict",data:=.dict #[] }).update x λo=>{ cls:=o.cls,dict:=some h.objs.size,data:=o.data,slots:=o.slots }).Ns h.objs.size (λ_=>none) :=
  ⟨_,#[],_,hgd,rfl,λe he=>absurd he (by simp),λ_=>rfl⟩
 skip
 skip
 refine wpAny_bind (wpAny_pure (wpAny_bind (wpAny_nsSet1 (Heap.Ns1.of_empty hnd) λh' hn' hs=>?_)))
 refine cps λ_ KK=>?_
 obtain ⟨oD,esD,epD,hoD,hdD,hcD⟩:=hn'.count (Within.cons ("read":Str) v Within.nil)
 refine KK ?_
 refine wpAny_bind (wpAny_lookBehind hoD (hdD.symm▸pastItsLine_dict (Nat.le_trans hcD (by rw [List.length_cons,List.length_nil,sizeLine_eq]; (exact Nat.succ_pos _)))) ?_)
 wp_walk
 have hx':h'.get? x=some { cls:=o.cls,dict:=some h.objs.size,data:=o.data,slots:=o.slots }:=by
  refine (hs.2 x hxs).trans (Heap.get?_update_self _ hx_1 ?_)
  refine cps λ_ KK=>?_
  obtain ⟨oc,od,odt,osl⟩:=o
  refine KK ?_
  simp only at hf
  subst hf
  rfl
 exact hq h' h.objs.size _ (Heap.get?_none_of_le (Nat.le_refl _)) hn'.ns hx' λb ob hbx hb=>(hs.2 b (Nat.ne_of_lt (Heap.lt_size hb))).trans ((Heap.get?_update_ne _ _ _ _ hbx).trans (Heap.get?_push_of_some _ hb))
theorem fn_setAttr {Q:Unit->Shared->Prop} (hx:h.get? x=some o) (hc:o.cls=.type "function") (hf:o.data=.func fd) (hd:o.dict=none)
  (hq:∀h' dx t',h.get? dx=none->h'.Ns dx (λy=>if y="read" then some v else none)->h'.get? x=some { o with dict:=some dx }->(∀b o,b≠x->h.get? b=some o->h'.get? b=some o)->Q () ⟨h',g,d,t',os⟩) :
  wpAny (model prog w) A (setAttr (.ref x) "read" v) Q E ⟨h,g,d,t,os⟩:=by
 have hT:(⟨h,g,d,t+1,os⟩:Shared).TypeIs (.ref x) "function":=⟨_,hx,hc⟩
 have f3:=fn_slot_sa.bind (.ref x)
 skip
 repeat (any_goals (first | assumption | (with_reducible refine wpAny_loadPart_at hx ?_; rw [hc]) | (with_reducible refine wpAny_of_eq fn_lk_sa ?_) | wp_step))
 refine codeAny_call_builtin fn_slot_sa.plain F.entry_object_sa (fn_slot_sa.check _ _ _ _ _ _ _ _ hT (F.store_object.args _ _ _) (fn_store hx hc hf hd λh' dx t' e1 e2 e3 e4=>?_))
 repeat (any_goals (first | assumption | wp_step))
 exact hq h' dx _ e1 e2 e3 e4
end
end Mine
end
section
open PySem PySem.Calls PySem.W PyProof.Rows
namespace Mine
noncomputable def rfx (q:Str) (r c cc:Addr) (k:Nat) (L:Addr):Fx:=⟨newEnv readScope L mainGlobals [(("signs":Str),c)] (q++".<locals>.") (some r) (.ref cc) none builtinsNs,readScope,[(0,"signs")],[L],k⟩
noncomputable def readF (i:Nat) (hp:List MO):Option (PV×List MO):=match hp[i]? with
 | some (.lst l)=>if l.isEmpty then some (.dat (.str ⟨⟨[]⟩⟩),hp) else popAt i 0 l hp
 | _=>none
noncomputable def strmF (Fo:EF):EF:=bindE Fo λa σ=>match a with
 | .strm i=>readF i σ.hp
 | _=>none
section
variable {prog:Program} {w:World} {K:Addr->Option Obj} {fx:Fx} {mg mb:Str->Option Value}
theorem MC.of_pos {env:Env} {o:Expr} {name:Str} {apos pos:Pos} {args:List Expr} (h:(apos.endLine==pos.line)=true) (hf:methodCallForm (args.length+0) (backTo pos (starEach args env)) []=true) (hb:attributeBase o name env (eval o env)=eval o env):MC env o name apos args pos:=⟨(do return (← importBound o env).getD true),by
 show (do
  let ov ← attributeBase o name env (eval o env)
  standAt apos.atName
  methodCall o name apos pos env ov (args.length+0) (backTo pos (starEach args env)) [])=_
 refine hb.symm▸?_
 unfold methodCall calleeOf methodCallPos
 refine hf.symm▸h.symm▸?_
 rfl⟩
theorem read_body {q:Str} {r c cc L:Addr} {P:Nat->Pos} (hP:((P 2).endLine==(P 4).line)=true):Exs prog w K (rfx q r c cc 1 L) (readBody P)
  (seqF (bindX (bindB (bindE (nameF 0) trV) λb=>if b then popF (nameF 0) true else λσ=>some (.dat (.str ⟨⟨[]⟩⟩),σ.hp)) λpv σ=>some (.ret pv,σ)) nextF) :=
 .cons (.ret (.ife (.val (.name (i:=0) rfl)) (.pop0 (.name (i:=0) rfl) (MC.of_pos hP rfl rfl)) (.str (by rfl) (by decide +kernel)))) .nil
theorem readF_inv {i:Nat} {hp:List MO} {r:PV×List MO} {C:Prop} (q:readF i hp=some r) (k:∀l,hp[i]?=some (.lst l)->(if l.isEmpty then some (PV.dat (.str ⟨⟨[]⟩⟩),hp) else popAt i 0 l hp)=some r->C):C:=by
 unfold readF at q
 cases h:hp[i]? with
 | none=>rw [h] at q; exact nos q
 | some mo=>cases mo with
  | lst l=>rw [h] at q; exact k l h q
  | _=>rw [h] at q; exact nos q
noncomputable def readX:XF:=seqF (bindX (bindB (bindE (nameF 0) trV) λb=>if b then popF (nameF 0) true else λσ=>some (.dat (.str ⟨⟨[]⟩⟩),σ.hp)) λpv σ=>some (.ret pv,σ)) nextF
theorem read_run {i:Nat} {hp hp':List MO} {pv:PV} (q:readF i hp=some (pv,hp')):readX ⟨[some (.obj i)],hp⟩=some (.ret pv,⟨[some (.obj i)],hp'⟩):=readF_inv q λl hl q=>by
 have t:l.length≤lim->(bindE (nameF 0) trV) ⟨[some (.obj i)],hp⟩=some (l.length != 0,hp):=λh=>by
  show trV (.obj i) ⟨[some (.obj i)],hp⟩=_
  unfold trV rd
  simp only [hl]
  show (match (if l.length≤lim then some (l.length != 0) else none) with
   | some b=>some (b,hp)
   | none=>none)=_
  rw [if_pos h]
 unfold readX seqF bindX bindB
 cases l with
 | nil =>
  have q:some (PV.dat (.str ⟨⟨[]⟩⟩),hp)=some (pv,hp'):=q
  rw [t (by decide),← (sop q).1,← (sop q).2]; rfl
 | cons d l =>
  have q:popAt i 0 (d::l) hp=some (pv,hp'):=q
  rw [t (popAt_len q)]
  have h1:popF (nameF 0) true ⟨[some (.obj i)],hp⟩=some (pv,hp'):=by
   show (match hp[i]? with
    | some (.lst l)=>popAt i (if true then 0 else l.length - 1) l hp
    | _=>none)=_
   rw [hl]
   exact q
  show (match (match popF (nameF 0) true ⟨[some (.obj i)],hp⟩ with
   | some (v,hp)=>some (Fl.ret v,(⟨[some (.obj i)],hp⟩:St))
   | none=>none) with
   | some (.next,σ')=>nextF σ'
   | r=>r)=_
  exact h1.symm▸rfl
theorem cell1 {x n:Str} {c c':Addr} (e:List.lookup n [(x,c)]=some c'):n=x∧c=c':=by
 rw [List.lookup_cons] at e
 cases h:n==x with
 | true=>rw [h] at e; exact ⟨eq_of_beq h,sos e⟩
 | false=>rw [h] at e; exact nos e
theorem look1 {x y:Str} {j:Nat} (h:List.lookup j [((0:Nat),x)]=some y):j=0∧x=y:=by
 cases j with
 | zero=>exact ⟨rfl,sos h⟩
 | succ j=>exact nos h
theorem read_SR {ρ:Rho} {Z:List Addr} {hp:List MO} {s:Shared} {i:Nat} {r c cc g b L:Addr} {v:Value} {qn:Str} {h':Heap} {tk:Nat} (H:HR ρ Z hp s.heap) (top:TopOK K s.heap) (off:OffK K ρ Z) (hi:ρ[i]?=some (g,b)) (hc:s.heap.IsCell c (some (.ref g))) (hcm:c∉muts ρ)
  (fL:s.heap.get? L=none) (hn:h'.Ns L (λy=>[(("size":Str),v)].reverse.lookup y)) (kp:∀b o,s.heap.get? b=some o->h'.get? b=some o):SR K (rfx qn r c cc 1 L) ρ ([L]++Z) ⟨[some (.obj i)],hp⟩ { s with heap:=h',toks:=tk }:=by
 have tp:TopOK K h':=λb o hb=>kp b o (top b o hb)
 refine ⟨H.more (wr:=[L]) (all1 fL) kp (all1 (Ns.live hn)),⟨⟨_,λx=>if x="signs" then some (.ref g) else none,hn,λn c' e=>?_,λj x pv hj hl=>?_⟩,rfl,rfl,λj j' x h1 h2=>(look1 h1).1.trans (look1 h2).1.symm,rfl,rfl,List.mem_singleton_self _,λa ha=>List.mem_append_left _ ha,(H.fresh fL).1,λn c' e=>?_,λn n' c' h1 h2=>(cell1 h1).1.trans (cell1 h2).1.symm⟩,tp,λa ha=>⟨(off a ha).1,λm=>(List.mem_append.mp m).elim (kept_no top fL ha) (off a ha).2⟩⟩
 ·have e:=cell1 e
  show h'.IsCell c' (if n=("signs":Str) then some (.ref g) else none)
  refine (if_pos e.1).symm▸e.2▸?_
  exact hc.elim λo q=>⟨o,kp _ _ q.1,q.2⟩
 ·have e:=look1 hj
  replace hl:=e.1▸hl
  refine e.2▸(sos (sos hl))▸?_
  exact ⟨.ref g,rfl,g,b,hi,rfl⟩
 ·refine ((cell1 e).2)▸?_
  exact ⟨hcm,λq=>hc.elim λo ho=>nos (fL.symm.trans ((show c=L from q)▸ho.1))⟩
theorem read_bind {fd:FuncData} {p:Pos} {v:Value} (e6:fd.params=⟨[],[⟨"size",none,p⟩],none,[],[],none,[]⟩) (e7:fd.defaults=.none) (e8:fd.kwdefaults=.none):bindArgs fd ⟨[v],[]⟩=pure [(("size":Str),v)]:=by
 obtain ⟨f1,f2,f3,f4,f5,f6,f7,f8,f9⟩:=fd
 simp only at e6 e7 e8
 subst e6 e7 e8
 rfl
theorem read_names:∀x∈readScope.names,x.2≠.cell:=by decide +kernel
theorem strm_read (gl:Gl K mg mb) {A:Around} {ρ:Rho} {Z:List Addr} {hp hp':List MO} {s:Shared} {i:Nat} {r:Addr} {pv:PV} {fd:FuncData} {o_1:Obj} {c cc g b:Addr} {v:Value} (Rm:Room A 2) (H:HR ρ Z hp s.heap) (top:TopOK K s.heap) (off:OffK K ρ Z)
  (hi:ρ[i]?=some (g,b)) (hr:s.heap.get? r=some o_1) (hd:o_1.data=.func fd) (hR:ReadFd fd c cc) (hc:s.heap.IsCell c (some (.ref g))) (hcc:s.heap.CodeRec (.ref cc) fd.qualname) (hcm:c∉muts ρ) (q:readF i hp=some (pv,hp')) :
  wpAny (model prog w) A (call (.ref r) [v]) (Post ρ Z s pv hp') noE s:=by
 have hRb:=hR
 refine cps λ_ KK=>?_
 obtain ⟨e1,e2,e3,e4,⟨P,e5,e5'⟩,⟨p,e6⟩,e7,e8,e9⟩:=hR
 refine KK ?_
 refine wpAny_call (codeAny_call_function (R:=CallP ρ Z s pv hp') (Nat.lt_of_le_of_lt (Nat.le_add_right _ _) (Nat.lt_trans Rm.depth (by decide))) hr hd (by rw [e4]; rfl) (by rw [e4]; rfl) e5 (e9.symm▸hcc) ?_)
 have hb:bindArgs fd ⟨[v],[]⟩=pure [(("size":Str),v)]:=read_bind e6 e7 e8
 refine hb.symm▸e1.symm▸e2.symm▸e3.symm▸e4.symm▸e9.symm▸?_
 refine wpAny_pure (wpAny_newFunctionEnv read_names (λx hx=>by rw [List.mem_singleton.mp hx]; rfl) (λh' hn sb=>?_))
 have fL:s.heap.get? s.heap.objs.size=none:=Heap.get?_none_of_le (Nat.le_refl _)
 have kp:∀b o,s.heap.get? b=some o->h'.get? b=some o:=λb o hb=>sb.extBut b o (λq=>nos ((q▸fL).symm.trans hb)) (Heap.get?_push_of_some _ hb)
 refine ⟨gl.lim _ λb o hb=>kp b o (top b o hb),codeAny_func ?_⟩
 have x_1:Ext [] ρ s ρ { s with heap:=h',toks:=s.toks+[(("size":Str),v)].length }:=Ext.of_keep kp
 refine wpAny_mono ((read_body e5').run (A.deeper _) ρ _ _ _ _ _ Rm.deeper (read_SR (qn:=fd.qualname) (r:=r) (cc:=cc) H top off hi hc hcm fL hn kp) (read_run q)) (λf s' p=>?_) λ_ _ q=>q.elim
 refine cps λ_ KK=>?_
 obtain ⟨ρ',x',R',v',hf,hv⟩:=p
 refine KK ?_
 refine hf.symm▸?_
 exact ⟨ρ',((x_1.weak noX).trans x').shrink (all1 (.inr fL)),hv.weak λb h=>List.mem_append_right _ h,R'.hr.weak λb h=>List.mem_append_right _ h⟩
theorem Ev.strmRead (gl:Gl K mg mb) {o:Expr} {apos pos cp:Pos} {kk:Nat} {Fo:EF} (ho:Ev prog w K fx o Fo) (mc:MC fx.env o "read" apos [.Constant (.int 1) kk cp] pos) (hK:2≤fx.k) :
  Ev prog w K fx (.Call (.Attribute o "read" apos) [.Constant (.int 1) kk cp] [] pos) (strmF Fo):=.mk λA ρ Z σ s pv hp' Rm R q=>by
 obtain ⟨pl,mc⟩:=mc
 refine MethodCall_ (ho.then Rm R q λa va h1 ρ_1 s_1 e1 x_1 v_1 R_1=>?_) mc
 cases a with
 | strm i =>
  have e1:readF i h1=some (pv,hp'):=e1
  refine cps λ_ KK=>?_
  obtain ⟨g,b,a,fs,hi,rfl,hS,hfs⟩:=v_1
  obtain ⟨o,o_1,d,r,c,cc,fd,rfl,h2,h3,⟨f,h4⟩,h5,h6,h7,h8,h9,hR,hc,hcc⟩:=hS.ex
  obtain ⟨h,gs,dr,t,os⟩:=s_1
  refine KK ?_
  refine fn_getMethod h2 h3 h4 h5 h6 (v:=.ref r) (by simp) rfl ?_
  refine callWith_function (o:=o_1) (fd:=fd) ?_
  refine evalArgs_plain (wpAny_items_cons (wpAny_Constant_int (wpAny_items_nil ?_)) rfl)
  refine ⟨⟨h7,h9⟩,?_⟩
  have Rx:HR ρ_1 Z h1 h:=R_1.hr
  refine wpAny_mono (strm_read gl (Rm.mono hK) (s:=⟨h,gs,dr,t+1+1,os⟩) Rx R_1.top R_1.off hi h7 h9 hR hc hcc (hfs c (by simp)).1 e1) (λv s_2 p=>?_) λ_ _ q=>q
  have x_2:Ext [] ρ_1 ⟨h,gs,dr,t,os⟩ ρ_1 ⟨h,gs,dr,t+1+1,os⟩:=Ext.of_keep (s:=⟨h,gs,dr,t,os⟩) (h:=h) λ_ _ e=>e
  exact p.trans (x_1.trans x_2)
 | _=>exact nos e1
end
end Mine
end
section
open PySem PySem.Calls PySem.W PyProof.Rows open Sem (wp) open Builtin Builtin.ObjectAttr
namespace Mine
theorem ci_lk_next:typeLookup (.type "callable_iterator") "__next__"=pure (some (.builtin "callable_iterator.__next__")):=by rw [typeLookup_type,builtinLookup_eq_fast]; kernel_rfl
theorem ci_slot_next:Slot "callable_iterator" "__next__" "callable_iterator.__next__":=.of (owner:="callable_iterator") (n:="__next__") ci_lk_next (by decide +kernel) (by decide +kernel) (by decide +kernel)
  (by first | exact .inl (by decide +kernel) | exact .inr (by decide +kernel)) (by rw [isSubtype_type]; kernel_rfl)
theorem ci_lk_iter:typeLookup (.type "callable_iterator") "__iter__"=pure (some (.builtin "callable_iterator.__iter__")):=by rw [typeLookup_type,builtinLookup_eq_fast]; kernel_rfl
theorem ci_slot_iter:Slot "callable_iterator" "__iter__" "callable_iterator.__iter__":=.of (owner:="callable_iterator") (n:="__iter__") ci_lk_iter (by decide +kernel) (by decide +kernel) (by decide +kernel)
  (by first | exact .inl (by decide +kernel) | exact .inr (by decide +kernel)) (by rw [isSubtype_type]; kernel_rfl)
theorem ci_entry_next:entryFor table "callable_iterator.__next__"=some Builtin.«callable_iterator.__next__»:=entryFor_of_tree (by kernel_rfl)
theorem ci_entry_iter:entryFor table "callable_iterator.__iter__"=some Builtin.«dict_keyiterator.__iter__»:=entryFor_alias (id':="dict_keyiterator.__iter__") (by kernel_rfl) (by decide +kernel) (by decide +kernel) (by kernel_rfl)
theorem ci_args_next (a:Value):argsOk "callable_iterator.__next__" ⟨[a],[]⟩:=by unfold argsOk; kernel_rfl
theorem ci_args_iter (a:Value):argsOk "callable_iterator.__iter__" ⟨[a],[]⟩:=by unfold argsOk; kernel_rfl
theorem it_entry:entryFor table "iter"=some Builtin.«iter»:=entryFor_of_tree (by kernel_rfl)
theorem it_args (a b:Value):argsOk "iter" ⟨[a,b],[]⟩:=by unfold argsOk; kernel_rfl
theorem mt_lk_call:typeLookup (.type "method") "__call__"=pure (some (.builtin "method.__call__")):=by rw [typeLookup_type,builtinLookup_eq_fast]; kernel_rfl
theorem it_kind:builtinKind "iter"=none:=by decide +kernel
theorem it_plain:plainId "iter"=true:=by decide +kernel
section
variable {prog:Program} {w:World} {A:Around} {E:Value->Shared->Prop} {h:Heap} {g:Array GenState} {d:Drawn} {t:Nat} {os:OsState}
variable {nm q:Str} {C N x f:Addr} {bs:List Value} {sn:List Str} {sub:List Value} {ab:Bool} {col:Option Bool} {dd:Option Addr} {k0 k1 k2 k3 k5:Option Value} {newId:String}
 {mN mA:Str->Option Value} {name:Str} {of:Obj} {y:Option Value}
theorem fn_lk_get:typeLookup (.type "function") "__get__"=pure (some (.builtin "function.__get__")):=by rw [typeLookup_type,builtinLookup_eq_fast]; kernel_rfl
theorem fn_lk_set:typeLookup (.type "function") "__set__"=pure none:=by rw [typeLookup_type,builtinLookup_eq_fast]; kernel_rfl
theorem fn_lk_del:typeLookup (.type "function") "__delete__"=pure none:=by rw [typeLookup_type,builtinLookup_eq_fast]; kernel_rfl
theorem bound_entry {tk:Tok} {Q:Fin->Shared->Prop}
  (hC:h.get? C=some (excClassObj nm q C N bs [.type "object"] true sn sub ab col dd k0 k1 k2 k3 k5 newId)) (hn:h.Ns N mN) (hnh:mN "__getattr__"=none) (hf:mN name=some (.ref f)) (hfo:h.get? f=some of) (hfc:of.cls=.type "function")
  (hB:typeLookup (.type "object") name=pure y) (hcop:(["__module__","__name__","__qualname__","__doc__","__annotations__"]:List Str).contains name=false) (I:h.Inst x C mA) (hv:mA name=none) (hq:Q (.done (.ret (.ref h.objs.size))) ⟨h.push { cls:=.type "method",data:=.fields #[.ref f,.ref x] },g,d,t,os⟩) :
  wpAny (model prog w) A (Builtin.«proto.getattr_hooked» ⟨[.ref x,.str name tk],[]⟩) Q E ⟨h,g,d,t,os⟩:=by
 refine cps λ_ KK=>?_
 obtain ⟨o,hx,hc,hnc,hd⟩:=I
 refine KK ?_
 skip
 repeat (first | (with_reducible refine wpAny_loadPart_at hx ?_; rw [hc]) | (with_reducible refine wpAny_loadPart_at hfo ?_; rw [hfc]) | (with_reducible refine wpAny_typeLookup_exc hC hn F.mro_object hB ?_; rw [hf]) | (with_reducible refine wpAny_of_eq fn_lk_get ?_) | (with_reducible refine wpAny_of_eq fn_lk_set ?_) | (with_reducible refine wpAny_of_eq fn_lk_del ?_) | wp_step)
 split
 ·rename_i c hcd
  exact absurd hcd (hnc c)
 have fin:wpAny (model prog w) A (byTheClass (some (.ref f)) (some (.builtin "function.__get__"))) (λa s'=>wpAny (model prog w) A (match a with
   | .value v=>ret v
   | .missing=>typeLookup (.ref C) "__getattr__" >>= missingOrHook (.ref x) (.str name tk) name
   | .bind g a=>typeLookup (.ref C) "__getattr__" >>= bindWithHook g a (.ref x) (.ref C) (.str name tk)) Q E s') E ⟨h,g,d,t,os⟩:=by
  repeat (first | (with_reducible refine wpAny_typeLookup_exc hC hn F.mro_object F.lk_object_getattr ?_; rw [hnh]) | wp_step)
  refine codeAny_call_builtin KF.slot_fn.plain KF.entry_fn (KF.slot_fn.check _ _ _ _ _ _ _ _ ⟨_,hfo,hfc⟩ (KF.args_fn _ _ _) ?_)
  repeat k_node
  exact hq
 skip
 rcases hd with ⟨hdn,hmA⟩ | ⟨dx,hdx,hne,hns⟩
 ·repeat (first | (with_reducible refine wpAny_loadPart_at hx ?_; rw [hc]) | with_reducible refine wpAny_loadPart_at hC ?_ | wp_step)
  refine hdn.symm▸?_
  repeat wp_step
  refine hcop.symm▸(if_neg Bool.false_ne_true).symm▸?_
  exact wpAny_pure fin
 ·repeat (first | (with_reducible refine wpAny_loadPart_at hx ?_; rw [hc]) | with_reducible refine wpAny_loadPart_at hC ?_ | wp_step)
  refine hdx.symm▸?_
  repeat (first | (with_reducible refine wpAny_nsGet hns.ns ?_; rw [hv]) | wp_step)
  refine hcop.symm▸(if_neg Bool.false_ne_true).symm▸?_
  exact wpAny_pure fin
theorem bound_attr {expr:Bool} {Q:Value->Shared->Prop}
  (hC:h.get? C=some (excClassObj nm q C N bs [.type "object"] true sn sub ab col dd k0 k1 k2 k3 k5 newId)) (hn:h.Ns N mN) (hng:mN "__getattribute__"=none) (hnh:mN "__getattr__"=none) (hf:mN name=some (.ref f)) (hfo:h.get? f=some of) (hfc:of.cls=.type "function")
  (hB:typeLookup (.type "object") name=pure y) (hcop:(["__module__","__name__","__qualname__","__doc__","__annotations__"]:List Str).contains name=false) (I:h.Inst x C mA) (hv:mA name=none) (hq:Q (.ref h.objs.size) ⟨h.push { cls:=.type "method",data:=.fields #[.ref f,.ref x] },g,d,t+1,os⟩) :
  wpAny (model prog w) A (getAttr (.ref x) name expr) Q E ⟨h,g,d,t,os⟩:=by
 refine cps λ_ KK=>?_
 obtain ⟨o,hx,hc,_⟩:=id I
 refine KK ?_
 skip
 repeat (first | (with_reducible refine wpAny_loadPart_at hx ?_; rw [hc]) | (with_reducible refine wpAny_typeLookup_exc hC hn F.mro_object F.lk_object_ga ?_; rw [hng]) | wp_step)
 skip
 refine wpAny_onRaise (wpAny_runValue (codeAny_builtin F.plainObj_entry_getattr_hooked (bound_entry hC hn hnh hf hfo hfc hB hcop I hv ?_)))
 exact wpAny_pure hq
end
section
variable {prog:Program} {w:World} {A:Around} {E:Value->Shared->Prop} {s:Shared} {I m f x:Addr} {t:Tok} {Q:Value->Shared->Prop}
theorem wpAny_callBorrowed {f:Value} {pos:List Value} (h:wpAny (model prog w) A (call f pos) Q E s):wpAny (model prog w) A (callBorrowed f pos) Q E s:=λΓ p hΓ=>by
 have h1:=h Γ p hΓ
 rw [Sem.wp_cmd_call] at h1
 unfold callBorrowed
 rw [Sem.wp_call]
 refine cast ?_ h1
 congr 1
 funext r s'
 cases r with
 | error e=>rfl
 | ok fl=>cases fl<;>rfl
theorem stop_ok {α:Type} {Q:α->Shared->Prop} (hh:A.handled=none) (hE:∀h' e,(∀b o,s.heap.get? b=some o->h'.get? b=some o)->(∃o,h'.get? e=some o∧o.cls=.type "StopIteration")->E (.ref e) { s with heap:=h' }) :
  wpAny (model prog w) A.in1 (SmallTypes.stopIteration:Sem α) Q E s:=by
 skip
 refine wpAny_bind ?_
 simp only [newExc,newTuple]
 refine wpAny_bind (wpAny_newObj_type ?_ (by size_fits))
 refine wpAny_bind (m:=firstArgMember _ _) (wpAny_of_eq (a:=Value.none) (by first | rfl | (simp only [firstArgMember]; rfl)) ?_)
 refine wpAny_newObj_type ?_ (by size_fits)
 simp only [raiseNew]
 refine wpAny_bind (wpAny_handled ?_)
 refine (show A.in1.handled=none from hh).symm▸?_
 refine wpAny_bind (wpAny_pure (wpAny_throw ?_))
 exact hE _ _ (λb o hb=>Heap.get?_push_of_some _ (Heap.get?_push_of_some _ hb)) ⟨_,Heap.get?_push_size _ rfl,rfl⟩
theorem borrows_ok {o:Obj} {fd:FuncData} {Q:Bool->Shared->Prop} (hm:s.heap.get? m=some (Mine.methObj f x)) (hf:s.heap.get? f=some o) (hfd:o.data=.func fd) (hQ:Q true s):wpAny (model prog w) A (borrowsExactly (.ref m)) Q E s:=by
 skip
 refine wpAny_bind (wpAny_load hm ?_)
 show wpAny _ _ (if (Value.type "method"==Value.type "method")=true then _ else _) _ _ _
 rw [if_pos (by decide)]
 skip
 refine wpAny_bind (wpAny_load hf ?_)
 refine hfd.symm▸?_
 exact wpAny_pure hQ
theorem call_iter2 {y:Str} (hm:s.heap.get? m=some (Mine.methObj f x)) (h:Q (.ref s.heap.objs.size) { s with heap:=s.heap.push { cls:=.type "callable_iterator",data:=.fields #[.ref m,.str y t,.bool false] } }) :
  wpAny (model prog w) A (call (.builtin "iter") [.ref m,.str y t]) Q E s:=by
 have hT:s.TypeIs (.ref m) "method":=⟨_,hm,rfl⟩
 refine Calls.call_function_entry it_kind it_plain it_entry (it_args _ _) ?_
 skip
 refine wpAny_bind (wpAny_of_eq (a:=[.ref m,.str y t]) (by first | rfl | kernel_rfl) ?_)
 skip
 refine wpAny_bind (wpAny_specialOf hT mt_lk_call ?_)
 simp only [Option.isNone_some,Bool.false_eq_true,if_false,newFields]
 exact wpAny_bind (wpAny_rule (wpAny_bind (wpAny_newObj_type (wpAny_pure ⟨_,rfl,h⟩) (by size_fits))))
theorem pyIter_cit {o:Obj} (ho:s.heap.get? I=some o) (hc:o.cls=.type "callable_iterator") (h:Q (.ref I) s):wpAny (model prog w) A (pyIter (.ref I)) Q E s:=by
 have hT:s.TypeIs (.ref I) "callable_iterator":=⟨_,ho,hc⟩
 refine wpAny_pyIter_slot hT ci_slot_iter (wpAny_call_entry ci_slot_iter hT ci_entry_iter ?_ (ci_args_iter _))
 skip
 exact wpAny_pure ⟨_,rfl,"callable_iterator",_,hT,ci_slot_next.lookup,h⟩
theorem pyNext_cit_done {Q:Option Value->Shared->Prop} (hh:A.handled=none) (ho:s.heap.get? I=some (citObj m t true)) (hQ:∀h',(∀b o,s.heap.get? b=some o->h'.get? b=some o)->Q none { s with heap:=h' }):wpAny (model prog w) A (pyNext (.ref I)) Q E s:=by
 have hT:s.TypeIs (.ref I) "callable_iterator":=⟨_,ho,rfl⟩
 skip
 refine wpAny_bind (wpAny_attempt (wpAny_callSpecial?_slot (name:=Str.ofString "__next__") hT ci_slot_next
  (wpAny_call_entry ci_slot_next hT ci_entry_next ?_ (ci_args_next _))))
 show wpAny _ _ (field (.ref I) 2 >>= _) _ _ _
 refine wpAny_bind (wpAny_field ho rfl (x:=.bool true) rfl ?_)
 rw [if_pos (by rfl)]
 refine wpAny_bind (wpAny_bind (wpAny_rule (wpAny_pure (wpAny_bind ?_))))
 refine stop_ok hh λh' e k hx=>?_
 obtain ⟨o,ho,hc⟩:=hx
 refine wpAny_bind (wpAny_isInstance (T:="StopIteration") (b:=true) ⟨o,ho,hc⟩ isSubtype_stop ?_)
 exact wpAny_pure (hQ _ k)
theorem pyNext_cit_go {Q:Option Value->Shared->Prop} {o:Obj} {fd:FuncData} (hh:A.handled=none) (ho:s.heap.get? I=some (citObj m t false)) (hm:s.heap.get? m=some (Mine.methObj f x)) (hf:s.heap.get? f=some o) (hfd:o.data=.func fd)
  (h:codeAny (model prog w) A.in1 (.call (.ref f) ⟨[.ref x],[]⟩) (λr s_1=>∃y u m t f x fd,r=.ok (.ret (.str y u))∧s_1.heap.get? I=some (citObj m t false)∧s_1.heap.get? m=some (Mine.methObj f x)∧(∃o,s_1.heap.get? f=some o∧o.data=.func fd) ∧
   (y≠⟨⟨[]⟩⟩->Q (some (.str y u)) s_1)∧(y=⟨⟨[]⟩⟩->∀h',h'.get? I=some (citObj m t true)->(∀b o,b≠I->s_1.heap.get? b=some o->h'.get? b=some o)->Q none { s_1 with heap:=h' })) s) :
  wpAny (model prog w) A (pyNext (.ref I)) Q E s:=by
 have hT:s.TypeIs (.ref I) "callable_iterator":=⟨_,ho,rfl⟩
 skip
 refine wpAny_bind (wpAny_attempt (wpAny_callSpecial?_slot (name:=Str.ofString "__next__") hT ci_slot_next
  (wpAny_call_entry ci_slot_next hT ci_entry_next ?_ (ci_args_next _))))
 show wpAny _ _ (field (.ref I) 2 >>= _) _ _ _
 refine wpAny_bind (wpAny_field ho rfl (x:=.bool false) rfl ?_)
 rw [if_neg (by decide)]
 skip
 refine wpAny_bind (wpAny_field ho rfl (x:=.ref m) rfl ?_)
 refine wpAny_bind (wpAny_attempt ?_)
 skip
 refine wpAny_bind (borrows_ok hm hf hfd ?_)
 refine (if_pos rfl).symm▸?_
 refine wpAny_callBorrowed (wpAny_call (method_call (f:=.ref f) (self:=.ref x) hm ?_))
 refine codeAny_mono h λr s_1 p=>?_
 refine cps λ_ KK=>?_
 obtain ⟨y,u,m,t,f,x,fd,rfl,ho1,hm1,⟨o1,hf1,hfd1⟩,hne,heq⟩:=p
 refine KK ?_
 skip
 refine wpAny_bind (wpAny_field ho1 rfl (x:=.bool false) rfl ?_)
 rw [if_neg (by decide)]
 skip
 refine wpAny_bind (wpAny_field ho1 rfl (x:=.str ⟨⟨[]⟩⟩ t) rfl ?_)
 refine wpAny_bind (wpAny_holding (eqBool_str ?_))
 by_cases hy:y=⟨⟨[]⟩⟩
 ·subst hy
  refine (show (!((⟨⟨[]⟩⟩:Str)==⟨⟨[]⟩⟩))=false by decide).symm▸(if_neg Bool.false_ne_true).symm▸?_
  refine wpAny_bind (wpAny_rule ?_)
  show wpAny _ _ ((do
   slotLetsGo "callable_iterator.__next__" (← field (.ref I) 0) fun | .builtin "callable_iterator.__next__" x=>x.pos.head?==some (.ref I) | _=>false
   setField (.ref I) 0 .none; setField (.ref I) 1 .none; setField (.ref I) 2 (.bool true)) >>= λ_=>SmallTypes.stopIteration) _ _ _
  refine wpAny_bind (wpAny_bind (wpAny_field ho1 rfl (x:=.ref m) rfl (wpAny_bind ?_)))
  skip
  refine wpAny_bind (borrows_ok hm1 hf1 hfd1 ?_)
  refine (if_pos rfl).symm▸?_
  refine wpAny_pure ?_
  refine wpAny_bind (wpAny_setField ho1 rfl (by show 0 < 3; decide) ?_)
  have g1:(s_1.heap.update I (Obj.mapFields (·.setIfInBounds 0 .none))).get? I=some { cls:=.type "callable_iterator",data:=.fields #[.none,.str ⟨⟨[]⟩⟩ t,.bool false] }:=Heap.get?_update_self _ ho1 rfl
  refine wpAny_bind (wpAny_setField g1 rfl (by show 1 < 3; decide) ?_)
  have g2:((s_1.heap.update I (Obj.mapFields (·.setIfInBounds 0 .none))).update I (Obj.mapFields (·.setIfInBounds 1 .none))).get? I=some { cls:=.type "callable_iterator",data:=.fields #[.none,.none,.bool false] }:=Heap.get?_update_self _ g1 rfl
  refine wpAny_setField g2 rfl (by show 2 < 3; decide) ?_
  have g3:(((s_1.heap.update I (Obj.mapFields (·.setIfInBounds 0 .none))).update I (Obj.mapFields (·.setIfInBounds 1 .none))).update I (Obj.mapFields (·.setIfInBounds 2 (.bool true)))).get? I=some (citObj m t true):=Heap.get?_update_self _ g2 rfl
  refine stop_ok hh λh' e k hx=>?_
  obtain ⟨o,ho,hc⟩:=hx
  refine wpAny_bind (wpAny_isInstance (T:="StopIteration") (b:=true) ⟨o,ho,hc⟩ isSubtype_stop ?_)
  refine wpAny_pure (heq rfl h' (k _ _ g3) λb o hb e=>k b o ?_)
  refine (Heap.get?_update_ne _ _ _ _ hb).symm▸(Heap.get?_update_ne _ _ _ _ hb).symm▸(Heap.get?_update_ne _ _ _ _ hb).symm▸?_
  exact e
 ·rw [show (!((⟨⟨[]⟩⟩:Str)==y))=true by
   rw [Bool.not_eq_true',beq_eq_false_iff_ne]; exact λq=>hy q.symm,if_pos rfl]
  exact wpAny_pure ⟨_,rfl,wpAny_pure (hne hy)⟩
end
end Mine
end
section
open PySem PySem.Calls PySem.W PyProof.Rows
namespace Mine
noncomputable def stepC (f_0:Addr) (H:FnF):StepF:=λis hp=>match is with
 | .rem _=>none
 | .trk j k=>match hp[j]? with
  | some (.cit _ _ true)=>some (none,hp)
  | some (.cit i f false)=>if f=f_0 then match H [.obj i] hp with
   | some (.dat (.str ⟨⟨l⟩⟩),hp')=>match hp'[j]? with
    | some (.cit i' f' false)=>if i'=i∧f'=f_0 then match l with
     | []=>some (none,hp'.set j (.cit i f_0 true))
     | c::r=>some (some (.str ⟨⟨c::r⟩⟩,.trk j k),hp') else none
    | _=>none
   | _=>none else none
  | _=>none
noncomputable def CJ (K:Addr->Option Obj) (I:Addr):IS->Rho->List Addr->Shared->Prop
 | .trk j k,ρ,Z,s=>(∃y,ρ[j]?=some (I,y))∧TopOK K s.heap∧OffK K ρ Z
 | .rem _,_,_,_=>False
section
variable {prog:Program} {w:World} {K:Addr->Option Obj} {fx:Fx} {A:Around} {tg:Expr} {mg mb:Str->Option Value}
theorem TopOK.ext {X:List Addr} {ρ ρ':Rho} {Z:List Addr} {s s':Shared} (t:TopOK K s.heap) (off:OffK K ρ Z) (x:Ext X ρ s ρ' s') (hX:∀a∈X,a∈Z):TopOK K s'.heap∧OffK K ρ' Z:=by
 have f:∀b o,K b=some o->b∉muts ρ∧b∉Z:=λb o hb=>off b λq=>nos (q.symm.trans hb)
 refine ⟨λb o hb=>x.heap b o (f b o hb).1 (λq=>(f b o hb).2 (hX b q)) (t b o hb),λb hb=>⟨?_,(off b hb).2⟩⟩
 cases q:K b with
 | none=>exact absurd q hb
 | some o=>exact x.notin (t b o q) (off b hb).1
inductive StepI (f_0:Addr) (H:FnF) (j k:Nat) (hp:List MO) (r:Option (PyData×IS)) (hp':List MO):Prop
 | over (i:Nat) (f:Addr):hp[j]?=some (.cit i f true)->r=none->hp=hp'->StepI f_0 H j k hp r hp'
 | last (i:Nat) (hp1:List MO):hp[j]?=some (.cit i f_0 false)->H [.obj i] hp=some (.dat (.str ⟨⟨[]⟩⟩),hp1)->hp1[j]?=some (.cit i f_0 false)->r=none->hp1.set j (.cit i f_0 true)=hp'->StepI f_0 H j k hp r hp'
 | go (i:Nat) (l:Str):hp[j]?=some (.cit i f_0 false)->H [.obj i] hp=some (.dat (.str l),hp')->hp'[j]?=some (.cit i f_0 false)->l≠⟨⟨[]⟩⟩->r=some (.str l,.trk j k)->StepI f_0 H j k hp r hp'
theorem stepC_res {α:Type} {o:Option (PV×List MO)} {F:List Nat->List MO->Option α} {r:α} {C:Prop} (e:(match o with
   | some (.dat (.str ⟨⟨l⟩⟩),hp')=>F l hp'
   | _=>none)=some r) (k:∀l hp',o=some (.dat (.str ⟨⟨l⟩⟩),hp')->F l hp'=some r->C):C:=by
 cases o with
 | none=>exact nos e
 | some x =>
  obtain ⟨p,hp'⟩:=x
  cases p with
  | dat d=>cases d with
   | str l=>exact k l.cps.toList hp' rfl e
   | _=>exact nos e
  | _=>exact nos e
theorem stepC_mo {α:Type} {o:Option MO} {F:Nat->Addr->Option α} {r:α} {C:Prop} (e:(match o with
    | some (.cit i' f' false)=>F i' f'
    | _=>none)=some r) (k:∀i f,o=some (.cit i f false)->F i f=some r->C):C:=by
 cases o with
 | none=>exact nos e
 | some mo=>cases mo with
  | cit i f dn=>cases dn with
   | true=>exact nos e
   | false=>exact k i f rfl e
  | _=>exact nos e
theorem stepC_cit {f_0:Addr} {H:FnF} {hp hp':List MO} {j k i:Nat} {f:Addr} {r:Option (PyData×IS)} (hj:hp[j]?=some (.cit i f false)) (e:(if f=f_0 then match H [.obj i] hp with
   | some (.dat (.str ⟨⟨l⟩⟩),hp')=>match hp'[j]? with
    | some (.cit i' f' false)=>if i'=i∧f'=f_0 then match l with
     | []=>some (none,hp'.set j (.cit i f_0 true))
     | c::r=>some (some (.str ⟨⟨c::r⟩⟩,.trk j k),hp') else none
    | _=>none
   | _=>none else none)=some (r,hp')):StepI f_0 H j k hp r hp' :=
 iteo e λhf e=>stepC_res e λl hp1 eH e=>stepC_mo e λi' f' hj' e=>iteo e λhif e=>by
  replace hj:=hf▸hj
  replace hj':=hif.2▸hif.1▸hj'
  cases l with
  | nil=>exact .last i hp1 hj eH hj' (sop e).1.symm (sop e).2
  | cons c t=>exact .go i ⟨⟨c::t⟩⟩ hj ((sop e).2▸eH) ((sop e).2▸hj') (λq=>nomatch q) (sop e).1.symm
theorem stepC_inv {f_0:Addr} {H:FnF} {hp hp':List MO} {j k:Nat} {r:Option (PyData×IS)} (e:stepC f_0 H (.trk j k) hp=some (r,hp')):StepI f_0 H j k hp r hp':=by
 unfold stepC at e
 dsimp only at e
 cases hj:hp[j]? with
 | none=>rw [hj] at e; exact nos e
 | some mo=>cases mo with
  | cit i f dn=>cases dn with
   | true=>rw [hj] at e; exact .over i f hj (sop e).1.symm (sop e).2
   | false=>rw [hj] at e; exact stepC_cit hj e
  | _=>rw [hj] at e; exact nos e
theorem StepI.cit {f_0:Addr} {H:FnF} {j k:Nat} {hp hp':List MO} {r:Option (PyData×IS)} (x:StepI f_0 H j k hp r hp'):∃i f dn,hp[j]?=some (.cit i f dn):=by
 cases x with
 | over i f h=>exact ⟨_,_,_,h⟩
 | last i _ h=>exact ⟨_,_,_,h⟩
 | go i _ h=>exact ⟨_,_,_,h⟩
theorem HR.cit {ρ:Rho} {Z:List Addr} {hp:List MO} {h:Heap} {j i:Nat} {I y f:Addr} {dn:Bool} (H:HR ρ Z hp h) (h1:ρ[j]?=some (I,y)) (hj:hp[j]?=some (.cit i f dn)):MRc ρ Z h I y i f dn:=by
 refine cps λ_ KK=>?_
 obtain ⟨r',b',hr',hm⟩:=H.at_ j _ hj
 obtain ⟨rfl,rfl⟩:=sop (h1.symm.trans hr')
 refine KK ?_
 exact hm
theorem Room.cit {kk:Nat} (Rm:Room A (kk+1)):Room A.in1 kk:=⟨Rm.handled,Nat.lt_trans (Nat.lt_succ_self _) Rm.depth,by have:=Rm.units; show A.units+1+40*kk < 9000; (exact ar6 (by assumption) (by decide))⟩
inductive CitR (K:Addr->Option Obj) (I y:Addr) (j:Nat) (i:Nat) (f_0:Addr) (ρ:Rho) (Z:List Addr) (s:Shared) (hp':List MO) (l:Str) (r:Result) (s_1:Shared):Prop
 | mk (v:Value) (ρ':Rho) (u:Tok) (m':Addr) (t:Tok) (x y':Addr):r=.ok (.ret v)->Ext [] ρ s ρ' s_1->VR ρ' Z s_1.heap (.dat (.str l)) v->HR ρ' Z hp' s_1.heap->v=.str l u->ρ'[j]?=some (I,y)->ρ'[i]?=some (x,y')->m'∉muts ρ'->m'∉Z->s_1.heap.get? m'=some (methObj f_0 x)->s_1.heap.get? I=some (citObj m' t false)->TopOK K s_1.heap->OffK K ρ' Z->CitR K I y j i f_0 ρ Z s hp' l r s_1
theorem cit_post {I y f_0:Addr} {j i:Nat} {ρ:Rho} {Z:List Addr} {s s_1:Shared} {hp':List MO} {l:Str} {r:Result} (h1:ρ[j]?=some (I,y)) (h2:TopOK K s.heap) (h3:OffK K ρ Z) (hj':hp'[j]?=some (.cit i f_0 false)) (p:CallP ρ Z s (.dat (.str l)) hp' r s_1):CitR K I y j i f_0 ρ Z s hp' l r s_1:=by
 match r,p with
 | .ok (.ret v),p =>
  refine cps λ_ KK=>?_
  obtain ⟨ρ',x_1,V,H'⟩:=p
  have h1':=x_1.old h1
  obtain ⟨hIy,m',t',x',y'',k1,k2,k3,k4,k5⟩:=H'.cit h1' hj'
  have T:=h2.ext h3 x_1 noX
  obtain ⟨as,rv,_⟩:=id V
  obtain ⟨u,hv,_⟩:=rv.str_
  refine KK ?_
  exact ⟨v,ρ',u,m',t',x',y'',rfl,x_1,V,H',hv,h1',k1,k2,k3,k4,hIy▸k5,T.1,T.2⟩
theorem cit_over {I y:Addr} {j i:Nat} {f_0:Addr} {ρ':Rho} {Z:List Addr} {hp':List MO} {s_1:Shared} {m':Addr} {t':Tok} {x' y'':Addr} {h':Heap} (H':HR ρ' Z hp' s_1.heap) (hI:I=y) (h1':ρ'[j]?=some (I,y)) (k1:ρ'[i]?=some (x',y'')) (k2:m'∉muts ρ') (k3:m'∉Z) (k4:s_1.heap.get? m'=some (methObj f_0 x'))
  (e1:h'.get? I=some (citObj m' t' true)) (e2:∀b o,b≠I->s_1.heap.get? b=some o->h'.get? b=some o):Ext [] ρ' s_1 ρ' { s_1 with heap:=h' }∧HR ρ' Z (hp'.set j (.cit i f_0 true)) h':=by
 have hIm:I∈muts ρ':=hI▸List.mem_map_of_mem (f:=Prod.snd) (List.mem_of_getElem? h1')
 refine ⟨⟨⟨[],(List.append_nil _).symm,λ_ h=>nin h⟩,λb o hb _ e=>e2 b o (λq=>hb (q▸hIm)) e,λb o e=>?_,rfl,rfl,λ_ _ e=>e,λh=>h⟩,H'.set h1' (hI▸e2) ⟨hI,m',t',x',y'',k1,k2,k3,e2 _ _ (λq=>k2 (q▸hIm)) k4,hI▸e1⟩⟩
 by_cases q:b=I
 ·exact ⟨_,q▸e1⟩
 ·exact ⟨o,e2 b o q e⟩
theorem CJ.trk_ {I:Addr} {l:IS} {ρ:Rho} {Z:List Addr} {s:Shared} {C:IS->Prop} (J:CJ K I l ρ Z s) (k:∀j k y,ρ[j]?=some (I,y)->TopOK K s.heap->OffK K ρ Z->C (.trk j k)):C l:=by
 cases l with
 | rem l=>exact J.elim
 | trk j n=>exact J.1.elim λy h=>k j n y h J.2.1 J.2.2
theorem Iter.cit_step (hh:A.handled=none) {kk:Nat} {f_0:Addr} {of:Obj} {fd:FuncData} {H_0:FnF} (hof:K f_0=some of) (hfd:of.data=.func fd) (hH:FnC prog w K f_0 kk H_0) (Rm:Room A (kk+1)) {I y:Addr} {j i:Nat} {ρ:Rho} {Z:List Addr} {hp hp':List MO} {s:Shared} {l:Str} {Q:Option Value->Shared->Prop}
  (h1:ρ[j]?=some (I,y)) (h2:TopOK K s.heap) (h3:OffK K ρ Z) (H:HR ρ Z hp s.heap) (hj:hp[j]?=some (.cit i f_0 false)) (eH:H_0 [.obj i] hp=some (.dat (.str l),hp')) (hj':hp'[j]?=some (.cit i f_0 false))
  (go:l≠⟨⟨[]⟩⟩->∀(ρ':Rho) (s_1:Shared) (u:Tok) (m':Addr) (t':Tok),Ext [] ρ s ρ' s_1->VR ρ' Z s_1.heap (.dat (.str l)) (.str l u)->HR ρ' Z hp' s_1.heap->ρ'[j]?=some (I,y)->s_1.heap.get? I=some (citObj m' t' false)->TopOK K s_1.heap->OffK K ρ' Z->Q (some (.str l u)) s_1)
  (fin:l=⟨⟨[]⟩⟩->∀(ρ':Rho) (s_1:Shared) (h':Heap),Ext [] ρ s ρ' { s_1 with heap:=h' }->HR ρ' Z (hp'.set j (.cit i f_0 true)) h'->Q none { s_1 with heap:=h' }):wpAny (model prog w) A (pyNext (.ref I)) Q noE s:=by
 obtain ⟨hI,m,t,x,y',g1,g2,g3,g4,g5⟩:=H.cit h1 hj
 refine pyNext_cit_go hh (hI▸g5) g4 (h2 _ _ hof) hfd (codeAny_mono (hH.run A.in1 ρ Z hp s [.obj i] [.ref x] _ _ Rm.cit H h2 h3 (.cons ⟨x,y',g1,rfl⟩ .nil) eH) λr' s_1 p=>?_)
 obtain ⟨v,ρ',u,m',t',x',y'',hr,x_1,V,H',hv,h1',k1,k2,k3,k4,k5,T1,T2⟩:=cit_post h1 h2 h3 hj' p
 rw [hv] at hr V
 exact ⟨l,u,m',t',f_0,x',fd,hr,k5,k4,⟨of,T1 _ _ hof,hfd⟩,λq=>go q ρ' s_1 u m' t' x_1 V H' h1' k5 T1 T2,λq h' e1 e2=>(cit_over H' hI h1' k1 k2 k3 k4 e1 e2).elim λx_2 H_2=>fin q ρ' s_1 h' (x_1.trans x_2) H_2⟩
theorem Iter.cit (ht:TgOK tg) (hh:A.handled=none) {kk:Nat} {f_0:Addr} {of:Obj} {fd:FuncData} {H_0:FnF} (hof:K f_0=some of) (hfd:of.data=.func fd) (hH:FnC prog w K f_0 kk H_0) (Rm:Room A (kk+1)) (I:Addr):Iter prog w A (.ref I) tg [] (λ_=>False) (stepC f_0 H_0) (CJ K I) where
 ext:=λ{l ρ Z s X ρ' s'} J x hX=>by
  refine J.trk_ (C:=λl=>CJ K I l ρ' Z s') λj k y h1 h2 h3=>?_
  have:=h2.ext h3 x λa ha=>(hX a ha).1
  exact ⟨⟨y,x.old h1⟩,this.1,this.2⟩
 next:=λ{l hp d l' hp' ρ Z s} e J H hw=>by
  revert e
  refine J.trk_ (C:=λl=>stepC f_0 H_0 l hp=some (some (d,l'),hp')->_) λj k y h1 h2 h3 e=>?_
  cases stepC_inv e with
  | over _ _ _ h=>exact nos h.symm
  | last _ _ _ _ _ h=>exact nos h.symm
  | go i l hj eH hj' hl hr =>
   have hr:=Prod.mk.inj (sos hr)
   refine hr.1.symm▸hr.2.symm▸?_
   exact Iter.cit_step hh hof hfd hH Rm h1 h2 h3 H hj eH hj' (λ_ ρ' s_1 u m' t' x_1 V H' h1' k5 T1 T2=>⟨_,rfl,go_class ht k5 rfl (by decide) ⟨ρ',x_1.toG,H',V,⟨_,h1'⟩,T1,T2⟩⟩) λq=>absurd q hl
 done:=λ{l hp hp' ρ Z s} e J H hw=>by
  revert e
  refine J.trk_ (C:=λl=>stepC f_0 H_0 l hp=some (none,hp')->_) λj k y h1 h2 h3 e=>?_
  cases stepC_inv e with
  | over i f hj _ e' =>
   obtain ⟨hI,m,t,x,y',g1,g2,g3,g4,g5⟩:=H.cit h1 hj
   refine e'▸?_
   exact pyNext_cit_done hh (hI▸g5) λh' k=>⟨rfl,ρ,s,h',s.toks,ExtG.refl,H,rfl,λb o _ e=>k b o e⟩
  | last i hp1 hj eH hj' _ e' =>
   refine e'▸?_
   exact Iter.cit_step hh hof hfd hH Rm h1 h2 h3 H hj eH hj' (λq=>absurd rfl q) λ_ ρ' s_1 h' x H_2=>⟨rfl,ρ',{ s_1 with heap:=h' },h',s_1.toks,x.toG,H_2,rfl,λ_ _ _ e=>e⟩
  | go _ _ _ _ _ _ h=>exact nos h
 self:=λ{l hp r ρ Z s Q} e J H hQ=>by
  revert e
  refine J.trk_ (C:=λl=>stepC f_0 H_0 l hp=some r->_) λj k y h1 h2 h3 e=>?_
  obtain ⟨i,f,d,hj⟩:=(stepC_inv (r:=r.1) (hp':=r.2) e).cit
  obtain ⟨hI,m,t,x,y',g1,g2,g3,g4,g5⟩:=H.cit h1 hj
  exact pyIter_cit (hI▸g5) rfl hQ
 more:=λ{l ρ Z Z' s s'} J hZ k _=>by
  refine J.trk_ (C:=λl=>CJ K I l ρ Z' s') λj k' y h1 h2 h3=>⟨⟨y,h1⟩,λb o hb=>k b o (h2 b o hb),λb hb=>⟨(h3 b hb).1,λq=>(hZ b q).elim (h3 b hb).2 λq=>?_⟩⟩
  cases e:K b with
  | none=>exact hb e
  | some o=>exact nos (q.symm.trans (h2 b o e))
end
noncomputable def iterF (Fo:EF) (C f_0:Addr) (name:Str):EF:=bindE Fo λa σ=>match a with
 | .obj i=>if insOf C name i σ.hp then some (.obj σ.hp.length,σ.hp++[.cit i f_0 false]) else none
 | _=>none
noncomputable def citSrc (fuel:List MO->Nat) (F:EF):SF:=λσ=>match F σ with
 | some (.obj j,hp)=>match hp[j]? with
  | some (.cit _ _ _)=>some ((.trk j 0,fuel hp),hp)
  | _=>none
 | _=>none
section
variable {ρ:Rho} {Z X:List Addr} {h h':Heap}
theorem off_grow (hX:∀a∈X,a∈muts ρ) {a:Addr} (h:a∉muts ρ∧a∉Z):a∉muts ρ∧a∉X++Z:=⟨h.1,λq=>(List.mem_append.mp q).elim (λq=>h.1 (hX a q)) h.2⟩
theorem VR.grow (hX:∀a∈X,a∈muts ρ):∀{p:PV} {v:Value},VR ρ Z h p v->VR ρ (X++Z) h p v
 | .dat _,_,⟨as,r,q⟩=>⟨as,r,λa ha=>off_grow hX (q a ha)⟩
 | .obj _,_,⟨r,b,e,hv⟩=>⟨r,b,e,hv⟩
 | .strm _,_,⟨r,b,a,fs,e,hv,hs,q⟩=>⟨r,b,a,fs,e,hv,hs,λa ha=>off_grow hX (q a ha)⟩
theorem MR.grow (hX:∀a∈X,a∈muts ρ) {r b:Addr}:∀{mo:MO},MR ρ Z h r b mo->MR ρ (X++Z) h r b mo
 | .lst l,⟨hr,o,vs,n,as,ho,h1,h2,h3,h4,rs,q⟩=>⟨hr,o,vs,n,as,ho,h1,h2,h3,h4,rs,λa ha=>off_grow hX (q a ha)⟩
 | .ins c ats,⟨hr,hz,o,mA,ho,h1,h2,h3,h4,h5,h6,h7⟩=>⟨hr,(off_grow hX ⟨hr,hz⟩).2,o,mA,ho,h1,h2,h3,h4,h5,λp hp=>let ⟨v,e,x⟩:=h6 p hp; ⟨v,e,x.grow hX⟩,h7⟩
 | .cit i f dn,⟨hr,m,t,x,y,h1,h2,h3,h4,h5⟩=>⟨hr,m,t,x,y,h1,h2,(off_grow hX ⟨h2,h3⟩).2,h4,h5⟩
 | .tab _ _,h=>h
theorem HR.setZ {hp:List MO} (H:HR ρ Z hp h) {i:Nat} {r b:Addr} {mo:MO} (hi:ρ[i]?=some (r,b)) (k:∀a o,a≠b->a∉Z->h.get? a=some o->h'.get? a=some o) (lv:∀a∈Z,∃o,h'.get? a=some o) (hm:MR ρ Z h' r b mo):HR ρ Z (hp.set i mo) h':=by
 have hbm:b∈muts ρ:=List.mem_map_of_mem (f:=Prod.snd) (List.mem_of_getElem? hi)
 have hX:∀a∈[b],a∈muts ρ:=λa ha=>(List.mem_singleton.mp ha).symm▸hbm
 refine ⟨List.length_set.symm▸H.len,H.nodup,H.offZ,lv,λj mo' e=>?_⟩
 replace e:=(List.getElem?_set)▸e
 split at e
 ·rename_i hij
  subst hij
  split at e
  ·cases e; exact ⟨r,b,hi,hm⟩
  ·exact nos e
 ·rename_i hij
  refine cps λ_ KK=>?_
  obtain ⟨r',b',hr',hm'⟩:=H.at_ j mo' e
  refine KK ?_
  have hbm':b'∈muts ρ:=List.mem_map_of_mem (f:=Prod.snd) (List.mem_of_getElem? hr')
  have hne:b'≠b:=λq=>by
   have nd:=H.nodup
   have e1:(muts ρ)[i]?=some b:=by rw [List.getElem?_map,hi]; rfl
   have e2:(muts ρ)[j]?=some b:=by rw [List.getElem?_map,hr',← q]; rfl
   exact hij ((List.getElem?_inj (List.getElem?_eq_some_iff.mp e1).1 nd).mp (e1.trans e2.symm))
  refine ⟨r',b',hr',((hm'.grow hX).own (λa o ha e=>k a o (λq=>ha (by rw [q]; simp)) (λq=>ha (List.mem_append_right _ q)) e) λq=>?_).weak λa h=>List.mem_append_right _ h⟩
  rcases List.mem_append.mp q with q | q
  ·exact hne (List.mem_singleton.mp q)
  ·exact H.offZ b' hbm' q
theorem VR.setZ (hbm:∀a∈X,a∈muts ρ) (k:∀a o,a∉X->a∉Z->h.get? a=some o->h'.get? a=some o) {p:PV} {v:Value} (x:VR ρ Z h p v):VR ρ Z h' p v :=
 ((x.grow hbm).own λa o ha e=>k a o (λq=>ha (List.mem_append_left _ q)) (λq=>ha (List.mem_append_right _ q)) e).weak λa h=>List.mem_append_right _ h
end
section
variable {prog:Program} {w:World} {K:Addr->Option Obj} {fx:Fx} {mg mb:Str->Option Value}
theorem iter1_inv {C f:Addr} {name:Str} {a:PV} {h1 hp':List MO} {pv:PV} {P:Prop} (e:(match a with
  | .obj i=>if insOf C name i h1 then some (PV.obj h1.length,h1++[MO.cit i f false]) else none
  | _=>none)=some (pv,hp')) (k:∀i,a=.obj i->insOf C name i h1=true->pv=.obj h1.length->hp'=h1++[.cit i f false]->P):P:=by
 cases a with
 | obj i=>exact iteo (show (if insOf C name i h1=true then some (PV.obj h1.length,h1++[MO.cit i f false]) else none)=some (pv,hp') from e) λh e=>k i rfl h (sop e).1.symm (sop e).2.symm
 | dat d=>exact nos e
 | strm i=>exact nos e
theorem citSrc_inv {fuel:List MO->Nat} {F:EF} {σ:St} {is:IS} {n:Nat} {hp':List MO} {C:Prop} (q:citSrc fuel F σ=some ((is,n),hp')) (k:∀j i f d,F σ=some (.obj j,hp')->hp'[j]?=some (.cit i f d)->is=.trk j 0->n=fuel hp'->C):C:=by
 unfold citSrc at q
 cases h:F σ with
 | none=>rw [h] at q; exact nos q
 | some x =>
  replace q:=h▸q
  cases x with
  | mk a hp=>cases a with
   | obj j =>
    have q:(match hp[j]? with | some (.cit _ _ _)=>some ((IS.trk j 0,fuel hp),hp) | _=>none)=some ((is,n),hp'):=q
    cases h2:hp[j]? with
    | none=>rw [h2] at q; exact nos q
    | some mo =>
     replace q:=h2▸q
     cases mo with
     | cit i f d=>exact k j i f d ((sop q).2▸h) ((sop q).2▸h2) (Prod.mk.inj (sop q).1).1.symm ((sop q).2▸(Prod.mk.inj (sop q).1).2.symm)
     | _=>exact nos q
   | dat d=>exact nos q
   | strm i=>exact nos q
theorem Ev.iterCit (gl:Gl K mg mb) {C:Addr} {mN:Str->Option Value} (cl:ClsOK K C mN) {name:Str} {f:Addr} {of:Obj} {y:Option Value} {x:Str} {inp np ap cp pos:Pos} {kk:Nat} {Fo:EF} (hf:mN name=some (.ref f)) (hof:K f=some of) (hfc:of.cls=.type "function")
  (hB:typeLookup (.type "object") name=pure y) (hcop:(["__module__","__name__","__qualname__","__doc__","__annotations__"]:List Str).contains name=false) (ho:Ev prog w K fx (.Name x np) Fo)
  (hk:fx.sc.names.lookup ("iter":Str)=some .globalImplicit) (hg:mg "iter"=none) (hb:mb "iter"=some (.builtin "iter")) :
  Ev prog w K fx (.Call (.Name "iter" inp) [.Attribute (.Name x np) name ap,.Constant (.str "") kk cp] [] pos) (iterF Fo C f name):=.mk λA ρ Z σ s pv hp' Rm R q=>by
 refine Call_ (global_name gl R hk (.inr ⟨hg,hb⟩) ?_ (by decide))
 refine callWith_val (.inl ⟨_,rfl⟩) (wpAny_items_cons (Attribute_name (ho.then Rm R q λa va h1 ρ_1 s_1 e1 x_1 v_1 R_1=>?_)) rfl) rfl rfl
 refine cps λ_ KK=>?_
 refine iter1_inv e1 λi ha hi hpv hhp=>?_
 obtain ⟨ats,hi,hne⟩:=insOf_eq hi
 obtain ⟨r,b,hr,hva⟩:=(ha▸v_1:VR ρ_1 Z s_1.heap (.obj i) va)
 obtain ⟨hrm,hrz,o,mA,ho,h1',h2,h3,h4,h5,h6,h7⟩:=R_1.hr.ins hi hr
 obtain ⟨nm,qn,N,bs,sn,sub,col,dd,k0,k1,k2,k3,k5,hK,hNs⟩:=cl.ex
 obtain ⟨h,g,d,t,os⟩:=s_1
 refine KK ?_
 refine hva.symm▸hpv.symm▸hhp.symm▸?_
 refine bound_attr (R_1.top _ _ hK) (hNs h R_1.top) cl.ga cl.gh hf (R_1.top _ _ hof) hfc hB hcop ⟨o,ho,h1',h2,.inr ⟨b,h3,h4,h5⟩⟩ (h7 name hne) ?_
 refine wpAny_items_cons (wpAny_Constant_str (wpAny_items_nil ?_)) rfl
 have hm:(h.push { cls:=.type "method",data:=.fields #[.ref f,.ref r] }).get? h.objs.size=some (Mine.methObj f r):=Heap.get?_push_size _ rfl
 refine call_iter2 hm ?_
 have hz:(h.push { cls:=.type "method",data:=.fields #[.ref f,.ref r] }).objs.size=h.objs.size+1:=Heap.size_push ..
 skip
 refine hz.symm▸?_
 have fm:h.get? h.objs.size=none:=Heap.get?_none_of_le (Nat.le_refl _)
 have fI:h.get? (h.objs.size+1)=none:=Heap.get?_none_of_le (by (exact Nat.le_add_right _ _))
 have H_1:HR ρ_1 Z h1 h:=R_1.hr
 generalize hob:({ cls:=.type "callable_iterator",data:=.fields #[.ref h.objs.size,.str ("":Str) (t+1),.bool false] }:Obj)=ob
 have kp:∀b o,h.get? b=some o->((h.push { cls:=.type "method",data:=.fields #[.ref f,.ref r] }).push ob).get? b=some o:=λb o e=>Heap.get?_push_of_some _ (Heap.get?_push_of_some _ e)
 have hI:((h.push { cls:=.type "method",data:=.fields #[.ref f,.ref r] }).push ob).get? (h.objs.size+1)=some ob:=by
  rw [← hz]; exact Heap.get?_push_size _ (by rw [← hob]; rfl)
 have H_2:HR (ρ_1++[(h.objs.size+1,h.objs.size+1)]) Z (h1++[.cit i f false]) ((h.push { cls:=.type "method",data:=.fields #[.ref f,.ref r] }).push ob):=H_1.push fI kp
  ⟨rfl,h.objs.size,t+1,r,b,get_append hr,by
   rw [muts_append,List.mem_append]
   rintro (q | q)
   ·exact (H_1.fresh fm).1 q
   ·have:h.objs.size=h.objs.size+1:=by simpa using q
    lia,(H_1.fresh fm).2,Heap.get?_push_of_some _ hm,by rw [hI,← hob]; rfl⟩
 refine ⟨_,x_1.trans ⟨⟨_,rfl,λp hp=>(List.mem_singleton.mp hp).symm▸fI⟩,λb o _ _ e=>kp b o e,λb o e=>⟨o,kp b o e⟩,rfl,rfl,λ_ _ e=>e,λh=>h⟩,?_,H_2⟩
 exact ⟨_,_,by rw [List.getElem?_append_right (H_1.len.symm▸Nat.le_refl _),H_1.len,Nat.sub_self]; rfl,rfl⟩
theorem EvI.cit {e tg:Expr} {F:EF} (ht:TgOK tg) (he:Ev prog w K fx e F) {kk:Nat} {f_0:Addr} {of:Obj} {fd:FuncData} {H_0:FnF} (hof:K f_0=some of) (hfd:of.data=.func fd) (hH:FnC prog w K f_0 kk H_0) (hK:kk+1≤fx.k) (fuel:List MO->Nat) :
  EvI prog w K fx e tg (stepC f_0 H_0) (citSrc fuel F):=.mk λA ρ Z σ s is n hp' Rm R q=>by
 refine citSrc_inv q λj i f d e1 hj his hn=>?_
 refine his.symm▸?_
 refine wpAny_mono (he.run A ρ Z σ s _ _ Rm R e1) (λv s_1 P=>?_) λ_ _ q=>q.elim
 refine cps λ_ KK=>?_
 obtain ⟨ρ_1,x_1,⟨r,b,hr,hv⟩,H_1⟩:=P
 have R_1:=R.next x_1 H_1
 obtain ⟨hrb,m,t,x,y,g1,g2,g3,g4,g5⟩:=H_1.cit hr hj
 refine KK ?_
 refine hv.symm▸?_
 exact pyIter_cit (hrb.symm▸g5) rfl ⟨ρ_1,s_1,[],λ_=>False,_,x_1,H_1,Ext.refl _ _ _,λ_ _ e=>e,(λ_ h=>nin h),(λ_ h=>nin h),(λ_ h=>h.elim),⟨rfl,⟨_,hr⟩,R_1.top,R_1.off⟩,(Iter.cit ht Rm.handled hof hfd hH (Rm.mono hK) r).toD⟩
end
noncomputable def streamX (iS iT tb:Nat) (P0:Addr):XF:=λσ=>match getV σ.loc iS with
 | some (.obj i)=>match σ.hp[tb]? with
  | some (.tab P true)=>if P=P0 then some (.next,⟨σ.loc.set iT (some (.strm i)),σ.hp.set tb (.tab P0 false)⟩) else none
  | _=>none
 | _=>none
section
variable {prog:Program} {w:World} {K:Addr->Option Obj} {fx:Fx} {mg mb:Str->Option Value}
theorem slot_congr {env:Env} {m m' cm:Str->Option Value} {x:Str} (h:m' x=m x):slotV env m' cm x=slotV env m cm x:=by
 unfold slotV; rw [h]
theorem streamX_inv {iS iT tb:Nat} {P0:Addr} {σ:St} {r:Fl×St} {C:Prop} (e:streamX iS iT tb P0 σ=some r) (k:∀i,getV σ.loc iS=some (.obj i)->σ.hp[tb]?=some (.tab P0 true)->r=(.next,⟨σ.loc.set iT (some (.strm i)),σ.hp.set tb (.tab P0 false)⟩)->C):C:=by
 unfold streamX at e
 cases h1:getV σ.loc iS with
 | none=>rw [h1] at e; exact nos e
 | some pv =>
  rw [h1] at e
  cases pv with
  | dat d=>exact nos e
  | strm i=>exact nos e
  | obj i =>
   cases h2:σ.hp[tb]? with
   | none=>exact nos ((congrArg (λo=>match o with
    | some (.tab P true)=>if P=P0 then some (Fl.next,(⟨σ.loc.set iT (some (.strm i)),σ.hp.set tb (.tab P0 false)⟩:St)) else none
    | _=>none) h2).symm.trans e)
   | some mo =>
    have e:=(congrArg (λo=>match o with
     | some (.tab P true)=>if P=P0 then some (Fl.next,(⟨σ.loc.set iT (some (.strm i)),σ.hp.set tb (.tab P0 false)⟩:St)) else none
     | _=>none) h2).symm.trans e
    cases mo with
    | lst l=>exact nos e
    | ins C l=>exact nos e
    | cit a b c=>exact nos e
    | tab P b=>cases b with
     | false=>exact nos e
     | true=>exact ite_inv e λh e=>k i h1 (h▸h2) e.symm
theorem ExsFin.stream (gl:Gl K mg mb) {iS iT tb:Nat} {P0 c0 cS:Addr} {P:Nat->Pos} {pp dpos p1 p2 p3 p4 p5 p6 lpos:Pos} {lb:Expr} {lsc:Scope} {rest:List Stmt} {G:XF}
  (hS:fx.vars.lookup iS=some ("signs":Str)) (hT:fx.vars.lookup iT=some ("stream":Str)) (hno:∀i,fx.vars.lookup i≠some ("read":Str))
  (kS:fx.sc.names.lookup ("signs":Str)=some .cell) (kR:fx.sc.names.lookup ("read":Str)=some .local) (kT:fx.sc.names.lookup ("stream":Str)=some .local)
  (hcS:fx.env.cells.lookup ("signs":Str)=some cS) (hcode:fx.env.code=.ref c0) (hcown:cS∈fx.own)
  (hC:∀h,TopOK K h->CodeHd h c0 P0) (hB:∀h,TopOK K h->h.BuiltinsAt mg P0) (hgP:mainGlobals≠P0)
  (hrest:Exs prog w K { fx with own:=[fx.env.locals] } rest G) (hpos:∀v,codeAmong lpos [rawInt dpos.line,rawInt dpos.col,v]=none) (hlsc:lsc.names=[])
  (hs2:swapsWith (.Lambda ⟨[],[],none,[],[],none,[]⟩ lb lsc lpos) (some (.Name "stream" p1)) p2.line fx.env=pure false) (hs3:swapsWith (.Name "read" p5) (some (.Attribute (.Name "stream" p3) "read" p4)) p6.line fx.env=pure false)
  (hline:((P 2).endLine==(P 4).line)=true) :
  ExsFin prog w K fx (.FunctionDef "read" ⟨[],[⟨"size",none,pp⟩],none,[],[],none,[]⟩ (readBody P) [] none [] readScope none "read" dpos ::
   .Assign [.Name "stream" p1] (.Lambda ⟨[],[],none,[],[],none,[]⟩ lb lsc lpos) p2 ::
   .Assign [.Attribute (.Name "stream" p3) "read" p4] (.Name "read" p5) p6::rest) (seqF (streamX iS iT tb P0) G):=.mk λA ρ Z0 σ s fl σ' Rm R hoff q=>by
 refine cps λ_ KK=>?_
 refine seqF_inv q (λσ_1 e1 q=>streamX_inv e1 λi hi htb hr=>?_) λe1 n=>streamX_inv e1 λi _ _ hr=>(n (congrArg Prod.fst hr)).elim
 rw [(Prod.mk.inj hr).2] at q
 obtain ⟨m,cm,hn,hc,hv⟩:=R.er.ex
 obtain ⟨v,hsv,hV⟩:=hv iS _ _ hS (getV_eq hi)
 obtain ⟨g,b,hgi,rfl⟩:=hV
 refine KK ?_
 have kS':fx.env.kindOf "signs"=some .cell:=by unfold Env.kindOf; rw [R.er.sc]; exact kS
 have kR':fx.env.kindOf "read"=some .local:=by unfold Env.kindOf; rw [R.er.sc]; exact kR
 have kT':fx.env.kindOf "stream"=some .local:=by unfold Env.kindOf; rw [R.er.sc]; exact kT
 have hcm:cm "signs"=some (.ref g):=by
  unfold slotV at hsv
  replace hsv:=kS'▸hsv
  dsimp only at hsv
  replace hsv:=hcS▸hsv
  exact hsv
 refine cps λ_ KK=>?_
 obtain ⟨rt,bt,hrt,hmt⟩:=R.hr.at_ tb _ htb
 obtain ⟨hrb,hbP,vs,hP,hvs⟩:=hmt
 replace hrt:=hbP▸hrb▸hrt
 replace hP:=hbP▸hP
 obtain rfl:=hvs rfl
 obtain ⟨L,hL⟩:∃L,fx.env.locals=L:=⟨_,rfl⟩
 refine KK ?_
 have hPm:P0∈muts ρ:=List.mem_map_of_mem (f:=Prod.snd) (List.mem_of_getElem? hrt)
 have hnL:s.heap.Ns L m:=hL▸hn
 have LZ:L∈fx.own++Z0:=R.er.ownZ _ (hL▸R.er.lown)
 have hLP:L≠P0:=λq=>R.er.lmut (hL.symm▸q.symm▸hPm)
 have PlS:P0 < s.heap.objs.size:=Heap.lt_size hP
 have LlS:L < s.heap.objs.size:=by obtain ⟨o,e⟩:=Ns.live hnL; exact Heap.lt_size e
 have hcl:closureFor readScope fx.env=pure [(("signs":Str),cS)]:=by
  rw [closureFor_clF (by show (true&&((false||(fx.env.cells.lookup ("signs":Str)).isSome)&&true))=true; rw [hcS]; rfl)]
  refine congrArg pure ?_
  show clF fx.env [(("size":Str),NameKind.local),(("signs":Str),NameKind.free)] []=_
  rw [clF,if_neg (by decide),clF,if_pos (by decide),hcS]
  rfl
 have hcl2:closureFor lsc fx.env=pure []:=by
  refine (closureFor_clF (by rw [hlsc]; rfl)).symm▸hlsc.symm▸?_
  rfl
 have kOf:∀b o,K b=some o->b≠P0∧b≠L:=λb o hb=>⟨λq=>(R.off b (hb.symm▸λq=>nso q)).1 (q▸hPm),λq=>(R.off b (hb.symm▸λq=>nso q)).2 (q▸LZ)⟩
 have hfk:(fx.env.scope.kind==.class||(fx.env.scope.kind==.module&&fx.env.locals != fx.env.globals))=false:=by rw [R.er.fn]; rfl
 refine wpAny_execs_cons (nestDef_K rfl rfl rfl (makeFunction_K hcl R.er.glob (gl.g _ R.top) hcode (hC _ R.top) (ps:=#[]) hP trivial rfl hgP (hB _ R.top) λc' ctv doc h1 tk hx hge hlt hrec htab=>?_))
 obtain ⟨fo,hfo⟩:∃fo,fo=fnMade ("read":Str) (qualnameIn fx.env ("read":Str) ("read":Str)) ⟨[],[⟨"size",none,pp⟩],none,[],[],none,[]⟩ (readBody P) readScope [(("signs":Str),cS)] doc ((mg "__name__").getD .none) c' ctv:=⟨_,rfl⟩
 refine hfo▸?_
 have fr1:fo.isFreed=false:=by rw [hfo]; rfl
 have hn1:(h1.push fo).Ns L m:=Ns.keep hnL λo e=>Heap.get?_push_of_some _ (hx L o hLP e)
 refine wpAny_storeName_local kR' (hL▸hn1) (λh2 hn2 sb2=>?_) hfk
 rw [hL] at hn2 sb2
 have sz2:h2.objs.size=h1.objs.size+1:=sb2.1.symm▸Heap.size_push ..
 have k2:∀b o,b≠P0->b≠L->s.heap.get? b=some o->h2.get? b=some o:=λb o b1 b2 e=>sb2.extBut b o b2 (Heap.get?_push_of_some _ (hx b o b1 e))
 have tp2:TopOK K h2:=λb o hb=>k2 b o (kOf b o hb).1 (kOf b o hb).2 (R.top b o hb)
 have hP2:h2.get? P0=some (tabObj #[rawInt dpos.line,rawInt dpos.col,.ref c']):=sb2.extBut _ _ (Ne.symm hLP) (Heap.get?_push_of_some _ htab)
 have c1s:h1.objs.size > s.heap.objs.size:=Nat.lt_of_le_of_lt hge hlt
 have hr2:h2.get? h1.objs.size=some fo:=sb2.extBut _ _ (Nat.ne_of_gt (Nat.lt_trans LlS c1s)) (Heap.get?_push_size _ fr1)
 refine wpAny_execs_cons (wpAny_Assign_Name (kla_eval rfl (kla_makeFunction hcl2 R.er.glob (gl.g _ tp2) hcode (hC _ tp2) hP2 trivial (hpos _) hgP (hB _ tp2) λc2 ctv2 h3 tk3 hx3 hge3 hlt3 hrec3 htab3=>?_)) hs2)
 obtain ⟨lo,hlo⟩:∃lo,lo=kla_obj ("<lambda>":Str) (fx.env.qual++"<lambda>") ⟨[],[],none,[],[],none,[]⟩ lb lsc [] ((mg "__name__").getD .none) c2 ctv2:=⟨_,rfl⟩
 refine hlo▸?_
 have fr3:lo.isFreed=false:=by rw [hlo]; rfl
 have hn3:(h3.push lo).Ns L (λx=>if x="read" then some (.ref h1.objs.size) else m x):=Ns.keep hn2 λo e=>Heap.get?_push_of_some _ (hx3 L o hLP e)
 refine wpAny_storeName_local kT' (hL▸hn3) (λh4 hn4 sb4=>?_) hfk
 rw [hL] at hn4 sb4
 have sz4:h4.objs.size=h3.objs.size+1:=sb4.1.symm▸Heap.size_push ..
 have k4:∀b o,b≠P0->b≠L->h2.get? b=some o->h4.get? b=some o:=λb o b1 b2 e=>sb4.extBut b o b2 (Heap.get?_push_of_some _ (hx3 b o b1 e))
 have hge3':h2.objs.size≤c2:=hge3
 have c3s:h3.objs.size > h1.objs.size:=by have h:c2 < h3.objs.size:=hlt3; lia
 have ha4:h4.get? h3.objs.size=some lo:=sb4.extBut _ _ (Nat.ne_of_gt (Nat.lt_trans LlS (Nat.lt_trans c1s c3s))) (Heap.get?_push_size _ fr3)
 have hP4:h4.get? P0=some (tabObj (#[rawInt dpos.line,rawInt dpos.col,.ref c']++#[rawInt lpos.line,rawInt lpos.col,.ref c2])):=sb4.extBut _ _ (Ne.symm hLP) (Heap.get?_push_of_some _ htab3)
 refine wpAny_execs_cons (plainObj_wpAny_Assign_Attribute (wpAny_Name (wpAny_loadName_local R.er.fn kR' (hL▸hn4) (v:=.ref h1.objs.size) (by show (if ("read":Str)="stream" then _ else if ("read":Str)="read" then _ else _)=_; rw [if_neg (by decide),if_pos rfl]) (wpAny_Name (wpAny_loadName_local R.er.fn kT' (hL▸hn4) (v:=.ref h3.objs.size) (if_pos rfl) ?_) (by decide))) (by decide)) hs3)
 refine fn_setAttr ha4 (hlo.symm▸rfl) (by rw [hlo]) (hlo.symm▸rfl) λh6 dx t' e1 e2 e3 e4=>?_
 have sLt:∀b o,s.heap.get? b=some o->b≠h3.objs.size:=λb o e=>Nat.ne_of_lt (Nat.lt_trans (Heap.lt_size e) (Nat.lt_trans c1s c3s))
 have k6:∀b o,b≠P0->b≠L->s.heap.get? b=some o->h6.get? b=some o:=λb o b1 b2 e=>e4 b o (sLt b o e) (k4 b o b1 b2 (k2 b o b1 b2 e))
 have hP6:h6.get? P0=some (tabObj (#[rawInt dpos.line,rawInt dpos.col,.ref c']++#[rawInt lpos.line,rawInt lpos.col,.ref c2])):=e4 _ _ (sLt _ _ hP) hP4
 have hn6:h6.Ns L (λx=>if x="stream" then some (.ref h3.objs.size) else if x="read" then some (.ref h1.objs.size) else m x):=Ns.keep hn4 λo e=>e4 L o (Nat.ne_of_lt (Nat.lt_trans LlS (Nat.lt_trans c1s c3s))) e
 have lvZ:∀a∈fx.own++Z0,∃o,h6.get? a=some o:=λa ha=>by
  by_cases q:a=L
  ·obtain ⟨o,e⟩:=Ns.live hn6; exact ⟨o,q▸e⟩
  ·obtain ⟨o,e⟩:=R.hr.liveZ a ha
   exact ⟨o,k6 a o (λq'=>R.hr.offZ P0 hPm (q'▸ha)) q e⟩
 have wz:∀a∈[L]++Z0,a∈fx.own++Z0:=λa h=>(List.mem_append.mp h).elim (λh=>(List.mem_singleton.mp h).symm▸LZ) λh=>List.mem_append_right _ h
 have kZ:∀a o,a≠P0->a∉fx.own++Z0->s.heap.get? a=some o->h6.get? a=some o:=λa o h1 h2 e=>k6 a o h1 (λq=>h2 (q▸LZ)) e
 have H6:HR ρ ([L]++Z0) (σ.hp.set tb (.tab P0 false)) h6:=(R.hr.setZ (mo:=.tab P0 false) hrt kZ lvZ ⟨rfl,rfl,_,hP6,λh=>nft h⟩).weak wz
 have fresh:∀b,s.heap.objs.size≤b->b∉muts ρ∧b∉[L]++Z0:=λb hb=>by
  have f:=R.hr.fresh (Heap.get?_none_of_le hb)
  exact ⟨f.1,λq=>f.2 (wz b q)⟩
 have hdx:s.heap.get? dx=none:=by
  cases q:s.heap.get? dx with
  | none=>rfl
  | some o =>
   exfalso
   by_cases b1:dx=P0
   ·rw [b1,hP4] at e1; cases e1
   ·by_cases b2:dx=L
    ·obtain ⟨o,e⟩:=Ns.live hn4; rw [b2,e] at e1; cases e1
    ·rw [k4 _ _ b1 b2 (k2 _ _ b1 b2 q)] at e1; cases e1
 have fdx:dx∉muts ρ∧dx∉[L]++Z0:=by
  have f:=R.hr.fresh hdx
  exact ⟨f.1,λq=>f.2 (wz dx q)⟩
 have hcS6:h6.IsCell cS (some (.ref g)):=by
  obtain ⟨o,ho,hd⟩:=hc _ _ hcS
  replace hd:=hcm▸hd
  exact ⟨o,k6 cS o (λq=>(R.er.cell _ _ hcS).1 (q▸hPm)) (λq=>(R.er.cell _ _ hcS).2 (q.trans hL.symm)) ho,hd⟩
 have hr6:h6.get? h1.objs.size=some fo:=e4 _ _ (Nat.ne_of_lt c3s) (k4 _ _ (Nat.ne_of_gt (Nat.lt_trans PlS c1s)) (Nat.ne_of_gt (Nat.lt_trans LlS c1s)) hr2)
 have hrec6:h6.CodeRec (.ref c') (qualnameIn fx.env ("read":Str) ("read":Str)):=by
  refine cps λ_ KK=>?_
  obtain ⟨c,o,vs,t,e,ge,r⟩:=hrec
  refine KK ?_
  replace ge:=(Value.ref.inj e).symm▸ge
  exact ⟨c',o,vs,t,rfl,e4 _ _ (Nat.ne_of_lt (Nat.lt_trans hlt c3s)) (k4 _ _ (Nat.ne_of_gt (Nat.lt_of_lt_of_le PlS hge)) (Nat.ne_of_gt (Nat.lt_of_lt_of_le LlS hge)) (sb2.extBut _ _ (Nat.ne_of_gt (Nat.lt_of_lt_of_le LlS hge)) (Heap.get?_push_of_some _ ge))),r⟩
 have hVs:VR ρ ([L]++Z0) h6 (.strm i) (.ref h3.objs.size):=by
  refine ⟨g,b,h3.objs.size,[h3.objs.size,dx,h1.objs.size,cS,c'],hgi,rfl,⟨⟨{ lo with dict:=some dx },fo,dx,h1.objs.size,cS,c',_,rfl,e3,hlo.symm▸rfl,⟨_,by rw [hlo]⟩,rfl,e2,hr6,hfo.symm▸rfl,by rw [hfo],⟨rfl,rfl,rfl,rfl,⟨P,rfl,hline⟩,⟨pp,rfl⟩,rfl,rfl,rfl⟩,hcS6,hrec6⟩⟩,allc (fresh _ (Nat.le_of_lt (Nat.lt_trans c1s c3s))) (allc fdx (allc (fresh _ (Nat.le_of_lt c1s)) (allc ⟨(R.er.cell _ _ hcS).1,λq=>(List.mem_append.mp q).elim (λq=>(R.er.cell _ _ hcS).2 ((List.mem_singleton.mp q).trans hL.symm)) (hoff _ hcown)⟩ (all1 (fresh _ hge)))))⟩
 have R6:SR K { fx with own:=[fx.env.locals] } ρ ([L]++Z0) ⟨σ.loc.set iT (some (.strm i)),σ.hp.set tb (.tab P0 false)⟩ ⟨h6,s.gens,s.drawn,t',s.os⟩:=by
  refine ⟨H6,⟨⟨_,cm,hL▸hn6,λn c e=>?_,λj x pv hj hl=>?_⟩,R.er.fn,R.er.sc,R.er.vinj,R.er.glob,R.er.bi,List.mem_singleton_self _,λa ha=>by rw [List.mem_singleton.mp ha,hL]; simp,R.er.lmut,R.er.cell,R.er.inj⟩,λb o hb=>k6 b o (kOf b o hb).1 (kOf b o hb).2 (R.top b o hb),λb hb=>⟨(R.off b hb).1,λq=>(R.off b hb).2 (wz b q)⟩⟩
  ·obtain ⟨o,ho,hd⟩:=hc n c e
   exact ⟨o,k6 c o (λq=>(R.er.cell n c e).1 (q▸hPm)) (λq=>(R.er.cell n c e).2 (q.trans hL.symm)) ho,hd⟩
  ·rcases set_get hl with ⟨rfl,rfl⟩ | ⟨hij,hl'⟩
   ·refine ⟨.ref h3.objs.size,?_,hVs⟩
    refine (sos (hT.symm.trans hj))▸?_
    unfold slotV
    refine kT'.symm▸?_
    exact if_pos rfl
   ·obtain ⟨u,hu,hr⟩:=hv j x pv hj hl'
    refine ⟨u,?_,(VR.setZ (X:=[P0]) (λa ha=>(List.mem_singleton.mp ha).symm▸hPm) (λa o h1 h2 e=>kZ a o (λq=>h1 (by rw [q]; simp)) h2 e) hr).weak wz⟩
    have n1:x≠"stream":=λq=>hij (R.er.vinj iT j "stream" hT (q▸hj))
    have n2:x≠"read":=λq=>hno j (q▸hj)
    exact (slot_congr (by show (if _ then _ else if _ then _ else _)=_; rw [if_neg n1,if_neg n2])).trans hu
 refine wpAny_mono (hrest.run A ρ ([L]++Z0) _ _ fl σ' Rm R6 q) (λf s' p=>?_) λ_ _ q=>q
 refine cps λ_ KK=>?_
 obtain ⟨ρ',x,R',r⟩:=p
 refine KK ?_
 have x06:Ext fx.own ρ s ρ ⟨h6,s.gens,s.drawn,t',s.os⟩:=⟨⟨[],by simp,λ_ h=>nin h⟩,λb o hb hX e=>k6 b o (λq=>hb (q▸hPm)) (λq=>hX (q.symm▸hL▸R.er.lown)) e,λb o e=>by
  by_cases b1:b=P0
  ·exact ⟨_,b1▸hP6⟩
  ·by_cases b2:b=L
   ·obtain ⟨o,e⟩:=Ns.live hn6; exact ⟨o,b2▸e⟩
   ·exact ⟨o,k6 b o b1 b2 e⟩,rfl,rfl,λ_ _ e=>e,λh=>h⟩
 exact ⟨ρ',x06.trans (x.weak λa ha=>(List.mem_singleton.mp ha).symm▸R.er.lown),R'.hr.weak λa h=>List.mem_append_right _ h,r.weak λa h=>List.mem_append_right _ h⟩
end
end Mine
end
section
open PySem PySem.Calls PySem.W PyProof.Rows open PySem.Spec (ltCps)
namespace Mine
theorem perm_unique {α:Type} {R:α->α->Prop} (anti:∀a b,R a b->R b a->a=b):∀(l_1 l_2:List α),l_1.Pairwise R->l_2.Pairwise R->l_1.Perm l_2->l_1=l_2
 | [],l_2,_,_,p=>p.symm.eq_nil.symm
 | a::l_1,[],_,_,p=>ncn p.eq_nil
 | a::l_1,b::l_2,h1,h2,p=>by
  have hab:a=b:=(List.mem_cons.mp (p.mem_iff.mp (List.mem_cons_self ..))).elim id λha=>(List.mem_cons.mp (p.mem_iff.mpr (List.mem_cons_self (a:=b) (l:=l_2)))).elim Eq.symm λhb=>anti _ _ (List.rel_of_pairwise_cons h1 hb) (List.rel_of_pairwise_cons h2 ha)
  subst hab
  exact (perm_unique anti l_1 l_2 (List.pairwise_cons.mp h1).2 (List.pairwise_cons.mp h2).2 p.cons_inv).symm▸rfl
noncomputable def leS (a b:Str):Prop:=ltCps b.cps.toList a.cps.toList=false
theorem ltCps_cons {a b:Nat} {r t:List Nat} (h:ltCps (a::r) (b::t)=false):b≤a∧(a=b->ltCps r t=false):=by
 have h:(decide (a < b)||(a==b&&ltCps r t))=false:=h
 rw [Bool.or_eq_false_iff] at h
 exact ⟨Nat.le_of_not_lt (of_decide_eq_false h.1),λe=>(Bool.and_eq_false_iff.mp h.2).resolve_left λq=>ne_of_beq_false q e⟩
theorem ltCps_mk {a b:Nat} {r t:List Nat} (h1:b≤a) (h2:a=b->ltCps r t=false):ltCps (a::r) (b::t)=false:=by
 show (decide (a < b)||(a==b&&ltCps r t))=false
 rw [decide_eq_false (Nat.not_lt.mpr h1),Bool.false_or]
 by_cases e:a=b
 ·rw [h2 e,Bool.and_false]
 ·rw [beq_false_of_ne e,Bool.false_and]
theorem ltCps_anti:∀a b:List Nat,ltCps a b=false->ltCps b a=false->a=b
 | [],[],_,_=>rfl
 | [],_::_,h,_=>ntf h
 | _::_,[],_,h=>ntf h
 | a::r,b::t,h1,h2=>by
  have h1:=ltCps_cons h1
  have h2:=ltCps_cons h2
  have hab:a=b:=Nat.le_antisymm h2.1 h1.1
  exact hab.symm▸(ltCps_anti r t (h1.2 hab) (h2.2 hab.symm)).symm▸rfl
theorem leS_anti (a b:Str) (h1:leS a b) (h2:leS b a):a=b:=congrArg (λl=>(⟨⟨l⟩⟩:Str)) (ltCps_anti b.cps.toList a.cps.toList h1 h2).symm
theorem ltCps_trans:∀a b c:List Nat,ltCps b a=false->ltCps c b=false->ltCps c a=false
 | [],[],c,_,h=>h
 | _::_,[],c,h,_=>ntf h
 | a,_::_,[],_,h=>ntf h
 | [],b::t,c::u,h1,h2=>rfl
 | a::r,b::t,c::u,h1,h2=>by
  have h1:=ltCps_cons h1
  have h2:=ltCps_cons h2
  refine ltCps_mk (Nat.le_trans h1.1 h2.1) λhca=>?_
  have h3:b=a:=Nat.le_antisymm (hca▸h2.1) h1.1
  exact ltCps_trans r t u (h1.2 h3) (h2.2 (hca.trans h3.symm))
theorem risingS_pw:∀(r:List Str) (x:Str),risingS x r=true->(x::r).Pairwise leS
 | [],x,_=>List.pairwise_singleton ..
 | y::r,x,h=>by
  have h:(!ltCps y.cps.toList x.cps.toList&&risingS y r)=true:=h
  have h:=(Bool.and_eq_true _ _).mp h
  have h1:leS x y:=(Bool.not_eq_true' _).mp h.1
  have p:=risingS_pw r y h.2
  exact List.pairwise_cons.mpr ⟨λa ha=>(List.mem_cons.mp ha).elim (λe=>e▸h1) λha=>ltCps_trans _ _ _ h1 (List.rel_of_pairwise_cons p ha),p⟩
theorem sortedS_pw:∀l:List Str,sortedS l=true->l.Pairwise leS
 | [],_=>.nil
 | x::r,h=>risingS_pw r x h
noncomputable def sortD:PyData->Option PyData
 | .list l=>if l.length < 64 then match strsD l with
  | some ss=>if sortedS ss then some (.list l) else none
  | none=>none else none
 | _=>none
inductive SortI (d r:PyData):Prop
 | mk (l:List PyData) (ss:List Str):d=.list l->l.length < 64->strsD l=some ss->sortedS ss=true->.list l=r->SortI d r
theorem sortD_inv {d r:PyData} (e:sortD d=some r):SortI d r:=by
 cases d with
 | list l =>
  refine iteo e λh e=>?_
  cases hs:strsD l with
  | none=>rw [hs] at e; exact nos e
  | some ss=>rw [hs] at e; exact ite_inv e λh2 e=>⟨l,ss,rfl,h,hs,h2,e⟩
 | _=>exact nos e
theorem strsD_cons {d:PyData} {ds:List PyData} {ss:List Str} {C:Prop} (e:strsD (d::ds)=some ss) (k:∀x r,d=.str x->strsD ds=some r->x::r=ss->C):C:=by
 cases d with
 | str x=>obtain ⟨r,h1,h2⟩:=Option.map_eq_some_iff.mp (show (strsD ds).map (x::·)=some ss from e); exact k x r rfl h1 h2
 | _=>exact nos e
theorem RDs.strs {h:Heap} {vs:List Value} {ds:List PyData} {as:List Addr} (r:RDs h vs ds as):∀{ss:List Str},strsD ds=some ss->StrsAre vs ss∧ds=ss.map .str∧∀x∈ss,PyData.strOk x=true :=
 RDs.ind (Q:=λvs ds _=>∀{ss:List Str},strsD ds=some ss->StrsAre vs ss∧ds=ss.map .str∧∀x∈ss,PyData.strOk x=true) (λe=>(sos e)▸⟨.nil,rfl,λ_ h=>nin h⟩)
  (λx _ ih ss e=>strsD_cons e λy r hd hr he=>by
   refine cps λ_ KK=>?_
   obtain ⟨t,hv,_,hok⟩:=RD.str_ (hd▸x)
   obtain ⟨a,b,c⟩:=ih hr
   refine KK ?_
   refine he▸hv.symm▸hd.symm▸b.symm▸?_
   exact ⟨.cons y t a,rfl,λz hz=>(List.mem_cons.mp hz).elim (λe=>e▸hok) (c z)⟩) r
theorem strs_rds {h:Heap}:∀{vs:List Value} {ss:List Str},StrsAre vs ss->(∀x∈ss,PyData.strOk x=true)->RDs h vs (ss.map .str) []
 | _,_,.nil,_=>.nil
 | _,_,.cons n t r,k=>.cons (as:=[]) (bs:=[]) (.str n t (k n (List.mem_cons_self ..))) (strs_rds r λx hx=>k x (List.mem_cons_of_mem _ hx))
section
variable {prog:Program} {w:World} {K:Addr->Option Obj} {fx:Fx} {A:Around} {mg mb:Str->Option Value}
theorem sort_ok {s:Shared} {d r:PyData} {v:Value} {as:List Addr} {P:Addr->Prop} (x:RD s.heap v d as) (e:sortD d=some r):wpAny (model prog w) A (call (.builtin "sorted") [v]) (NewD s r P) noE s:=by
 refine cps λ_ KK=>?_
 obtain ⟨l,ss,hd,h64,hss,hs,hr⟩:=sortD_inv e
 replace x:=hd▸x
 obtain ⟨a,vs,n,bs,hv,_,ho,hlen,rs⟩:=x.list_
 obtain ⟨c1,c2,c3⟩:=rs.strs hss
 refine KK ?_
 refine hv.symm▸hr▸?_
 refine sorted_strs (vs:=vs.toList) ⟨_,ho,rfl,n,rfl⟩ c1 (Array.length_toList.symm▸hlen.symm▸h64) λout ss' a1 a2 a3=>?_
 have hss:ss'=ss:=perm_unique leS_anti _ _ (sortedS_pw _ a3) (sortedS_pw _ hs) a2
 obtain ⟨e,he⟩:=sortedAll_at s.heap vs.toList out
 have rd:RDs (sortedAll s.heap vs.toList out) out.toList l []:=c2.symm▸hss▸strs_rds a1 (hss▸c3)
 have hn:∀k,s.heap.get? (s.heap.objs.size+k)=none:=λk=>Heap.get?_none_of_le (Nat.le_add_right _ _)
 exact ⟨sortedAll s.heap vs.toList out,s.toks,_,rfl,λb o hb=>sortedAll_old hb,.list he rfl rfl rfl rfl rd,all1 (.inl (hn 1)),λb hb=>sos hb▸⟨hn 1,List.not_mem_nil⟩⟩
theorem EvN.sorted (gl:Gl K mg mb) {e:Expr} {pos np:Pos} {F:EF} (he:Ev prog w K fx e F) (hk:fx.sc.names.lookup ("sorted":Str)=some .globalImplicit) (hg:mg "sorted"=none) (hb:mb "sorted"=some (.builtin "sorted"))
  (hs:∀env,starEach [e] env=[(false,eval e env)]:=by intro _; rfl) :
  EvN prog w K fx (.Call (.Name "sorted" np) [e] [] pos) (bindE F (map1 sortD)):=.mk λA ρ Z σ s d hp' Rm R q=>by
 refine Call_ (global_name gl R hk (.inr ⟨hg,hb⟩) ?_ (by decide))
 refine callWith_val (.inl ⟨_,rfl⟩) ?_ (hs _) rfl
 refine wpAny_items_cons (he.then Rm R q λa va h1 ρ_1 s_1 e1 x_1 v_1 R_1=>wpAny_items_nil ?_) (hs _)
 refine map1_inv e1 λx hx hd q'=>?_
 obtain ⟨as,ra,qa⟩:=rd_RD R_1.hr v_1 hx
 exact q'▸wpAny_mono (sort_ok (P:=λ_=>False) ra hd) (λv s_2 n=>⟨_,_,_,x_1,R_1.hr,n,λ_ h=>h.elim⟩) λ_ _ q=>q
end
end Mine
end
section
open PySem PySem.Calls PySem.W PyProof.Rows
namespace Mine
noncomputable def purF (G:FnF):FnF:=λps hp=>match dats ps with
 | some _=>match G ps [] with
  | some (.dat d,[])=>some (.dat d,hp)
  | _=>none
 | none=>none
section
variable {prog:Program} {w:World} {K:Addr->Option Obj} {mg mb:Str->Option Value}
theorem VRs.pure {ρ:Rho} {Z:List Addr} {h:Heap} {ps:List PV}:∀{vs:List Value} {ds:List PyData},dats ps=some ds->VRs ρ Z h ps vs->VRs [] (muts ρ++Z) h ps vs:=by
 induction ps with
 | nil=>intro vs ds _ V; rw [V.unnil]; exact .nil
 | cons p ps ih =>
  intro vs ds e V
  refine cps λ_ KK=>?_
  obtain ⟨v,r,hv,hp,V2⟩:=V.uncons
  refine KK ?_
  refine hv.symm▸?_
  cases p with
  | dat d =>
   refine (Option.map_eq_some_iff.mp (show (dats ps).map (d::·)=some ds from e)).elim λds' h1=>?_
   exact .cons (hp.elim λas q=>⟨as,q.1,λa ha=>⟨List.not_mem_nil,λm=>(List.mem_append.mp m).elim (q.2 a ha).1 (q.2 a ha).2⟩⟩) (ih h1.1 V2)
  | obj i=>exact nos e
  | strm i=>exact nos e
theorem purF_inv {G:FnF} {ps:List PV} {hp hp':List MO} {pv:PV} {C:Prop} (q:purF G ps hp=some (pv,hp')) (k:∀ds d,dats ps=some ds->G ps []=some (.dat d,[])->pv=.dat d->hp'=hp->C):C:=by
 unfold purF at q
 cases h1:dats ps with
 | none=>rw [h1] at q; exact nos q
 | some ds =>
  rw [h1] at q
  cases h2:G ps [] with
  | none=>rw [h2] at q; exact nos q
  | some x =>
   rw [h2] at q
   cases x with
   | mk u l=>cases u with
    | dat d=>cases l with
     | nil=>exact k ds d h1 h2 (sop q).1.symm (sop q).2.symm
     | cons _ _=>exact nos q
    | obj i=>exact nos q
    | strm i=>exact nos q
theorem FnC.pure {a:Addr} {k:Nat} {G:FnF} (h:FnC prog w K a k G):FnC prog w K a k (purF G):=.mk λA ρ Z hp s ps vs pv hp' Rm H top off V q=>purF_inv q λds d hds hG e1 e2=>by
 have H0:HR [] (muts ρ++Z) [] s.heap:=⟨rfl,List.nodup_nil,(λb hb=>nin hb),λa ha=>(List.mem_append.mp ha).elim (H.live a) (H.liveZ a),λi mo e=>nos e⟩
 refine codeAny_mono (h.run A [] (muts ρ++Z) [] s ps vs _ _ Rm H0 top (λa ha=>⟨List.not_mem_nil,λm=>(List.mem_append.mp m).elim (off a ha).1 (off a ha).2⟩) (VRs.pure hds V) hG) λr s' p=>p.elim λv e p=>?_
 refine cps λ_ KK=>?_
 obtain ⟨ρ',x,⟨as,rv,qv⟩,H'⟩:=p
 refine KK ?_
 refine e.symm▸e1.symm▸e2.symm▸?_
 have k:∀b o,s.heap.get? b=some o->s'.heap.get? b=some o:=λb o e=>x.heap b o List.not_mem_nil List.not_mem_nil e
 exact ⟨ρ,⟨⟨[],(List.append_nil _).symm,λ_ h=>nin h⟩,λb o _ _ e=>k b o e,x.live,x.drawn,x.os,x.gens,x.bare⟩,⟨as,rv,λa ha=>⟨λm=>(qv a ha).2 (List.mem_append_left _ m),λm=>(qv a ha).2 (List.mem_append_right _ m)⟩⟩,H.keep k⟩
theorem FnAt.okF (gl:Gl K mg mb) {a:Addr} {st:Stmt} (F:FnAt K a st) {names:List Str} {vars:List (Nat×Str)} {k N:Nat} {B:XF} (keep:Bool) (hbind:∀q pm c doc (vs:List Value),vs.length=names.length->bindArgs (fdOf st q pm c doc) ⟨vs,[]⟩=pure (names.zip vs))
  (chk:fnChk (Stmt.scopeOf st) names vars=true) (hb:∀q pm c doc L,ExsFin prog w K (ffx (fdOf st q pm c doc) a vars k L) (Stmt.bodyOf st) B):FnC prog w K a (k+1) (fnF names.length N keep B):=by
 refine cps λ_ KK=>?_
 obtain ⟨o,q,pm,c,doc,h1,h2,h3,h4⟩:=F
 refine KK ?_
 exact FnC.of_bodyF keep gl h1 h3 rfl h4 (hbind q pm (.ref c) doc) rfl rfl rfl chk (hb q pm (.ref c) doc)
theorem FnAt.ok (gl:Gl K mg mb) {a:Addr} {st:Stmt} (F:FnAt K a st) {names:List Str} {vars:List (Nat×Str)} {k N:Nat} {B:XF} (keep:Bool) (hbind:∀q pm c doc (vs:List Value),vs.length=names.length->bindArgs (fdOf st q pm c doc) ⟨vs,[]⟩=pure (names.zip vs))
  (chk:fnChk (Stmt.scopeOf st) names vars=true) (hb:∀q pm c doc L,Exs prog w K (ffx (fdOf st q pm c doc) a vars k L) (Stmt.bodyOf st) B):FnC prog w K a (k+1) (fnF names.length N keep B) :=
 F.okF gl keep hbind chk λq pm c doc L=>(hb q pm c doc L).fin
theorem Ev.callAt {fx:Fx} (gl:Gl K mg mb) {f:Str} {a:Addr} {st:Stmt} (F:FnAt K a st) {e:Expr} {es:List Expr} {pos np:Pos} {G:LF} {H:FnF} {k:Nat} (he:EvL prog w K fx (e::es) G) (hf:FnC prog w K a k H) (hK:k≤fx.k)
  (hk:fx.sc.names.lookup f=some .globalImplicit) (hg:mg f=some (.ref a)) (hd:(f==("__debug__":Str))=false:=by decide)
  (hs:∀env,starEach (e::es) env=(false,eval e env)::starEach es env:=by intro _; rfl) (hp:∀env,(backTo pos (starEach es env)).any (·.1)=false:=by intro _; rfl) :
  Ev prog w K fx (.Call (.Name f np) (e::es) [] pos) (callF G H):=by
 refine cps λ_ KK=>?_
 obtain ⟨o,q,pm,c,doc,h1,h2,h3,h4⟩:=F
 refine KK ?_
 exact Ev.call gl he hf.ok hK h1 h3 hk hg hd hs hp
theorem Ev.methAt {fx:Fx} {C:Addr} {mN:Str->Option Value} (cl:ClsOK K C mN) {name:Str} {f:Addr} {st:Stmt} (F:FnAt K f st) {y:Option Value} {o e:Expr} {es:List Expr} {apos pos:Pos} {Fo:EF} {G:LF} {H:FnF} {k:Nat} (hf:mN name=some (.ref f))
  (hB:typeLookup (.type "object") name=pure y) (ho:Ev prog w K fx o Fo) (he:EvL prog w K fx (e::es) G) (hH:FnC prog w K f k H) (hK:k≤fx.k) (mc:MC fx.env o name apos (e::es) pos)
  (hs:∀env,starEach (e::es) env=(false,eval e env)::starEach es env:=by intro _; rfl) :
  Ev prog w K fx (.Call (.Attribute o name apos) (e::es) [] pos) (methF Fo C name G H):=by
 refine cps λ_ KK=>?_
 obtain ⟨ob,q,pm,c,doc,h1,h2,h3,h4⟩:=F
 refine KK ?_
 exact Ev.meth cl hf h1 h2 h3 hB ho he hH.ok hK mc hs
theorem Ev.meth0At {fx:Fx} {C:Addr} {mN:Str->Option Value} (cl:ClsOK K C mN) {name:Str} {f:Addr} {st:Stmt} (F:FnAt K f st) {y:Option Value} {o:Expr} {apos pos:Pos} {Fo:EF} {H:FnF} {k:Nat} (hf:mN name=some (.ref f))
  (hB:typeLookup (.type "object") name=pure y) (ho:Ev prog w K fx o Fo) (hH:FnC prog w K f k H) (hK:k≤fx.k) (mc:MC fx.env o name apos [] pos) :
  Ev prog w K fx (.Call (.Attribute o name apos) [] [] pos) (meth0F Fo C name H):=by
 refine cps λ_ KK=>?_
 obtain ⟨ob,q,pm,c,doc,h1,h2,h3,h4⟩:=F
 refine KK ?_
 exact Ev.meth0 cl hf h1 h2 h3 hB ho hH.ok hK mc
theorem Ev.newAt {fx:Fx} (gl:Gl K mg mb) {C:Addr} {mN:Str->Option Value} (cl:ClsOK K C mN) {cn:Str} {f:Addr} {st:Stmt} (F:FnAt K f st) {e:Expr} {es:List Expr} {pos np:Pos} {G:LF} {H:FnF} {k:Nat} (hi:mN "__init__"=some (.ref f))
  (he:EvL prog w K fx (e::es) G) (hH:FnC prog w K f k H) (hK:k+1≤fx.k) (hk:fx.sc.names.lookup cn=some .globalImplicit) (hg:mg cn=some (.ref C)) (hd:(cn==("__debug__":Str))=false:=by decide)
  (hs:∀env,starEach (e::es) env=(false,eval e env)::starEach es env:=by intro _; rfl) (hp:∀env,(backTo pos (starEach es env)).any (·.1)=false:=by intro _; rfl) :
  Ev prog w K fx (.Call (.Name cn np) (e::es) [] pos) (newF C G H):=by
 refine cps λ_ KK=>?_
 obtain ⟨ob,q,pm,c,doc,h1,h2,h3,h4⟩:=F
 refine KK ?_
 exact Ev.new gl cl hi h1 h2 he hH.ok hK hk hg hd hs hp
theorem Ev.iterCitAt {fx:Fx} (gl:Gl K mg mb) {C:Addr} {mN:Str->Option Value} (cl:ClsOK K C mN) {name:Str} {f:Addr} {st:Stmt} (F:FnAt K f st) {y:Option Value} {x:Str} {inp np ap cp pos:Pos} {kk:Nat} {Fo:EF} (hf:mN name=some (.ref f))
  (hB:typeLookup (.type "object") name=pure y) (hcop:(["__module__","__name__","__qualname__","__doc__","__annotations__"]:List Str).contains name=false) (ho:Ev prog w K fx (.Name x np) Fo)
  (hk:fx.sc.names.lookup ("iter":Str)=some .globalImplicit) (hg:mg "iter"=none) (hb:mb "iter"=some (.builtin "iter")) :
  Ev prog w K fx (.Call (.Name "iter" inp) [.Attribute (.Name x np) name ap,.Constant (.str "") kk cp] [] pos) (iterF Fo C f name):=by
 refine cps λ_ KK=>?_
 obtain ⟨ob,q,pm,c,doc,h1,h2,h3,h4⟩:=F
 refine KK ?_
 exact Ev.iterCit gl cl hf h1 h2 hB hcop ho hk hg hb
theorem EvI.citAt {fx:Fx} {e tg:Expr} {F:EF} (ht:TgOK tg) (he:Ev prog w K fx e F) {kk:Nat} {f_0:Addr} {st:Stmt} (Fa:FnAt K f_0 st) {H_0:FnF} (hH:FnC prog w K f_0 kk H_0) (hK:kk+1≤fx.k) (fuel:List MO->Nat) :
  EvI prog w K fx e tg (stepC f_0 H_0) (citSrc fuel F):=by
 refine cps λ_ KK=>?_
 obtain ⟨ob,q,pm,c,doc,h1,h2,h3,h4⟩:=Fa
 refine KK ?_
 exact EvI.cit ht he h1 h3 hH hK fuel
end
section
variable {prog:Program} {w:World} {K:Addr->Option Obj} {fx:Fx} {mg mb:Str->Option Value}
theorem Ev.clsStr (gl:Gl K mg mb) {Kf:Frag} {mc:Value} {C:Addr} {cn attr y:Str} {t:Tok} {np pos:Pos} {l:List Nat} (hX:∀h,TopOK K h->Kf.In h) (hr:readsIn Kf C mc=true) (e:findCls Kf (.ref C) mc attr=some (.val (.str y t))) (hy:y=⟨⟨l⟩⟩) (ho:PyData.strOk y=true)
  (hk:fx.sc.names.lookup cn=some .globalImplicit) (hg:mg cn=some (.ref C)) (hd:(cn==("__debug__":Str))=false:=by decide) :
  Ev prog w K fx (.Attribute (.Name cn np) attr pos) (λσ=>some (.dat (.str ⟨⟨l⟩⟩),σ.hp)):=.mk λA ρ Z σ s pv hp' _ R q=>by
 cases q
 subst hy
 refine Attribute_name (global_name gl R hk (.inl hg) (cls_value (hX _ R.top) hr e rfl ?_) hd)
 exact Post.of_toks R.hr ⟨[],.str _ _ ho,λ_ h=>nin h⟩
theorem EvI.genAt (gl:Gl K mg mb) {f:Str} {a:Addr} {st:Stmt} {P:Nat->Pos} {k:Nat} {e:Expr} {es:List Expr} {pos np:Pos} {F:LF} (Fa:FnAt K a st) (hb:Stmt.bodyOf st=genBody P)
  (hbind:∀q pm c doc v,bindArgs (fdOf st q pm c doc) ⟨[v],[]⟩=pure [(("addr":Str),v)]) (hgen:(Stmt.scopeOf st).isGenerator=true) (hco:(Stmt.scopeOf st).isCoroutine=false) (hkind:(Stmt.scopeOf st).kind=.function)
  (hnc:(Stmt.scopeOf st).names.all (λx=>x.2 != .cell)=true) (h1:(Stmt.scopeOf st).names.lookup ("addr":Str)=some .local) (h2:(Stmt.scopeOf st).names.lookup ("pos":Str)=some .local) (h3:(Stmt.scopeOf st).names.lookup ("escape":Str)=some .local) (h4:(Stmt.scopeOf st).names.lookup ("ch":Str)=some .local)
  (h5:(Stmt.scopeOf st).names.lookup ("enumerate":Str)=some .globalImplicit) (h6:mg "enumerate"=none) (h7:mb "enumerate"=some (.type "enumerate")) (hk1:1≤k)
  (he:EvL prog w K fx (e::es) F) {tg:Expr} (ht:TgOK tg) (hK:k+1≤fx.k)
  (hk:fx.sc.names.lookup f=some .globalImplicit) (hg:mg f=some (.ref a)) (hd:(f==("__debug__":Str))=false:=by decide)
  (hs:∀env,starEach (e::es) env=(false,eval e env)::starEach es env:=by intro _; rfl) (hp:∀env,(backTo pos (starEach es env)).any (·.1)=false:=by intro _; rfl) :
  EvI prog w K fx (.Call (.Name f np) (e::es) [] pos) tg stepI (escF F):=by
 refine cps λ_ KK=>?_
 obtain ⟨o,q,pm,c,doc,a1,a2,a3,a4⟩:=Fa
 refine KK ?_
 refine EvI.gen (o:=o) (fd:=fdOf st q pm (.ref c) doc) (P:=P) gl ⟨a1,a3,by show FuncBody.stmts (Stmt.bodyOf st)=_; rw [hb],a4,hbind q pm (.ref c) doc,rfl,rfl,rfl,hgen,hco,hkind,λx hx=>?_,h1,h2,h3,h4,h5,h6,h7,hk1⟩ he ht hK hk hg hd hs hp
 have:=List.all_eq_true.mp hnc x hx
 simpa using this
theorem all_async {gens:List Comprehension} (h:gens.all (λg=>g.is_async==0)=true):∀g'∈gens,g'.is_async=0:=λg hg=>by simpa using List.all_eq_true.mp h g hg
end
theorem vs1 {f:FuncData} {a:Str} (k:∀v,bindArgs f ⟨[v],[]⟩=pure [(a,v)]) (vs:List Value) (h:vs.length=[a].length):bindArgs f ⟨vs,[]⟩=pure ([a].zip vs):=(List.length_eq_one_iff.mp h).elim λv e=>e▸k v
theorem vs2 {f:FuncData} {a b:Str} (k:∀v w,bindArgs f ⟨[v,w],[]⟩=pure [(a,v),(b,w)]) (vs:List Value) (h:vs.length=[a,b].length):bindArgs f ⟨vs,[]⟩=pure ([a,b].zip vs):=(List.exists_cons_of_length_eq_add_one h).elim λv q=>q.elim λt e=>(List.length_eq_one_iff.mp (Nat.succ.inj ((congrArg List.length e).symm.trans h))).elim λw e'=>e▸e'▸k v w
theorem tlk {n:Str} (h:fastLookup "object" n=some none:=by kernel_rfl):typeLookup (.type "object") n=pure none:=by
 rw [typeLookup_type,builtinLookup_eq_fast,h]
theorem obj_an:∀j,j≤9->typeLookup (.type "object") (an j)=pure none:=le9 tlk tlk tlk tlk tlk tlk tlk tlk tlk tlk
noncomputable def fuelL (hp:List MO):Nat:=(hp.map λm=>match m with
 | .lst l=>l.length
 | _=>0).sum+2
noncomputable def posG:Nat->Pos:=λi=>([⟨10,11,10,17⟩,⟨11,19,11,22⟩,⟨11,24,11,28⟩,⟨11,31,11,33⟩,⟨11,24,11,33⟩,⟨11,18,11,34⟩,⟨11,12,11,34⟩,⟨11,12,11,34⟩,⟨12,12,12,18⟩,⟨12,21,12,26⟩,⟨12,12,12,26⟩,⟨13,13,13,15⟩,⟨13,19,13,23⟩,⟨13,13,13,23⟩,⟨14,12,14,18⟩,⟨14,21,14,25⟩,⟨14,12,14,25⟩,⟨16,19,16,22⟩,⟨16,24,16,26⟩,⟨16,18,16,27⟩,⟨16,12,16,27⟩,⟨16,12,16,27⟩,⟨13,8,16,27⟩,⟨10,8,16,27⟩,⟨9,8,9,11⟩,⟨9,13,9,15⟩,⟨9,8,9,15⟩,⟨9,19,9,28⟩,⟨9,29,9,33⟩,⟨9,19,9,34⟩,⟨9,4,16,27⟩,⟨17,7,17,13⟩,⟨18,15,18,18⟩,⟨18,20,18,24⟩,⟨18,14,18,25⟩,⟨18,8,18,25⟩,⟨18,8,18,25⟩,⟨17,4,18,25⟩,⟨7,4,7,7⟩,⟨7,10,7,11⟩,⟨7,4,7,11⟩,⟨8,4,8,10⟩,⟨8,13,8,18⟩,⟨8,4,8,18⟩]:List Pos)[i]?.getD ⟨0,0,0,0⟩
abbrev TXs (s:Stmt) (a:Addr) (vs:List (Nat×Str)) (k:Nat):={ B:XF//∀{prog:Program} {w:World} {K:Addr->Option Obj} {mg mb:Str->Option Value},Tab K mg mb->∀q pm c doc L,Exs prog w K (ffx (fdOf s q pm c doc) a vs k L) (Stmt.bodyOf s) B }
theorem nm {prog:Program} {w:World} {K:Addr->Option Obj} {fx:Fx} (i:Nat) {x:Str} {pos:Pos} (hv:fx.vars.lookup i=some x:=by rfl) (hd:(x==("__debug__":Str))=false:=by decide) (hd':(x==("__classdict__":Str))=false:=by decide):Ev prog w K fx (.Name x pos) (nameF i):=.name hv hd hd'
theorem sv {prog:Program} {w:World} {K:Addr->Option Obj} {fx:Fx} (l:List Nat) {x k pos} (hl:x=⟨⟨l⟩⟩:=by kernel_rfl) (ho:PyData.strOk x=true:=by kernel_rfl):Ev prog w K fx (.Constant (.str x) k pos) (λσ=>some (.dat (.str ⟨⟨l⟩⟩),σ.hp)):=.str hl ho
theorem mcp {env:Env} {o:Expr} {name:Str} {apos pos:Pos} {args:List Expr} (h:(apos.endLine==pos.line)=true:=by kernel_rfl) (hf:methodCallForm (args.length+0) (backTo pos (starEach args env)) []=true:=by kernel_rfl) (hb:attributeBase o name env (eval o env)=eval o env:=by kernel_rfl):MC env o name apos args pos:=.of_pos h hf hb
theorem nb {a b:Nat} (h:Nat.ble a b=true:=by rfl):a≤b:=Nat.le_of_ble_eq_true h
noncomputable def X_strip_quoted_realnames:TXs (stT 4) 52 [(0,("addr":Str)),(1,("start":Str)),(2,("open_pos":Str)),(3,("result":Str)),(4,("pos":Str)),(5,("ch":Str))] 3:=⟨_,λT q pm c doc L =>
 (Exs.cons (Ex.if_ (Tr.cmp (sv [34]) (nm 0) (hk:=nb))
 (Exs.cons (Ex.ret (nm 0)) Exs.nil) Exs.nil)
 (Exs.cons (Ex.assign (i:=1) rfl (.inl (by kernel_rfl)) Ev.int (by kernel_rfl))
 (Exs.cons (Ex.assign (i:=2) rfl (.inl (by kernel_rfl)) Ev.none_ (by kernel_rfl))
 (Exs.cons (Ex.assign (i:=3) rfl (.inl (by kernel_rfl)) (EvN.list .nil).trk (by kernel_rfl))
 (Exs.cons (Ex.for_ (EvI.genAt T.gl (P:=posG) (k:=1) T.f_iter_escaped_chars rfl (λ_ _ _ _ _=>rfl) rfl rfl rfl (by kernel_rfl) (by kernel_rfl) (by kernel_rfl) (by kernel_rfl) (by kernel_rfl) (by kernel_rfl) T.n_enumerate T.b_enumerate nb (EvL.cons (nm 0) EvL.nil) (.inr ⟨_,_,_,rfl⟩) nb (by kernel_rfl) T.g_iter_escaped_chars) (As.tup2 (i:=4) (j:=5) rfl (.inl (by kernel_rfl)) rfl (.inl (by kernel_rfl)))
 (Exs.cons (Ex.if_ (Tr.cmp (nm 5) (sv [34]) (hk:=nb))
 (Exs.cons (Ex.if_ (Tr.cmp (nm 2) Ev.none_ (hk:=nb))
 (Exs.cons (Ex.assign (i:=2) rfl (.inl (by kernel_rfl)) (nm 4) (by kernel_rfl)) Exs.nil)
 (Exs.cons (Ex.if_ (Tr.cmp (nm 1) (nm 2) (hk:=nb))
 (Exs.cons (Ex.expr (Ev.append (nm 3) (EvN.slice (nm 0) (EvP.some_ (nm 1)) (EvP.some_ (nm 2)) EvP.none_).dat mcp) (by kernel_rfl) (by kernel_rfl)) Exs.nil) Exs.nil)
 (Exs.cons (Ex.assign (i:=1) rfl (.inl (by kernel_rfl)) (EvN.bin (nm 4) Ev.int).dat (by kernel_rfl))
 (Exs.cons (Ex.assign (i:=2) rfl (.inl (by kernel_rfl)) Ev.none_ (by kernel_rfl)) Exs.nil)))) Exs.nil) Exs.nil) Exs.nil))
 (Exs.cons (Ex.if_ (Tr.cmp (nm 1) (EvN.call1 T.gl .len (nm 0) (by kernel_rfl) T.n_len T.b_len).dat (hk:=nb))
 (Exs.cons (Ex.expr (Ev.append (nm 3) (EvN.slice (nm 0) (EvP.some_ (nm 1)) EvP.none_ EvP.none_).dat mcp) (by kernel_rfl) (by kernel_rfl)) Exs.nil) Exs.nil)
 (Exs.cons (Ex.ret (EvN.meth1 .join (sv []) (nm 3) mcp).dat) Exs.nil)))))))⟩
noncomputable def F_strip_quoted_realnames:FnF:=purF (fnF 1 5 false X_strip_quoted_realnames.1)
theorem ok_strip_quoted_realnames {prog:Program} {w:World} {K:Addr->Option Obj} {mg mb:Str->Option Value} (T:Tab K mg mb):FnC prog w K 52 4 F_strip_quoted_realnames :=
 FnC.pure (T.f_strip_quoted_realnames.ok T.gl (names:=[("addr":Str)]) false (λq pm c doc vs h=>vs1 (λ_=>by kernel_rfl) vs h) (by kernel_rfl) (X_strip_quoted_realnames.2 T))
noncomputable def X_check_parenthesis:TXs (stT 5) 59 [(0,("addr":Str)),(1,("opens":Str)),(2,("pos":Str)),(3,("ch":Str))] 5:=⟨_,λT q pm c doc L =>
 (Exs.cons (Ex.assign (i:=0) rfl (.inl (by kernel_rfl)) (Ev.callAt T.gl T.f_strip_quoted_realnames (EvL.cons (nm 0) EvL.nil) (ok_strip_quoted_realnames T) nb (by kernel_rfl) T.g_strip_quoted_realnames) (by kernel_rfl))
 (Exs.cons (Ex.assign (i:=1) rfl (.inl (by kernel_rfl)) Ev.int (by kernel_rfl))
 (Exs.cons (Ex.for_ (EvI.genAt T.gl (P:=posG) (k:=1) T.f_iter_escaped_chars rfl (λ_ _ _ _ _=>rfl) rfl rfl rfl (by kernel_rfl) (by kernel_rfl) (by kernel_rfl) (by kernel_rfl) (by kernel_rfl) (by kernel_rfl) T.n_enumerate T.b_enumerate nb (EvL.cons (nm 0) EvL.nil) (.inr ⟨_,_,_,rfl⟩) nb (by kernel_rfl) T.g_iter_escaped_chars) (As.tup2 (i:=2) (j:=3) rfl (.inl (by kernel_rfl)) rfl (.inl (by kernel_rfl)))
 (Exs.cons (Ex.if_ (Tr.cmp (nm 3) (sv [40]) (hk:=nb))
 (Exs.cons (Ex.aug (i:=1) rfl (.inl (by kernel_rfl)) Ev.int) Exs.nil)
 (Exs.cons (Ex.if_ (Tr.cmp (nm 3) (sv [41]) (hk:=nb))
 (Exs.cons (Ex.aug (i:=1) rfl (.inl (by kernel_rfl)) Ev.int)
 (Exs.cons (Ex.if_ (Tr.cmp (nm 1) Ev.int (hk:=nb))
 (Exs.cons (Ex.ret Ev.bool) Exs.nil) Exs.nil) Exs.nil)) Exs.nil) Exs.nil)) Exs.nil))
 (Exs.cons (Ex.ret (EvN.cmp (nm 1) Ev.int (hk:=nb)).dat) Exs.nil))))⟩
noncomputable def F_check_parenthesis:FnF:=purF (fnF 1 3 false X_check_parenthesis.1)
theorem ok_check_parenthesis {prog:Program} {w:World} {K:Addr->Option Obj} {mg mb:Str->Option Value} (T:Tab K mg mb):FnC prog w K 59 6 F_check_parenthesis :=
 FnC.pure (T.f_check_parenthesis.ok T.gl (names:=[("addr":Str)]) false (λq pm c doc vs h=>vs1 (λ_=>by kernel_rfl) vs h) (by kernel_rfl) (X_check_parenthesis.2 T))
noncomputable def X_quotedata:TXs (stT 12) 118 [(0,("data":Str))] 2:=⟨_,λT q pm c doc L =>
 (Exs.cons (Ex.ret (EvN.reSub T.gl sub1_ok T.p_re1 (by kernel_rfl) T.g_re1 (sv [46,46]) (EvN.reSub T.gl sub2_ok T.p_re2 (by kernel_rfl) T.g_re2 (Ev.globStr T.gl (l:=[13,10]) (by kernel_rfl) T.g_CRLF (by kernel_rfl) (by kernel_rfl)) (nm 0) mcp).dat mcp).dat) Exs.nil)⟩
noncomputable def F_quotedata:FnF:=purF (fnF 1 0 false X_quotedata.1)
theorem ok_quotedata {prog:Program} {w:World} {K:Addr->Option Obj} {mg mb:Str->Option Value} (T:Tab K mg mb):FnC prog w K 118 3 F_quotedata :=
 FnC.pure (T.f_quotedata.ok T.gl (names:=[("data":Str)]) false (λq pm c doc vs h=>vs1 (λ_=>by kernel_rfl) vs h) (by kernel_rfl) (X_quotedata.2 T))
noncomputable def X_law_match:TXs (stT 17) 198 [(0,("number":Str)),(1,("things":Str)),(2,("marks":Str)),(3,("lone":Str))] 1:=⟨_,λT q pm c doc L =>
 (Exs.cons (Ex.assign (i:=1) rfl (.inl (by kernel_rfl)) (EvN.list (EvL.cons (sv []) (EvL.cons (sv [92,40]) (EvL.cons (sv [92,41]) (EvL.cons (sv [92,92]) (EvL.cons (sv [34,92,34,41,34]) (EvL.cons (sv [92,34]) EvL.nil))))))).dat (by kernel_rfl))
 (Exs.cons (Ex.assign (i:=2) rfl (.inl (by kernel_rfl)) (Ev.sub (EvN.list (EvL.cons (sv [40,41]) (EvL.cons (sv [40,41,41,40]) (EvL.cons (sv [40,40,41,41]) (EvL.cons (sv [40,40,41]) (EvL.cons (sv [40,41,40,41]) (EvL.cons (sv [41,41,40,40]) EvL.nil))))))).dat (EvN.bin (nm 0) Ev.int).dat) (by kernel_rfl))
 (Exs.cons (Ex.assign (i:=3) rfl (.inl (by kernel_rfl)) (EvN.bin (sv [34]) (EvN.bin (EvN.bin (nm 0) Ev.int).dat Ev.int).dat).dat (by kernel_rfl))
 (Exs.cons (Ex.ret (EvN.bin (EvN.bin (EvN.bin (EvN.bin (Ev.sub (nm 1) (EvN.bin (EvN.bin (nm 0) Ev.int).dat Ev.int).dat) (EvN.slice (nm 2) EvP.none_ (EvP.some_ Ev.int) EvP.none_).dat).dat (Ev.sub (nm 1) (EvN.bin (EvN.bin (nm 0) Ev.int).dat Ev.int).dat)).dat (nm 3)).dat (EvN.slice (nm 2) (EvP.some_ Ev.int) EvP.none_ EvP.none_).dat).dat) Exs.nil))))⟩
noncomputable def F_law_match:FnF:=purF (fnF 1 3 false X_law_match.1)
theorem ok_law_match {prog:Program} {w:World} {K:Addr->Option Obj} {mg mb:Str->Option Value} (T:Tab K mg mb):FnC prog w K 198 2 F_law_match :=
 FnC.pure (T.f_law_match.ok T.gl (names:=[("number":Str)]) false (λq pm c doc vs h=>vs1 (λ_=>by kernel_rfl) vs h) (by kernel_rfl) (X_law_match.2 T))
noncomputable def X_L_init:TXs (stM 7 0) 73 [(0,("self":Str)),(1,("fp":Str))] 1:=⟨_,λT q pm c doc L =>
 (Exs.cons (Ex.setAttr T.cL (j:=1) (by kernel_rfl) (T.aL 1 nb) (obj_an 1 nb) (nm 0) Ev.int (by kernel_rfl))
 (Exs.cons (Ex.setAttr T.cL (j:=0) (by kernel_rfl) (T.aL 0 nb) (obj_an 0 nb) (nm 0) (nm 1) (by kernel_rfl))
 (Exs.cons (Ex.setAttr T.cL (j:=2) (by kernel_rfl) (T.aL 2 nb) (obj_an 2 nb) (nm 0) (sv [10,9,13,32]) (by kernel_rfl))
 (Exs.cons (Ex.setAttr T.cL (j:=3) (by kernel_rfl) (T.aL 3 nb) (obj_an 3 nb) (nm 0) (EvN.list .nil).trk (by kernel_rfl)) Exs.nil))))⟩
noncomputable def F_L_init:FnF:=fnF 2 0 true X_L_init.1
theorem ok_L_init {prog:Program} {w:World} {K:Addr->Option Obj} {mg mb:Str->Option Value} (T:Tab K mg mb):FnC prog w K 73 2 F_L_init :=
 T.fL_init.ok T.gl (names:=[("self":Str),("fp":Str)]) true (λq pm c doc vs h=>vs2 (λ_ _=>by kernel_rfl) vs h) (by kernel_rfl) (X_L_init.2 T)
noncomputable def X_L_read_char:TXs (stM 7 1) 80 [(0,("self":Str)),(1,("ch":Str))] 3:=⟨_,λT q pm c doc L =>
 (Exs.cons (Ex.assign (i:=1) rfl (.inl (by kernel_rfl)) (Ev.strmRead T.gl (Ev.attr T.cL (j:=0) (by kernel_rfl) (T.aL 0 nb) (obj_an 0 nb) (nm 0)) mcp nb) (by kernel_rfl))
 (Exs.cons (Ex.if_ (Tr.cmp (nm 1) (sv [10]) (hk:=nb))
 (Exs.cons (Ex.augAttr T.cL (j:=1) (by kernel_rfl) (T.aL 1 nb) (obj_an 1 nb) (nm 0) Ev.int) Exs.nil) Exs.nil)
 (Exs.cons (Ex.ret (nm 1)) Exs.nil)))⟩
noncomputable def F_L_read_char:FnF:=fnF 1 1 false X_L_read_char.1
theorem ok_L_read_char {prog:Program} {w:World} {K:Addr->Option Obj} {mg mb:Str->Option Value} (T:Tab K mg mb):FnC prog w K 80 4 F_L_read_char :=
 T.fL_read_char.ok T.gl (names:=[("self":Str)]) false (λq pm c doc vs h=>vs1 (λ_=>by kernel_rfl) vs h) (by kernel_rfl) (X_L_read_char.2 T)
noncomputable def X_L_get_token:TXs (stM 7 2) 87 [(0,("self":Str)),(1,("token":Str)),(2,("fiter":Str)),(3,("ch":Str))] 6:=⟨_,λT q pm c doc L =>
 (Exs.cons (Ex.if_ (Tr.val (Ev.attr T.cL (j:=3) (by kernel_rfl) (T.aL 3 nb) (obj_an 3 nb) (nm 0)))
 (Exs.cons (Ex.ret (Ev.pop0 (Ev.attr T.cL (j:=3) (by kernel_rfl) (T.aL 3 nb) (obj_an 3 nb) (nm 0)) mcp)) Exs.nil) Exs.nil)
 (Exs.cons (Ex.assign (i:=1) rfl (.inl (by kernel_rfl)) (sv []) (by kernel_rfl))
 (Exs.cons (Ex.assign (i:=2) rfl (.inl (by kernel_rfl)) (Ev.iterCitAt T.gl T.cL T.fL_read_char T.mL_read_char tlk (by kernel_rfl) (nm 0) (by kernel_rfl) T.n_iter T.b_iter) (by kernel_rfl))
 (Exs.cons (Ex.for_ (EvI.citAt (.inl ⟨_,_,rfl⟩) (nm 2) T.fL_read_char (ok_L_read_char T) nb fuelL) (As.name (i:=3) rfl (.inl (by kernel_rfl)))
 (Exs.cons (Ex.if_ (Tr.cmp (nm 3) (Ev.attr T.cL (j:=2) (by kernel_rfl) (T.aL 2 nb) (obj_an 2 nb) (nm 0)) (hk:=nb))
 (Exs.cons
 Ex.cont Exs.nil) Exs.nil)
 (Exs.cons (Ex.if_ (Tr.cmp (nm 3) (sv [34]) (hk:=nb))
 (Exs.cons (Ex.for_ (EvI.citAt (.inl ⟨_,_,rfl⟩) (nm 2) T.fL_read_char (ok_L_read_char T) nb fuelL) (As.name (i:=3) rfl (.inl (by kernel_rfl)))
 (Exs.cons (Ex.if_ (Tr.cmp (nm 3) (sv [34]) (hk:=nb))
 (Exs.cons (Ex.ret (nm 1)) Exs.nil)
 (Exs.cons (Ex.if_ (Tr.cmp (nm 3) (sv [92]) (hk:=nb))
 (Exs.cons (Ex.assign (i:=3) rfl (.inl (by kernel_rfl)) (Ev.meth0At T.cL T.fL_read_char T.mL_read_char tlk (nm 0) (ok_L_read_char T) nb mcp) (by kernel_rfl)) Exs.nil) Exs.nil) Exs.nil))
 (Exs.cons (Ex.aug (i:=1) rfl (.inl (by kernel_rfl)) (nm 3)) Exs.nil))) Exs.nil)
 (Exs.cons (Ex.if_ (Tr.cmp (nm 3) (sv [92]) (hk:=nb))
 (Exs.cons (Ex.assign (i:=3) rfl (.inl (by kernel_rfl)) (Ev.meth0At T.cL T.fL_read_char T.mL_read_char tlk (nm 0) (ok_L_read_char T) nb mcp) (by kernel_rfl)) Exs.nil) Exs.nil)
 (Exs.cons (Ex.aug (i:=1) rfl (.inl (by kernel_rfl)) (nm 3))
 (Exs.cons (Ex.for_ (EvI.citAt (.inl ⟨_,_,rfl⟩) (nm 2) T.fL_read_char (ok_L_read_char T) nb fuelL) (As.name (i:=3) rfl (.inl (by kernel_rfl)))
 (Exs.cons (Ex.if_ (Tr.cmp (nm 3) (Ev.attr T.cL (j:=2) (by kernel_rfl) (T.aL 2 nb) (obj_an 2 nb) (nm 0)) (hk:=nb))
 (Exs.cons (Ex.ret (nm 1)) Exs.nil)
 (Exs.cons (Ex.if_ (Tr.cmp (nm 3) (sv [92]) (hk:=nb))
 (Exs.cons (Ex.assign (i:=3) rfl (.inl (by kernel_rfl)) (Ev.meth0At T.cL T.fL_read_char T.mL_read_char tlk (nm 0) (ok_L_read_char T) nb mcp) (by kernel_rfl)) Exs.nil) Exs.nil) Exs.nil))
 (Exs.cons (Ex.aug (i:=1) rfl (.inl (by kernel_rfl)) (nm 3)) Exs.nil))) Exs.nil)))) Exs.nil)))
 (Exs.cons (Ex.ret (nm 1)) Exs.nil)))))⟩
noncomputable def F_L_get_token:FnF:=fnF 1 3 false X_L_get_token.1
theorem ok_L_get_token {prog:Program} {w:World} {K:Addr->Option Obj} {mg mb:Str->Option Value} (T:Tab K mg mb):FnC prog w K 87 7 F_L_get_token :=
 T.fL_get_token.ok T.gl (names:=[("self":Str)]) false (λq pm c doc vs h=>vs1 (λ_=>by kernel_rfl) vs h) (by kernel_rfl) (X_L_get_token.2 T)
noncomputable def X_L_push_token:TXs (stM 7 3) 94 [(0,("self":Str)),(1,("token":Str))] 1:=⟨_,λT q pm c doc L =>
 (Exs.cons (Ex.expr (Ev.append (Ev.attr T.cL (j:=3) (by kernel_rfl) (T.aL 3 nb) (obj_an 3 nb) (nm 0)) (nm 1) mcp) (by kernel_rfl) (by kernel_rfl)) Exs.nil)⟩
noncomputable def F_L_push_token:FnF:=fnF 2 0 false X_L_push_token.1
theorem ok_L_push_token {prog:Program} {w:World} {K:Addr->Option Obj} {mg mb:Str->Option Value} (T:Tab K mg mb):FnC prog w K 94 2 F_L_push_token :=
 T.fL_push_token.ok T.gl (names:=[("self":Str),("token":Str)]) false (λq pm c doc vs h=>vs2 (λ_ _=>by kernel_rfl) vs h) (by kernel_rfl) (X_L_push_token.2 T)
noncomputable def posR:Nat->Pos:=λi=>([⟨151,31,151,36⟩,⟨151,15,151,20⟩,⟨151,15,151,24⟩,⟨151,25,151,26⟩,⟨151,15,151,27⟩,⟨151,42,151,44⟩,⟨151,15,151,44⟩,⟨151,8,151,44⟩]:List Pos)[i]?.getD ⟨0,0,0,0⟩
theorem no_var {vs:List (Nat×Str)} {x:Str} (h:vs.all (λp=>p.2 != x)=true):∀i,vs.lookup i≠some x:=λi e=>by
 have:=List.all_eq_true.mp h _ (lookup_mem e)
 simp at this
noncomputable def X_law_lexer:{ B:XF//∀{prog:Program} {w:World} {K:Addr->Option Obj} {mg mb:Str->Option Value},Tab K mg mb->∀q pm doc L,ExsFin prog w K (ffx (fdOf (stT 16) q pm (.ref 190) doc) 191 [(0,("text":Str)),(1,("signs":Str)),(2,("stream":Str))] 5 L) (Stmt.bodyOf (stT 16)) B }:=⟨_,λT q pm doc L =>
 ExsFin.cons (Ex.assign (i:=1) rfl (ffx_cell (by kernel_rfl) rfl) (EvN.call1 T.gl .list (nm 0) (by kernel_rfl) T.n_list T.b_list).trk (by kernel_rfl))
 (ExsFin.stream T.gl (iS:=1) (iT:=2) (tb:=0) (P0:=186) (c0:=190) (cS:=L+1) (P:=posR) rfl rfl (no_var (by kernel_rfl)) (by kernel_rfl) (by kernel_rfl) (by kernel_rfl) (by kernel_rfl) rfl
 (by
  have h:(ffx (fdOf (stT 16) q pm (.ref 190) doc) 191 [(0,("text":Str)),(1,("signs":Str)),(2,("stream":Str))] 5 L).own=[L,L+1]:=by kernel_rfl
  rw [h]; simp) T.hC T.hB (by decide)
 (Exs.cons (Ex.ret (Ev.newAt T.gl T.cL T.fL_init T.mL_init (EvL.cons (nm 2) EvL.nil) (ok_L_init T) nb (by kernel_rfl) T.g_netrclex)) Exs.nil)
 (λ_=>by kernel_rfl) (by kernel_rfl) (by kernel_rfl) (by kernel_rfl) (by kernel_rfl))⟩
noncomputable def F_law_lexer:FnF:=fnF 1 2 true X_law_lexer.1
theorem ok_law_lexer {prog:Program} {w:World} {K:Addr->Option Obj} {mg mb:Str->Option Value} (T:Tab K mg mb):FnC prog w K 191 6 F_law_lexer:=by
 obtain ⟨o,q,pm,doc,h1,h2,h3,h4⟩:=T.fc_law_lexer
 exact FnC.of_bodyF (names:=[("text":Str)]) true T.gl h1 h3 rfl h4 (λvs h=>vs1 (λ_=>by kernel_rfl) vs h) rfl rfl rfl (by kernel_rfl) (X_law_lexer.2 T q pm doc)
noncomputable def X_W_init:TXs (stM 14 1) 135 [(0,("self":Str)),(1,("ws":Str)),(2,("S":Str)),(3,("T":Str)),(4,("count":Str)),(5,("b":Str)),(6,("n":Str)),(7,("nt":Str)),(8,("ch":Str))] 3:=⟨_,λT q pm c doc L =>
 (Exs.cons (Ex.setAttr T.cW (j:=4) (by kernel_rfl) (T.aW 4 nb) (obj_an 4 nb) (nm 0) (nm 1) (by kernel_rfl))
 (Exs.cons (Ex.tupR (ts:=[(2,("S":Str),_),(3,("T":Str),_)]) (λ_=>⟨rfl,(.inl (by kernel_rfl)),⟨rfl,(.inl (by kernel_rfl)),True.intro⟩⟩) (EvL.cons (Ev.clsStr T.gl (l:=[32]) T.cX T.cR T.c_S (by kernel_rfl) (by kernel_rfl) (by kernel_rfl) T.g_Whitespace) (EvL.cons (Ev.clsStr T.gl (l:=[9]) T.cX T.cR T.c_T (by kernel_rfl) (by kernel_rfl) (by kernel_rfl) T.g_Whitespace) EvL.nil)) (by kernel_rfl) (by kernel_rfl))
 (Exs.cons (Ex.assign (i:=4) rfl (.inl (by kernel_rfl)) (EvN.list .nil).trk (by kernel_rfl))
 (Exs.cons (Ex.chain3 (i:=5) (j:=6) (k:=7) rfl (.inl (by kernel_rfl)) rfl (.inl (by kernel_rfl)) rfl (.inl (by kernel_rfl)) Ev.int)
 (Exs.cons (Ex.for_ (EvI.seq (.inl ⟨_,_,rfl⟩) (Ev.attr T.cW (j:=4) (by kernel_rfl) (T.aW 4 nb) (obj_an 4 nb) (nm 0))) (As.name (i:=8) rfl (.inl (by kernel_rfl)))
 (Exs.cons (Ex.if_ (Tr.cmp (nm 8) (nm 2) (hk:=nb))
 (Exs.cons (Ex.assign (i:=6) rfl (.inl (by kernel_rfl)) (EvN.bin (nm 6) Ev.int).dat (by kernel_rfl))
 (Exs.cons (Ex.assign (i:=5) rfl (.inl (by kernel_rfl)) (EvN.bin (nm 5) Ev.int).dat (by kernel_rfl)) Exs.nil))
 (Exs.cons (Ex.if_ (Tr.cmp (nm 8) (nm 3) (hk:=nb))
 (Exs.cons (Ex.assign (i:=6) rfl (.inl (by kernel_rfl)) (EvN.bin (nm 6) Ev.int).dat (by kernel_rfl))
 (Exs.cons (Ex.assign (i:=7) rfl (.inl (by kernel_rfl)) (EvN.bin (nm 7) Ev.int).dat (by kernel_rfl))
 (Exs.cons (Ex.if_ (Tr.cmp (nm 5) (EvN.call1 T.gl .len (nm 4) (by kernel_rfl) T.n_len T.b_len).dat (hk:=nb))
 (Exs.cons (Ex.assign (i:=4) rfl (.inl (by kernel_rfl)) (EvN.bin (nm 4) (EvN.bin (EvN.list (EvL.cons Ev.int EvL.nil)).dat (EvN.bin (EvN.bin (nm 5) (EvN.call1 T.gl .len (nm 4) (by kernel_rfl) T.n_len T.b_len).dat).dat Ev.int).dat).dat).trk (by kernel_rfl)) Exs.nil) Exs.nil)
 (Exs.cons (Ex.setItem (EvN.bin (Ev.sub (nm 4) (nm 5)) Ev.int).dat (nm 4) (nm 5) (by kernel_rfl))
 (Exs.cons (Ex.assign (i:=5) rfl (.inl (by kernel_rfl)) Ev.int (by kernel_rfl)) Exs.nil)))))
 (Exs.cons
 Ex.brk Exs.nil)) Exs.nil)) Exs.nil))
 (Exs.cons (Ex.setAttr T.cW (j:=5) (by kernel_rfl) (T.aW 5 nb) (obj_an 5 nb) (nm 0) (nm 6) (by kernel_rfl))
 (Exs.cons (Ex.setAttr T.cW (j:=6) (by kernel_rfl) (T.aW 6 nb) (obj_an 6 nb) (nm 0) (nm 7) (by kernel_rfl))
 (Exs.cons (Ex.setAttr T.cW (j:=7) (by kernel_rfl) (T.aW 7 nb) (obj_an 7 nb) (nm 0) (EvN.tuple (EvL.cons (EvN.call1 T.gl .tuple (nm 4) (by kernel_rfl) T.n_tuple T.b_tuple).dat (EvL.cons (nm 5) EvL.nil))).dat (by kernel_rfl))
 (Exs.cons (Ex.setAttr T.cW (j:=8) (by kernel_rfl) (T.aW 8 nb) (obj_an 8 nb) (nm 0) (EvN.cmp (EvN.call1 T.gl .len (nm 4) (by kernel_rfl) T.n_len T.b_len).dat Ev.int (hk:=nb)).dat (by kernel_rfl)) Exs.nil)))))))))⟩
noncomputable def F_W_init:FnF:=fnF 2 7 false X_W_init.1
theorem ok_W_init {prog:Program} {w:World} {K:Addr->Option Obj} {mg mb:Str->Option Value} (T:Tab K mg mb):FnC prog w K 135 4 F_W_init :=
 T.fW_init.ok T.gl (names:=[("self":Str),("ws":Str)]) false (λq pm c doc vs h=>vs2 (λ_ _=>by kernel_rfl) vs h) (by kernel_rfl) (X_W_init.2 T)
noncomputable def X_W_indent_level:TXs (stM 14 3) 149 [(0,("self":Str)),(1,("tabsize":Str)),(2,("count":Str)),(3,("trailing":Str)),(4,("il":Str)),(5,("i":Str))] 2:=⟨_,λT q pm c doc L =>
 (Exs.cons (Ex.assignT (As.tup2 (i:=2) (j:=3) rfl (.inl (by kernel_rfl)) rfl (.inl (by kernel_rfl))) (Ev.attr T.cW (j:=7) (by kernel_rfl) (T.aW 7 nb) (obj_an 7 nb) (nm 0)) (by kernel_rfl) (by kernel_rfl))
 (Exs.cons (Ex.assign (i:=4) rfl (.inl (by kernel_rfl)) Ev.int (by kernel_rfl))
 (Exs.cons (Ex.for_ (EvI.range T.gl (.inl ⟨_,_,rfl⟩) (EvL.cons (nm 1) (EvL.cons (EvN.call1 T.gl .len (nm 2) (by kernel_rfl) T.n_len T.b_len).dat EvL.nil)) (by kernel_rfl) T.n_range T.b_range) (As.name (i:=5) rfl (.inl (by kernel_rfl)))
 (Exs.cons (Ex.assign (i:=4) rfl (.inl (by kernel_rfl)) (EvN.bin (nm 4) (EvN.bin (EvN.bin (nm 5) (nm 1)).dat (Ev.sub (nm 2) (nm 5))).dat).dat (by kernel_rfl)) Exs.nil))
 (Exs.cons (Ex.ret (EvN.bin (nm 3) (EvN.bin (nm 1) (EvN.bin (nm 4) (Ev.attr T.cW (j:=6) (by kernel_rfl) (T.aW 6 nb) (obj_an 6 nb) (nm 0))).dat).dat).dat) Exs.nil))))⟩
noncomputable def F_W_indent_level:FnF:=fnF 2 4 false X_W_indent_level.1
theorem ok_W_indent_level {prog:Program} {w:World} {K:Addr->Option Obj} {mg mb:Str->Option Value} (T:Tab K mg mb):FnC prog w K 149 3 F_W_indent_level :=
 T.fW_indent_level.ok T.gl (names:=[("self":Str),("tabsize":Str)]) false (λq pm c doc vs h=>vs2 (λ_ _=>by kernel_rfl) vs h) (by kernel_rfl) (X_W_indent_level.2 T)
set_option maxHeartbeats 4000000
noncomputable def vars_law:List (Nat×Str):=[(0,("script":Str)),(1,("begins":Str)),(2,("numbers":Str)),(3,("ends":Str)),(4,("wins":Str)),(5,("rows":Str)),(6,("number":Str)),(7,("pair":Str)),(8,("verdict":Str)),(9,("place":Str)),(10,("k":Str)),(11,("name":Str)),(12,("won":Str)),(13,("text":Str)),(14,("lexer":Str)),(15,("early":Str)),(16,("tokens":Str)),(17,("many":Str)),(18,("turn":Str)),(19,("mail":Str)),(20,("word":Str)),(21,("ways":Str)),(22,("five":Str)),(23,("lead":Str)),(24,("three":Str))]
noncomputable def subS (l:List Stmt) (i:Nat):Stmt:=l[i]?.getD (.Pass ⟨0,0,0,0⟩)
noncomputable def forB:Stmt->List Stmt
 | .For _ _ b _ _=>b
 | _=>[]
abbrev TX (s:Stmt):={ B:XF//∀{prog:Program} {w:World} {K:Addr->Option Obj} {mg mb:Str->Option Value},Tab K mg mb->∀q pm c doc L,Ex prog w K (ffx (fdOf (stT 18) q pm c doc) 203 vars_law 8 L) s B }
noncomputable def X_law_0:TX (subS (Stmt.bodyOf (stT 18)) 0):=⟨_,λT q pm c doc L=>(Ex.assign (i:=1) rfl (.inl (by kernel_rfl)) (EvN.list (EvL.cons Ev.int (EvL.cons Ev.int (EvL.cons Ev.int (EvL.cons Ev.int (EvL.cons Ev.int (EvL.cons Ev.int (EvL.cons Ev.int (EvL.cons Ev.int (EvL.cons Ev.int (EvL.cons Ev.int EvL.nil))))))))))).dat (by kernel_rfl))⟩
noncomputable def X_law_1:TX (subS (Stmt.bodyOf (stT 18)) 1):=⟨_,λT q pm c doc L=>(Ex.assignComp (i:=2) [25,26] [(25,("k":Str)),(26,("begin":Str)),(0,("script":Str))] rfl (.inl (by kernel_rfl)) (by kernel_rfl) (by kernel_rfl) (EvI.enum T.gl (nm 1) (by kernel_rfl) T.n_enumerate T.b_enumerate) (λL=>(As.tup2 (i:=25) (j:=26) rfl (.inl (by kernel_rfl)) rfl (.inl (by kernel_rfl)))) (λL=>TrAll.nil) (λL D hD hDo=>(CIn.emit rfl (EvN.bin (EvN.bin (nm 26) (EvN.call1 T.gl .sum (EvN.slice (nm 0) (EvP.some_ (nm 25)) EvP.none_ (EvP.some_ Ev.int)).dat (by kernel_rfl) T.n_sum T.b_sum).dat).dat (EvN.bin Ev.int Ev.int).dat).dat hD hDo)))⟩
noncomputable def X_law_2:TX (subS (Stmt.bodyOf (stT 18)) 2):=⟨_,λT q pm c doc L=>(Ex.assign (i:=3) rfl (.inl (by kernel_rfl)) (EvN.list (EvL.cons (sv [10]) (EvL.cons (sv [13]) (EvL.cons (sv [13,10]) (EvL.cons (sv [10]) (EvL.cons (sv [13]) EvL.nil)))))).dat (by kernel_rfl))⟩
noncomputable def X_law_3:TX (subS (Stmt.bodyOf (stT 18)) 3):=⟨_,λT q pm c doc L=>(Ex.tup (ts:=[(4,("wins":Str),_),(5,("rows":Str),_)]) (λ_=>⟨rfl,(ffx_cell (by kernel_rfl) rfl),⟨rfl,(.inl (by kernel_rfl)),True.intro⟩⟩) (EvL.cons (EvN.list .nil).trk (EvL.cons (Ev.comp [27] [(27,("end":Str))] (by kernel_rfl) (EvI.seq (.inl ⟨_,_,rfl⟩) (nm 3)) (λL=>(As.name (i:=27) rfl (.inl (by kernel_rfl)))) (λL=>TrAll.nil) (λL D hD hDo=>(CIn.emit rfl (EvN.bin (sv [46]) (nm 27)).dat hD hDo))) EvL.nil)) (by kernel_rfl) (by kernel_rfl))⟩
noncomputable def X_law_4_0:TX (subS (forB (subS (Stmt.bodyOf (stT 18)) 4)) 0):=⟨_,λT q pm c doc L=>(Ex.assign (i:=8) rfl (.inl (by kernel_rfl)) (Ev.callAt T.gl T.f_check_parenthesis (EvL.cons (Ev.callAt T.gl T.f_law_match (EvL.cons (nm 6) EvL.nil) (ok_law_match T) nb (by kernel_rfl) T.g_law_match) EvL.nil) (ok_check_parenthesis T) nb (by kernel_rfl) T.g_check_parenthesis) (by kernel_rfl))⟩
noncomputable def X_law_4_1:TX (subS (forB (subS (Stmt.bodyOf (stT 18)) 4)) 1):=⟨_,λT q pm c doc L=>(Ex.if_ (Tr.cmp (nm 8) (EvN.cmp (EvN.bin (nm 6) Ev.int).dat Ev.int (hk:=nb)).dat (hk:=nb))
 (Exs.cons (Ex.ret Ev.bool) Exs.nil) Exs.nil)⟩
noncomputable def X_law_4_2:TX (subS (forB (subS (Stmt.bodyOf (stT 18)) 4)) 2):=⟨_,λT q pm c doc L=>(Ex.expr (Ev.append (nm 4) (Ev.ife (Tr.val (nm 8)) (nm 7) (EvN.bin (Ev.sub (nm 7) Ev.int) (Ev.sub (nm 7) Ev.int)).dat) mcp) (by kernel_rfl) (by kernel_rfl))⟩
noncomputable def X_law_4_3:TX (subS (forB (subS (Stmt.bodyOf (stT 18)) 4)) 3):=⟨_,λT q pm c doc L=>(Ex.assign (i:=9) rfl (.inl (by kernel_rfl)) (EvN.meth1 .index (sv [97,98,99,100,101]) (Ev.sub (Ev.sub (nm 4) (Ev.neg rfl)) Ev.int) mcp).dat (by kernel_rfl))⟩
noncomputable def X_law_4_4:TX (subS (forB (subS (Stmt.bodyOf (stT 18)) 4)) 4):=⟨_,λT q pm c doc L=>(Ex.assign (i:=5) rfl (.inl (by kernel_rfl)) (EvN.bin (EvN.bin (EvN.slice (nm 5) EvP.none_ (EvP.some_ (nm 9)) EvP.none_).dat (EvN.list (EvL.cons (Ev.callAt T.gl T.f_quotedata (EvL.cons (Ev.sub (nm 5) (nm 9)) EvL.nil) (ok_quotedata T) nb (by kernel_rfl) T.g_quotedata) EvL.nil)).dat).dat (EvN.slice (nm 5) (EvP.some_ (EvN.bin (nm 9) Ev.int).dat) EvP.none_ EvP.none_).dat).dat (by kernel_rfl))⟩
noncomputable def X_law_4:TX (subS (Stmt.bodyOf (stT 18)) 4):=⟨_,λT q pm c doc L=>(Ex.for_ (EvI.zip2 T.gl (EvL.cons (nm 2) (EvL.cons (EvN.list (EvL.cons (sv [97,98]) (EvL.cons (sv [97,99]) (EvL.cons (sv [97,100]) (EvL.cons (sv [97,101]) (EvL.cons (sv [98,99]) (EvL.cons (sv [98,100]) (EvL.cons (sv [98,101]) (EvL.cons (sv [99,100]) (EvL.cons (sv [99,101]) (EvL.cons (sv [100,101]) EvL.nil))))))))))).dat EvL.nil)) (by kernel_rfl) T.n_zip T.b_zip) (As.tup2 (i:=6) (j:=7) rfl (.inl (by kernel_rfl)) rfl (.inl (by kernel_rfl))) (Exs.cons (X_law_4_0.2 T q pm c doc L) (Exs.cons (X_law_4_1.2 T q pm c doc L) (Exs.cons (X_law_4_2.2 T q pm c doc L) (Exs.cons (X_law_4_3.2 T q pm c doc L) (Exs.cons (X_law_4_4.2 T q pm c doc L) Exs.nil))))))⟩
noncomputable def X_law_5_0:TX (subS (forB (subS (Stmt.bodyOf (stT 18)) 5)) 0):=⟨_,λT q pm c doc L=>(Ex.assign (i:=12) rfl (.inl (by kernel_rfl)) (EvN.call1 T.gl .len (Ev.comp [28] [(28,("pair":Str)),(11,("name":Str))] (by kernel_rfl) (EvI.seq (.inl ⟨_,_,rfl⟩) (nm 4)) (λL=>(As.name (i:=28) rfl (.inl (by kernel_rfl)))) (λL=>(TrAll.one (Tr.cmp (Ev.sub (nm 28) Ev.int) (nm 11) (hk:=nb)))) (λL D hD hDo=>(CIn.emit rfl (nm 28) hD hDo))) (by kernel_rfl) T.n_len T.b_len).dat (by kernel_rfl))⟩
noncomputable def X_law_5_1:TX (subS (forB (subS (Stmt.bodyOf (stT 18)) 5)) 1):=⟨_,λT q pm c doc L=>(Ex.if_ (Tr.cmp (Ev.sub (nm 5) (nm 10)) (EvN.bin (EvN.bin (sv [46]) (EvN.bin (nm 12) Ev.int).dat).dat (Ev.ife (Tr.cmp (nm 12) Ev.int (hk:=nb)) (sv [13,10]) (Ev.sub (nm 3) (nm 10)))).dat (hk:=nb))
 (Exs.cons (Ex.ret Ev.bool) Exs.nil) Exs.nil)⟩
noncomputable def X_law_5:TX (subS (Stmt.bodyOf (stT 18)) 5):=⟨_,λT q pm c doc L=>(Ex.for_ (EvI.enum T.gl (sv [97,98,99,100,101]) (by kernel_rfl) T.n_enumerate T.b_enumerate) (As.tup2 (i:=10) (j:=11) rfl (.inl (by kernel_rfl)) rfl (ffx_cell (by kernel_rfl) rfl)) (Exs.cons (X_law_5_0.2 T q pm c doc L) (Exs.cons (X_law_5_1.2 T q pm c doc L) Exs.nil)))⟩
noncomputable def X_law_6:TX (subS (Stmt.bodyOf (stT 18)) 6):=⟨_,λT q pm c doc L=>(Ex.assign (i:=13) rfl (.inl (by kernel_rfl)) (sv []) (by kernel_rfl))⟩
noncomputable def X_law_7_0:TX (subS (forB (subS (Stmt.bodyOf (stT 18)) 7)) 0):=⟨_,λT q pm c doc L=>(Ex.assign (i:=13) rfl (.inl (by kernel_rfl)) (EvN.bin (nm 13) (Ev.sub (EvN.list (EvL.cons (EvN.bin (EvN.bin (sv [34,46]) (nm 11)).dat (sv [34])).dat (EvL.cons (EvN.bin (sv [92,46,92]) (nm 11)).dat (EvL.cons (EvN.bin (sv [46]) (nm 11)).dat EvL.nil)))).dat (EvN.bin (EvN.bin (Ev.sub (nm 2) (nm 10)) Ev.int).dat Ev.int).dat)).dat (by kernel_rfl))⟩
noncomputable def X_law_7_1:TX (subS (forB (subS (Stmt.bodyOf (stT 18)) 7)) 1):=⟨_,λT q pm c doc L=>(Ex.assign (i:=13) rfl (.inl (by kernel_rfl)) (EvN.bin (nm 13) (Ev.sub (sv [10,9,13,32]) (EvN.bin (EvN.bin (Ev.sub (nm 2) (nm 10)) Ev.int).dat Ev.int).dat)).dat (by kernel_rfl))⟩
noncomputable def X_law_7:TX (subS (Stmt.bodyOf (stT 18)) 7):=⟨_,λT q pm c doc L=>(Ex.for_ (EvI.enum T.gl (sv [97,98,99,100,101]) (by kernel_rfl) T.n_enumerate T.b_enumerate) (As.tup2 (i:=10) (j:=11) rfl (.inl (by kernel_rfl)) rfl (ffx_cell (by kernel_rfl) rfl)) (Exs.cons (X_law_7_0.2 T q pm c doc L) (Exs.cons (X_law_7_1.2 T q pm c doc L) Exs.nil)))⟩
noncomputable def X_law_8:TX (subS (Stmt.bodyOf (stT 18)) 8):=⟨_,λT q pm c doc L=>(Ex.assign (i:=13) rfl (.inl (by kernel_rfl)) (EvN.slice (nm 13) EvP.none_ (EvP.some_ (Ev.neg rfl)) EvP.none_).dat (by kernel_rfl))⟩
noncomputable def X_law_9:TX (subS (Stmt.bodyOf (stT 18)) 9):=⟨_,λT q pm c doc L=>(Ex.assign (i:=14) rfl (ffx_cell (by kernel_rfl) rfl) (Ev.callAt T.gl T.f_law_lexer (EvL.cons (nm 13) EvL.nil) (ok_law_lexer T) nb (by kernel_rfl) T.g_law_lexer) (by kernel_rfl))⟩
noncomputable def X_law_10:TX (subS (Stmt.bodyOf (stT 18)) 10):=⟨_,λT q pm c doc L=>(Ex.assign (i:=15) rfl (.inl (by kernel_rfl)) (Ev.meth0At T.cL T.fL_get_token T.mL_get_token tlk (nm 14) (ok_L_get_token T) nb mcp) (by kernel_rfl))⟩
noncomputable def X_law_11:TX (subS (Stmt.bodyOf (stT 18)) 11):=⟨_,λT q pm c doc L=>(Ex.expr (Ev.methAt T.cL T.fL_push_token T.mL_push_token tlk (nm 14) (EvL.cons (nm 15) EvL.nil) (ok_L_push_token T) nb mcp) (by kernel_rfl) (by kernel_rfl))⟩
noncomputable def X_law_12:TX (subS (Stmt.bodyOf (stT 18)) 12):=⟨_,λT q pm c doc L=>(Ex.expr (Ev.methAt T.cL T.fL_push_token T.mL_push_token tlk (nm 14) (EvL.cons (nm 15) EvL.nil) (ok_L_push_token T) nb mcp) (by kernel_rfl) (by kernel_rfl))⟩
noncomputable def X_law_13:TX (subS (Stmt.bodyOf (stT 18)) 13):=⟨_,λT q pm c doc L=>(Ex.assignComp (i:=16) [29] [(29,("k":Str)),(14,("lexer":Str))] rfl (.inl (by kernel_rfl)) (by kernel_rfl) (by kernel_rfl) (EvI.range T.gl (.inl ⟨_,_,rfl⟩) (EvL.cons Ev.int EvL.nil) (by kernel_rfl) T.n_range T.b_range) (λL=>(As.name (i:=29) rfl (.inl (by kernel_rfl)))) (λL=>TrAll.nil) (λL D hD hDo=>(CIn.emit rfl (Ev.meth0At T.cL T.fL_get_token T.mL_get_token tlk (nm 14) (ok_L_get_token T) nb mcp) hD hDo)))⟩
noncomputable def X_law_14:TX (subS (Stmt.bodyOf (stT 18)) 14):=⟨_,λT q pm c doc L=>(Ex.if_ (Tr.boolop (TrA.or_cons (Tr.cmp (nm 16) (EvN.list (EvL.cons (sv [46,97]) (EvL.cons (sv [46,97]) (EvL.cons (sv [46,98]) (EvL.cons (sv [46,99]) (EvL.cons (sv [46,100]) (EvL.cons (sv [46,101]) (EvL.cons (sv []) EvL.nil)))))))).dat (hk:=nb)) (TrA.or_cons (Tr.cmp (Ev.attr T.cL (j:=1) (by kernel_rfl) (T.aL 1 nb) (obj_an 1 nb) (nm 14)) (EvN.bin Ev.int (EvN.meth1 .count (nm 13) (sv [10]) mcp).dat).dat (hk:=nb)) TrA.or_nil)))
 (Exs.cons (Ex.ret Ev.bool) Exs.nil) Exs.nil)⟩
noncomputable def X_law_15_0:TX (subS (forB (subS (Stmt.bodyOf (stT 18)) 15)) 0):=⟨_,λT q pm c doc L=>(Ex.expr (Ev.methAt T.cL T.fL_push_token T.mL_push_token tlk (nm 14) (EvL.cons (EvN.bin (sv [46]) (nm 11)).dat EvL.nil) (ok_L_push_token T) nb mcp) (by kernel_rfl) (by kernel_rfl))⟩
noncomputable def X_law_15:TX (subS (Stmt.bodyOf (stT 18)) 15):=⟨_,λT q pm c doc L=>(Ex.for_ (EvI.seq (.inl ⟨_,_,rfl⟩) (sv [97,98,99,100,101])) (As.name (i:=11) rfl (ffx_cell (by kernel_rfl) rfl)) (Exs.cons (X_law_15_0.2 T q pm c doc L) Exs.nil))⟩
noncomputable def X_law_16:TX (subS (Stmt.bodyOf (stT 18)) 16):=⟨_,λT q pm c doc L=>(Ex.assign (i:=17) rfl (.inl (by kernel_rfl)) Ev.int (by kernel_rfl))⟩
noncomputable def X_law_17_0:TX (subS (forB (subS (Stmt.bodyOf (stT 18)) 17)) 0):=⟨_,λT q pm c doc L=>(Ex.assign (i:=19) rfl (.inl (by kernel_rfl)) (EvN.bin (Ev.comp [30] [(30,("k":Str)),(14,("lexer":Str))] (by kernel_rfl) (EvI.range T.gl (.inl ⟨_,_,rfl⟩) (EvL.cons (nm 17) EvL.nil) (by kernel_rfl) T.n_range T.b_range) (λL=>(As.name (i:=30) rfl (.inl (by kernel_rfl)))) (λL=>TrAll.nil) (λL D hD hDo=>(CIn.emit rfl (Ev.meth0At T.cL T.fL_get_token T.mL_get_token tlk (nm 14) (ok_L_get_token T) nb mcp) hD hDo))) (EvN.list (EvL.cons (sv [120,46]) EvL.nil)).dat).dat (by kernel_rfl))⟩
noncomputable def X_law_17_1:TX (subS (forB (subS (Stmt.bodyOf (stT 18)) 17)) 1):=⟨_,λT q pm c doc L=>(Ex.assign (i:=19) rfl (.inl (by kernel_rfl)) (EvN.meth1 .split (Ev.callAt T.gl T.f_quotedata (EvL.cons (EvN.meth1 .join (Ev.sub (EvN.list (EvL.cons (sv [10]) (EvL.cons (sv [13]) (EvL.cons (sv [13,10]) EvL.nil)))).dat (EvN.bin (nm 18) Ev.int).dat) (nm 19) mcp).dat EvL.nil) (ok_quotedata T) nb (by kernel_rfl) T.g_quotedata) (sv [13,10]) mcp).dat (by kernel_rfl))⟩
noncomputable def X_law_17_2:TX (subS (forB (subS (Stmt.bodyOf (stT 18)) 17)) 2):=⟨_,λT q pm c doc L=>(Ex.if_ (Tr.cmp (Ev.sub (nm 19) (Ev.neg rfl)) (sv [120,46]) (hk:=nb))
 (Exs.cons (Ex.ret Ev.bool) Exs.nil) Exs.nil)⟩
noncomputable def X_law_17_3:TX (subS (forB (subS (Stmt.bodyOf (stT 18)) 17)) 3):=⟨_,λT q pm c doc L=>(Ex.assign (i:=17) rfl (.inl (by kernel_rfl)) Ev.int (by kernel_rfl))⟩
noncomputable def X_law_17_4_0_0:TX (subS (forB (subS (forB (subS (forB (subS (Stmt.bodyOf (stT 18)) 17)) 4)) 0)) 0):=⟨_,λT q pm c doc L=>(Ex.if_ (Tr.boolop (TrA.and_cons (Tr.cmp (EvN.bin (EvN.slice (nm 20) (EvP.some_ (Ev.neg rfl)) EvP.none_ EvP.none_).dat (nm 11)).dat (nm 4) (hk:=nb)) (TrA.and_cons (Tr.cmp (nm 11) (nm 20) (hk:=nb)) TrA.and_nil)))
 (Exs.cons (Ex.expr (Ev.methAt T.cL T.fL_push_token T.mL_push_token tlk (nm 14) (EvL.cons (EvN.bin (nm 20) (nm 11)).dat EvL.nil) (ok_L_push_token T) nb mcp) (by kernel_rfl) (by kernel_rfl))
 (Exs.cons (Ex.assign (i:=17) rfl (.inl (by kernel_rfl)) (EvN.bin (nm 17) Ev.int).dat (by kernel_rfl)) Exs.nil)) Exs.nil)⟩
noncomputable def X_law_17_4_0:TX (subS (forB (subS (forB (subS (Stmt.bodyOf (stT 18)) 17)) 4)) 0):=⟨_,λT q pm c doc L=>(Ex.for_ (EvI.seq (.inl ⟨_,_,rfl⟩) (sv [97,98,99,100,101])) (As.name (i:=11) rfl (ffx_cell (by kernel_rfl) rfl)) (Exs.cons (X_law_17_4_0_0.2 T q pm c doc L) Exs.nil))⟩
noncomputable def X_law_17_4:TX (subS (forB (subS (Stmt.bodyOf (stT 18)) 17)) 4):=⟨_,λT q pm c doc L=>(Ex.for_ (EvI.seq (.inl ⟨_,_,rfl⟩) (EvN.slice (nm 19) EvP.none_ (EvP.some_ (Ev.neg rfl)) EvP.none_).dat) (As.name (i:=20) rfl (.inl (by kernel_rfl))) (Exs.cons (X_law_17_4_0.2 T q pm c doc L) Exs.nil))⟩
noncomputable def X_law_17:TX (subS (Stmt.bodyOf (stT 18)) 17):=⟨_,λT q pm c doc L=>(Ex.for_ (EvI.range T.gl (.inl ⟨_,_,rfl⟩) (EvL.cons Ev.int EvL.nil) (by kernel_rfl) T.n_range T.b_range) (As.name (i:=18) rfl (.inl (by kernel_rfl))) (Exs.cons (X_law_17_0.2 T q pm c doc L) (Exs.cons (X_law_17_1.2 T q pm c doc L) (Exs.cons (X_law_17_2.2 T q pm c doc L) (Exs.cons (X_law_17_3.2 T q pm c doc L) (Exs.cons (X_law_17_4.2 T q pm c doc L) Exs.nil))))))⟩
noncomputable def X_law_18:TX (subS (Stmt.bodyOf (stT 18)) 18):=⟨_,λT q pm c doc L=>(Ex.assignComp (i:=21) [31] [(31,("k":Str)),(14,("lexer":Str))] rfl (.inl (by kernel_rfl)) (by kernel_rfl) (by kernel_rfl) (EvI.range T.gl (.inl ⟨_,_,rfl⟩) (EvL.cons (nm 17) EvL.nil) (by kernel_rfl) T.n_range T.b_range) (λL=>(As.name (i:=31) rfl (.inl (by kernel_rfl)))) (λL=>TrAll.nil) (λL D hD hDo=>(CIn.emit rfl (Ev.meth0At T.cL T.fL_get_token T.mL_get_token tlk (nm 14) (ok_L_get_token T) nb mcp) hD hDo)))⟩
noncomputable def X_law_19:TX (subS (Stmt.bodyOf (stT 18)) 19):=⟨_,λT q pm c doc L=>(Ex.if_ (Tr.boolop (TrA.or_cons (Tr.cmp (nm 21) (EvN.sorted T.gl (nm 21) (by kernel_rfl) T.n_sorted T.b_sorted).dat (hk:=nb)) (TrA.or_cons (Tr.cmp (Ev.comp [32] [(32,("way":Str))] (by kernel_rfl) (EvI.seq (.inl ⟨_,_,rfl⟩) (nm 21)) (λL=>(As.name (i:=32) rfl (.inl (by kernel_rfl)))) (λL=>TrAll.nil) (λL D hD hDo=>(CIn.emit rfl (EvN.slice (nm 32) EvP.none_ (EvP.some_ (Ev.neg rfl)) EvP.none_).dat hD hDo))) (EvN.bin (EvN.list (EvL.cons (sv [46,46,46,46,46]) EvL.nil)).dat (nm 17)).dat (hk:=nb)) TrA.or_nil)))
 (Exs.cons (Ex.ret Ev.bool) Exs.nil) Exs.nil)⟩
noncomputable def X_law_20:TX (subS (Stmt.bodyOf (stT 18)) 20):=⟨_,λT q pm c doc L=>(Ex.assign (i:=22) rfl (.inl (by kernel_rfl)) (EvN.call1 T.gl .len (Ev.comp [33,34,35,36] [(33,("b":Str)),(34,("c":Str)),(35,("d":Str)),(36,("e":Str)),(4,("wins":Str))] (by kernel_rfl) (EvI.seq (.inl ⟨_,_,rfl⟩) (sv [98,99,100,101])) (λL=>(As.name (i:=33) rfl (.inl (by kernel_rfl)))) (λL=>(TrAll.one (Tr.cmp (EvN.bin (sv [97]) (nm 33)).dat (nm 4) (hk:=nb)))) (λL D hD hDo=>(CIn.nest rfl (all_async (by kernel_rfl)) (EvI.seq (.inl ⟨_,_,rfl⟩) (sv [98,99,100,101])) (As.name (i:=34) rfl (.inl (by kernel_rfl))) (TrAll.one (Tr.cmp (EvN.bin (nm 33) (nm 34)).dat (nm 4) (hk:=nb))) (CIn.nest rfl (all_async (by kernel_rfl)) (EvI.seq (.inl ⟨_,_,rfl⟩) (sv [98,99,100,101])) (As.name (i:=35) rfl (.inl (by kernel_rfl))) (TrAll.one (Tr.cmp (EvN.bin (nm 34) (nm 35)).dat (nm 4) (hk:=nb))) (CIn.nest rfl (all_async (by kernel_rfl)) (EvI.seq (.inl ⟨_,_,rfl⟩) (sv [98,99,100,101])) (As.name (i:=36) rfl (.inl (by kernel_rfl))) (TrAll.one (Tr.boolop (TrA.and_cons (Tr.cmp (nm 33) (nm 36) (hk:=nb)) (TrA.and_cons (Tr.cmp (EvN.bin (nm 35) (nm 36)).dat (nm 4) (hk:=nb)) (TrA.and_cons (Tr.cmp (EvN.bin (nm 36) (sv [97])).dat (nm 4) (hk:=nb)) TrA.and_nil))))) (CIn.emit rfl Ev.int hD hDo) hDo) hDo) hDo))) (by kernel_rfl) T.n_len T.b_len).dat (by kernel_rfl))⟩
noncomputable def X_law_21:TX (subS (Stmt.bodyOf (stT 18)) 21):=⟨_,λT q pm c doc L=>(Ex.assign (i:=23) rfl (ffx_cell (by kernel_rfl) rfl) (Ev.newAt T.gl T.cW T.fW_init T.mW_init (EvL.cons (EvN.meth1 .join (sv []) (Ev.comp [37] [(37,("row":Str))] (by kernel_rfl) (EvI.seq (.inl ⟨_,_,rfl⟩) (nm 5)) (λL=>(As.name (i:=37) rfl (.inl (by kernel_rfl)))) (λL=>TrAll.nil) (λL D hD hDo=>(CIn.emit rfl (EvN.bin (EvN.bin (sv [32]) (EvN.bin (EvN.meth1 .count (nm 37) (sv [46]) mcp).dat Ev.int).dat).dat (sv [9])).dat hD hDo))) mcp).dat EvL.nil) (ok_W_init T) nb (by kernel_rfl) T.g_Whitespace) (by kernel_rfl))⟩
noncomputable def X_law_22:TX (subS (Stmt.bodyOf (stT 18)) 22):=⟨_,λT q pm c doc L=>(Ex.if_ (Tr.cmp (Ev.comp [38] [(38,("size":Str)),(23,("lead":Str))] (by kernel_rfl) (EvI.range T.gl (.inl ⟨_,_,rfl⟩) (EvL.cons Ev.int (EvL.cons Ev.int EvL.nil)) (by kernel_rfl) T.n_range T.b_range) (λL=>(As.name (i:=38) rfl (.inl (by kernel_rfl)))) (λL=>TrAll.nil) (λL D hD hDo=>(CIn.emit rfl (EvN.bin (Ev.methAt T.cW T.fW_indent_level T.mW_indent_level tlk (nm 23) (EvL.cons (nm 38) EvL.nil) (ok_W_indent_level T) nb mcp) (nm 38)).dat hD hDo))) (EvN.bin (EvN.list (EvL.cons Ev.int EvL.nil)).dat Ev.int).dat (hk:=nb))
 (Exs.cons (Ex.ret Ev.bool) Exs.nil) Exs.nil)⟩
noncomputable def X_law_23:TX (subS (Stmt.bodyOf (stT 18)) 23):=⟨_,λT q pm c doc L=>(Ex.assign (i:=24) rfl (.inl (by kernel_rfl)) (EvN.bin Ev.int (EvN.call1 T.gl .sum (Ev.comp [39,40] [(39,("size":Str)),(40,("part":Str)),(23,("lead":Str))] (by kernel_rfl) (EvI.seq (.inr ⟨_,_,_,rfl⟩) (EvN.list (EvL.cons (EvN.tuple (EvL.cons Ev.int (EvL.cons Ev.int EvL.nil))).dat (EvL.cons (EvN.tuple (EvL.cons Ev.int (EvL.cons Ev.int EvL.nil))).dat (EvL.cons (EvN.tuple (EvL.cons Ev.int (EvL.cons Ev.int EvL.nil))).dat (EvL.cons (EvN.tuple (EvL.cons Ev.int (EvL.cons Ev.int EvL.nil))).dat EvL.nil))))).dat) (λL=>(As.tup2 (i:=39) (j:=40) rfl (.inl (by kernel_rfl)) rfl (.inl (by kernel_rfl)))) (λL=>TrAll.nil) (λL D hD hDo=>(CIn.emit rfl (EvN.bin (nm 40) (EvN.bin (EvN.bin (Ev.methAt T.cW T.fW_indent_level T.mW_indent_level tlk (nm 23) (EvL.cons (nm 39) EvL.nil) (ok_W_indent_level T) nb mcp) (nm 39)).dat Ev.int).dat).dat hD hDo))) (by kernel_rfl) T.n_sum T.b_sum).dat).dat (by kernel_rfl))⟩
noncomputable def X_law_24:TX (subS (Stmt.bodyOf (stT 18)) 24):=⟨_,λT q pm c doc L=>(Ex.if_ (Tr.cmp (EvN.call1 T.gl .len (Ev.comp [41] [(41,("way":Str)),(4,("wins":Str))] (by kernel_rfl) (EvI.seq (.inl ⟨_,_,rfl⟩) (nm 21)) (λL=>(As.name (i:=41) rfl (.inl (by kernel_rfl)))) (λL=>(TrAll.one (Tr.cmp (EvN.bin (Ev.sub (nm 41) (Ev.neg rfl)) (Ev.sub (nm 41) Ev.int)).dat (nm 4) (hk:=nb)))) (λL D hD hDo=>(CIn.emit rfl (nm 41) hD hDo))) (by kernel_rfl) T.n_len T.b_len).dat (EvN.bin Ev.int (nm 22)).dat (hk:=nb))
 (Exs.cons (Ex.ret Ev.bool) Exs.nil) Exs.nil)⟩
noncomputable def X_law_25:TX (subS (Stmt.bodyOf (stT 18)) 25):=⟨_,λT q pm c doc L=>(Ex.ret (EvN.cmp (nm 17) (EvN.bin Ev.int (EvN.bin Ev.int (EvN.bin (nm 24) (nm 22)).dat).dat).dat (hk:=nb)).dat)⟩
noncomputable def X_law:{ B:XF//∀{prog:Program} {w:World} {K:Addr->Option Obj} {mg mb:Str->Option Value},Tab K mg mb->∀q pm c doc L,Exs prog w K (ffx (fdOf (stT 18) q pm c doc) 203 vars_law 8 L) (Stmt.bodyOf (stT 18)) B }:=⟨_,λT q pm c doc L=>(Exs.cons (X_law_0.2 T q pm c doc L) (Exs.cons (X_law_1.2 T q pm c doc L) (Exs.cons (X_law_2.2 T q pm c doc L) (Exs.cons (X_law_3.2 T q pm c doc L) (Exs.cons (X_law_4.2 T q pm c doc L) (Exs.cons (X_law_5.2 T q pm c doc L) (Exs.cons (X_law_6.2 T q pm c doc L) (Exs.cons (X_law_7.2 T q pm c doc L) (Exs.cons (X_law_8.2 T q pm c doc L) (Exs.cons (X_law_9.2 T q pm c doc L) (Exs.cons (X_law_10.2 T q pm c doc L) (Exs.cons (X_law_11.2 T q pm c doc L) (Exs.cons (X_law_12.2 T q pm c doc L) (Exs.cons (X_law_13.2 T q pm c doc L) (Exs.cons (X_law_14.2 T q pm c doc L) (Exs.cons (X_law_15.2 T q pm c doc L) (Exs.cons (X_law_16.2 T q pm c doc L) (Exs.cons (X_law_17.2 T q pm c doc L) (Exs.cons (X_law_18.2 T q pm c doc L) (Exs.cons (X_law_19.2 T q pm c doc L) (Exs.cons (X_law_20.2 T q pm c doc L) (Exs.cons (X_law_21.2 T q pm c doc L) (Exs.cons (X_law_22.2 T q pm c doc L) (Exs.cons (X_law_23.2 T q pm c doc L) (Exs.cons (X_law_24.2 T q pm c doc L) (Exs.cons (X_law_25.2 T q pm c doc L) Exs.nil))))))))))))))))))))))))))⟩
noncomputable def N_law:Nat:=41
noncomputable def F_law:FnF:=fnF 1 N_law false X_law.1
theorem ok_law {prog:Program} {w:World} {K:Addr->Option Obj} {mg mb:Str->Option Value} (T:Tab K mg mb):FnC prog w K 203 9 F_law :=
 T.f_law.ok T.gl (names:=[("script":Str)]) false (λq pm c doc vs h=>vs1 (λ_=>by kernel_rfl) vs h) (by kernel_rfl) (X_law.2 T)
end Mine
end
section
open PySem PyProof.Rows
namespace Mine
noncomputable def sC (l:List Nat):EF:=λσ=>some (.dat (.str ⟨⟨l⟩⟩),σ.hp)
noncomputable def iC (k:Int):EF:=λσ=>some (.dat (.int k),σ.hp)
noncomputable def cmpX (op:CmpOp) (a b:EF):BF:=bindE a λx=>bindE b λy=>cmpT op x y
noncomputable def binX (op:Operator) (a b:EF):NF:=bindE a λx=>bindE b λy=>map2 (binD op) x y
noncomputable def retX (F:EF):XF:=bindX F λpv σ=>some (.ret pv,σ)
noncomputable def sliceX (F:EF) (lo hi st:PF):NF:=bindE F λa=>bindP lo λl=>bindP hi λu=>bindP st λk=>sliceF l u k a
section
variable {F1 F2 F:EF} {σ:St} {hp1 hp2:List MO} {p1 p2:PV} {a b d:PyData} {op:Operator} {r:Bool} {L:Loc}
theorem bin_eq (h1:F1 ⟨L,hp1⟩=some (.dat a,hp2)) (h2:F2 ⟨L,hp2⟩=some (.dat b,hp2)) (h3:binD op a b=some d):datF (binX op F1 F2) ⟨L,hp1⟩=some (.dat d,hp2):=by
 unfold datF binX bindE
 rw [h1]
 dsimp only
 rw [h2]
 skip
 unfold map2
 dsimp only [rd]
 exact h3.symm▸rfl
theorem cmp_eq {op:CmpOp} (h1:F1 ⟨L,hp1⟩=some (p1,hp2)) (h2:F2 ⟨L,hp2⟩=some (p2,hp2)) (r1:rd hp2 p1=some a) (r2:rd hp2 p2=some b) (h3:cmpD op a b=some r):cmpX op F1 F2 ⟨L,hp1⟩=some (r,hp2):=by
 unfold cmpX bindE
 rw [h1]
 dsimp only
 rw [h2]
 dsimp only
 unfold cmpT
 dsimp only
 rw [r1,r2]
 dsimp only
 exact h3.symm▸rfl
theorem asg_eq {i:Nat} {L:Loc} {p:PV} (h:F ⟨L,hp1⟩=some (p,hp2)):bindX F (setF i) ⟨L,hp1⟩=some (.next,⟨L.set i (some p),hp2⟩):=by
 unfold bindX
 refine h.symm▸?_
 rfl
theorem name_eq {i:Nat} {L:Loc} {p:PV} (h:getV L i=some p):nameF i ⟨L,hp1⟩=some (p,hp1):=by
 unfold nameF
 exact h.symm▸rfl
theorem slice_eq {lo hi st:PF} {l u k:Option Int} {L:Loc} (h1:F ⟨L,hp1⟩=some (.dat a,hp1)) (h2:lo ⟨L,hp1⟩=some (l,hp1)) (h3:hi ⟨L,hp1⟩=some (u,hp1)) (h4:st ⟨L,hp1⟩=some (k,hp1)) (h5:sliceD l u k a=some d):datF (sliceX F lo hi st) ⟨L,hp1⟩=some (.dat d,hp1):=by
 unfold datF sliceX bindE
 rw [h1]
 skip
 unfold bindP
 dsimp only
 rw [h2]
 dsimp only
 rw [h3]
 dsimp only
 rw [h4]
 skip
 unfold sliceF
 dsimp only [rd]
 exact h5.symm▸rfl
theorem ifn_eq {C:BF} {G:XF} {L:Loc} {hp1 hp2:List MO} (h:C ⟨L,hp1⟩=some (false,hp2)):ifF C G nextF ⟨L,hp1⟩=some (.next,⟨L,hp2⟩):=by
 unfold ifF
 refine h.symm▸?_
 rfl
theorem tup2_eq {A B:EF} {L:Loc} {hp:List MO} {a b:PyData} (h1:A ⟨L,hp⟩=some (.dat a,hp)) (h2:B ⟨L,hp⟩=some (.dat b,hp)):datF (tupF (consL A (consL B nilL))) ⟨L,hp⟩=some (.dat (.tuple [a,b]),hp):=by
 unfold datF tupF consL bindE
 refine h1.symm▸?_
 dsimp only
 refine h2.symm▸?_
 rfl
theorem cons2_eq {F1 F2:EF} {L:Loc} {hp:List MO} {a b:PV} (h1:F1 ⟨L,hp⟩=some (a,hp)) (h2:F2 ⟨L,hp⟩=some (b,hp)):consL F1 (consL F2 nilL) ⟨L,hp⟩=some ([a,b],hp):=by
 unfold consL bindE
 refine h1.symm▸?_
 dsimp only
 refine h2.symm▸?_
 rfl
theorem map1_eq {F:EF} {f:PyData->Option PyData} {L:Loc} {hp1 hp2:List MO} {a d:PyData} (h1:F ⟨L,hp1⟩=some (.dat a,hp2)) (h2:f a=some d):datF (bindE F (map1 f)) ⟨L,hp1⟩=some (.dat d,hp2):=by
 unfold datF bindE
 rw [h1]
 skip
 unfold map1
 dsimp only [rd]
 exact h2.symm▸rfl
theorem item_eq {F1 F2:EF} {L:Loc} {hp:List MO} {a b d:PyData} (h1:F1 ⟨L,hp⟩=some (.dat a,hp)) (h2:F2 ⟨L,hp⟩=some (.dat b,hp)) (h3:itemD a b=some d):(bindE F1 λa=>bindE F2 λb=>itemF a b) ⟨L,hp⟩=some (.dat d,hp):=by
 unfold bindE
 rw [h1]
 dsimp only
 rw [h2]
 skip
 unfold itemF
 dsimp only [rd]
 exact h3.symm▸rfl
theorem meth1_eq {m:M1} {F1 F2:EF} {L:Loc} {hp1 hp2:List MO} {x b d:PyData} (h1:F1 ⟨L,hp1⟩=some (.dat x,hp1)) (hx:isStrD x=true) (h2:F2 ⟨L,hp1⟩=some (.dat b,hp2)) (h3:m.f x b=some d):datF (Mine.meth1 m F1 F2) ⟨L,hp1⟩=some (.dat d,hp2):=by
 unfold datF Mine.meth1 bindE
 rw [h1]
 dsimp only
 rw [if_pos hx]
 skip
 rw [h2]
 skip
 unfold map2
 dsimp only [rd]
 exact h3.symm▸rfl
theorem getV_at {i:Nat} {L:Loc} {o:Option PV} {p:PV} (h:L[i]?=some o) (h1:o=some p):getV L i=some p:=by
 unfold getV
 exact h.symm▸h1.symm▸rfl
theorem name_at {i:Nat} {L:Loc} {o:Option PV} {p:PV} (h:L[i]?=some o) (h1:o=some p):nameF i ⟨L,hp1⟩=some (p,hp1):=name_eq (getV_at h h1)
theorem ife_eq {C:BF} {F G:EF} {c:Bool} {q:Option (PV×List MO)} (h:C ⟨L,hp1⟩=some (c,hp2)) (k:(if c then F else G) ⟨L,hp2⟩=q):bindB C (λc=>if c then F else G) ⟨L,hp1⟩=q:=by
 unfold bindB
 refine h.symm▸?_
 exact k
theorem ne_str (l:List Nat):cmpD .NotEq (.str ⟨⟨l⟩⟩) (.str ⟨⟨l⟩⟩)=some false:=by
 show some (!(l==l))=_
 rw [beq_self_eq_true]; rfl
theorem add_str {x y:List Nat} (h:x.length+y.length≤lim):addD (.str ⟨⟨x⟩⟩) (.str ⟨⟨y⟩⟩)=some (.str ⟨⟨x++y⟩⟩):=if_pos h
theorem call1_eq {F:EF} {H:FnF} {p:PV} {q:Option (PV×List MO)} (h:F ⟨L,hp1⟩=some (p,hp2)) (k:H [p] hp2=q):callF (consL F nilL) H ⟨L,hp1⟩=q:=by
 unfold callF consL bindE
 refine h.symm▸?_
 exact k
theorem cmpN_eq {op:CmpOp} {x:Bool} (h1:F1 ⟨L,hp1⟩=some (.dat a,hp2)) (h2:F2 ⟨L,hp2⟩=some (.dat b,hp2)) (h3:cmpD op a b=some x):datF (bindE F1 λa=>bindE F2 λb=>map2 (λx y=>(cmpD op x y).map .bool) a b) ⟨L,hp1⟩=some (.dat (.bool x),hp2):=by
 unfold datF bindE
 refine h1.symm▸?_
 dsimp only
 refine h2.symm▸?_
 skip
 unfold map2
 dsimp only [rd]
 refine h3.symm▸?_
 rfl
theorem list1_eq (h:F ⟨L,hp1⟩=some (.dat a,hp2)):datF (listF (consL F nilL)) ⟨L,hp1⟩=some (.dat (.list [a]),hp2):=by
 unfold datF listF consL bindE
 refine h.symm▸?_
 rfl
theorem some_eq {k:Int} (h:F ⟨L,hp1⟩=some (.dat (.int k),hp2)):someP F ⟨L,hp1⟩=some (some k,hp2):=by
 unfold someP bindE
 refine h.symm▸?_
 rfl
theorem add_list {x y:List PyData} (h:x.length+y.length≤lim):addD (.list x) (.list y)=some (.list (x++y)):=if_pos h
theorem append_eq {i:Nat} {l:List PyData} (h:F1 ⟨L,hp1⟩=some (.obj i,hp1)) (hi:hp1[i]?=some (.lst l)) (hl:l.length≤lim) (h2:F2 ⟨L,hp1⟩=some (.dat d,hp1)):appendF F1 F2 ⟨L,hp1⟩=some (.dat .none,hp1.set i (.lst (l++[d]))):=by
 unfold appendF bindE
 refine h.symm▸?_
 have e:isLst hp1 i=true:=by unfold isLst; rw [hi]
 dsimp only
 refine (if_pos e).symm▸h2.symm▸?_
 skip
 unfold appF
 dsimp only
 refine hi.symm▸?_
 exact if_pos hl
theorem itemO_eq {p q:PV} (h1:F1 ⟨L,hp1⟩=some (p,hp2)) (h2:F2 ⟨L,hp2⟩=some (q,hp2)) (r1:rd hp2 p=some a) (r2:rd hp2 q=some b) (h3:itemD a b=some d):(bindE F1 λa=>bindE F2 λb=>itemF a b) ⟨L,hp1⟩=some (.dat d,hp2):=by
 unfold bindE
 rw [h1]
 dsimp only
 rw [h2]
 skip
 unfold itemF
 dsimp only
 rw [r1,r2]
 dsimp only
 exact h3.symm▸rfl
theorem expr_eq (h:F ⟨L,hp1⟩=some (.dat .none,hp2)):bindX F (λpv σ=>match pv with
   | .dat .none=>some (.next,σ)
   | _=>none) ⟨L,hp1⟩=some (.next,⟨L,hp2⟩):=by
 unfold bindX
 exact h.symm▸rfl
theorem src_obj {i:Nat} {l:List PyData} (h:F ⟨L,hp1⟩=some (.obj i,hp2)) (hi:hp2[i]?=some (.lst l)):srcF F ⟨L,hp1⟩=some ((.trk i 0,l.length+1),hp2):=by
 unfold srcF
 rw [h]
 dsimp only
 rw [hi]
end
end Mine
end
section
open PySem PySem.StrLaws PySem.Builtin PySem.Builtin.Str
namespace Mine
noncomputable def splitL:List Nat->List Nat->List (List Nat)
 | [],cur=>[cur]
 | [c],cur=>[cur++[c]]
 | c::c'::r,cur=>if c==13&&c'==10 then cur::splitL r [] else splitL (c'::r) (cur++[c])
noncomputable def occL:List Nat->Nat->List Nat
 | [],_=>[]
 | [_],_=>[]
 | c::c'::r,i=>if c==13&&c'==10 then i::occL r (i+2) else occL (c'::r) (i+1)
noncomputable def crlf:Str:=⟨⟨[13,10]⟩⟩
theorem subAt_crlf (l:List Nat) (i:Nat):subAt ⟨⟨l⟩⟩ crlf i=(match l.drop i with
  | c::c'::_=>c==13&&c'==10
  | _=>false):=by
 rw [subAt_eq]
 show ((l.drop i).take 2==[13,10])=_
 cases l.drop i with
 | nil=>rfl
 | cons c r=>cases r with
  | nil=>simp
  | cons c' r=>simp [List.take]
theorem occL_skip (m:List Nat) (i:Nat) (h:(match m with
  | c::c'::_=>c==13&&c'==10
  | _=>false)=false):occL m i=occL (m.drop 1) (i+1):=by
 match m,h with
 | [],_=>rfl
 | [_],_=>rfl
 | c::c'::r,h =>
  have h':(c==13&&c'==10)=false:=h
  show occL (c::c'::r) i=occL (c'::r) (i+1)
  rw [occL,h',if_neg Bool.false_ne_true]
theorem occ_walk (l:List Nat):∀(n i:Nat) (found:Array Nat) (free:Nat),l.length+1 - i=n->found.size≤i->(free≤i ->
   (forIn (List.range' i n) (found,free) (occBody ⟨⟨l⟩⟩ crlf l.length (l.length+1))).run.fst.toList=found.toList++occL (l.drop i) i) ∧
  (free=i+1->(forIn (List.range' i n) (found,free) (occBody ⟨⟨l⟩⟩ crlf l.length (l.length+1))).run.fst.toList=found.toList++occL (l.drop (i+1)) (i+1))
 | 0,i,found,free,hn,hs=>by
  have h1:l.drop i=[]:=List.drop_eq_nil_of_le (by omega)
  have h2:l.drop (i+1)=[]:=List.drop_eq_nil_of_le (by omega)
  refine h1.symm▸h2.symm▸?_
  exact ⟨λ_=>by simp [occL],λ_=>by simp [occL]⟩
 | n+1,i,found,free,hn,hs=>by
  have hstep:List.range' i (n+1)=i::List.range' (i+1) n:=rfl
  rw [hstep,List.forIn_cons]
  have hdrop:(l.drop i).drop 1=l.drop (i+1):=by rw [List.drop_drop]
  have hlim:found.size < l.length+1:=by omega
  unfold occBody
  refine ⟨λhf=>?_,λhf=>?_⟩
  ·by_cases hsub:subAt ⟨⟨l⟩⟩ crlf i=true
   ·have hm:=hsub
    rw [subAt_crlf] at hm
    have:∃r,l.drop i=13::10::r:=by
     match h:l.drop i,hm with
     | c::c'::r,hm=>simp at hm; exact ⟨r,hm.1.symm▸hm.2.symm▸rfl⟩
    obtain ⟨r,hr⟩:=this
    have hlen:i+2≤l.length:=by
     have:=congrArg List.length hr
     simp at this
     omega
    rw [if_pos ⟨⟨⟨hlim,hf⟩,hlen⟩,hsub⟩]
    have ih:=(occ_walk l n (i+1) (found.push i) (i+2) (by (exact ar1 (by assumption))) (by rw [Array.size_push]; (exact Nat.lt_succ_of_le (by assumption)))).2 rfl
    refine ih.trans ?_
    have hr2:l.drop (i+2)=r:=by
     have:=congrArg (List.drop 2) hr
     rwa [List.drop_drop] at this
    rw [hr,show l.drop (i+1+1)=r from hr2,occL,if_pos (by decide)]
    simp
   ·rw [if_neg (λh=>hsub h.2)]
    have ih:=(occ_walk l n (i+1) found free (by (exact ar1 (by assumption))) (by (exact Nat.le_succ_of_le (by assumption)))).1 (by (exact Nat.le_succ_of_le (by assumption)))
    refine ih.trans ?_
    exact (occL_skip (l.drop i) i (by rw [← subAt_crlf]; simpa using hsub)).symm▸hdrop.symm▸rfl
  ·rw [if_neg (λh=>by have h2:free≤i:=h.1.1.2; omega)]
   exact (occ_walk l n (i+1) found free (by (exact ar1 (by assumption))) (by (exact Nat.le_succ_of_le (by assumption)))).1 (by (exact Nat.le_of_eq (by assumption)))
theorem occ_crlf (l:List Nat):occurrences ⟨⟨l⟩⟩ crlf 0 l.length (l.length+1)=occL l 0:=by
 rw [occ_eq]
 have:=(occ_walk l (l.length+1) 0 #[] 0 rfl (Nat.zero_le _)).1 (Nat.le_refl _)
 refine (show l.length+1 - 0=l.length+1 from rfl).symm▸this.symm▸?_
 simp
theorem strSub_mk (l:List Nat) (i j:Nat):strSub ⟨⟨l⟩⟩ i j=⟨⟨(l.drop i).take (j - i)⟩⟩:=by
 have:=strSub_toList ⟨⟨l⟩⟩ i j
 exact str_of_list this
theorem parts_walk (l:List Nat):∀(n:Nat) (m:List Nat) (a i:Nat),m.length≤n->l.drop i=m->a≤i->i≤l.length ->
  (partsFrom ⟨⟨l⟩⟩ 2 a (occL m i)).map (λy=>y.cps.toList)=splitL m ((l.drop a).take (i - a))
 | _,[],a,i,_,hm,hai,hil=>by
  have hi:i=l.length:=by
   have:=congrArg List.length hm
   simp at this
   (exact ar3 (by assumption) (by assumption))
  show [(strSub ⟨⟨l⟩⟩ a l.length).cps.toList]=_
  rw [strSub_mk,hi]
  rfl
 | n+1,[c],a,i,_,hm,hai,hil=>by
  have hi:i+1=l.length:=by
   have:=congrArg List.length hm
   simp at this
   lia
  show [(strSub ⟨⟨l⟩⟩ a l.length).cps.toList]=_
  rw [strSub_mk,splitL]
  have:(l.drop a).take (l.length - a)=(l.drop a).take (i - a)++[c]:=by
   have e:(l.drop a).drop (i - a)=[c]:=List.drop_drop.symm▸(show a+(i - a)=i by (exact Nat.add_sub_of_le (by assumption))).symm▸(hm)
   have h1:=List.take_append_drop (i - a) (l.drop a)
   replace h1:=e▸h1
   rw [h1,List.take_of_length_le (by simp)]
  exact this.symm▸rfl
 | n+1,c::c'::r,a,i,hn,hm,hai,hil=>by
  have hlen:i+2≤l.length:=by
   have:=congrArg List.length hm
   simp at this
   lia
  have hr2:l.drop (i+2)=r:=by
   have:=congrArg (List.drop 2) hm
   rwa [List.drop_drop] at this
  have hr1:l.drop (i+1)=c'::r:=by
   have:=congrArg (List.drop 1) hm
   rwa [List.drop_drop] at this
  rw [occL,splitL]
  split
  ·show (strSub ⟨⟨l⟩⟩ a i).cps.toList::(partsFrom ⟨⟨l⟩⟩ 2 (i+2) (occL r (i+2))).map _=_
   rw [parts_walk l n r (i+2) (i+2) (by simp at hn; (exact Nat.le_of_lt (by assumption))) hr2 (Nat.le_refl _) hlen,strSub_mk]
   simp
  ·refine (parts_walk l n (c'::r) a (i+1) (by simp at hn ⊢; assumption) hr1 (by (exact Nat.le_succ_of_le (by assumption))) (by (exact Nat.le_of_lt (by assumption)))).symm▸?_
   have e0:l[i]?=some c:=by
    have h0:(l.drop i)[0]?=l[i]?:=by rw [List.getElem?_drop]; rfl
    rw [← h0,hm]; rfl
   have e1:(l.drop a).take (i+1 - a)=(l.drop a).take (i - a)++[c]:=by
    refine (show i+1 - a=(i - a)+1 by (exact Nat.succ_sub (by assumption))).symm▸List.take_add_one.symm▸(List.getElem?_drop).symm▸(show a+(i - a)=i by (exact Nat.add_sub_of_le (by assumption))).symm▸e0.symm▸?_
    rfl
   exact e1.symm▸rfl
theorem splitL_mem:∀(n:Nat) (l cur:List Nat),l.length≤n->∀w∈splitL l cur,∀c∈w,c∈l∨c∈cur
 | _,[],cur,_,w,hw,c,hc=>by
  rw [splitL] at hw
  rw [List.mem_singleton.mp hw] at hc
  exact .inr hc
 | n+1,[a],cur,_,w,hw,c,hc=>by
  rw [splitL] at hw
  rw [List.mem_singleton.mp hw] at hc
  rcases List.mem_append.mp hc with h | h
  ·exact .inr h
  ·exact .inl h
 | n+1,a::b::r,cur,hn,w,hw,c,hc=>by
  rw [splitL] at hw
  split at hw
  ·rcases List.mem_cons.mp hw with rfl | hw
   ·exact .inr hc
   ·rcases splitL_mem n r [] (by simp at hn; (exact Nat.le_of_lt (by assumption))) w hw c hc with h | h
    ·exact .inl (List.mem_cons_of_mem _ (List.mem_cons_of_mem _ h))
    ·exact nin h
  ·rcases splitL_mem n (b::r) (cur++[a]) (by simp at hn ⊢; assumption) w hw c hc with h | h
   ·exact .inl (List.mem_cons_of_mem _ h)
   ·rcases List.mem_append.mp h with h | h
    ·exact .inr h
    ·exact .inl (by rw [List.mem_singleton.mp h]; exact List.mem_cons_self ..)
theorem strOk_mk {l:List Nat} (h:∀c∈l,c < 0x110000):PyData.strOk ⟨⟨l⟩⟩=true:=by
 unfold PyData.strOk
 rw [← Array.all_toList,List.all_eq_true]
 intro c hc
 simpa using h c hc
theorem occL_len:∀(n:Nat) (l:List Nat) (i:Nat),l.length≤n->(occL l i).length≤l.length
 | _,[],i,_=>by simp [occL]
 | _,[a],i,_=>by simp [occL]
 | n+1,a::b::r,i,h=>by
  rw [occL]
  split
  ·have:=occL_len n r (i+2) (by simp at h; (exact Nat.le_of_lt (by assumption)))
   simp; (exact Nat.le_succ_of_le (by assumption))
  ·have:=occL_len n (b::r) (i+1) (by simp at h ⊢; assumption)
   simp at this ⊢; (exact Nat.le_succ_of_le (by assumption))
theorem split_crlf {l:List Nat} (h:l.length < lim) (hc:∀c∈l,c < 0x110000):splitD ⟨⟨l⟩⟩ crlf=some (.list ((splitL l []).map λw=>.str ⟨⟨w⟩⟩)):=by
 have hw:(partsBetween ⟨⟨l⟩⟩ (occurrences ⟨⟨l⟩⟩ crlf 0 l.length (l.length+1)) crlf.length).map (λy=>y.cps.toList)=splitL l []:=by
  rw [partsBetween_eq,occ_crlf]
  have:=parts_walk l l.length l 0 0 (Nat.le_refl _) rfl (Nat.le_refl _) (Nat.zero_le _)
  show (partsFrom _ 2 0 _).map _=_
  simpa using this
 have hparts:partsBetween ⟨⟨l⟩⟩ (occurrences ⟨⟨l⟩⟩ crlf 0 l.length (l.length+1)) crlf.length=(splitL l []).map λw=>⟨⟨w⟩⟩:=by
  rw [← hw,List.map_map]
  conv=>lhs; rw [← List.map_id (partsBetween ⟨⟨l⟩⟩ (occurrences ⟨⟨l⟩⟩ crlf 0 l.length (l.length+1)) crlf.length)]
  rfl
 have hsz:(⟨⟨l⟩⟩:Str).length=l.length:=rfl
 have hkind:decide (Str.strKind ⟨⟨l⟩⟩ < Str.strKind crlf)=false:=by
  have:Str.strKind crlf=1:=by decide +kernel
  rw [this,decide_eq_false_iff_not]
  unfold Str.strKind
  split
  ·decide
  ·split<;>decide
 unfold splitD
 rw [if_pos ⟨by rw [hsz]; (exact Nat.le_of_lt (by assumption)),rfl⟩,hkind,Bool.or_false,hsz]
 by_cases h2:l.length < crlf.length
 ·rw [if_pos (by simpa using h2)]
  have:splitL l []=[l]:=by
   match l,h2 with
   | [],_=>rfl
   | [a],_=>rfl
  rw [this]; rfl
 ·rw [if_neg (by simpa using h2)]
  by_cases he:(occurrences ⟨⟨l⟩⟩ crlf 0 l.length (l.length+1)).isEmpty=true
  ·rw [if_pos he]
   have hnil:occurrences ⟨⟨l⟩⟩ crlf 0 l.length (l.length+1)=[]:=by simpa using he
   have:splitL l []=[l]:=by
    rw [← hw,hnil,partsBetween_eq]
    show [(strSub ⟨⟨l⟩⟩ 0 l.length).cps.toList]=_
    rw [strSub_mk]
    simp
   rw [this]; rfl
  ·rw [if_neg he,if_pos]
   ·rw [hparts,List.map_map]; rfl
   ·refine ⟨?_,?_⟩
    ·rw [length_partsBetween,occ_crlf]
     have:=occL_len l.length l 0 (Nat.le_refl _)
     (exact Nat.lt_of_le_of_lt (by assumption) (by assumption))
    ·rw [hparts,List.all_map,List.all_eq_true]
     intro w hw'
     exact strOk_mk λc hc'=>(splitL_mem l.length l [] (Nat.le_refl _) w hw' c hc').elim (hc c) λh=>nin h
noncomputable def joinL (g:List Nat):List (List Nat)->List Nat
 | []=>[]
 | w::r=>w++(r.map (g++·)).flatten
theorem joinL_cons (g w v:List Nat) (r:List (List Nat)):joinL g (w::v::r)=w++(g++joinL g (v::r)):=by
 show w++((g++v)++(r.map (g++·)).flatten)=w++(g++(v++(r.map (g++·)).flatten))
 rw [List.append_assoc]
noncomputable def strsP (ws:List (List Nat)):List PyData:=ws.map λw=>.str ⟨⟨w⟩⟩
theorem strsD_strsP:∀ws:List (List Nat),strsD (strsP ws)=some (ws.map λw=>(⟨⟨w⟩⟩:Str))
 | []=>rfl
 | w::r=>by
  show (strsD (strsP r)).map ((⟨⟨w⟩⟩:Str)::·)=_
  rw [strsD_strsP r]; rfl
theorem glue_fold (g:List Nat):∀(r:List (List Nat)) (a:Array Nat),(r.map λw=>(⟨⟨w⟩⟩:Str)).foldl (λacc p=>acc++(⟨⟨g⟩⟩:Str).cps++p.cps) a=⟨a.toList++(r.map (g++·)).flatten⟩
 | [],a=>by simp
 | w::r,a=>by
  rw [List.map_cons,List.foldl_cons,glue_fold g r]
  simp
theorem glued_eq (g:List Nat) (ws:List (List Nat)):glued ⟨⟨g⟩⟩ (ws.map λw=>(⟨⟨w⟩⟩:Str))=⟨⟨joinL g ws⟩⟩:=by
 unfold glued
 cases ws with
 | nil=>rfl
 | cons w r =>
  rw [List.map_cons,List.drop_succ_cons,List.drop_zero,glue_fold]
  rfl
theorem join_sum (g:List Nat):∀(ws:List (List Nat)) (n:Nat),(ws.map λw=>(⟨⟨w⟩⟩:Str)).foldl (·+·.length+(⟨⟨g⟩⟩:Str).length) n=n+(ws.map λw=>w.length+g.length).sum
 | [],n=>by simp
 | w::r,n=>by
  rw [List.map_cons,List.foldl_cons,join_sum g r,List.map_cons,List.sum_cons]
  show n+w.length+g.length+_=_
  lia
theorem joinL_len (g:List Nat):∀ws:List (List Nat),(joinL g ws).length≤(ws.map λw=>w.length+g.length).sum
 | []=>Nat.le_refl _
 | w::r=>by
  have:((r.map (g++·)).flatten).length=(r.map λw=>w.length+g.length).sum:=by
   rw [List.length_flatten,List.map_map]
   congr 1
   refine List.map_congr_left λx _=>?_
   simp [Nat.add_comm]
  show (w++_).length≤_
  rw [List.length_append,this,List.map_cons,List.sum_cons]
  lia
theorem joinL_mem {g:List Nat} {ws:List (List Nat)} {c:Nat} (h:c∈joinL g ws):c∈g∨∃w∈ws,c∈w:=by
 cases ws with
 | nil=>exact nin h
 | cons w r =>
  rcases List.mem_append.mp h with h | h
  ·exact .inr ⟨w,List.mem_cons_self ..,h⟩
  ·refine cps λ_ KK=>?_
   obtain ⟨l,hl,hc⟩:=List.mem_flatten.mp h
   obtain ⟨v,hv,rfl⟩:=List.mem_map.mp hl
   refine KK ?_
   rcases List.mem_append.mp hc with hc | hc
   ·exact .inl hc
   ·exact .inr ⟨v,List.mem_cons_of_mem _ hv,hc⟩
theorem join_eq {g:List Nat} {ws:List (List Nat)} (h:(ws.map λw=>w.length+g.length).sum≤lim) (hg:∀c∈g,c < 0x110000) (hw:∀w∈ws,∀c∈w,c < 0x110000) :
  joinD ⟨⟨g⟩⟩ (strsP ws)=some (.str ⟨⟨joinL g ws⟩⟩):=by
 unfold joinD
 rw [strsD_strsP]
 dsimp only
 rw [glued_eq,if_pos]
 refine ⟨by rw [join_sum,Nat.zero_add]; exact h,strOk_mk λc hc=>(joinL_mem hc).elim (hg c) λ⟨w,hw',hc⟩=>hw w hw' c hc,?_⟩
 skip
 exact Nat.le_trans (joinL_len g ws) h
theorem sub2_plain {c:Nat} {r:List Nat} (h:c≠10∧c≠13):sub2L (c::r)=c::sub2L r:=by
 cases r with
 | nil=>unfold sub2L; rw [if_neg (by simp [h.1,h.2])]
 | cons c' r=>rw [sub2L,if_neg (by simp [h.1,h.2])]
theorem sub2_app:∀(w r:List Nat),(∀c∈w,c≠10∧c≠13)->sub2L (w++r)=w++sub2L r
 | [],r,_=>rfl
 | c::w,r,h=>by
  refine List.cons_append.symm▸(sub2_plain (h c (List.mem_cons_self ..))).symm▸(sub2_app w r λx hx=>h x (List.mem_cons_of_mem _ hx)).symm▸?_
  rfl
theorem sub2_sep {sep:List Nat} (hs:sep=[10]∨sep=[13]∨sep=[13,10]) {r:List Nat} (hr:r.head?≠some 10):sub2L (sep++r)=[13,10]++sub2L r:=by
 rcases hs with rfl | rfl | rfl
 ·cases r with
  | nil=>rfl
  | cons c r=>show sub2L (10::c::r)=_; rw [sub2L,if_pos (by rfl),if_neg (by simp)]; rfl
 ·cases r with
  | nil=>rfl
  | cons c r =>
   have:c≠10:=λh=>hr (by rw [h]; rfl)
   show sub2L (13::c::r)=_
   rw [sub2L,if_pos (by rfl),if_neg (by simp [this])]; rfl
 ·show sub2L (13::10::r)=_
  rw [sub2L,if_pos (by rfl),if_pos (by rfl)]; rfl
noncomputable def plainW (w:List Nat):Prop:=w≠[]∧∀c∈w,c≠10∧c≠13
theorem joinL_head {g w:List Nat} {r:List (List Nat)} (h:plainW w):(joinL g (w::r)).head?≠some 10:=by
 obtain ⟨h1,h2⟩:=h
 cases w with
 | nil=>exact absurd rfl h1
 | cons c w =>
  show some c≠some 10
  intro q
  cases q
  exact (h2 10 (List.mem_cons_self ..)).1 rfl
theorem sub2_join {sep:List Nat} (hs:sep=[10]∨sep=[13]∨sep=[13,10]):∀ws:List (List Nat),(∀w∈ws,plainW w)->sub2L (joinL sep ws)=joinL [13,10] ws
 | [],_=>rfl
 | [w],h=>by
  have:joinL sep [w]=w:=by show w++[]=w; simp
  rw [this]
  have:=sub2_app w [] (h w (List.mem_cons_self ..)).2
  rw [List.append_nil] at this
  rw [this]; rfl
 | w::v::r,h=>by
  rw [joinL_cons,sub2_app w _ (h w (List.mem_cons_self ..)).2,sub2_sep hs (joinL_head (h v (by simp))),sub2_join hs (v::r) (λx hx=>h x (List.mem_cons_of_mem _ hx)),joinL_cons]
noncomputable def dotted:List Nat->List Nat
 | 46::w=>46::46::w
 | w=>w
theorem sub1_app:∀(w r:List Nat) ,(∀c∈w,c≠10)->w≠[]->∀b,sub1L b (w++13::10::r)=sub1L b w++13::10::sub1L true r
 | [],_,_,h,_=>absurd rfl h
 | [c],r,h,_,b=>by
  have hc:c≠10:=h c (List.mem_cons_self ..)
  have e1:sub1L b (c::13::10::r)=if b&&c==46 then 46::46::13::10::sub1L true r else c::13::10::sub1L true r:=by
   rw [sub1L]
   have h13:sub1L (c==10) (13::10::r)=13::10::sub1L true r:=by rw [sub1L,if_neg (by simp),sub1L,if_neg (by simp)]; rfl
   have h13':sub1L false (13::10::r)=13::10::sub1L true r:=by rw [sub1L,if_neg (by simp),sub1L,if_neg (by simp)]; rfl
   exact h13.symm▸h13'.symm▸rfl
  have e2:sub1L b [c]=if b&&c==46 then [46,46] else [c]:=rfl
  skip
  refine e1.symm▸e2.symm▸?_
  split<;>rfl
 | c::d::w,r,h,_,b=>by
  have hc:c≠10:=h c (List.mem_cons_self ..)
  show sub1L b (c::((d::w)++13::10::r))=_
  rw [sub1L,sub1L]
  split
  ·rw [sub1_app (d::w) r (λx hx=>h x (List.mem_cons_of_mem _ hx)) (by simp)]; rfl
  ·rw [sub1_app (d::w) r (λx hx=>h x (List.mem_cons_of_mem _ hx)) (by simp)]; rfl
theorem sub1_word (w:List Nat) (h:∀c∈w,c≠10):sub1L true w=dotted w:=by
 have main:∀(w:List Nat),(∀c∈w,c≠10)->sub1L false w=w:=by
  intro w
  induction w with
  | nil=>intro _; rfl
  | cons c w ih =>
   intro h
   have hc:(c==10)=false:=by simpa using h c (List.mem_cons_self ..)
   rw [sub1L,hc]
   simp only [Bool.false_and,Bool.false_eq_true,if_false]
   exact (ih λx hx=>h x (List.mem_cons_of_mem _ hx)).symm▸rfl
 cases w with
 | nil=>rfl
 | cons c w =>
  have hw:=main w λx hx=>h x (List.mem_cons_of_mem _ hx)
  have hc:(c==10)=false:=by simpa using h c (List.mem_cons_self ..)
  rw [sub1L]
  by_cases h46:c=46
  ·subst h46
   simp only [Bool.true_and,beq_self_eq_true,if_true]
   rw [hw]; rfl
  ·rw [if_neg (by simpa using h46),hc,hw]
   unfold dotted
   split
   ·rename_i e; cases e; exact absurd rfl h46
   ·rfl
theorem sub1_join:∀ws:List (List Nat),(∀w∈ws,plainW w)->sub1L true (joinL [13,10] ws)=joinL [13,10] (ws.map dotted)
 | [],_=>rfl
 | [w],h=>by
  have h1:joinL [13,10] [w]=w:=by show w++[]=w; simp
  have h2:joinL [13,10] ([w].map dotted)=dotted w:=by show dotted w++[]=_; simp
  exact h1.symm▸h2.symm▸(sub1_word w λc hc=>((h w (List.mem_cons_self ..)).2 c hc).1).symm▸rfl
 | w::v::r,h=>by
  have hw:=h w (List.mem_cons_self ..)
  rw [joinL_cons,List.map_cons,List.map_cons,joinL_cons]
  show sub1L true (w++13::10::joinL [13,10] (v::r))=_
  rw [sub1_app w _ (λc hc=>(hw.2 c hc).1) hw.1,sub1_word w (λc hc=>(hw.2 c hc).1),sub1_join (v::r) (λx hx=>h x (List.mem_cons_of_mem _ hx))]
  rfl
theorem splitL_app:∀(w r cur:List Nat),(∀c∈w,c≠13)->splitL (w++13::10::r) cur=(cur++w)::splitL r []
 | [],r,cur,_=>by show splitL (13::10::r) cur=_; rw [splitL,if_pos (by rfl),List.append_nil]
 | [c],r,cur,h=>by
  have hc:c≠13:=h c (List.mem_cons_self ..)
  show splitL (c::13::10::r) cur=_
  rw [splitL,if_neg (by simp [hc]),splitL,if_pos (by rfl)]
 | c::d::w,r,cur,h=>by
  have hc:c≠13:=h c (List.mem_cons_self ..)
  show splitL (c::d::(w++13::10::r)) cur=_
  rw [splitL,if_neg (by simp [hc])]
  have:=splitL_app (d::w) r (cur++[c]) λx hx=>h x (List.mem_cons_of_mem _ hx)
  refine (show d::(w++13::10::r)=(d::w)++13::10::r from rfl).symm▸this.symm▸?_
  simp
theorem splitL_plain:∀(w cur:List Nat),(∀c∈w,c≠13)->splitL w cur=[cur++w]
 | [],cur,_=>by rw [splitL,List.append_nil]
 | [c],cur,_=>by rw [splitL]
 | c::d::w,cur,h=>by
  have hc:c≠13:=h c (List.mem_cons_self ..)
  rw [splitL,if_neg (by simp [hc]),splitL_plain (d::w) _ λx hx=>h x (List.mem_cons_of_mem _ hx)]
  simp
theorem splitL_join:∀ws:List (List Nat),ws≠[]->(∀w∈ws,∀c∈w,c≠13)->splitL (joinL [13,10] ws) []=ws
 | [],h,_=>absurd rfl h
 | [w],_,h=>by
  have h1:joinL [13,10] [w]=w:=by show w++[]=w; simp
  rw [h1,splitL_plain w [] (h w (List.mem_cons_self ..))]; rfl
 | w::v::r,_,h=>by
  rw [joinL_cons]
  show splitL (w++13::10::joinL [13,10] (v::r)) []=_
  rw [splitL_app w _ [] (h w (List.mem_cons_self ..)),splitL_join (v::r) (by simp) λx hx=>h x (List.mem_cons_of_mem _ hx)]
  rfl
end Mine
end
section
open PySem
namespace Mine
noncomputable def ats (f:Bool) (n:Int):List (Nat×PV):=if f then [(1,.dat (.int n)),(3,.obj 4),(2,.dat (.str ⟨⟨[10,9,13,32]⟩⟩)),(0,.strm 2)] else [(3,.obj 4),(2,.dat (.str ⟨⟨[10,9,13,32]⟩⟩)),(0,.strm 2),(1,.dat (.int n))]
noncomputable def cits:Option Bool->List MO
 | none=>[]
 | some dn=>[.cit 3 80 dn]
noncomputable def hs (P:Addr) (fl:Bool) (wl:List PyData) (s:List Nat) (f:Bool) (n:Int) (pb:List PyData) (t:Option Bool):List MO :=
 .tab P fl::.lst wl::.lst (chars s)::.ins 97 (ats f n)::.lst pb::cits t
section
variable {P:Addr} {fl f:Bool} {wl pb:List PyData} {s r:List Nat} {n:Int} {t:Option Bool} {c:Nat}
theorem chars_cons:chars (c::r)=.str ⟨⟨[c]⟩⟩::chars r:=rfl
theorem rc_nil:F_L_read_char [.obj 3] (hs P fl wl [] f n pb t)=some (.dat (.str ⟨⟨[]⟩⟩),hs P fl wl [] f n pb t):=by
 cases f<;>rcases t with _ | _<;>rfl
theorem rc_pop (h:r.length < lim):readF 2 (hs P fl wl (c::r) f n pb t)=some (.dat (.str ⟨⟨[c]⟩⟩),hs P fl wl r f n pb t):=by
 show (if (chars (c::r)).length≤lim then some (PV.dat (.str ⟨⟨[c]⟩⟩),hs P fl wl r f n pb t) else none)=_
 exact if_pos (show (chars r).length+1≤lim by rw [chars,List.length_map]; exact h)
theorem rc_seq {F G:XF} {σ σ':St} (h:F σ=some (.next,σ')):seqF F G σ=G σ':=by unfold seqF; rw [h]
theorem rc_eq (c k:Nat):cmpD .Eq (.str ⟨⟨[c]⟩⟩) (.str ⟨⟨[k]⟩⟩)=some (c==k):=by
 show some (([c]:List Nat)==[k])=_
 congr 1
 exact Bool.and_true _
theorem rc_test:cmpX .Eq (nameF 1) (sC [10]) ⟨[some (.obj 3),some (.dat (.str ⟨⟨[c]⟩⟩))],hs P fl wl r f n pb t⟩=some (c==10,hs P fl wl r f n pb t):=by
 show (match cmpD .Eq (.str ⟨⟨[c]⟩⟩) (.str ⟨⟨[10]⟩⟩) with
  | some d=>some (d,hs P fl wl r f n pb t)
  | none=>none)=_
 rw [rc_eq]
theorem rc_line:ifF (cmpX .Eq (nameF 1) (sC [10])) (seqF (augAttrX (nameF 0) (λσ=>some (.dat (.int 1),σ.hp)) 97 1 .Add) nextF) nextF ⟨[some (.obj 3),some (.dat (.str ⟨⟨[c]⟩⟩))],hs P fl wl r f n pb t⟩=some (.next,⟨[some (.obj 3),some (.dat (.str ⟨⟨[c]⟩⟩))],hs P fl wl r (f||c==10) (if c=10 then n+1 else n) pb t⟩):=by
 unfold ifF
 refine rc_test.symm▸?_
 by_cases hc:c=10
 ·rw [hc]; cases f<;>rfl
 ·rw [if_neg hc,beq_false_of_ne hc,Bool.or_false]; rfl
theorem rc_end {g:Bool} {m:Int}:trunc (hs P fl wl s f n pb t).length (.dat (.str ⟨⟨[c]⟩⟩)) (hs P fl wl r g m pb t)=some (.dat (.str ⟨⟨[c]⟩⟩),hs P fl wl r g m pb t):=by
 cases g<;>rcases t with _ | _<;>rfl
theorem rc_cons (h:r.length < lim):F_L_read_char [.obj 3] (hs P fl wl (c::r) f n pb t)=some (.dat (.str ⟨⟨[c]⟩⟩),hs P fl wl r (f||c==10) (if c=10 then n+1 else n) pb t):=by
 have h1:bindX (strmF (bindE (nameF 0) (attrOf 97 0))) (setF 1) ⟨[some (.obj 3),none],hs P fl wl (c::r) f n pb t⟩=some (.next,⟨[some (.obj 3),some (.dat (.str ⟨⟨[c]⟩⟩))],hs P fl wl r f n pb t⟩):=by
  unfold bindX
  rw [show strmF (bindE (nameF 0) (attrOf 97 0)) ⟨[some (.obj 3),none],hs P fl wl (c::r) f n pb t⟩=readF 2 (hs P fl wl (c::r) f n pb t) by cases f<;>rfl,rc_pop h]
  rfl
 have e:X_L_read_char.1 ⟨argLoc [.obj 3] 1,hs P fl wl (c::r) f n pb t⟩=some (.ret (.dat (.str ⟨⟨[c]⟩⟩)),⟨[some (.obj 3),some (.dat (.str ⟨⟨[c]⟩⟩))],hs P fl wl r (f||c==10) (if c=10 then n+1 else n) pb t⟩):=(rc_seq h1).trans ((rc_seq rc_line).trans rfl)
 unfold F_L_read_char fnF
 rw [e]
 exact rc_end
end
section
variable {step:StepF} {T:PyData->Loc->Option Loc} {B:XF} {m:Nat} {is is':IS} {σ σ_2:St} {d:PyData} {hp:List MO} {loc:Loc} {v:PV}
theorem forF_next (h1:step is σ.hp=some (some (d,is'),hp)) (h2:T d σ.loc=some loc) (h3:B ⟨loc,hp⟩=some (.next,σ_2)):forF step T B (m+1) is σ=forF step T B m is' σ_2:=by
 rw [forF]; dsimp only; rw [h1]; dsimp only; rw [h2]; dsimp only; rw [h3]
theorem forF_cont (h1:step is σ.hp=some (some (d,is'),hp)) (h2:T d σ.loc=some loc) (h3:B ⟨loc,hp⟩=some (.cont,σ_2)):forF step T B (m+1) is σ=forF step T B m is' σ_2:=by
 rw [forF]; dsimp only; rw [h1]; dsimp only; rw [h2]; dsimp only; rw [h3]
theorem forF_ret (h1:step is σ.hp=some (some (d,is'),hp)) (h2:T d σ.loc=some loc) (h3:B ⟨loc,hp⟩=some (.ret v,σ_2)):forF step T B (m+1) is σ=some (.ret v,σ_2):=by
 rw [forF]; dsimp only; rw [h1]; dsimp only; rw [h2]; dsimp only; rw [h3]
theorem forF_done (h1:step is σ.hp=some (none,hp)):forF step T B (m+1) is σ=some (.next,⟨σ.loc,hp⟩):=by
 rw [forF]; dsimp only; rw [h1]
end
noncomputable def escX:XF:=ifF (cmpX .Eq (nameF 3) (sC [92])) (seqF (bindX (meth0F (nameF 0) 97 "_read_char" F_L_read_char) (setF 3)) nextF) nextF
noncomputable def BQ:XF:=seqF (ifF (cmpX .Eq (nameF 3) (sC [34])) (seqF (retX (nameF 1)) nextF) (seqF escX nextF)) (seqF (augF 1 .Add (nameF 3)) nextF)
noncomputable def BW:XF:=seqF (ifF (cmpX .In (nameF 3) (bindE (nameF 0) (attrOf 97 2))) (seqF (retX (nameF 1)) nextF) (seqF escX nextF)) (seqF (augF 1 .Add (nameF 3)) nextF)
noncomputable def forC (B:XF):XF:=bindI (citSrc fuelL (nameF 2)) λis n=>forF (stepC 80 F_L_read_char) (setL 3) B n is
noncomputable def BO:XF:=seqF (ifF (cmpX .In (nameF 3) (bindE (nameF 0) (attrOf 97 2))) (seqF (λσ=>some (.cont,σ)) nextF) nextF)
 (seqF (ifF (cmpX .Eq (nameF 3) (sC [34])) (seqF (forC BQ) nextF) (seqF escX (seqF (augF 1 .Add (nameF 3)) (seqF (forC BW) nextF)))) nextF)
noncomputable def BT:XF:=seqF (ifF (bindE (bindE (nameF 0) (attrOf 97 3)) trV) (seqF (retX (popF (bindE (nameF 0) (attrOf 97 3)) true)) nextF) nextF)
 (seqF (bindX (sC []) (setF 1)) (seqF (bindX (iterF (nameF 0) 97 80 "_read_char") (setF 2)) (seqF (forC BO) (seqF (retX (nameF 1)) nextF))))
theorem get_token_eq:F_L_get_token=fnF 1 3 false BT:=rfl
noncomputable def LT (tok:List Nat) (ch:List Nat):Loc:=[some (.obj 3),some (.dat (.str ⟨⟨tok⟩⟩)),some (.obj 5),some (.dat (.str ⟨⟨ch⟩⟩))]
section
variable {P:Addr} {fl f dn:Bool} {wl pb:List PyData} {s r tok ch:List Nat} {n:Int} {t:Option Bool} {c d:Nat}
noncomputable abbrev ST:=stepC 80 F_L_read_char
theorem step_nil:ST (.trk 5 0) (hs P fl wl [] f n pb (some false))=some (none,hs P fl wl [] f n pb (some true)):=by
 have:(hs P fl wl [] f n pb (some false))[5]?=some (.cit 3 80 false):=rfl
 unfold ST stepC
 dsimp only
 refine this.symm▸?_
 dsimp only
 refine (if_pos rfl).symm▸rc_nil.symm▸?_
 rfl
theorem step_done:ST (.trk 5 0) (hs P fl wl s f n pb (some true))=some (none,hs P fl wl s f n pb (some true)):=rfl
theorem step_cons (h:r.length < lim):ST (.trk 5 0) (hs P fl wl (c::r) f n pb (some false))=some (some (.str ⟨⟨[c]⟩⟩,.trk 5 0),hs P fl wl r (f||c==10) (if c=10 then n+1 else n) pb (some false)):=by
 have:(hs P fl wl (c::r) f n pb (some false))[5]?=some (.cit 3 80 false):=rfl
 unfold ST stepC
 dsimp only
 rw [this]
 dsimp only
 rw [if_pos rfl,rc_cons h]
 rfl
theorem eqs (c k:Nat):cmpD .Eq (.str ⟨⟨[c]⟩⟩) (.str ⟨⟨[k]⟩⟩)=some (c==k):=by
 show some (([c]:List Nat)==[k])=_
 congr 1
 rw [Bool.eq_iff_iff]
 simp
theorem cmp3 (k:Nat):cmpX .Eq (nameF 3) (sC [k]) ⟨LT tok [c],hs P fl wl s f n pb t⟩=some (c==k,hs P fl wl s f n pb t):=by
 show (match cmpD .Eq (.str ⟨⟨[c]⟩⟩) (.str ⟨⟨[k]⟩⟩) with
  | some d=>some (d,hs P fl wl s f n pb t)
  | none=>none)=_
 rw [eqs]
noncomputable def isWs (c:Nat):Bool:=[10,9,13,32].contains c
theorem cmpW:cmpX .In (nameF 3) (bindE (nameF 0) (attrOf 97 2)) ⟨LT tok [c],hs P fl wl s f n pb t⟩=some (isWs c,hs P fl wl s f n pb t):=by
 cases f<;>rfl
theorem aug1 (h:tok.length+ch.length≤lim):augF 1 .Add (nameF 3) ⟨LT tok ch,hs P fl wl s f n pb t⟩=some (.next,⟨LT (tok++ch) ch,hs P fl wl s f n pb t⟩):=by
 show (match iopD .Add (.str ⟨⟨tok⟩⟩) (.str ⟨⟨ch⟩⟩) with
  | some d=>some (Fl.next,(⟨(LT tok ch).set 1 (some (.dat d)),hs P fl wl s f n pb t⟩:St))
  | none=>none)=_
 have:iopD .Add (.str ⟨⟨tok⟩⟩) (.str ⟨⟨ch⟩⟩)=some (.str ⟨⟨tok++ch⟩⟩):=if_pos h
 rw [this]; rfl
theorem esc_no (h:c≠92):escX ⟨LT tok [c],hs P fl wl s f n pb t⟩=some (.next,⟨LT tok [c],hs P fl wl s f n pb t⟩):=by
 unfold escX ifF
 rw [cmp3]
 have:(c==92)=false:=by simpa using h
 rw [this]; rfl
theorem esc_nil:escX ⟨LT tok [92],hs P fl wl [] f n pb t⟩=some (.next,⟨LT tok [],hs P fl wl [] f n pb t⟩):=by
 unfold escX ifF
 rw [cmp3]
 show seqF (bindX (meth0F (nameF 0) 97 "_read_char" F_L_read_char) (setF 3)) nextF ⟨LT tok [92],hs P fl wl [] f n pb t⟩=_
 have:meth0F (nameF 0) 97 "_read_char" F_L_read_char ⟨LT tok [92],hs P fl wl [] f n pb t⟩=some (.dat (.str ⟨⟨[]⟩⟩),hs P fl wl [] f n pb t):=by
  show (if insOf 97 "_read_char" 3 (hs P fl wl [] f n pb t) then F_L_read_char [.obj 3] (hs P fl wl [] f n pb t) else none)=_
  rw [show insOf 97 "_read_char" 3 (hs P fl wl [] f n pb t)=true by cases f<;>kernel_rfl,if_pos rfl,rc_nil]
 unfold seqF bindX
 rw [this]; rfl
theorem esc_cons (h:r.length < lim):escX ⟨LT tok [92],hs P fl wl (d::r) f n pb t⟩=some (.next,⟨LT tok [d],hs P fl wl r (f||d==10) (if d=10 then n+1 else n) pb t⟩):=by
 unfold escX ifF
 rw [cmp3]
 show seqF (bindX (meth0F (nameF 0) 97 "_read_char" F_L_read_char) (setF 3)) nextF ⟨LT tok [92],hs P fl wl (d::r) f n pb t⟩=_
 have:meth0F (nameF 0) 97 "_read_char" F_L_read_char ⟨LT tok [92],hs P fl wl (d::r) f n pb t⟩=some (.dat (.str ⟨⟨[d]⟩⟩),hs P fl wl r (f||d==10) (if d=10 then n+1 else n) pb t):=by
  show (if insOf 97 "_read_char" 3 (hs P fl wl (d::r) f n pb t) then F_L_read_char [.obj 3] (hs P fl wl (d::r) f n pb t) else none)=_
  rw [show insOf 97 "_read_char" 3 (hs P fl wl (d::r) f n pb t)=true by cases f<;>kernel_rfl,if_pos rfl,rc_cons h]
 unfold seqF bindX
 rw [this]; rfl
end
noncomputable def goQ:List Nat->List Nat->List Nat×Option (List Nat)
 | [],tok=>(tok,none)
 | [c],tok=>if c=34 then (tok,some []) else if c=92 then (tok,none) else (tok++[c],none)
 | c::d::r,tok=>if c=34 then (tok,some (d::r)) else if c=92 then goQ r (tok++[d]) else goQ (d::r) (tok++[c])
noncomputable def goW:List Nat->List Nat->List Nat×Option (List Nat)
 | [],tok=>(tok,none)
 | [c],tok=>if isWs c then (tok,some []) else if c=92 then (tok,none) else (tok++[c],none)
 | c::d::r,tok=>if isWs c then (tok,some (d::r)) else if c=92 then goW r (tok++[d]) else goW (d::r) (tok++[c])
section
variable {P:Addr} {fl f dn:Bool} {wl pb:List PyData} {s r tok ch:List Nat} {n:Int} {t:Option Bool} {c d:Nat}
noncomputable def Rz (P:Addr) (fl:Bool) (wl pb:List PyData) (N:Int) (x:List Nat×Option (List Nat)) (res:Option (Fl×St)):Prop:=match x with
 | (t',some r)=>∃ch' f' n',res=some (.ret (.dat (.str ⟨⟨t'⟩⟩)),⟨LT t' ch',hs P fl wl r f' n' pb (some false)⟩)∧n'+(r.count 10:Nat)=N
 | (t',none)=>∃ch' f',res=some (.next,⟨LT t' ch',hs P fl wl [] f' N pb (some true)⟩)
theorem cntC {c:Nat} {r:List Nat} {n:Int}:(if c=10 then n+1 else n)+(r.count 10:Nat)=n+((c::r).count 10:Nat):=by
 rw [List.count_cons]
 by_cases h:c=10
 ·subst h; simp; lia
 ·simp [h]
theorem BQ_q:BQ ⟨LT tok [34],hs P fl wl s f n pb t⟩=some (.ret (.dat (.str ⟨⟨tok⟩⟩)),⟨LT tok [34],hs P fl wl s f n pb t⟩):=rfl
theorem BQ_n {σ':St} (h:c≠34) (he:escX ⟨LT tok [c],hs P fl wl s f n pb t⟩=some (.next,σ')):BQ ⟨LT tok [c],hs P fl wl s f n pb t⟩=seqF (augF 1 .Add (nameF 3)) nextF σ':=by
 unfold BQ ifF
 have h1:cmpX .Eq (nameF 3) (sC [34]) ⟨LT tok [c],hs P fl wl s f n pb t⟩=some (false,hs P fl wl s f n pb t):=by
  rw [cmp3]
  have:(c==34)=false:=by simpa using h
  rw [this]
 rw [seqF]
 rw [h1]
 dsimp only
 rw [if_neg Bool.false_ne_true]
 show (match seqF escX nextF ⟨LT tok [c],hs P fl wl s f n pb t⟩ with
  | some (.next,σ')=>seqF (augF 1 .Add (nameF 3)) nextF σ'
  | r=>r)=_
 have:seqF escX nextF ⟨LT tok [c],hs P fl wl s f n pb t⟩=some (.next,σ'):=by
  unfold seqF
  rw [he]; rfl
 exact this.symm▸rfl
theorem BW_q (h:isWs c=true):BW ⟨LT tok [c],hs P fl wl s f n pb t⟩=some (.ret (.dat (.str ⟨⟨tok⟩⟩)),⟨LT tok [c],hs P fl wl s f n pb t⟩):=by
 unfold BW ifF
 rw [seqF]
 rw [cmpW,h]
 rfl
theorem BW_n {σ':St} (h:isWs c=false) (he:escX ⟨LT tok [c],hs P fl wl s f n pb t⟩=some (.next,σ')):BW ⟨LT tok [c],hs P fl wl s f n pb t⟩=seqF (augF 1 .Add (nameF 3)) nextF σ':=by
 unfold BW ifF
 rw [seqF]
 rw [cmpW,h]
 dsimp only
 rw [if_neg Bool.false_ne_true]
 show (match seqF escX nextF ⟨LT tok [c],hs P fl wl s f n pb t⟩ with
  | some (.next,σ')=>seqF (augF 1 .Add (nameF 3)) nextF σ'
  | r=>r)=_
 have:seqF escX nextF ⟨LT tok [c],hs P fl wl s f n pb t⟩=some (.next,σ'):=by
  unfold seqF
  rw [he]; rfl
 exact this.symm▸rfl
theorem aug2 (h:tok.length+ch.length≤lim):seqF (augF 1 .Add (nameF 3)) nextF ⟨LT tok ch,hs P fl wl s f n pb t⟩=some (.next,⟨LT (tok++ch) ch,hs P fl wl s f n pb t⟩):=by
 unfold seqF
 rw [aug1 h]; rfl
theorem loopQ:∀(k:Nat) (s tok ch:List Nat) (f:Bool) (n:Int) (m:Nat),s.length≤k->s.length < m->s.length < lim->tok.length+s.length≤lim ->
  Rz P fl wl pb (n+(s.count 10:Nat)) (goQ s tok) (forF ST (setL 3) BQ m (.trk 5 0) ⟨LT tok ch,hs P fl wl s f n pb (some false)⟩)
 | _,[],tok,ch,f,n,m+1,_,_,_,_=>by
  refine ⟨ch,f,?_⟩
  rw [forF_done step_nil]
  simp
 | k+1,[c],tok,ch,f,n,m+1,hk,hm,hl,ht=>by
  have hst:=step_cons (P:=P) (fl:=fl) (wl:=wl) (pb:=pb) (c:=c) (r:=[]) (f:=f) (n:=n) (by decide)
  have hN:(if c=10 then n+1 else n)=n+([c].count 10:Nat):=by have:=cntC (c:=c) (r:=[]) (n:=n); simpa using this
  rw [goQ]
  by_cases h34:c=34
  ·subst h34
   refine (if_pos rfl).symm▸?_
   exact ⟨[34],_,_,forF_ret hst rfl BQ_q,by simp⟩
  ·refine (if_neg h34).symm▸?_
   cases m with
   | zero=>simp at hm
   | succ m =>
   by_cases h92:c=92
   ·subst h92
    refine (if_pos rfl).symm▸?_
    rw [forF_next hst rfl ((BQ_n h34 esc_nil).trans (aug2 (by simp at ht ⊢; (exact Nat.le_of_lt (by assumption))))),forF_done step_nil]
    exact ⟨[],_,by simp; rfl⟩
   ·refine (if_neg h92).symm▸?_
    rw [forF_next hst rfl ((BQ_n h34 (esc_no h92)).trans (aug2 (by simpa using ht))),forF_done step_nil]
    exact ⟨[c],_,by rw [hN]⟩
 | k+1,c::d::r,tok,ch,f,n,m+1,hk,hm,hl,ht=>by
  simp only [List.length_cons] at hk hm hl ht
  have hst:=step_cons (P:=P) (fl:=fl) (wl:=wl) (pb:=pb) (c:=c) (r:=d::r) (f:=f) (n:=n) (by simp; (exact Nat.le_of_lt (by assumption)))
  rw [goQ]
  by_cases h34:c=34
  ·subst h34
   refine (if_pos rfl).symm▸?_
   exact ⟨[34],_,_,forF_ret hst rfl BQ_q,cntC.symm▸rfl⟩
  ·refine (if_neg h34).symm▸?_
   by_cases h92:c=92
   ·subst h92
    refine (if_pos rfl).symm▸?_
    rw [forF_next hst rfl ((BQ_n h34 (esc_cons (by (exact Nat.lt_of_le_of_lt (Nat.le_add_right _ _) (by assumption))))).trans (aug2 (by simp; (exact Nat.lt_of_le_of_lt (Nat.le_add_right _ _) (by assumption)))))]
    have ih:=loopQ k r (tok++[d]) [d] (f||(92:Nat)==10||d==10) (if d=10 then (if (92:Nat)=10 then n+1 else n)+1 else (if (92:Nat)=10 then n+1 else n)) m (by lia) (by lia) (by (exact Nat.lt_of_le_of_lt (Nat.le_add_right _ _) (by assumption))) (by simp; lia)
    rw [cntC,if_neg (by decide)] at ih
    refine (show ((92::d::r).count 10:Nat)=((d::r).count 10:Nat) by rw [List.count_cons]; simp).symm▸?_
    exact ih
   ·refine (if_neg h92).symm▸?_
    rw [forF_next hst rfl ((BQ_n h34 (esc_no h92)).trans (aug2 (by simp; (exact Nat.lt_of_le_of_lt (Nat.le_add_right _ _) (by assumption)))))]
    have ih:=loopQ k (d::r) (tok++[c]) [c] (f||c==10) (if c=10 then n+1 else n) m (by simp; (exact Nat.le_of_lt_succ (by assumption))) (by simp; (exact Nat.le_of_lt_succ (by assumption))) (by simp; (exact Nat.le_of_lt (by assumption))) (by simp; lia)
    replace ih:=cntC▸ih
    exact ih
theorem loopW:∀(k:Nat) (s tok ch:List Nat) (f:Bool) (n:Int) (m:Nat),s.length≤k->s.length < m->s.length < lim->tok.length+s.length≤lim ->
  Rz P fl wl pb (n+(s.count 10:Nat)) (goW s tok) (forF ST (setL 3) BW m (.trk 5 0) ⟨LT tok ch,hs P fl wl s f n pb (some false)⟩)
 | _,[],tok,ch,f,n,m+1,_,_,_,_=>by
  refine ⟨ch,f,?_⟩
  rw [forF_done step_nil]
  simp
 | k+1,[c],tok,ch,f,n,m+1,hk,hm,hl,ht=>by
  have hst:=step_cons (P:=P) (fl:=fl) (wl:=wl) (pb:=pb) (c:=c) (r:=[]) (f:=f) (n:=n) (by decide)
  have hN:(if c=10 then n+1 else n)=n+([c].count 10:Nat):=by have:=cntC (c:=c) (r:=[]) (n:=n); simpa using this
  rw [goW]
  cases hw:isWs c with
  | true =>
   rw [if_pos rfl]
   exact ⟨[c],_,_,forF_ret hst rfl (BW_q hw),by simpa using hN⟩
  | false =>
   rw [if_neg Bool.false_ne_true]
   cases m with
   | zero=>simp at hm
   | succ m =>
   by_cases h92:c=92
   ·subst h92
    rw [if_pos rfl]
    rw [forF_next hst rfl ((BW_n hw esc_nil).trans (aug2 (by simp at ht ⊢; (exact Nat.le_of_lt (by assumption))))),forF_done step_nil]
    exact ⟨[],_,by simp; rfl⟩
   ·rw [if_neg h92]
    rw [forF_next hst rfl ((BW_n hw (esc_no h92)).trans (aug2 (by simpa using ht))),forF_done step_nil]
    exact ⟨[c],_,by rw [hN]⟩
 | k+1,c::d::r,tok,ch,f,n,m+1,hk,hm,hl,ht=>by
  simp only [List.length_cons] at hk hm hl ht
  have hst:=step_cons (P:=P) (fl:=fl) (wl:=wl) (pb:=pb) (c:=c) (r:=d::r) (f:=f) (n:=n) (by simp; (exact Nat.le_of_lt (by assumption)))
  rw [goW]
  cases hw:isWs c with
  | true =>
   rw [if_pos rfl]
   exact ⟨[c],_,_,forF_ret hst rfl (BW_q hw),by rw [cntC]⟩
  | false =>
   rw [if_neg Bool.false_ne_true]
   by_cases h92:c=92
   ·subst h92
    rw [if_pos rfl]
    rw [forF_next hst rfl ((BW_n hw (esc_cons (by (exact Nat.lt_of_le_of_lt (Nat.le_add_right _ _) (by assumption))))).trans (aug2 (by simp; (exact Nat.lt_of_le_of_lt (Nat.le_add_right _ _) (by assumption)))))]
    have ih:=loopW k r (tok++[d]) [d] (f||(92:Nat)==10||d==10) (if d=10 then (if (92:Nat)=10 then n+1 else n)+1 else (if (92:Nat)=10 then n+1 else n)) m (by lia) (by lia) (by (exact Nat.lt_of_le_of_lt (Nat.le_add_right _ _) (by assumption))) (by simp; lia)
    rw [cntC,if_neg (by decide)] at ih
    rw [show ((92::d::r).count 10:Nat)=((d::r).count 10:Nat) by rw [List.count_cons]; simp]
    exact ih
   ·rw [if_neg h92]
    rw [forF_next hst rfl ((BW_n hw (esc_no h92)).trans (aug2 (by simp; (exact Nat.lt_of_le_of_lt (Nat.le_add_right _ _) (by assumption)))))]
    have ih:=loopW k (d::r) (tok++[c]) [c] (f||c==10) (if c=10 then n+1 else n) m (by simp; (exact Nat.le_of_lt_succ (by assumption))) (by simp; (exact Nat.le_of_lt_succ (by assumption))) (by simp; (exact Nat.le_of_lt (by assumption))) (by simp; lia)
    rw [cntC] at ih
    exact ih
end
noncomputable def LTo (tok:List Nat) (o:Option PV):Loc:=[some (.obj 3),some (.dat (.str ⟨⟨tok⟩⟩)),some (.obj 5),o]
noncomputable def goT:List Nat->List Nat×Option (List Nat)
 | []=>([],none)
 | [c]=>if isWs c then ([],none) else if c=34 then ([],none) else if c=92 then ([],none) else ([c],none)
 | c::d::r=>if isWs c then goT (d::r) else if c=34 then goQ (d::r) [] else if c=92 then goW r [d] else goW (d::r) [c]
section
variable {P:Addr} {fl f dn:Bool} {wl pb:List PyData} {s r tok ch:List Nat} {n:Int} {t:Option Bool} {c d:Nat}
theorem fuel_hs:s.length+2≤fuelL (hs P fl wl s f n pb t):=by
 unfold fuelL hs
 have:(chars s).length=s.length:=by simp [chars]
 simp [this]
 lia
theorem forC_eq (B:XF):forC B ⟨LTo tok (some (.dat (.str ⟨⟨ch⟩⟩))),hs P fl wl s f n pb (some dn)⟩=forF ST (setL 3) B (fuelL (hs P fl wl s f n pb (some dn))) (.trk 5 0) ⟨LT tok ch,hs P fl wl s f n pb (some dn)⟩:=rfl
noncomputable def Rt (P:Addr) (fl:Bool) (wl pb:List PyData) (N:Int) (x:List Nat×Option (List Nat)) (res:Option (Fl×St)):Prop:=match x with
 | (t',some r)=>∃o f' n',res=some (.ret (.dat (.str ⟨⟨t'⟩⟩)),⟨LTo t' o,hs P fl wl r f' n' pb (some false)⟩)∧n'+(r.count 10:Nat)=N
 | (t',none)=>∃o f',res=some (.next,⟨LTo t' o,hs P fl wl [] f' N pb (some true)⟩)
theorem Rz.outer {N:Int} {x:List Nat×Option (List Nat)} {m:Nat} {st hp':List MO} {loc loc':Loc} {e:PyData} (h1:ST (.trk 5 0) st=some (some (e,.trk 5 0),hp')) (h2:setL 3 e loc=some loc') (h:Rz P fl wl pb N x (BO ⟨loc',hp'⟩)) (hm:0 < m) :
  Rt P fl wl pb N x (forF ST (setL 3) BO (m+1) (.trk 5 0) ⟨loc,st⟩):=by
 obtain ⟨t',o⟩:=x
 cases o with
 | some r =>
  obtain ⟨ch',f',n',e,hn⟩:=h
  exact ⟨some (.dat (.str ⟨⟨ch'⟩⟩)),f',n',forF_ret h1 h2 e,hn⟩
 | none =>
  obtain ⟨ch',f',e⟩:=h
  refine ⟨some (.dat (.str ⟨⟨ch'⟩⟩)),f',?_⟩
  rw [forF_next h1 h2 e]
  cases m with
  | zero=>cases hm
  | succ m =>
   rw [forF_done step_done]
   rfl
theorem seq_next {F G:XF} {σ σ':St} (h:F σ=some (.next,σ')):seqF F G σ=G σ':=by unfold seqF; rw [h]
theorem seq_ret {F G:XF} {σ σ':St} {v:PV} (h:F σ=some (.ret v,σ')):seqF F G σ=some (.ret v,σ'):=by unfold seqF; rw [h]
theorem seq_id (F:XF) (σ:St):seqF F nextF σ=F σ:=by
 unfold seqF
 split
 ·rename_i e; rw [e]; rfl
 ·rfl
theorem BO_ws (h:isWs c=true):BO ⟨LTo tok (some (.dat (.str ⟨⟨[c]⟩⟩))),hs P fl wl s f n pb t⟩=some (.cont,⟨LTo tok (some (.dat (.str ⟨⟨[c]⟩⟩))),hs P fl wl s f n pb t⟩):=by
 unfold BO
 rw [seqF]
 unfold ifF
 refine (show cmpX .In (nameF 3) (bindE (nameF 0) (attrOf 97 2)) ⟨LTo tok (some (.dat (.str ⟨⟨[c]⟩⟩))),hs P fl wl s f n pb t⟩=some (isWs c,hs P fl wl s f n pb t) from cmpW).symm▸h.symm▸?_
 rfl
theorem BO_quote:BO ⟨LTo tok (some (.dat (.str ⟨⟨[34]⟩⟩))),hs P fl wl s f n pb (some false)⟩=forF ST (setL 3) BQ (fuelL (hs P fl wl s f n pb (some false))) (.trk 5 0) ⟨LT tok [34],hs P fl wl s f n pb (some false)⟩:=by
 unfold BO
 rw [seqF]
 unfold ifF
 refine (show cmpX .In (nameF 3) (bindE (nameF 0) (attrOf 97 2)) ⟨LTo tok (some (.dat (.str ⟨⟨[34]⟩⟩))),hs P fl wl s f n pb (some false)⟩=some (isWs 34,hs P fl wl s f n pb (some false)) from cmpW).symm▸?_
 refine (show isWs 34=false by rfl).symm▸?_
 dsimp only
 refine (if_neg Bool.false_ne_true).symm▸?_
 show seqF (λσ=>match cmpX .Eq (nameF 3) (sC [34]) σ with
  | some (b,hp)=>if b=true then seqF (forC BQ) nextF ⟨σ.loc,hp⟩ else _
  | none=>none) nextF _=_
 rw [seq_id]
 rw [show cmpX .Eq (nameF 3) (sC [34]) ⟨LTo tok (some (.dat (.str ⟨⟨[34]⟩⟩))),hs P fl wl s f n pb (some false)⟩=some ((34:Nat)==34,hs P fl wl s f n pb (some false)) from cmp3 34]
 dsimp only
 rw [if_pos (by rfl),seq_id,forC_eq]
theorem BO_bare {σ':St} (h:isWs c=false) (h34:c≠34) (he:escX ⟨LT tok [c],hs P fl wl s f n pb (some false)⟩=some (.next,σ')) :
  BO ⟨LTo tok (some (.dat (.str ⟨⟨[c]⟩⟩))),hs P fl wl s f n pb (some false)⟩=seqF (augF 1 .Add (nameF 3)) (seqF (forC BW) nextF) σ':=by
 unfold BO
 rw [seqF]
 unfold ifF
 rw [show cmpX .In (nameF 3) (bindE (nameF 0) (attrOf 97 2)) ⟨LTo tok (some (.dat (.str ⟨⟨[c]⟩⟩))),hs P fl wl s f n pb (some false)⟩=some (isWs c,hs P fl wl s f n pb (some false)) from cmpW,h]
 dsimp only
 rw [if_neg Bool.false_ne_true]
 show seqF (λσ=>match cmpX .Eq (nameF 3) (sC [34]) σ with
  | some (b,hp)=>if b=true then _ else seqF escX (seqF (augF 1 .Add (nameF 3)) (seqF (forC BW) nextF)) ⟨σ.loc,hp⟩
  | none=>none) nextF _=_
 rw [seq_id]
 rw [show cmpX .Eq (nameF 3) (sC [34]) ⟨LTo tok (some (.dat (.str ⟨⟨[c]⟩⟩))),hs P fl wl s f n pb (some false)⟩=some (c==34,hs P fl wl s f n pb (some false)) from cmp3 34]
 rw [show (c==34)=false by simpa using h34]
 dsimp only
 rw [if_neg Bool.false_ne_true]
 exact seq_next he
theorem loopO:∀(k:Nat) (s:List Nat) (o:Option PV) (f:Bool) (n:Int) (m:Nat),s.length≤k->s.length+1 < m->s.length+2 < lim ->
  Rt P fl wl pb (n+(s.count 10:Nat)) (goT s) (forF ST (setL 3) BO m (.trk 5 0) ⟨LTo [] o,hs P fl wl s f n pb (some false)⟩)
 | _,[],o,f,n,m+1,_,_,_=>by
  refine ⟨o,f,?_⟩
  rw [forF_done step_nil]
  simp
 | k+1,[c],o,f,n,m+1,hk,hm,hl=>by
  have hst:=step_cons (P:=P) (fl:=fl) (wl:=wl) (pb:=pb) (c:=c) (r:=[]) (f:=f) (n:=n) (by decide)
  have hN:(if c=10 then n+1 else n)=n+([c].count 10:Nat):=by have:=cntC (c:=c) (r:=[]) (n:=n); simpa using this
  have hm':0 < m:=by simp at hm; lia
  rw [goT]
  cases hw:isWs c with
  | true =>
   refine (if_pos rfl).symm▸?_
   obtain ⟨m,rfl⟩:∃m',m=m'+1:=⟨m - 1,by (exact (Nat.sub_add_cancel (by assumption)).symm)⟩
   rw [forF_cont hst rfl (BO_ws hw),forF_done step_nil,hN]
   exact ⟨_,_,rfl⟩
  | false =>
   refine (if_neg Bool.false_ne_true).symm▸?_
   by_cases h34:c=34
   ·subst h34
    refine (if_pos rfl).symm▸?_
    refine Rz.outer hst rfl ?_ hm'
    skip
    refine BO_quote.symm▸?_
    have:=loopQ (P:=P) (fl:=fl) (wl:=wl) (pb:=pb) 0 [] [] [34] (f||(34:Nat)==10) (if (34:Nat)=10 then n+1 else n) (fuelL (hs P fl wl [] (f||(34:Nat)==10) (if (34:Nat)=10 then n+1 else n) pb (some false))) (Nat.le_refl _) (by have:=fuel_hs (P:=P) (fl:=fl) (wl:=wl) (pb:=pb) (s:=[]) (f:=f||(34:Nat)==10) (n:=if (34:Nat)=10 then n+1 else n) (t:=some false); simp at this ⊢; (exact Nat.succ_pos _)) (by decide) (by decide)
    simpa [goQ] using this
   ·refine (if_neg h34).symm▸?_
    by_cases h92:c=92
    ·subst h92
     refine (if_pos rfl).symm▸?_
     refine Rz.outer hst rfl ?_ hm'
     show Rz P fl wl pb _ _ (BO ⟨LTo [] (some (.dat (.str ⟨⟨[92]⟩⟩))),_⟩)
     rw [BO_bare hw h34 esc_nil,seq_next (aug1 (by decide)),seq_id,← hN]
     show Rz P fl wl pb _ _ (forF ST (setL 3) BW _ (.trk 5 0) _)
     have:=loopW (P:=P) (fl:=fl) (wl:=wl) (pb:=pb) 0 [] [] [] (f||(92:Nat)==10) (if (92:Nat)=10 then n+1 else n) (fuelL (hs P fl wl [] (f||(92:Nat)==10) (if (92:Nat)=10 then n+1 else n) pb (some false))) (Nat.le_refl _) (by have:=fuel_hs (P:=P) (fl:=fl) (wl:=wl) (pb:=pb) (s:=[]) (f:=f||(92:Nat)==10) (n:=if (92:Nat)=10 then n+1 else n) (t:=some false); simp at this ⊢; (exact Nat.succ_pos _)) (by decide) (by decide)
     simpa [goW] using this
    ·refine (if_neg h92).symm▸?_
     refine Rz.outer hst rfl ?_ hm'
     show Rz P fl wl pb _ _ (BO ⟨LTo [] (some (.dat (.str ⟨⟨[c]⟩⟩))),_⟩)
     rw [BO_bare hw h34 (esc_no h92),seq_next (aug1 (by show 0+1≤lim; decide)),seq_id,← hN]
     show Rz P fl wl pb _ _ (forF ST (setL 3) BW _ (.trk 5 0) _)
     have:=loopW (P:=P) (fl:=fl) (wl:=wl) (pb:=pb) 0 [] [c] [c] (f||c==10) (if c=10 then n+1 else n) (fuelL (hs P fl wl [] (f||c==10) (if c=10 then n+1 else n) pb (some false))) (Nat.le_refl _) (by have:=fuel_hs (P:=P) (fl:=fl) (wl:=wl) (pb:=pb) (s:=[]) (f:=f||c==10) (n:=if c=10 then n+1 else n) (t:=some false); simp at this ⊢; (exact Nat.succ_pos _)) (by decide) (by show 1+0≤lim; decide)
     simpa [goW] using this
 | k+1,c::d::r,o,f,n,m+1,hk,hm,hl=>by
  simp only [List.length_cons] at hk hm hl
  have hst:=step_cons (P:=P) (fl:=fl) (wl:=wl) (pb:=pb) (c:=c) (r:=d::r) (f:=f) (n:=n) (by simp; lia)
  have hm':0 < m:=by lia
  rw [goT]
  cases hw:isWs c with
  | true =>
   rw [if_pos rfl,forF_cont hst rfl (BO_ws hw)]
   have ih:=loopO k (d::r) (some (.dat (.str ⟨⟨[c]⟩⟩))) (f||c==10) (if c=10 then n+1 else n) m (by simp; (exact Nat.le_of_lt_succ (by assumption))) (by simp; (exact Nat.le_of_lt_succ (by assumption))) (by simp; (exact Nat.le_of_lt (by assumption)))
   replace ih:=cntC▸ih
   exact ih
  | false =>
   refine (if_neg Bool.false_ne_true).symm▸?_
   by_cases h34:c=34
   ·subst h34
    refine (if_pos rfl).symm▸?_
    refine Rz.outer hst rfl ?_ hm'
    skip
    refine BO_quote.symm▸?_
    have:=loopQ (P:=P) (fl:=fl) (wl:=wl) (pb:=pb) (r.length+1) (d::r) [] [34] (f||(34:Nat)==10) (if (34:Nat)=10 then n+1 else n) (fuelL (hs P fl wl (d::r) (f||(34:Nat)==10) (if (34:Nat)=10 then n+1 else n) pb (some false))) (by simp) (by have:=fuel_hs (P:=P) (fl:=fl) (wl:=wl) (pb:=pb) (s:=d::r) (f:=f||(34:Nat)==10) (n:=if (34:Nat)=10 then n+1 else n) (t:=some false); (exact Nat.le_of_lt (by assumption))) (by simp; lia) (by simp; (exact Nat.lt_of_le_of_lt (Nat.le_add_right _ _) (by assumption)))
    replace this:=cntC▸this
    exact this
   ·refine (if_neg h34).symm▸?_
    by_cases h92:c=92
    ·subst h92
     refine (if_pos rfl).symm▸?_
     refine Rz.outer hst rfl ?_ hm'
     show Rz P fl wl pb _ _ (BO ⟨LTo [] (some (.dat (.str ⟨⟨[92]⟩⟩))),_⟩)
     rw [BO_bare hw h34 (esc_cons (by (exact Nat.lt_of_le_of_lt (Nat.le_add_right _ _) (by assumption)))),seq_next (aug1 (by show 0+1≤lim; decide)),seq_id]
     have:=loopW (P:=P) (fl:=fl) (wl:=wl) (pb:=pb) r.length r [d] [d] (f||(92:Nat)==10||d==10) (if d=10 then (if (92:Nat)=10 then n+1 else n)+1 else (if (92:Nat)=10 then n+1 else n)) (fuelL (hs P fl wl r (f||(92:Nat)==10||d==10) (if d=10 then (if (92:Nat)=10 then n+1 else n)+1 else (if (92:Nat)=10 then n+1 else n)) pb (some false))) (Nat.le_refl _) (by have:=fuel_hs (P:=P) (fl:=fl) (wl:=wl) (pb:=pb) (s:=r) (f:=f||(92:Nat)==10||d==10) (n:=if d=10 then (if (92:Nat)=10 then n+1 else n)+1 else (if (92:Nat)=10 then n+1 else n)) (t:=some false); (exact Nat.le_of_lt (by assumption))) (by (exact Nat.lt_of_le_of_lt (Nat.le_add_right _ _) (by assumption))) (by simp; lia)
     rw [cntC,if_neg (by decide)] at this
     refine (show ((92::d::r).count 10:Nat)=((d::r).count 10:Nat) by rw [List.count_cons]; simp).symm▸?_
     exact this
    ·refine (if_neg h92).symm▸?_
     refine Rz.outer hst rfl ?_ hm'
     show Rz P fl wl pb _ _ (BO ⟨LTo [] (some (.dat (.str ⟨⟨[c]⟩⟩))),_⟩)
     rw [BO_bare hw h34 (esc_no h92),seq_next (aug1 (by show 0+1≤lim; decide)),seq_id]
     have:=loopW (P:=P) (fl:=fl) (wl:=wl) (pb:=pb) (r.length+1) (d::r) [c] [c] (f||c==10) (if c=10 then n+1 else n) (fuelL (hs P fl wl (d::r) (f||c==10) (if c=10 then n+1 else n) pb (some false))) (by simp) (by have:=fuel_hs (P:=P) (fl:=fl) (wl:=wl) (pb:=pb) (s:=d::r) (f:=f||c==10) (n:=if c=10 then n+1 else n) (t:=some false); (exact Nat.le_of_lt (by assumption))) (by simp; lia) (by simp; lia)
     replace this:=cntC▸this
     exact this
end
section
variable {P:Addr} {fl f dn:Bool} {wl pb:List PyData} {s r tok ch:List Nat} {n:Int} {t:Option Bool} {c:Nat} {d:PyData}
theorem trunc_hs {v:PyData} {o:Bool}:trunc 5 (.dat v) (hs P fl wl s f n pb (some o))=some (.dat v,hs P fl wl s f n pb none):=by
 cases f<;>rfl
theorem get_text (hl:s.length+2 < lim):∃f' n',F_L_get_token [.obj 3] (hs P fl wl s f n [] none)=some (.dat (.str ⟨⟨(goT s).1⟩⟩),hs P fl wl ((goT s).2.getD []) f' n' [] none)∧n'+(((goT s).2.getD []).count 10:Nat)=n+(s.count 10:Nat):=by
 have h:=loopO (P:=P) (fl:=fl) (wl:=wl) (pb:=[]) s.length s none f n (fuelL (hs P fl wl s f n [] (some false))) (Nat.le_refl _) (by have:=fuel_hs (P:=P) (fl:=fl) (wl:=wl) (pb:=[]) (s:=s) (f:=f) (n:=n) (t:=some false); assumption) hl
 have hBT:BT ⟨argLoc [.obj 3] 3,hs P fl wl s f n [] none⟩=seqF (λσ=>forF ST (setL 3) BO (fuelL (hs P fl wl s f n [] (some false))) (.trk 5 0) σ) (seqF (retX (nameF 1)) nextF) ⟨LTo [] none,hs P fl wl s f n [] (some false)⟩:=by
  have h1:ifF (bindE (bindE (nameF 0) (attrOf 97 3)) trV) (seqF (retX (popF (bindE (nameF 0) (attrOf 97 3)) true)) nextF) nextF ⟨argLoc [.obj 3] 3,hs P fl wl s f n [] none⟩=some (.next,⟨argLoc [.obj 3] 3,hs P fl wl s f n [] none⟩):=by
   cases f<;>rfl
  have h2:bindX (iterF (nameF 0) 97 80 "_read_char") (setF 2) ⟨[some (.obj 3),some (.dat (.str ⟨⟨[]⟩⟩)),none,none],hs P fl wl s f n [] none⟩=some (.next,⟨LTo [] none,hs P fl wl s f n [] (some false)⟩):=by
   unfold bindX
   have:iterF (nameF 0) 97 80 "_read_char" ⟨[some (.obj 3),some (.dat (.str ⟨⟨[]⟩⟩)),none,none],hs P fl wl s f n [] none⟩=some (.obj 5,hs P fl wl s f n [] (some false)):=by
    show (if insOf 97 "_read_char" 3 (hs P fl wl s f n [] none) then some (PV.obj 5,hs P fl wl s f n [] none++[.cit 3 80 false]) else none)=_
    rw [show insOf 97 "_read_char" 3 (hs P fl wl s f n [] none)=true by cases f<;>kernel_rfl,if_pos rfl]
    rfl
   rw [this]; rfl
  unfold BT
  refine (seq_next h1).symm▸?_
  rw [seq_next (σ':=⟨[some (.obj 3),some (.dat (.str ⟨⟨[]⟩⟩)),none,none],hs P fl wl s f n [] none⟩) rfl,seq_next h2]
  rfl
 refine get_token_eq.symm▸?_
 unfold fnF
 refine hBT.symm▸?_
 revert h
 generalize goT s=x
 obtain ⟨t',o⟩:=x
 cases o with
 | some r =>
  rintro ⟨o,f',n',e,hn⟩
  refine ⟨f',n',?_,hn⟩
  refine (seq_ret e).symm▸?_
  skip
  exact trunc_hs
 | none =>
  rintro ⟨o,f',e⟩
  refine ⟨f',n+(s.count 10:Nat),?_,by simp⟩
  rw [seq_next e,seq_id]
  skip
  exact trunc_hs
theorem get_pb (hl:pb.length < lim):F_L_get_token [.obj 3] (hs P fl wl s f n (d::pb) none)=some (.dat d,hs P fl wl s f n pb none):=by
 have hp:∀hp:List MO,popAt 4 0 (d::pb) hp=some (.dat d,hp.set 4 (.lst pb)):=λhp=>by
  unfold popAt
  rw [if_pos (by show pb.length+1≤lim; assumption)]
  rfl
 have ht:trD (.list (d::pb))=some true:=by
  show (if (d::pb).length≤lim then some ((d::pb).length != 0) else none)=_
  rw [if_pos (by show pb.length+1≤lim; assumption)]
  rfl
 have h1:bindE (bindE (nameF 0) (attrOf 97 3)) trV ⟨argLoc [.obj 3] 3,hs P fl wl s f n (d::pb) none⟩=some (true,hs P fl wl s f n (d::pb) none):=by
  have:bindE (bindE (nameF 0) (attrOf 97 3)) trV ⟨argLoc [.obj 3] 3,hs P fl wl s f n (d::pb) none⟩=(match trD (.list (d::pb)) with
   | some b=>some (b,hs P fl wl s f n (d::pb) none)
   | none=>none):=by cases f<;>rfl
  rw [this,ht]
 have h2:popF (bindE (nameF 0) (attrOf 97 3)) true ⟨argLoc [.obj 3] 3,hs P fl wl s f n (d::pb) none⟩=some (.dat d,hs P fl wl s f n pb none):=by
  have:popF (bindE (nameF 0) (attrOf 97 3)) true ⟨argLoc [.obj 3] 3,hs P fl wl s f n (d::pb) none⟩=popAt 4 0 (d::pb) (hs P fl wl s f n (d::pb) none):=by cases f<;>rfl
  rw [this,hp]; rfl
 rw [get_token_eq]
 unfold fnF
 have hB:BT ⟨argLoc [.obj 3] 3,hs P fl wl s f n (d::pb) none⟩=some (.ret (.dat d),⟨argLoc [.obj 3] 3,hs P fl wl s f n pb none⟩):=by
  unfold BT
  refine seq_ret ?_
  unfold ifF
  rw [h1]
  dsimp only
  rw [if_pos rfl,seq_id]
  unfold retX bindX
  rw [h2]
 rw [hB]
 show trunc 5 _ _=_
 cases f<;>rfl
theorem push_tok (hl:pb.length≤lim):F_L_push_token [.obj 3,.dat d] (hs P fl wl s f n pb none)=some (.dat .none,hs P fl wl s f n (pb++[d]) none):=by
 have hA:∀hp:List MO,hp[4]?=some (.lst pb)->appF 4 (.dat d) ⟨argLoc [.obj 3,.dat d] 0,hp⟩=some (.dat .none,hp.set 4 (.lst (pb++[d]))):=λhp h=>by
  unfold appF
  dsimp only
  rw [h]
  dsimp only
  rw [if_pos hl]
 unfold F_L_push_token fnF
 have hB:X_L_push_token.1 ⟨argLoc [.obj 3,.dat d] 0,hs P fl wl s f n pb none⟩=some (.next,⟨argLoc [.obj 3,.dat d] 0,hs P fl wl s f n (pb++[d]) none⟩):=by
  have e1:appendF (bindE (nameF 0) (attrOf 97 3)) (nameF 1) ⟨argLoc [.obj 3,.dat d] 0,hs P fl wl s f n pb none⟩=some (.dat .none,hs P fl wl s f n (pb++[d]) none):=by
   have:appendF (bindE (nameF 0) (attrOf 97 3)) (nameF 1) ⟨argLoc [.obj 3,.dat d] 0,hs P fl wl s f n pb none⟩=appF 4 (.dat d) ⟨argLoc [.obj 3,.dat d] 0,hs P fl wl s f n pb none⟩:=by cases f<;>rfl
   rw [this,hA _ rfl]; rfl
  show seqF (bindX (appendF (bindE (nameF 0) (attrOf 97 3)) (nameF 1)) _) nextF _=_
  refine seq_next ?_
  unfold bindX
  exact e1.symm▸rfl
 refine hB.symm▸?_
 show trunc 5 _ _=_
 cases f<;>rfl
theorem lexer_ok (hl:s.length≤lim):F_law_lexer [.dat (.str ⟨⟨s⟩⟩)] [.tab 186 true,.lst wl]=some (.obj 3,hs 186 false wl s false 1 [] none):=by
 have h0:trkF (bindE (nameF 0) (map1 B1.list.f)) ⟨argLoc [.dat (.str ⟨⟨s⟩⟩)] 2,[.tab 186 true,.lst wl]⟩=some (.obj 2,[.tab 186 true,.lst wl,.lst (chars s)]):=by
  have:trkF (bindE (nameF 0) (map1 B1.list.f)) ⟨argLoc [.dat (.str ⟨⟨s⟩⟩)] 2,[.tab 186 true,.lst wl]⟩=(match (match (if s.length≤lim then some (PyData.list (chars s)) else none) with
   | some d=>some (d,[MO.tab 186 true,MO.lst wl])
   | none=>none) with
   | some (.list l,hp)=>some (PV.obj hp.length,hp++[.lst l])
   | _=>none):=rfl
  rw [this,if_pos hl]; rfl
 unfold F_law_lexer fnF
 have hB:X_law_lexer.1 ⟨argLoc [.dat (.str ⟨⟨s⟩⟩)] 2,[.tab 186 true,.lst wl]⟩=some (.ret (.obj 3),⟨[some (.dat (.str ⟨⟨s⟩⟩)),some (.obj 2),some (.strm 2)],hs 186 false wl s false 1 [] none⟩):=by
  show seqF (bindX (trkF (bindE (nameF 0) (map1 B1.list.f))) (setF 1)) _ _=_
  have h1:bindX (trkF (bindE (nameF 0) (map1 B1.list.f))) (setF 1) ⟨argLoc [.dat (.str ⟨⟨s⟩⟩)] 2,[.tab 186 true,.lst wl]⟩=some (.next,⟨[some (.dat (.str ⟨⟨s⟩⟩)),some (.obj 2),none],[.tab 186 true,.lst wl,.lst (chars s)]⟩):=by
   unfold bindX
   rw [h0]; rfl
  rw [seq_next h1]
  rfl
 rw [hB]
 rfl
end
noncomputable def lenX (a:EF):NF:=bindE a (map1 B1.len.f)
noncomputable def BWs:XF:=seqF (bindX (datF (binX .Add (nameF 6) (iC 1))) (setF 6)) (seqF (bindX (datF (binX .Add (nameF 5) (iC 1))) (setF 5)) nextF)
noncomputable def BWg:XF:=bindX (trkF (binX .Add (nameF 4) (datF (binX .Mult (datF (listF (consL (iC 0) nilL))) (datF (binX .Add (datF (binX .Sub (nameF 5) (datF (lenX (nameF 4))))) (iC 1))))))) (setF 4)
noncomputable def BWe:XF:=setItX (datF (binX .Add (bindE (nameF 4) λa=>bindE (nameF 5) λb=>itemF a b) (iC 1))) (nameF 4) (nameF 5)
noncomputable def BWt:XF:=seqF (bindX (datF (binX .Add (nameF 6) (iC 1))) (setF 6)) (seqF (bindX (datF (binX .Add (nameF 7) (iC 1))) (setF 7))
 (seqF (ifF (cmpX .GtE (nameF 5) (datF (lenX (nameF 4)))) (seqF BWg nextF) nextF) (seqF BWe (seqF (bindX (iC 0) (setF 5)) nextF))))
noncomputable def BWh:XF:=seqF (ifF (cmpX .Eq (nameF 8) (nameF 2)) BWs (seqF (ifF (cmpX .Eq (nameF 8) (nameF 3)) BWt (seqF (λσ=>some (.brk,σ)) nextF)) nextF)) nextF
noncomputable def BWa:XF:=seqF (setAttrX (nameF 0) (nameF 6) 180 5) (seqF (setAttrX (nameF 0) (nameF 7) 180 6)
 (seqF (setAttrX (nameF 0) (datF (tupF (consL (datF (bindE (nameF 4) (map1 B1.tuple.f))) (consL (nameF 5) nilL)))) 180 7)
 (seqF (setAttrX (nameF 0) (datF (bindE (datF (lenX (nameF 4))) λa=>bindE (iC 1) λb=>map2 (λx y=>(cmpD .LtE x y).map .bool) a b)) 180 8) nextF)))
noncomputable def BWx:XF:=seqF (setAttrX (nameF 0) (nameF 1) 180 4) (seqF (tupRX [2,3] (consL (sC [32]) (consL (sC [9]) nilL))) (seqF (bindX (trkF (listF nilL)) (setF 4)) (seqF (set3 5 6 7 (iC 0))
 (seqF (bindI (srcF (bindE (nameF 0) (attrOf 180 4))) λis n=>forF stepI (setL 8) BWh n is) BWa))))
theorem W_init_eq:F_W_init=fnF 2 7 false BWx:=rfl
noncomputable def cntP (c:List Nat):List PyData:=c.map λ(k:Nat)=>.int ((k:Nat):Int)
noncomputable def LWs (i:Nat) (s:List Nat) (j:Nat) (b n nt:Int) (ch:Option PV):Loc:=[some (.obj i),some (.dat (.str ⟨⟨s⟩⟩)),some (.dat (.str ⟨⟨[32]⟩⟩)),some (.dat (.str ⟨⟨[9]⟩⟩)),some (.obj j),some (.dat (.int b)),some (.dat (.int n)),some (.dat (.int nt)),ch]
noncomputable def tabV:Option PV:=some (.dat (.str ⟨⟨[9]⟩⟩))
noncomputable def spcV:Option PV:=some (.dat (.str ⟨⟨[32]⟩⟩))
noncomputable def padC (c:List Nat) (b:Nat):List Nat:=if b < c.length then c else c++List.replicate (b - c.length+1) 0
noncomputable def addC (c:List Nat) (b:Nat):List Nat:=(padC c b).set b ((padC c b)[b]?.getD 0+1)
section
variable {i j:Nat} {s c:List Nat} {b:Nat} {n nt:Int} {ch:Option PV} {hp:List MO}
theorem BWh_s {b:Int}:BWh ⟨LWs i s j b n nt spcV,hp⟩=some (.next,⟨LWs i s j (b+1) (n+1) nt spcV,hp⟩):=rfl
theorem BWh_t:BWh ⟨LWs i s j b n nt tabV,hp⟩=BWt ⟨LWs i s j b n nt tabV,hp⟩:=by
 unfold BWh
 rw [seq_id]
 show seqF (ifF (cmpX .Eq (nameF 8) (nameF 3)) BWt _) nextF _=_
 rw [seq_id]
 rfl
theorem cntP_len:(cntP c).length=c.length:=by simp [cntP]
theorem cntP_get (h:b < c.length):(cntP c)[b]?=some (.int ((c[b]?.getD 0:Nat):Int)):=by
 simp [cntP,h]
theorem rd_cnt (hj:hp[j]?=some (.lst (cntP c))):rd hp (.obj j)=some (.list (cntP c)):=by
 show (match hp[j]? with
  | some (.lst l)=>some (PyData.list l)
  | _=>none)=_
 exact hj.symm▸rfl
theorem len_cnt {b:Int} (hj:hp[j]?=some (.lst (cntP c))) (hl:c.length≤lim):lenX (nameF 4) ⟨LWs i s j b n nt ch,hp⟩=some (.int c.length,hp):=by
 show (match rd hp (.obj j) with
  | some x=>match lenD x with
   | some d=>some (d,hp)
   | none=>none
  | none=>none)=_
 rw [rd_cnt hj]
 show (match (if (cntP c).length≤lim then some (PyData.int (cntP c).length) else none) with
  | some d=>some (d,hp)
  | none=>none)=_
 exact cntP_len.symm▸(if_pos hl).symm▸rfl
theorem ge_cnt (hj:hp[j]?=some (.lst (cntP c))) (hl:c.length≤lim):cmpX .GtE (nameF 5) (datF (lenX (nameF 4))) ⟨LWs i s j b n nt ch,hp⟩=some (decide (c.length≤b),hp):=by
 have h1:datF (lenX (nameF 4)) ⟨LWs i s j b n nt ch,hp⟩=some (.dat (.int c.length),hp):=by
  unfold datF; rw [len_cnt hj hl]
 show (match datF (lenX (nameF 4)) ⟨LWs i s j b n nt ch,hp⟩ with
  | some (v,hp')=>cmpT .GtE (.dat (.int b)) v ⟨LWs i s j b n nt ch,hp'⟩
  | none=>none)=_
 refine h1.symm▸?_
 show (match cmpD .GtE (.int b) (.int c.length) with
  | some d=>some (d,hp)
  | none=>none)=_
 show some (decide ((c.length:Int)≤(b:Int)),hp)=_
 congr 2
 simp
theorem flat_zero:∀k:Nat,(List.replicate k ([PyData.int 0]:List PyData)).flatten=cntP (List.replicate k 0)
 | 0=>rfl
 | k+1=>by
  refine List.replicate_succ.symm▸List.flatten_cons.symm▸(flat_zero k).symm▸?_
  rfl
theorem BWg_ok (hj:hp[j]?=some (.lst (cntP c))) (hl:c.length≤b) (hb:b+1≤lim):BWg ⟨LWs i s j b n nt ch,hp⟩=some (.next,⟨LWs i s hp.length b n nt ch,hp++[.lst (cntP (padC c b))]⟩):=by
 have h1:datF (lenX (nameF 4)) ⟨LWs i s j b n nt ch,hp⟩=some (.dat (.int c.length),hp):=by
  unfold datF; rw [len_cnt hj (by (exact Nat.le_trans (by assumption) (Nat.le_of_lt (by assumption))))]
 have h2:datF (binX .Sub (nameF 5) (datF (lenX (nameF 4)))) ⟨LWs i s j b n nt ch,hp⟩=some (.dat (.int ((b:Int) - c.length)),hp):=by
  show (match (match datF (lenX (nameF 4)) ⟨LWs i s j b n nt ch,hp⟩ with
   | some (v,hp')=>map2 (binD .Sub) (.dat (.int b)) v ⟨LWs i s j b n nt ch,hp'⟩
   | none=>none) with
   | some (d,hp)=>some (PV.dat d,hp)
   | none=>none)=_
  rw [h1]; rfl
 have h3:datF (binX .Add (datF (binX .Sub (nameF 5) (datF (lenX (nameF 4))))) (iC 1)) ⟨LWs i s j b n nt ch,hp⟩=some (.dat (.int ((b:Int) - c.length+1)),hp):=by
  show (match (match datF (binX .Sub (nameF 5) (datF (lenX (nameF 4)))) ⟨LWs i s j b n nt ch,hp⟩ with
   | some (v,hp')=>map2 (binD .Add) v (.dat (.int 1)) ⟨LWs i s j b n nt ch,hp'⟩
   | none=>none) with
   | some (d,hp)=>some (PV.dat d,hp)
   | none=>none)=_
  rw [h2]; rfl
 have e1:((b:Int) - c.length+1).toNat=b - c.length+1:=by lia
 have h4:datF (binX .Mult (datF (listF (consL (iC 0) nilL))) (datF (binX .Add (datF (binX .Sub (nameF 5) (datF (lenX (nameF 4))))) (iC 1)))) ⟨LWs i s j b n nt ch,hp⟩=some (.dat (.list (cntP (List.replicate (b - c.length+1) 0))),hp):=by
  show (match (match datF (binX .Add (datF (binX .Sub (nameF 5) (datF (lenX (nameF 4))))) (iC 1)) ⟨LWs i s j b n nt ch,hp⟩ with
   | some (v,hp')=>map2 (binD .Mult) (.dat (.list [.int 0])) v ⟨LWs i s j b n nt ch,hp'⟩
   | none=>none) with
   | some (d,hp)=>some (PV.dat d,hp)
   | none=>none)=_
  rw [h3]
  show (match (match (if ([PyData.int 0]:List PyData).length*((b:Int) - c.length+1).toNat≤lim∧((b:Int) - c.length+1).natAbs≤lim then some (PyData.list (List.replicate ((b:Int) - c.length+1).toNat ([PyData.int 0]:List PyData)).flatten) else none) with
   | some d=>some (d,hp)
   | none=>none) with
   | some (d,hp)=>some (PV.dat d,hp)
   | none=>none)=_
  rw [if_pos ⟨by rw [e1]; show 1*_≤_; lia,by lia⟩,e1,flat_zero]
 have h5:trkF (binX .Add (nameF 4) (datF (binX .Mult (datF (listF (consL (iC 0) nilL))) (datF (binX .Add (datF (binX .Sub (nameF 5) (datF (lenX (nameF 4))))) (iC 1)))))) ⟨LWs i s j b n nt ch,hp⟩=some (.obj hp.length,hp++[MO.lst (cntP (padC c b))]):=by
  show (match (match datF (binX .Mult (datF (listF (consL (iC 0) nilL))) (datF (binX .Add (datF (binX .Sub (nameF 5) (datF (lenX (nameF 4))))) (iC 1)))) ⟨LWs i s j b n nt ch,hp⟩ with
   | some (v,hp')=>map2 (binD .Add) (.obj j) v ⟨LWs i s j b n nt ch,hp'⟩
   | none=>none) with
   | some (.list l,hp)=>some (PV.obj hp.length,hp++[MO.lst l])
   | _=>none)=_
  have h6:map2 (binD .Add) (.obj j) (.dat (.list (cntP (List.replicate (b - c.length+1) 0)))) ⟨LWs i s j b n nt ch,hp⟩=some (.list (cntP (padC c b)),hp):=by
   unfold map2
   rw [show rd (⟨LWs i s j b n nt ch,hp⟩:St).hp (.obj j)=some (.list (cntP c)) from rd_cnt hj]
   show (match (if (cntP c).length+(cntP (List.replicate (b - c.length+1) 0)).length≤lim then some (PyData.list (cntP c++cntP (List.replicate (b - c.length+1) 0))) else none) with
    | some d=>some (d,hp)
    | none=>none)=_
   rw [if_pos (by rw [cntP_len,cntP_len,List.length_replicate]; lia)]
   unfold padC
   rw [if_neg (by lia)]
   simp [cntP]
  rw [h4]
  dsimp only
  rw [h6]
 unfold BWg bindX
 rw [h5]
 rfl
theorem BWe_ok (hj:hp[j]?=some (.lst (cntP c))) (hb:b < c.length) (hl:c.length≤lim):BWe ⟨LWs i s j b n nt ch,hp⟩=some (.next,⟨LWs i s j b n nt ch,hp.set j (.lst (cntP (c.set b (c[b]?.getD 0+1))))⟩):=by
 have h1:(bindE (nameF 4) λa=>bindE (nameF 5) λb=>itemF a b) ⟨LWs i s j b n nt ch,hp⟩=some (.dat (.int ((c[b]?.getD 0:Nat):Int)),hp):=by
  show itemF (.obj j) (.dat (.int b)) ⟨LWs i s j b n nt ch,hp⟩=_
  unfold itemF
  rw [show rd (⟨LWs i s j b n nt ch,hp⟩:St).hp (.obj j)=some (.list (cntP c)) from rd_cnt hj]
  show (match (if (b:Int).natAbs≤lim then idx (cntP c) (b:Int) else none) with
   | some d=>some (PV.dat d,hp)
   | none=>none)=_
  rw [if_pos (by show b≤lim; (exact Nat.le_trans (Nat.le_of_lt (by assumption)) (by assumption)))]
  have:idx (cntP c) (b:Int)=(cntP c)[b]?:=by
   unfold idx
   rw [if_neg (by lia)]
   rfl
  rw [this,cntP_get hb]
 have h2:datF (binX .Add (bindE (nameF 4) λa=>bindE (nameF 5) λb=>itemF a b) (iC 1)) ⟨LWs i s j b n nt ch,hp⟩=some (.dat (.int (((c[b]?.getD 0+1:Nat)):Int)),hp):=by
  show (match (match (bindE (nameF 4) λa=>bindE (nameF 5) λb=>itemF a b) ⟨LWs i s j b n nt ch,hp⟩ with
   | some (v,hp')=>map2 (binD .Add) v (.dat (.int 1)) ⟨LWs i s j b n nt ch,hp'⟩
   | none=>none) with
   | some (d,hp)=>some (PV.dat d,hp)
   | none=>none)=_
  rw [h1]; rfl
 unfold BWe setItX bindX
 rw [h2]
 show (match hp[j]? with
  | some (.lst l)=>if 0≤(b:Int)∧(b:Int).toNat < l.length∧l.length≤lim then some (Fl.next,(⟨LWs i s j b n nt ch,hp.set j (.lst (l.set (b:Int).toNat (.int (((c[b]?.getD 0+1:Nat)):Int))))⟩:St)) else none
  | _=>none)=_
 rw [hj]
 dsimp only
 rw [if_pos ⟨by (exact Int.natCast_nonneg _),by rw [cntP_len]; simpa using hb,by rw [cntP_len]; exact hl⟩]
 have:(cntP c).set (b:Int).toNat (.int (((c[b]?.getD 0+1:Nat)):Int))=cntP (c.set b (c[b]?.getD 0+1)):=by
  skip
  simp [cntP,List.map_set]
 rw [this]
theorem BWt_old (hj:hp[j]?=some (.lst (cntP c))) (hb:b < c.length) (hl:c.length≤lim):BWt ⟨LWs i s j b n nt tabV,hp⟩=some (.next,⟨LWs i s j 0 (n+1) (nt+1) tabV,hp.set j (.lst (cntP (addC c b)))⟩):=by
 unfold BWt
 rw [seq_next (σ':=⟨LWs i s j b (n+1) nt tabV,hp⟩) rfl,seq_next (σ':=⟨LWs i s j b (n+1) (nt+1) tabV,hp⟩) rfl]
 rw [seq_next (σ':=⟨LWs i s j b (n+1) (nt+1) tabV,hp⟩) (by
  unfold ifF
  rw [ge_cnt hj hl,decide_eq_false (by lia)]
  rfl)]
 rw [seq_next (BWe_ok hj hb hl)]
 have:addC c b=c.set b (c[b]?.getD 0+1):=by unfold addC padC; rw [if_pos hb]
 rw [this]
 rfl
theorem padC_len (h:c.length≤b):(padC c b).length=b+1:=by
 unfold padC
 rw [if_neg (by lia),List.length_append,List.length_replicate]
 (exact ar8 (by assumption))
theorem BWt_new (hj:hp[j]?=some (.lst (cntP c))) (hb:c.length≤b) (hl:b+1≤lim):BWt ⟨LWs i s j b n nt tabV,hp⟩=some (.next,⟨LWs i s hp.length 0 (n+1) (nt+1) tabV,hp++[.lst (cntP (addC c b))]⟩):=by
 unfold BWt
 rw [seq_next (σ':=⟨LWs i s j b (n+1) nt tabV,hp⟩) rfl,seq_next (σ':=⟨LWs i s j b (n+1) (nt+1) tabV,hp⟩) rfl]
 rw [seq_next (σ':=⟨LWs i s hp.length b (n+1) (nt+1) tabV,hp++[.lst (cntP (padC c b))]⟩) (by
  unfold ifF
  rw [ge_cnt hj (by (exact Nat.le_trans (by assumption) (Nat.le_of_lt (by assumption)))),decide_eq_true (by assumption)]
  dsimp only
  rw [if_pos rfl,seq_id]
  exact BWg_ok hj hb hl)]
 have hj':(hp++[MO.lst (cntP (padC c b))])[hp.length]?=some (.lst (cntP (padC c b))):=by simp
 rw [seq_next (BWe_ok hj' (by rw [padC_len hb]; (exact Nat.le_refl _)) (by rw [padC_len hb]; exact hl))]
 have:(hp++[MO.lst (cntP (padC c b))]).set hp.length (.lst (cntP ((padC c b).set b ((padC c b)[b]?.getD 0+1))))=hp++[.lst (cntP (addC c b))]:=by
  rw [List.set_append_right _ _ (Nat.le_refl _)]
  simp [addC]
 rw [this]
 rfl
end
structure InvW (base:List MO) (i:Nat) (hp:List MO) (j:Nat) (c:List Nat) (ats:List (Nat×PV)):Prop where
 pre:hp.take (i+1)=base++[.ins 180 ats]
 bl:base.length=i
 lt:i < j
 at_:hp[j]?=some (.lst (cntP c))
noncomputable def runsL (runs:List Nat):List Nat:=(runs.map λr=>List.replicate r 32++[9]).flatten
noncomputable def cOf (runs c:List Nat):List Nat:=runs.foldl (λc r=>addC c r) c
section
variable {base:List MO} {i j m:Nat} {s c l:List Nat} {b r:Nat} {n nt:Int} {ch:Option PV} {hp:List MO} {ats:List (Nat×PV)}
theorem InvW.self (h:InvW base i hp j c ats):hp[i]?=some (.ins 180 ats):=by
 have h1:(hp.take (i+1))[i]?=hp[i]?:=by rw [List.getElem?_take]; simp
 rw [← h1,h.pre,List.getElem?_append_right (by rw [h.bl]; exact Nat.le_refl _),h.bl,Nat.sub_self]
 rfl
theorem InvW.jlt (h:InvW base i hp j c ats):j < hp.length:=(List.getElem?_eq_some_iff.mp h.at_).1
theorem InvW.setC {c':List Nat} (h:InvW base i hp j c ats):InvW base i (hp.set j (.lst (cntP c'))) j c' ats:=by
 refine ⟨?_,h.bl,h.lt,?_⟩
 ·rw [List.take_set,List.set_eq_of_length_le,h.pre]
  rw [List.length_take]; have:=h.lt; (exact Nat.le_trans (Nat.min_le_left _ _) (by assumption))
 ·rw [List.getElem?_set,if_pos rfl,if_pos h.jlt]
theorem InvW.newC {c':List Nat} (h:InvW base i hp j c ats):InvW base i (hp++[.lst (cntP c')]) hp.length c' ats:=by
 have:=h.jlt
 refine ⟨?_,h.bl,Nat.lt_trans h.lt this,by simp⟩
 rw [List.take_append_of_le_length (by have:=h.lt; (exact Nat.lt_trans (by assumption) (by assumption))),h.pre]
theorem InvW.setS (h:InvW base i hp j c ats) (ats':List (Nat×PV)):InvW base i (hp.set i (.ins 180 ats')) j c ats':=by
 refine ⟨?_,h.bl,h.lt,?_⟩
 ·rw [List.take_set,h.pre,List.set_append_right _ _ (by rw [h.bl]; exact Nat.le_refl _),h.bl,Nat.sub_self]
  rfl
 ·rw [List.getElem?_set,if_neg (by have:=h.lt; (exact Nat.ne_of_lt (by assumption)))]
  exact h.at_
theorem loopSp:∀(r:Nat) (b n:Int) (ch:Option PV),∃ch',forF stepI (setL 8) BWh (m+r) (.rem (chars (List.replicate r 32++l))) ⟨LWs i s j b n nt ch,hp⟩=forF stepI (setL 8) BWh m (.rem (chars l)) ⟨LWs i s j (b+r) (n+r) nt ch',hp⟩
 | 0,b,n,ch=>⟨ch,by simp⟩
 | r+1,b,n,ch=>by
  obtain ⟨ch',e⟩:=loopSp r (b+1) (n+1) spcV
  refine ⟨ch',?_⟩
  rw [List.replicate_succ,List.cons_append,← Nat.add_assoc]
  rw [forF_next (is':=.rem (chars (List.replicate r 32++l))) (d:=.str ⟨⟨[32]⟩⟩) (hp:=hp) (loc:=LWs i s j b n nt spcV) (σ_2:=⟨LWs i s j (b+1) (n+1) nt spcV,hp⟩) rfl rfl BWh_s,e]
  congr 3
  ·push_cast; lia
  ·push_cast; lia
theorem loopTab (h:InvW base i hp j c ats) (hb:b+1≤lim) (hc:c.length≤lim):∃j' hp',InvW base i hp' j' (addC c b) ats∧forF stepI (setL 8) BWh (m+1) (.rem (chars (9::l))) ⟨LWs i s j b n nt ch,hp⟩=forF stepI (setL 8) BWh m (.rem (chars l)) ⟨LWs i s j' 0 (n+1) (nt+1) tabV,hp'⟩:=by
 by_cases hlt:b < c.length
 ·refine ⟨j,_,h.setC,?_⟩
  rw [forF_next (is':=.rem (chars l)) (d:=.str ⟨⟨[9]⟩⟩) (hp:=hp) (loc:=LWs i s j b n nt tabV) rfl rfl (BWh_t.trans (BWt_old h.at_ hlt hc))]
 ·refine ⟨hp.length,_,h.newC,?_⟩
  rw [forF_next (is':=.rem (chars l)) (d:=.str ⟨⟨[9]⟩⟩) (hp:=hp) (loc:=LWs i s j b n nt tabV) rfl rfl (BWh_t.trans (BWt_new h.at_ (by (exact Nat.le_of_not_lt (by assumption))) hb))]
theorem addC_len:(addC c b).length=max c.length (b+1):=by
 unfold addC padC
 refine List.length_set.symm▸?_
 split
 ·lia
 ·rw [List.length_append,List.length_replicate]; lia
theorem loopRuns:∀(runs:List Nat) (j:Nat) (c:List Nat) (n nt:Int) (ch:Option PV) (hp:List MO),InvW base i hp j c ats->(∀r∈runs,r+1≤lim)->c.length≤lim->∃j' hp' ch',InvW base i hp' j' (cOf runs c) ats ∧
  forF stepI (setL 8) BWh (m+(runsL runs).length) (.rem (chars (runsL runs++l))) ⟨LWs i s j 0 n nt ch,hp⟩=forF stepI (setL 8) BWh m (.rem (chars l)) ⟨LWs i s j' 0 (n+(runsL runs).length) (nt+runs.length) ch',hp'⟩
 | [],j,c,n,nt,ch,hp,h,_,_=>⟨j,hp,ch,h,by simp [runsL]⟩
 | r::runs,j,c,n,nt,ch,hp,h,hr,hc=>by
  have e0:runsL (r::runs)=List.replicate r 32++(9::runsL runs):=by simp [runsL]
  refine cps λ_ KK=>?_
  obtain ⟨ch1,e1⟩:=loopSp (m:=m+(runsL runs).length+1) (l:=9::(runsL runs++l)) (i:=i) (s:=s) (j:=j) (nt:=nt) (hp:=hp) r 0 n ch
  obtain ⟨j2,hp2,h2,e2⟩:=loopTab (m:=m+(runsL runs).length) (l:=runsL runs++l) (s:=s) (n:=n+r) (nt:=nt) (ch:=ch1) (b:=r) h (hr r (List.mem_cons_self ..)) hc
  obtain ⟨j3,hp3,ch3,h3,e3⟩:=loopRuns runs j2 (addC c r) (n+r+1) (nt+1) tabV hp2 h2 (λx hx=>hr x (List.mem_cons_of_mem _ hx)) (by rw [addC_len]; have:=hr r (List.mem_cons_self ..); lia)
  refine KK ?_
  refine ⟨j3,hp3,ch3,h3,?_⟩
  have hlen:m+(List.replicate r 32++(9::runsL runs):List Nat).length=m+(runsL runs).length+1+r:=by simp; lia
  rw [e0,List.append_assoc,List.cons_append,hlen,e1]
  rw [show ((0:Int)+(r:Int))=(r:Int) by lia,e2,e3]
  congr 3
  ·simp; lia
  ·simp; lia
end
noncomputable abbrev sD (l:List Nat):PyData:=.str ⟨⟨l⟩⟩
theorem ok_str {l:List Nat} (h:∀c∈l,c < 0x110000):PyData.strOk (⟨⟨l⟩⟩:Str)=true:=by
 unfold PyData.strOk
 rw [← Array.all_toList,List.all_eq_true]
 exact λc hc=>decide_eq_true (h c hc)
theorem reD_eq {f:List Nat->List Nat} {l:List Nat} (h:4*l.length≤lim) (ho:∀c∈f l,c < 0x110000):reD f ⟨⟨l⟩⟩=some (.str ⟨⟨f l⟩⟩):=if_pos ⟨h,ok_str ho⟩
section
variable {F F1 F2:EF} {L:Loc} {hp hp1 hp2:List MO}
theorem subN_eq {r x:Str} {f:List Nat->List Nat} {d:PyData} (h1:F1 ⟨L,hp1⟩=some (.dat (.str r),hp2)) (h2:F2 ⟨L,hp2⟩=some (.dat (.str x),hp2)) (h3:reD f x=some d):datF (subNF r f F1 F2) ⟨L,hp1⟩=some (.dat d,hp2):=by
 unfold datF subNF bindE
 rw [h1]
 dsimp only
 rw [h2]
 dsimp only
 rw [if_pos rfl,h3]
theorem ret_eq {G:XF} {p:PV} (h:F ⟨L,hp1⟩=some (p,hp2)):seqF (retX F) G ⟨L,hp1⟩=some (.ret p,⟨L,hp2⟩):=by
 unfold seqF retX bindX
 exact h.symm▸rfl
theorem pur_eq {np N:Nat} {B:XF} {ps:List PV} {ds:List PyData} {d:PyData} {L':Loc} (hl:ps.length=np) (hd:dats ps=some ds) (h:B ⟨argLoc ps N,[]⟩=some (.ret (.dat d),⟨L',[]⟩)):purF (fnF np N false B) ps hp=some (.dat d,hp):=by
 unfold purF
 refine hd.symm▸?_
 unfold fnF
 dsimp only
 refine (if_pos (beq_iff_eq.mpr hl)).symm▸h.symm▸?_
 rfl
theorem add_le {x y:List Nat} {a b:Nat} (hx:x.length≤a) (hy:y.length≤b) (h:a+b≤lim):addD (.str ⟨⟨x⟩⟩) (.str ⟨⟨y⟩⟩)=some (.str ⟨⟨x++y⟩⟩):=add_str (Nat.le_trans (Nat.add_le_add hx hy) h)
theorem app_le {x y:List Nat} {a b:Nat} (hx:x.length≤a) (hy:y.length≤b):(x++y).length≤a+b:=by
 rw [List.length_append]; exact Nat.add_le_add hx hy
end
theorem quote_eq {l:List Nat} {hp:List MO} (h:4*l.length≤lim) (h2:4*(sub2L l).length≤lim) (ho2:∀c∈sub2L l,c < 0x110000) (ho1:∀c∈sub1L true (sub2L l),c < 0x110000) :
  F_quotedata [.dat (.str ⟨⟨l⟩⟩)] hp=some (.dat (.str ⟨⟨sub1L true (sub2L l)⟩⟩),hp) :=
 pur_eq rfl rfl (ret_eq (subN_eq (F1:=sC [46,46]) rfl (subN_eq (F1:=sC [13,10]) rfl (name_at rfl rfl) (reD_eq (f:=sub2L) h ho2)) (reD_eq (f:=sub1L true) (l:=sub2L l) h2 ho1)))
structure Vs where
 script:Option PV:=none
 begins:Option PV:=none
 numbers:Option PV:=none
 ends:Option PV:=none
 wins:Option PV:=none
 rows:Option PV:=none
 number:Option PV:=none
 pair:Option PV:=none
 verdict:Option PV:=none
 place:Option PV:=none
 k:Option PV:=none
 name:Option PV:=none
 won:Option PV:=none
 text:Option PV:=none
 lexer:Option PV:=none
 early:Option PV:=none
 tokens:Option PV:=none
 many:Option PV:=none
 turn:Option PV:=none
 mail:Option PV:=none
 word:Option PV:=none
 ways:Option PV:=none
 five:Option PV:=none
 lead:Option PV:=none
 three:Option PV:=none
noncomputable def Vs.loc (v:Vs):Loc:=[v.script,v.begins,v.numbers,v.ends,v.wins,v.rows,v.number,v.pair,v.verdict,v.place,v.k,v.name,v.won,v.text,v.lexer,v.early,v.tokens,v.many,v.turn,v.mail,v.word,v.ways,v.five,v.lead,v.three,
 none,none,none,none,none,none,none,none,none,none,none,none,none,none,none,none,none]
noncomputable def thingsL:List PyData:=[sD [],sD [92,40],sD [92,41],sD [92,92],sD [34,92,34,41,34],sD [92,34]]
noncomputable def marksL:List PyData:=[sD [40,41],sD [40,41,41,40],sD [40,40,41,41],sD [40,40,41],sD [40,41,40,41],sD [41,41,40,40]]
theorem match_val {n:Int} {hp:List MO} {t1 t2 m lo:List Nat} (h1:itemD (.list thingsL) (.int ((n.fdiv 6).fmod 6))=some (sD t1)) (h2:itemD (.list thingsL) (.int ((n.fdiv 36).fmod 6))=some (sD t2))
  (h3:itemD (.list marksL) (.int (n.fmod 6))=some (sD m)) (h4:mulD (sD [34]) (.int ((n.fdiv 216).fmod 2))=some (sD lo)) (l1:t1.length≤5) (l2:t2.length≤5) (l3:m.length≤5) (l4:lo.length≤5) :
  F_law_match [.dat (.int n)] hp=some (.dat (sD (t1++sl none (some 1) m++t2++lo++sl (some 1) none m)),hp):=by
 have k1:(sl none (some 1) m).length≤5:=by unfold sl; simp; (exact Nat.le_trans (Nat.min_le_right _ _) (by assumption))
 have k2:(sl (some 1) none m).length≤5:=by unfold sl; simp; lia
 have hm:m.length≤lim:=Nat.le_trans l3 (by decide)
 have idx:∀{k m:Int} {L:Loc},L[0]?=some (some (.dat (.int n)))->fdivD (.int n) (.int k)=some (.int (n.fdiv k))->modD (.int (n.fdiv k)) (.int m)=some (.int ((n.fdiv k).fmod m))->datF (binX .Mod (datF (binX .FloorDiv (nameF 0) (iC k))) (iC m)) ⟨L,[]⟩=some (.dat (.int ((n.fdiv k).fmod m)),[]):=λh h' h''=>bin_eq (op:=.Mod) (bin_eq (op:=.FloorDiv) (name_at h rfl) rfl h') rfl h''
 refine pur_eq rfl rfl ((rc_seq (asg_eq (item_eq (a:=.list marksL) (by rfl) (bin_eq (op:=.Mod) (F2:=iC 6) (name_at rfl rfl) rfl rfl) h3))).trans ((rc_seq (asg_eq (bin_eq (op:=.Mult) (F1:=sC [34]) rfl (idx (k:=216) (m:=2) rfl rfl rfl) h4))).trans (ret_eq ?_)))
 exact bin_eq (op:=.Add) (bin_eq (op:=.Add) (bin_eq (op:=.Add) (bin_eq (op:=.Add) (item_eq (name_at rfl rfl) (idx (k:=6) (m:=6) rfl rfl rfl) h1) (slice_eq (lo:=noP) (hi:=someP (iC 1)) (st:=noP) (name_at rfl rfl) rfl rfl rfl (if_pos hm)) (add_le l1 k1 (by decide))) (item_eq (name_at rfl rfl) (idx (k:=36) (m:=6) rfl rfl rfl) h2) (add_le (app_le l1 k1) l2 (by decide))) (name_at rfl rfl) (add_le (app_le (app_le l1 k1) l2) l4 (by decide)))
  (slice_eq (lo:=someP (iC 1)) (hi:=noP) (st:=noP) (name_at rfl rfl) rfl rfl rfl (if_pos hm)) (add_le (app_le (app_le (app_le l1 k1) l2) l4) k2 (by decide))
noncomputable def thN:List (List Nat):=[[],[92,40],[92,41],[92,92],[34,92,34,41,34],[92,34]]
noncomputable def mkN:List (List Nat):=[[40,41],[40,41,41,40],[40,40,41,41],[40,40,41],[40,41,40,41],[41,41,40,40]]
noncomputable def mtxt (a b x y:Nat):List Nat:=thN.getD x []++sl none (some 1) (mkN.getD a [])++thN.getD y []++List.replicate b 34++sl (some 1) none (mkN.getD a [])
noncomputable def chkB (a b x y:Nat):Bool:=match fnF 1 3 false X_check_parenthesis.1 [.dat (sD (mtxt a b x y))] [] with
 | some (.dat (.bool v),[])=>v==(a % 2==0)
 | _=>false
theorem chk0:∀b < 2,∀x < 6,∀y < 6,chkB 0 b x y=true:=by decide +kernel
theorem chk1:∀b < 2,∀x < 6,∀y < 6,chkB 1 b x y=true:=by decide +kernel
theorem chk2:∀b < 2,∀x < 6,∀y < 6,chkB 2 b x y=true:=by decide +kernel
theorem chk3:∀b < 2,∀x < 6,∀y < 6,chkB 3 b x y=true:=by decide +kernel
theorem chk4:∀b < 2,∀x < 6,∀y < 6,chkB 4 b x y=true:=by decide +kernel
theorem chk5:∀b < 2,∀x < 6,∀y < 6,chkB 5 b x y=true:=by decide +kernel
theorem chk_all {a b x y:Nat} (ha:a < 6) (hb:b < 2) (hx:x < 6) (hy:y < 6):chkB a b x y=true:=by
 match a,ha with
 | 0,_=>exact chk0 b hb x hx y hy
 | 1,_=>exact chk1 b hb x hx y hy
 | 2,_=>exact chk2 b hb x hx y hy
 | 3,_=>exact chk3 b hb x hx y hy
 | 4,_=>exact chk4 b hb x hx y hy
 | 5,_=>exact chk5 b hb x hx y hy
theorem fmod_nat {n:Int} {k:Nat} (hk:0 < k) (h:0≤n):∃x:Nat,x < k∧n.fmod k=(x:Int)∧(x:Int)=n % k:=by
 refine ⟨(n % k).toNat,?_,?_,?_⟩
 ·have:=Int.emod_lt_of_pos n (show (0:Int) < k by (exact Int.ofNat_le.mpr (by assumption)))
  have:=Int.emod_nonneg n (show (k:Int)≠0 by lia)
  lia
 ·rw [Int.fmod_eq_emod_of_nonneg _ (by (exact Int.natCast_nonneg _))]
  have:=Int.emod_nonneg n (show (k:Int)≠0 by lia)
  lia
 ·have:=Int.emod_nonneg n (show (k:Int)≠0 by lia)
  lia
theorem fdiv_nonneg {n:Int} {k:Nat} (hk:0 < k) (h:0≤n):0≤n.fdiv k:=by
 rw [Int.fdiv_eq_ediv_of_nonneg _ (by (exact Int.natCast_nonneg _))]
 exact Int.ediv_nonneg h (by (exact Int.natCast_nonneg _))
theorem thing_ok {x:Nat} (h:x < 6):itemD (.list thingsL) (.int (x:Int))=some (sD (thN.getD x []))∧(thN.getD x []).length≤5:=by
 match x,h with
 | 0,_ | 1,_ | 2,_ | 3,_ | 4,_ | 5,_=>exact ⟨rfl,by decide⟩
theorem mark_ok {x:Nat} (h:x < 6):itemD (.list marksL) (.int (x:Int))=some (sD (mkN.getD x []))∧(mkN.getD x []).length≤5:=by
 match x,h with
 | 0,_ | 1,_ | 2,_ | 3,_ | 4,_ | 5,_=>exact ⟨rfl,by decide⟩
theorem lone_ok {x:Nat} (h:x < 2):mulD (sD [34]) (.int (x:Int))=some (sD (List.replicate x 34))∧(List.replicate x 34).length≤5:=by
 match x,h with
 | 0,_ | 1,_=>exact ⟨rfl,by decide⟩
theorem match_ok {n:Int} (h:0≤n) (hp:List MO):∃t,F_law_match [.dat (.int n)] hp=some (.dat (sD t),hp)∧F_check_parenthesis [.dat (sD t)] hp=some (.dat (.bool (n.fmod 2==0)),hp):=by
 refine cps λ_ KK=>?_
 obtain ⟨a,ha,ea,ea'⟩:=fmod_nat (k:=6) (by (exact Nat.succ_pos _)) h
 obtain ⟨b,hb,eb,_⟩:=fmod_nat (k:=2) (by (exact Nat.succ_pos _)) (fdiv_nonneg (k:=216) (by (exact Nat.succ_pos _)) h)
 obtain ⟨x,hx,ex,_⟩:=fmod_nat (k:=6) (by (exact Nat.succ_pos _)) (fdiv_nonneg (k:=6) (by (exact Nat.succ_pos _)) h)
 obtain ⟨y,hy,ey,_⟩:=fmod_nat (k:=6) (by (exact Nat.succ_pos _)) (fdiv_nonneg (k:=36) (by (exact Nat.succ_pos _)) h)
 obtain ⟨z,hz,ez,ez'⟩:=fmod_nat (k:=2) (by (exact Nat.succ_pos _)) h
 refine KK ?_
 have h1:=match_val (n:=n) (hp:=hp) (t1:=thN.getD x []) (t2:=thN.getD y []) (m:=mkN.getD a []) (lo:=List.replicate b 34) (by rw [show (n.fdiv 6).fmod 6=(x:Int) from ex]; exact (thing_ok hx).1) (by rw [show (n.fdiv 36).fmod 6=(y:Int) from ey]; exact (thing_ok hy).1)
  (by rw [show n.fmod 6=(a:Int) from ea]; exact (mark_ok ha).1) (by rw [show (n.fdiv 216).fmod 2=(b:Int) from eb]; exact (lone_ok hb).1) (thing_ok hx).2 (thing_ok hy).2 (mark_ok ha).2 (lone_ok hb).2
 refine ⟨_,h1,?_⟩
 have h2:=chk_all ha hb hx hy
 unfold chkB at h2
 split at h2
 ·rename_i v e
  have hv:v=(n.fmod 2==0):=by
   rw [eq_of_beq h2,show n.fmod 2=(z:Int) from ez]
   have hh:z=a % 2:=Int.ofNat_inj.mp (by rw [ez',Int.natCast_emod,ea']; exact (Int.emod_emod_of_dvd n (by decide)).symm)
   rw [hh]
   rcases Nat.mod_two_eq_zero_or_one a with h | h<;>rw [h]<;>rfl
  skip
  show (match fnF 1 3 false X_check_parenthesis.1 [.dat (sD (mtxt a b x y))] [] with
   | some (PV.dat d,[])=>some (PV.dat d,hp)
   | _=>none)=_
  exact e.symm▸hv.symm▸rfl
 ·exact nft h2
theorem clip_nat {n p d:Nat} (h:p≤n):clip n (some (p:Int)) d=p:=by
 show (max 0 (min (if (p:Int) < 0 then (p:Int)+n else p) (n:Int))).toNat=p
 rw [if_neg (Int.not_lt.mpr (Int.natCast_nonneg p)),Int.min_eq_left (Int.ofNat_le.mpr h),Int.max_eq_right (Int.natCast_nonneg p)]; rfl
theorem clip_m1 {n d:Nat}:clip (n+1) (some (-1)) d=n:=by
 show (max 0 (min (-1+((n+1:Nat):Int)) ((n+1:Nat):Int))).toNat=n
 rw [show (-1+((n+1:Nat):Int))=n from (Int.add_comm _ _).trans (Int.add_sub_cancel (n:Int) 1),Int.min_eq_left (Int.ofNat_le.mpr (Nat.le_succ n)),Int.max_eq_right (Int.natCast_nonneg n)]; rfl
theorem sl_take {α:Type} {l:List α} {p:Nat} (h:p≤l.length):sl none (some (p:Int)) l=l.take p:=by
 show (l.take (clip l.length (some (p:Int)) l.length)).drop 0=_
 rw [clip_nat h]; rfl
theorem sl_drop {α:Type} {l:List α} {p:Nat} (h:p≤l.length):sl (some (p:Int)) none l=l.drop p:=by
 show (l.take l.length).drop (clip l.length (some (p:Int)) 0)=_
 exact (clip_nat h).symm▸List.take_length.symm▸rfl
theorem sl_init {α:Type} {l:List α} {x:α}:sl none (some (-1)) (l++[x])=l:=by
 show ((l++[x]).take (clip (l++[x]).length (some (-1)) (l++[x]).length)).drop 0=_
 refine List.length_append.symm▸List.length_singleton.symm▸clip_m1.symm▸?_
 exact List.take_left' rfl
theorem idx_last {α:Type} {l:List α} {x:α}:idx (l++[x]) (-1)=some x:=by
 unfold idx
 rw [if_pos (by lia),if_pos (by simp; lia)]
 have:(-1+((l++[x]).length:Int)).toNat=l.length:=by simp; lia
 rw [this]; simp
theorem idx_nat {α:Type} {l:List α} {p:Nat}:idx l (p:Int)=l[p]?:=by
 unfold idx
 rw [if_neg (by lia)]; rfl
theorem slice_list {lo hi:Option Int} {l:List PyData} (h:l.length≤lim):sliceD lo hi none (.list l)=some (.list (sl lo hi l)):=if_pos h
theorem slice_str {lo hi:Option Int} {l:List Nat} (h:l.length≤lim):sliceD lo hi none (sD l)=some (sD (sl lo hi l)):=if_pos h
section
variable {v:Vs} {hp:List MO} {n:Int} {b:Bool} {wl:List PyData} {x y c0 c1:Nat} {P:Addr} {fl:Bool} {p:Nat} {R:List (List Nat)} {r q:List Nat}
theorem p40 (h:v.number=some (.dat (.int n))) (hn:0≤n):X_law_4_0.1 ⟨v.loc,hp⟩=some (.next,⟨{ v with verdict:=some (.dat (.bool (n.fmod 2==0))) }.loc,hp⟩):=by
 obtain ⟨t,e1,e2⟩:=match_ok hn hp
 exact asg_eq (call1_eq (call1_eq (name_at rfl h) e1) e2)
theorem p41 (h:v.number=some (.dat (.int n))) (h2:v.verdict=some (.dat (.bool (n.fmod 2==0)))):X_law_4_1.1 ⟨v.loc,hp⟩=some (.next,⟨v.loc,hp⟩) :=
 ifn_eq (C:=cmpX .IsNot _ _) (cmp_eq (name_at rfl h2) (cmpN_eq (op:=.Eq) (F2:=iC 0) (bin_eq (op:=.Mod) (F2:=iC 2) (name_at rfl h) rfl rfl) rfl rfl) rfl rfl (by
  show some (!((n.fmod 2==0)==(n.fmod 2==0)))=_
  rw [beq_self_eq_true]; rfl))
noncomputable def winW (b:Bool) (x y:Nat):List Nat:=if b then [x,y] else [y,x]
theorem p42 (h:v.verdict=some (.dat (.bool b))) (h2:v.pair=some (.dat (sD [x,y]))) (h3:v.wins=some (.obj 1)) (hl:wl.length≤lim):X_law_4_2.1 ⟨v.loc,[.tab P fl,.lst wl]⟩=some (.next,⟨v.loc,[.tab P fl,.lst (wl++[sD (winW b x y)])]⟩):=by
 have e:bindB (bindE (nameF 8) trV) (λc=>if c then nameF 7 else datF (binX .Add (bindE (nameF 7) λa=>bindE (iC 1) λb=>itemF a b) (bindE (nameF 7) λa=>bindE (iC 0) λb=>itemF a b))) ⟨v.loc,[.tab P fl,.lst wl]⟩=some (.dat (sD (winW b x y)),[.tab P fl,.lst wl]):=by
  refine ife_eq (c:=b) (by unfold bindE; rw [name_at rfl h]; rfl) ?_
  cases b with
  | true=>exact name_at rfl h2
  | false=>exact bin_eq (op:=.Add) (item_eq (name_at rfl h2) rfl rfl) (item_eq (name_at rfl h2) rfl rfl) rfl
 exact expr_eq (append_eq (name_at rfl h3) rfl hl e)
theorem p43 (h3:v.wins=some (.obj 1)) (hi:indexD ⟨⟨[97,98,99,100,101]⟩⟩ ⟨⟨[c0]⟩⟩=some (.int p)) :
  X_law_4_3.1 ⟨v.loc,[.tab P fl,.lst (wl++[sD [c0,c1]])]⟩=some (.next,⟨{ v with place:=some (.dat (.int p)) }.loc,[.tab P fl,.lst (wl++[sD [c0,c1]])]⟩):=by
 have e1:itemD (.list (wl++[sD [c0,c1]])) (.int (-1))=some (sD [c0,c1]):=by
  show (if (-1:Int).natAbs≤lim then idx (wl++[sD [c0,c1]]) (-1) else none)=_
  rw [if_pos (by decide),idx_last]
 exact asg_eq (meth1_eq (m:=.index) (F1:=sC [97,98,99,100,101]) rfl rfl (item_eq (F2:=iC 0) (itemO_eq (F2:=iC (-1)) (name_at rfl h3) rfl rfl rfl e1) rfl rfl) hi)
theorem p44 (h1:v.rows=some (.dat (.list (strsP R)))) (h2:v.place=some (.dat (.int (p:Int)))) (hR:R.length=5) (hp5:p < 5) (hr:R[p]?=some r)
  (hq:F_quotedata [.dat (sD r)] hp=some (.dat (sD q),hp)) :
  X_law_4_4.1 ⟨v.loc,hp⟩=some (.next,⟨{ v with rows:=some (.dat (.list (strsP (R.set p q)))) }.loc,hp⟩):=by
 have hl:(strsP R).length=5:=(List.length_map ..).trans hR
 have h5:5≤lim:=by decide
 have hlim:(strsP R).length≤lim:=hl▸h5
 have e1:itemD (.list (strsP R)) (.int (p:Int))=some (sD r):=by
  show (if (p:Int).natAbs≤lim then idx (strsP R) p else none)=_
  rw [if_pos (show (p:Int).natAbs≤lim from Nat.le_trans (Nat.le_of_lt hp5) h5),idx_nat,strsP,List.getElem?_map,hr]
  rfl
 have e2:sliceD none (some (p:Int)) none (.list (strsP R))=some (.list ((strsP R).take p)):=by
  rw [slice_list hlim,sl_take (by lia)]
 have e3:sliceD (some ((p:Int)+1)) none none (.list (strsP R))=some (.list ((strsP R).drop (p+1))):=by
  rw [slice_list hlim,show ((p:Int)+1)=((p+1:Nat):Int) by lia,sl_drop (by lia)]
 have e4:(strsP R).take p++[sD q]++(strsP R).drop (p+1)=strsP (R.set p q):=by
  rw [List.set_eq_take_append_cons_drop,if_pos (by lia)]
  simp [strsP,List.map_take,List.map_drop]
 have l0:((strsP R).take p).length≤p:=List.length_take_le _ _
 have l3:((strsP R).drop (p+1)).length≤5:=(List.length_drop ..).symm▸hl▸Nat.sub_le _ _
 have l1:((strsP R).take p).length+[sD q].length≤lim:=Nat.le_trans (Nat.add_le_add_right (Nat.le_trans l0 (Nat.le_of_lt hp5)) 1) (by decide)
 have l2:((strsP R).take p++[sD q]).length+((strsP R).drop (p+1)).length≤lim:=by
  refine List.length_append.symm▸?_
  exact Nat.le_trans (Nat.add_le_add (Nat.add_le_add_right (Nat.le_trans l0 (Nat.le_of_lt hp5)) 1) l3) (by decide)
 refine asg_eq (bin_eq (op:=.Add) (bin_eq (op:=.Add) (slice_eq (lo:=noP) (st:=noP) (name_at rfl h1) rfl (some_eq (name_at rfl h2)) rfl e2) (list1_eq (call1_eq (item_eq (name_at rfl h1) (name_at rfl h2) e1) hq)) (add_list l1)) (slice_eq (hi:=noP) (st:=noP) (name_at rfl h1) (some_eq (bin_eq (op:=.Add) (F2:=iC 1) (name_at rfl h2) rfl rfl)) rfl rfl e3) (e4▸add_list l2))
end
noncomputable def rowL (k:Nat) (e:List Nat):List Nat:=List.replicate (k+1) 46++e
noncomputable def endOK (e:List Nat):Prop:=e=[10]∨e=[13]∨e=[13,10]
theorem sub1_nil:sub1L true []=[]:=by rw [sub1_word [] (λ_ h=>nin h)]; rfl
theorem sub2_nil:sub2L []=[]:=by have:=sub2_join (sep:=[10]) (.inl rfl) [] (λ_ h=>nin h); exact this
theorem row_two {k:Nat} {e:List Nat} (he:endOK e):sub2L (rowL k e)=List.replicate (k+1) 46++[13,10]:=by
 unfold rowL
 have:=sub2_sep (r:=[]) he (by simp)
 rw [sub2_app _ _ (by intro c hc; have:=(List.mem_replicate.mp hc).2; lia)]
 rw [List.append_nil] at this
 refine this.symm▸sub2_nil.symm▸?_
 rfl
theorem row_quote {k:Nat} {e:List Nat} (he:endOK e):sub1L true (sub2L (rowL k e))=rowL (k+1) [13,10]:=by
 rw [row_two he,sub1_app _ _ (by intro c hc; have:=(List.mem_replicate.mp hc).2; lia) (by simp [List.replicate_succ]),sub1_word _ (by intro c hc; have:=(List.mem_replicate.mp hc).2; lia),sub1_nil]
 rfl
theorem rowq {k:Nat} {e:List Nat} {hp:List MO} (he:endOK e) (hk:k≤1000):F_quotedata [.dat (sD (rowL k e))] hp=some (.dat (sD (rowL (k+1) [13,10])),hp):=by
 have hel:e.length≤2:=by rcases he with rfl | rfl | rfl<;>decide
 have hw:(rowL k e).length≤1003:=by unfold rowL; rw [List.length_append,List.length_replicate]; lia
 have h:=quote_eq (l:=rowL k e) (hp:=hp) (by unfold lim; lia) (by rw [row_two he]; unfold lim; simp; lia) (by
  rw [row_two he]
  intro c hc
  rcases List.mem_append.mp hc with h | h
  ·have:=(List.mem_replicate.mp h).2; lia
  ·simp at h; lia) (by
  rw [row_quote he]
  skip
  intro c hc
  rcases List.mem_append.mp hc with h | h
  ·have:=(List.mem_replicate.mp h).2; lia
  ·simp at h; lia)
 exact h.symm▸(row_quote he).symm▸rfl
theorem index_ok {p:Nat} (h:p < 5):indexD ⟨⟨[97,98,99,100,101]⟩⟩ ⟨⟨[97+p]⟩⟩=some (.int p):=by
 match p,h with
 | 0,_ | 1,_ | 2,_ | 3,_ | 4,_=>kernel_rfl
noncomputable def B4:XF:=seqF X_law_4_0.1 (seqF X_law_4_1.1 (seqF X_law_4_2.1 (seqF X_law_4_3.1 (seqF X_law_4_4.1 nextF))))
abbrev RS:=List (Nat×List Nat)
noncomputable def rowsP (Rs:RS):PyData:=.list (strsP (Rs.map λr=>rowL r.1 r.2))
noncomputable def stepRs (Rs:RS) (p:Nat):RS:=Rs.set p ((Rs[p]?.getD (0,[])).1+1,[13,10])
noncomputable def winP (b:Bool) (p q:Nat):Nat×Nat:=if b then (p,q) else (q,p)
noncomputable def okRs (Rs:RS) (N:Nat):Prop:=Rs.length=5∧∀r∈Rs,endOK r.2∧r.1≤N
theorem okRs.step {Rs:RS} {N p:Nat} (h:okRs Rs N):okRs (stepRs Rs p) (N+1):=by
 refine ⟨by unfold stepRs; rw [List.length_set,h.1],λr hr=>?_⟩
 unfold stepRs at hr
 rcases List.mem_or_eq_of_mem_set hr with hr | rfl
 ·exact ⟨(h.2 r hr).1,by have:=(h.2 r hr).2; (exact Nat.le_succ_of_le (by assumption))⟩
 ·refine ⟨.inr (.inr rfl),?_⟩
  dsimp only
  cases hg:Rs[p]? with
  | none=>simp
  | some r=>have:=(h.2 r (List.mem_of_getElem? hg)).2; simp; assumption
noncomputable def winI (i:Int×Nat×Nat):Nat×Nat:=winP (i.1.fmod 2==0) i.2.1 i.2.2
noncomputable def wordP (w:Nat×Nat):List Nat:=[97+w.1,97+w.2]
theorem strsP_snoc (l:List (List Nat)) (x:List Nat):strsP l++[sD x]=strsP (l++[x]):=by simp [strsP]
theorem loop4:∀(its:List (Int×Nat×Nat)) (v:Vs) (W:List (Nat×Nat)) (Rs:RS) (N:Nat),(∀i∈its,0≤i.1∧i.2.1 < 5∧i.2.2 < 5)->v.wins=some (.obj 1)->v.rows=some (.dat (rowsP Rs))->okRs Rs N->N+its.length≤1000->W.length+its.length≤1000 ->
  ∃a b c d,forF stepI (setL2 6 7) B4 (its.length+1) (.rem (its.map λi=>.tuple [.int i.1,sD [97+i.2.1,97+i.2.2]])) ⟨v.loc,[.tab 186 true,.lst (strsP (W.map wordP))]⟩
   = some (.next,⟨{ v with number:=a,pair:=b,verdict:=c,place:=d,rows:=some (.dat (rowsP ((its.map winI).foldl (λr (w:Nat×Nat)=>stepRs r w.1) Rs))) }.loc,[.tab 186 true,.lst (strsP ((W++its.map winI).map wordP))]⟩)
 | [],v,W,Rs,N,_,hw,hr,_,_,_=>⟨v.number,v.pair,v.verdict,v.place,by
   rw [show W++([]:List (Int×Nat×Nat)).map winI=W from List.append_nil W]
   show some (Fl.next,(⟨v.loc,_⟩:St))=_
   congr 3
   simp [Vs.loc,hr]⟩
 | (n,p,q)::its,v,W,Rs,N,hi,hw,hr,ho,hN,hW=>by
  obtain ⟨hn,hp,hq⟩:=hi _ (List.mem_cons_self ..)
  dsimp only at hn hp hq
  rw [List.length_cons] at hN hW
  let b:=n.fmod 2==0
  let w:=winP b p q
  have hw5:w.1 < 5:=by
   show (winP b p q).1 < 5
   unfold winP; split<;>assumption
  have hlt:w.1 < Rs.length:=by rw [ho.1]; exact hw5
  let v1:Vs:={ v with number:=some (.dat (.int n)),pair:=some (.dat (sD [97+p,97+q])) }
  let v2:Vs:={ v1 with verdict:=some (.dat (.bool b)) }
  let v3:Vs:={ v2 with place:=some (.dat (.int (w.1:Nat))) }
  let v4:Vs:={ v3 with rows:=some (.dat (rowsP (stepRs Rs w.1))) }
  have hlen:(strsP (W.map wordP)).length≤lim:=by simp [strsP]; unfold lim; lia
  have e0:=p40 (v:=v1) (hp:=[.tab 186 true,.lst (strsP (W.map wordP))]) rfl hn
  have e1:=p41 (v:=v2) (hp:=[.tab 186 true,.lst (strsP (W.map wordP))]) (n:=n) rfl rfl
  have e2:=p42 (v:=v2) (P:=186) (fl:=true) (b:=b) (x:=97+p) (y:=97+q) rfl rfl hw hlen
  have hwin:winW b (97+p) (97+q)=wordP w:=by
   show winW b (97+p) (97+q)=wordP (winP b p q)
   unfold winW winP wordP; cases b<;>rfl
  rw [hwin] at e2
  have e3:X_law_4_3.1 ⟨v2.loc,[.tab 186 true,.lst (strsP (W.map wordP)++[sD (wordP w)])]⟩=some (.next,⟨v3.loc,[.tab 186 true,.lst (strsP (W.map wordP)++[sD (wordP w)])]⟩):=p43 (v:=v2) (P:=186) (fl:=true) (wl:=strsP (W.map wordP)) (c0:=97+w.1) (c1:=97+w.2) hw (index_ok hw5)
  have hg:(Rs.map λr=>rowL r.1 r.2)[w.1]?=some (rowL Rs[w.1].1 Rs[w.1].2):=by
   rw [List.getElem?_map,List.getElem?_eq_getElem hlt]; rfl
  have hm:=ho.2 _ (List.getElem_mem hlt)
  have e4:=p44 (v:=v3) (hp:=[.tab 186 true,.lst (strsP (W.map wordP)++[sD (wordP w)])]) hr rfl (by rw [List.length_map]; exact ho.1) hw5 hg (rowq hm.1 (by have:=hm.2; omega))
  have hset:(Rs.map λr=>rowL r.1 r.2).set w.1 (rowL (Rs[w.1].1+1) [13,10])=(stepRs Rs w.1).map λr=>rowL r.1 r.2:=by
   unfold stepRs
   rw [List.map_set,List.getElem?_eq_getElem hlt]
   rfl
  rw [hset] at e4
  have hB:B4 ⟨v1.loc,[.tab 186 true,.lst (strsP (W.map wordP))]⟩=some (.next,⟨v4.loc,[.tab 186 true,.lst (strsP ((W++[w]).map wordP))]⟩):=by
   unfold B4
   rw [seq_next e0,seq_next e1,seq_next e2,seq_next e3,seq_id]
   refine e4.trans ?_
   rw [strsP_snoc,List.map_append]
   rfl
  refine cps λ_ KK=>?_
  obtain ⟨a,b',c,d,e⟩:=loop4 its v4 (W++[w]) (stepRs Rs w.1) (N+1) (λi h=>hi i (List.mem_cons_of_mem _ h)) hw rfl ho.step (by lia) (by rw [List.length_append]; simp; lia)
  refine KK ?_
  refine ⟨a,b',c,d,?_⟩
  rw [List.map_cons,List.length_cons,forF_next (is':=.rem (its.map λi=>.tuple [.int i.1,sD [97+i.2.1,97+i.2.2]])) (d:=.tuple [.int n,sD [97+p,97+q]]) (hp:=[.tab 186 true,.lst (strsP (W.map wordP))]) (loc:=v1.loc) rfl rfl hB,e]
  rw [List.append_assoc]
  rfl
theorem loop_pure (Φ:Loc->Prop) {T:PyData->Loc->Option Loc} {tests:BF} {inner:CF} {t:PyData->Bool} {ds:PyData->List PyData} {hp:List MO}:∀(l:List PyData),
  (∀d∈l,∀loc,Φ loc->∃loc1,Φ loc1∧T d loc=some loc1∧tests ⟨loc1,hp⟩=some (t d,hp)∧(t d=true->∃loc2,Φ loc2∧inner ⟨loc1,hp⟩=some (ds d,⟨loc2,hp⟩))) ->
  ∀(loc:Loc) (n:Nat),Φ loc->l.length < n->∃loc',Φ loc'∧loopC stepI T tests inner n (.rem l) ⟨loc,hp⟩=some ((l.filter t).flatMap ds,⟨loc',hp⟩)
 | [],_,loc,n+1,hl,_=>⟨loc,hl,rfl⟩
 | d::l,h,loc,n+1,hl,hn=>by
  refine cps λ_ KK=>?_
  obtain ⟨loc1,h1,h2,h3,h4⟩:=h d (List.mem_cons_self ..) loc hl
  refine KK ?_
  have ih:=loop_pure Φ (T:=T) (tests:=tests) (inner:=inner) (t:=t) (ds:=ds) (hp:=hp) l λx hx=>h x (List.mem_cons_of_mem _ hx)
  have hn':l.length < n:=by rw [List.length_cons] at hn; (exact Nat.le_of_lt_succ (by assumption))
  rw [loopC]
  dsimp only [stepI]
  refine h2.symm▸?_
  dsimp only
  rw [h3]
  cases ht:t d with
  | false =>
   obtain ⟨loc',q,e⟩:=ih loc1 n h1 hn'
   refine ⟨loc',q,?_⟩
   dsimp only
   rw [e,List.filter_cons_of_neg (by rw [ht]; exact Bool.false_ne_true)]
  | true =>
   refine cps λ_ KK=>?_
   obtain ⟨loc2,h5,h6⟩:=h4 ht
   obtain ⟨loc',q,e⟩:=ih loc2 n h5 hn'
   refine KK ?_
   refine ⟨loc',q,?_⟩
   dsimp only
   refine h6.symm▸?_
   dsimp only
   refine e.symm▸(List.filter_cons_of_pos ht).symm▸?_
   rfl
theorem comp_pure (Φ:Loc->Prop) {S:SF} {T:PyData->Loc->Option Loc} {tests:BF} {F:EF} {t:PyData->Bool} {g:PyData->PyData} {hp:List MO} {l:List PyData} {loc:Loc} {ts:List Nat} {n:Nat} (hS:S ⟨loc,hp⟩=some ((.rem l,n),hp)) (hn:l.length < n)
  (h:∀d∈l,∀loc,Φ loc->∃loc1,Φ loc1∧T d loc=some loc1∧tests ⟨loc1,hp⟩=some (t d,hp)∧(t d=true->F ⟨loc1,hp⟩=some (.dat (g d),hp))) (h0:Φ (unset ts loc)) (hl:l.length≤lim) :
  compF S stepI T tests (emitF F) ts ⟨loc,hp⟩=some (.dat (.list ((l.filter t).map g)),hp):=by
 obtain ⟨loc',_,e⟩:=loop_pure Φ (T:=T) (tests:=tests) (inner:=emitF F) (t:=t) (ds:=λd=>[g d]) (hp:=hp) l (λd hd loc hp'=>by
  refine cps λ_ KK=>?_
  obtain ⟨loc1,h1,h2,h3,h4⟩:=h d hd loc hp'
  refine KK ?_
  refine ⟨loc1,h1,h2,h3,λht=>⟨loc1,h1,?_⟩⟩
  unfold emitF
  rw [h4 ht]) (unset ts loc) n h0 hn
 unfold compF
 rw [hS]
 dsimp only
 rw [e]
 dsimp only
 have e2:(l.filter t).flatMap (λd=>[g d])=(l.filter t).map g:=by
  exact (List.map_eq_flatMap ..).symm
 rw [e2,if_pos]
 have:=List.length_filter_le t l
 rw [List.length_map]; (exact Nat.le_trans (by assumption) (by assumption))
section
variable {v:Vs} {hp:List MO} {script:List Int}
noncomputable def beginsD:List PyData:=[.int 24,.int 902,.int 1924,.int 1975,.int 390,.int 116,.int 4,.int 90,.int 62,.int 196]
theorem s0:X_law_0.1 ⟨v.loc,hp⟩=some (.next,⟨{ v with begins:=some (.dat (.list beginsD)) }.loc,hp⟩):=rfl
noncomputable def sumK (script:List Int) (k:Nat):Int:=(sumI (pick (some (k:Int)) none (some 10) (script.map .int))).getD 0
noncomputable def numK (script:List Int) (k:Nat) (b:Int):Int:=(b+sumK script k).fmod 1000000
theorem sumI_some:∀l:List PyData,(∀d∈l,∃i,d=.int i)->∃s,sumI l=some s
 | [],_=>⟨0,rfl⟩
 | d::l,h=>by
  obtain ⟨i,rfl⟩:=h d (List.mem_cons_self ..)
  obtain ⟨s,e⟩:=sumI_some l λx hx=>h x (List.mem_cons_of_mem _ hx)
  exact ⟨i+s,by rw [sumI,e]; rfl⟩
theorem pick_mem {α:Type} {lo hi st:Option Int} {l:List α} {x:α} (h:x∈pick lo hi st l):x∈l:=by
 unfold pick at h
 obtain ⟨i,_,hi⟩:=List.mem_filterMap.mp h
 exact List.mem_of_getElem? hi
theorem sumK_eq (k:Nat):sumI (pick (some (k:Int)) none (some 10) (script.map .int))=some (sumK script k):=by
 obtain ⟨s,e⟩:=sumI_some (pick (some (k:Int)) none (some 10) (script.map .int)) λd hd=>by
  obtain ⟨i,_,rfl⟩:=List.mem_map.mp (pick_mem hd)
  exact ⟨i,rfl⟩
 unfold sumK
 rw [e]; rfl
noncomputable def numG (script:List Int):PyData->PyData
 | .tuple [.int k,.int b]=>.int (numK script k.toNat b)
 | _=>.none
noncomputable def numsL (script:List Int):List Int:=[numK script 0 24,numK script 1 902,numK script 2 1924,numK script 3 1975,numK script 4 390,numK script 5 116,numK script 6 4,numK script 7 90,numK script 8 62,numK script 9 196]
theorem enum_ints:∀(ns:List Int) (i:Nat),∀d∈enumF i (ns.map .int),∃(k:Nat) (b:Int),d=.tuple [.int k,.int b]
 | [],i,d,h=>nin h
 | n::ns,i,d,h=>(List.mem_cons.mp h).elim (λe=>⟨i,n,e⟩) (enum_ints ns (i+1) d)
noncomputable def numF:EF:=datF (binX .Mod (datF (binX .Add (nameF 26) (datF (bindE (datF (sliceX (nameF 0) (someP (nameF 25)) noP (someP (iC 10)))) (map1 B1.sum.f))))) (datF (binX .Pow (iC 10) (iC 6))))
theorem num_eq (h0:v.script=some (.dat (.list (script.map .int)))) (hs:script.length≤63) (k:Nat) (b:Int):numF ⟨(v.loc.set 25 (some (.dat (.int k)))).set 26 (some (.dat (.int b))),hp⟩=some (.dat (.int (numK script k b)),hp):=by
 have hsl:sliceD (some (k:Int)) none (some 10) (.list (script.map .int))=some (.list (pick (some (k:Int)) none (some 10) (script.map .int))):=by
  show (if (script.map PyData.int).length≤lim then (if (10:Int)≠0 then some (PyData.list (pick (some (k:Int)) none (some 10) (script.map .int))) else none) else none)=_
  rw [if_pos (by rw [List.length_map]; exact Nat.le_trans hs (by decide)),if_pos (by decide)]
 exact bin_eq (op:=.Mod) (bin_eq (op:=.Add) (name_at rfl rfl) (map1_eq (slice_eq (hi:=noP) (st:=someP (iC 10)) (name_at rfl h0) (some_eq (name_at rfl rfl)) rfl rfl hsl) (congrArg (Option.map PyData.int) (sumK_eq k))) rfl) (bin_eq (op:=.Pow) (F1:=iC 10) (F2:=iC 6) rfl rfl rfl) rfl
theorem s1 (h0:v.script=some (.dat (.list (script.map .int)))) (hs:script.length≤63) (h1:v.begins=some (.dat (.list beginsD))) :
  X_law_1.1 ⟨v.loc,hp⟩=some (.next,⟨{ v with numbers:=some (.dat (.list ((numsL script).map .int))) }.loc,hp⟩):=by
 have e:=comp_pure (λloc=>∃a b,loc=(v.loc.set 25 a).set 26 b) (S:=enumSrc (nameF 1)) (T:=setL2 25 26) (tests:=λσ=>some (true,σ.hp)) (F:=numF) (t:=λ_=>true) (g:=numG script) (hp:=hp) (l:=enumF 0 beginsD) (loc:=v.loc) (ts:=[25,26]) (n:=11)
  (by unfold enumSrc; rw [name_at rfl h1]; rfl) (by decide) (λd hd loc hl=>by
   refine cps λ_ KK=>?_
   obtain ⟨a,b,hl⟩:=hl
   obtain ⟨k,n,hd⟩:=enum_ints [24,902,1924,1975,390,116,4,90,62,196] 0 d hd
   refine KK ?_
   refine hl.symm▸hd.symm▸?_
   exact ⟨_,⟨some (.dat (.int k)),some (.dat (.int n)),rfl⟩,rfl,rfl,λ_=>num_eq h0 hs k n⟩) ⟨none,none,rfl⟩ (by decide)
 exact asg_eq (e.trans rfl)
end
section
variable {v:Vs} {hp:List MO} {script:List Int}
noncomputable def endsD:PyData:=.list (strsP [[10],[13],[13,10],[10],[13]])
noncomputable def Rs0:RS:=[(0,[10]),(0,[13]),(0,[13,10]),(0,[10]),(0,[13])]
theorem s2:X_law_2.1 ⟨v.loc,hp⟩=some (.next,⟨{ v with ends:=some (.dat endsD) }.loc,hp⟩):=rfl
theorem s3 (h:v.ends=some (.dat endsD)):X_law_3.1 ⟨v.loc,[.tab 186 true]⟩=some (.next,⟨{ v with wins:=some (.obj 1),rows:=some (.dat (rowsP Rs0)) }.loc,[.tab 186 true,.lst []]⟩):=by
 obtain ⟨a0,a1,a2,a3,a4,a5,a6,a7,a8,a9,b0,b1,b2,b3,b4,b5,b6,b7,b8,b9,c0,c1,c2,c3,c4⟩:=v
 dsimp only at h
 subst h
 kernel_rfl
theorem numK_nonneg (k:Nat) (b:Int):0≤numK script k b:=by
 unfold numK
 rw [Int.fmod_eq_emod_of_nonneg _ (by (exact Int.natCast_nonneg _))]
 lia
noncomputable def prs:List (Nat×Nat):=[(0,1),(0,2),(0,3),(0,4),(1,2),(1,3),(1,4),(2,3),(2,4),(3,4)]
noncomputable def itsL (nums:List Int):List (Int×Nat×Nat):=nums.zipWith (λn p=>(n,p.1,p.2)) prs
theorem its_ok:∀(nums:List Int) (ps:List (Nat×Nat)),(∀n∈nums,0≤n)->(∀p∈ps,p.1 < 5∧p.2 < 5)->∀i∈nums.zipWith (λn (p:Nat×Nat)=>(n,p.1,p.2)) ps,0≤i.1∧i.2.1 < 5∧i.2.2 < 5
 | [],_,_,_,i,h=>nin h
 | _::_,[],_,_,i,h=>nin h
 | n::ns,p::ps,h1,h2,i,h=>(List.mem_cons.mp h).elim (λe=>e▸⟨h1 n (List.mem_cons_self ..),h2 p (List.mem_cons_self ..)⟩) (its_ok ns ps (λx hx=>h1 x (List.mem_cons_of_mem _ hx)) (λx hx=>h2 x (List.mem_cons_of_mem _ hx)) i)
theorem Rs0_ok:okRs Rs0 0:=⟨rfl,show ∀r∈Rs0,(r.2=[10]∨r.2=[13]∨r.2=[13,10])∧r.1≤0 by decide⟩
theorem zip_eq {F1 F2:EF} {L:Loc} {hp:List MO} {a b:List PyData} (h1:F1 ⟨L,hp⟩=some (.dat (.list a),hp)) (h2:F2 ⟨L,hp⟩=some (.dat (.list b),hp)) {G:IS->Nat->XF} {q:Option (Fl×St)} (k:G (.rem (zipF a b)) (min a.length b.length+1) ⟨L,hp⟩=q):bindI (zipSrc (consL F1 (consL F2 nilL))) G ⟨L,hp⟩=q:=by
 unfold bindI zipSrc
 refine (cons2_eq h1 h2).symm▸?_
 exact k
theorem s4 {n0 n1 n2 n3 n4 n5 n6 n7 n8 n9:Int} (h0:v.numbers=some (.dat (.list ([n0,n1,n2,n3,n4,n5,n6,n7,n8,n9].map .int)))) (hn:∀n∈[n0,n1,n2,n3,n4,n5,n6,n7,n8,n9],0≤n)
  (hw:v.wins=some (.obj 1)) (hr:v.rows=some (.dat (rowsP Rs0))) :
  ∃a b c d,X_law_4.1 ⟨v.loc,[.tab 186 true,.lst []]⟩
   = some (.next,⟨{ v with number:=a,pair:=b,verdict:=c,place:=d,rows:=some (.dat (rowsP (((itsL [n0,n1,n2,n3,n4,n5,n6,n7,n8,n9]).map winI).foldl (λr (w:Nat×Nat)=>stepRs r w.1) Rs0))) }.loc,[.tab 186 true,.lst (strsP (((itsL [n0,n1,n2,n3,n4,n5,n6,n7,n8,n9]).map winI).map wordP))]⟩):=by
 obtain ⟨a,b,c,d,e⟩:=loop4 (itsL [n0,n1,n2,n3,n4,n5,n6,n7,n8,n9]) v [] Rs0 0 (its_ok _ prs hn (by decide)) hw hr Rs0_ok (Nat.le_of_ble_eq_true rfl) (Nat.le_of_ble_eq_true rfl)
 exact ⟨a,b,c,d,zip_eq (b:=prs.map λ(p:Nat×Nat)=>sD [97+p.1,97+p.2]) (name_at rfl h0) (by rfl) e⟩
theorem s6:X_law_6.1 ⟨v.loc,hp⟩=some (.next,⟨{ v with text:=some (.dat (sD [])) }.loc,hp⟩):=rfl
end
theorem loop_pureT (Φ:Loc->Prop) {T:PyData->Loc->Option Loc} {tests:BF} {inner:CF} {t:PyData->Bool} {ds:PyData->List PyData} {hp:List MO} {i:Nat} {L:List PyData} (hi:hp[i]?=some (.lst L)):∀(l:List PyData) (k:Nat),L.drop k=l ->
  (∀d∈l,∀loc,Φ loc->∃loc1,Φ loc1∧T d loc=some loc1∧tests ⟨loc1,hp⟩=some (t d,hp)∧(t d=true->∃loc2,Φ loc2∧inner ⟨loc1,hp⟩=some (ds d,⟨loc2,hp⟩))) ->
  ∀(loc:Loc) (n:Nat),Φ loc->l.length < n->∃loc',Φ loc'∧loopC stepI T tests inner n (.trk i k) ⟨loc,hp⟩=some ((l.filter t).flatMap ds,⟨loc',hp⟩)
 | [],k,hk,_,loc,n+1,hl,_=>by
  refine ⟨loc,hl,?_⟩
  have:L[k]?=none:=by
   rw [List.getElem?_eq_none_iff]
   have:=List.length_drop (i:=k) (l:=L)
   rw [hk] at this
   simp at this
   (exact Nat.le_of_sub_eq_zero (Eq.symm (by assumption)))
  rw [loopC]
  dsimp only [stepI]
  rw [hi]
  dsimp only
  rw [this]
  rfl
 | d::l,k,hk,h,loc,n+1,hl,hn=>by
  refine cps λ_ KK=>?_
  obtain ⟨loc1,h1,h2,h3,h4⟩:=h d (List.mem_cons_self ..) loc hl
  refine KK ?_
  have hd:L[k]?=some d:=by
   have:(L.drop k)[0]?=some d:=by rw [hk]; rfl
   rwa [List.getElem?_drop,Nat.add_zero] at this
  have hk':L.drop (k+1)=l:=by
   have:(L.drop k).drop 1=l:=by rw [hk]; rfl
   rwa [List.drop_drop] at this
  have ih:=loop_pureT Φ (T:=T) (tests:=tests) (inner:=inner) (t:=t) (ds:=ds) (hp:=hp) hi l (k+1) hk' λx hx=>h x (List.mem_cons_of_mem _ hx)
  have hn':l.length < n:=by rw [List.length_cons] at hn; (exact Nat.le_of_lt_succ (by assumption))
  rw [loopC]
  dsimp only [stepI]
  rw [hi]
  dsimp only
  rw [hd]
  dsimp only
  rw [h2]
  dsimp only
  rw [h3]
  cases ht:t d with
  | false =>
   obtain ⟨loc',q,e⟩:=ih loc1 n h1 hn'
   refine ⟨loc',q,?_⟩
   dsimp only
   rw [e,List.filter_cons_of_neg (by rw [ht]; exact Bool.false_ne_true)]
  | true =>
   refine cps λ_ KK=>?_
   obtain ⟨loc2,h5,h6⟩:=h4 ht
   obtain ⟨loc',q,e⟩:=ih loc2 n h5 hn'
   refine KK ?_
   refine ⟨loc',q,?_⟩
   dsimp only
   rw [h6]
   dsimp only
   rw [e,List.filter_cons_of_pos ht]
   rfl
theorem comp_pureT (Φ:Loc->Prop) {S:SF} {T:PyData->Loc->Option Loc} {tests:BF} {F:EF} {t:PyData->Bool} {g:PyData->PyData} {hp:List MO} {i:Nat} {l:List PyData} {loc:Loc} {ts:List Nat} {n:Nat} (hi:hp[i]?=some (.lst l)) (hS:S ⟨loc,hp⟩=some ((.trk i 0,n),hp)) (hn:l.length < n)
  (h:∀d∈l,∀loc,Φ loc->∃loc1,Φ loc1∧T d loc=some loc1∧tests ⟨loc1,hp⟩=some (t d,hp)∧(t d=true->F ⟨loc1,hp⟩=some (.dat (g d),hp))) (h0:Φ (unset ts loc)) (hl:l.length≤lim) :
  compF S stepI T tests (emitF F) ts ⟨loc,hp⟩=some (.dat (.list ((l.filter t).map g)),hp):=by
 obtain ⟨loc',_,e⟩:=loop_pureT Φ (T:=T) (tests:=tests) (inner:=emitF F) (t:=t) (ds:=λd=>[g d]) (hp:=hp) hi l 0 rfl (λd hd loc hp'=>by
  refine cps λ_ KK=>?_
  obtain ⟨loc1,h1,h2,h3,h4⟩:=h d hd loc hp'
  refine KK ?_
  refine ⟨loc1,h1,h2,h3,λht=>⟨loc1,h1,?_⟩⟩
  unfold emitF
  rw [h4 ht]) (unset ts loc) n h0 hn
 unfold compF
 refine hS.symm▸?_
 dsimp only
 refine e.symm▸?_
 dsimp only
 have e2:(l.filter t).flatMap (λd=>[g d])=(l.filter t).map g:=by
  exact (List.map_eq_flatMap ..).symm
 rw [e2,if_pos]
 have:=List.length_filter_le t l
 rw [List.length_map]; (exact Nat.le_trans (by assumption) (by assumption))
section
variable {v:Vs} {W:List (Nat×Nat)} {Rs:RS} {k:Nat}
noncomputable def headIs (k:Nat):PyData->Bool
 | .str x=>x.cps.toList.head?==some (97+k)
 | _=>false
noncomputable def wonN (W:List (Nat×Nat)) (k:Nat):Nat:=(W.filter λw=>w.1==k).length
theorem head_eq (w:Nat×Nat) (k:Nat):cmpD .Eq (sD [97+w.1]) (sD [97+k])=some (headIs k (sD (wordP w))):=by
 show some (([97+w.1]:List Nat)==[97+k])=some (some (97+w.1)==some (97+k))
 congr 1
 exact (Bool.and_true _)
theorem p50 (h1:v.wins=some (.obj 1)) (h2:v.name=some (.dat (sD [97+k]))) (hW:W.length≤1000) :
  X_law_5_0.1 ⟨v.loc,[.tab 186 true,.lst (strsP (W.map wordP))]⟩=some (.next,⟨{ v with won:=some (.dat (.int (wonN W k))) }.loc,[.tab 186 true,.lst (strsP (W.map wordP))]⟩):=by
 have hl:(strsP (W.map wordP)).length=W.length:=by simp [strsP]
 have e:=comp_pureT (λloc=>∃a,loc=v.loc.set 28 a) (S:=srcF (nameF 4)) (T:=setL 28) (tests:=cmpX .Eq (bindE (nameF 28) λa=>bindE (iC 0) λb=>itemF a b) (nameF 11)) (F:=nameF 28) (t:=headIs k) (g:=id) (hp:=[.tab 186 true,.lst (strsP (W.map wordP))]) (i:=1) (l:=strsP (W.map wordP)) (loc:=v.loc) (ts:=[28]) (n:=W.length+1)
  rfl (hl▸src_obj (name_at rfl h1) rfl) (Nat.lt_of_le_of_lt (Nat.le_of_eq hl) (Nat.lt_succ_self _)) (λd hd loc ⟨a,hloc⟩=>by
   subst hloc
   refine cps λ_ KK=>?_
   obtain ⟨_,hw,rfl⟩:=List.mem_map.mp hd
   obtain ⟨w,_,rfl⟩:=List.mem_map.mp hw
   refine KK ?_
   refine ⟨_,⟨some (.dat (sD (wordP w))),rfl⟩,rfl,?_,λ_=>rfl⟩
   exact cmp_eq (item_eq (F2:=iC 0) (name_at rfl rfl) rfl rfl) (name_at rfl h2) rfl rfl (head_eq w k)) ⟨none,rfl⟩ (by rw [hl]; unfold lim; (exact Nat.le_trans (by assumption) (by decide)))
 skip
 have e3:(((strsP (W.map wordP)).filter (headIs k)).map id).length=wonN W k:=by
  rw [List.map_id]
  unfold strsP wonN
  rw [List.filter_map,List.filter_map,List.length_map,List.length_map]
  congr 1
  refine List.filter_congr λw _=>?_
  simp [headIs,wordP]
  rw [Bool.eq_iff_iff]; simp
 have hle:wonN W k≤lim:=by
  unfold wonN
  have:=List.length_filter_le (λw:Nat×Nat=>w.1==k) W
  unfold lim; lia
 have e4:lenD (.list (((strsP (W.map wordP)).filter (headIs k)).map id))=some (.int (wonN W k)):=by
  show (if _≤lim then _ else _)=_
  exact e3.symm▸(if_pos hle).symm▸rfl
 exact asg_eq (map1_eq (f:=B1.len.f) e e4)
noncomputable def endN (k:Nat):List Nat:=[[10],[13],[13,10],[10],[13]].getD k []
noncomputable def rowWant (won k:Nat):List Nat:=List.replicate (won+1) 46++(if won > 0 then [13,10] else endN k)
noncomputable def rowHas (Rs:RS) (k:Nat):List Nat:=rowL (Rs[k]?.getD (0,[])).1 (Rs[k]?.getD (0,[])).2
theorem endN_len {k:Nat} (h:k < 5):(endN k).length≤2:=(by decide:∀k,k < 5->(endN k).length≤2) k h
theorem ends_at {k:Nat} (h:k < 5):itemD endsD (.int (k:Int))=some (sD (endN k)):=by
 match k,h with
 | 0,_ | 1,_ | 2,_ | 3,_ | 4,_=>rfl
theorem dots_eq {won:Nat} (hw:won≤1000):mulD (sD [46]) (.int ((won:Int)+1))=some (sD (List.replicate (won+1) 46)):=by
 show (if 1*(won+1)≤lim∧won+1≤lim then some (PyData.str ⟨⟨(List.replicate (won+1) [46]).flatten⟩⟩) else none)=_
 have h:won+1≤lim:=Nat.le_trans (Nat.succ_le_succ hw) (by decide)
 rw [if_pos ⟨by rw [Nat.one_mul]; exact h,h⟩,List.flatten_replicate_singleton]
theorem p51 {won:Nat} (h1:v.rows=some (.dat (rowsP Rs))) (h2:v.k=some (.dat (.int (k:Int)))) (h3:v.won=some (.dat (.int (won:Int)))) (h4:v.ends=some (.dat endsD)) (hk:k < 5) (hR:Rs.length=5) (hw:won≤1000) (hq:rowHas Rs k=rowWant won k) {hp:List MO} :
  X_law_5_1.1 ⟨v.loc,hp⟩=some (.next,⟨v.loc,hp⟩):=by
 have e1:itemD (rowsP Rs) (.int (k:Int))=some (sD (rowWant won k)):=by
  show (if (k:Int).natAbs≤lim then idx (strsP (Rs.map λr=>rowL r.1 r.2)) k else none)=_
  rw [if_pos (show (k:Int).natAbs≤lim from Nat.le_trans (Nat.le_of_lt hk) (by decide:5≤lim)),idx_nat,← hq]
  have:k < Rs.length:=by lia
  simp [strsP,rowHas,this]
 have e2:bindB (cmpX .Gt (nameF 12) (iC 0)) (λc=>if c then sC [13,10] else bindE (nameF 3) λa=>bindE (nameF 10) λb=>itemF a b) ⟨v.loc,hp⟩=some (.dat (sD (if won > 0 then [13,10] else endN k)),hp):=by
  refine ife_eq (c:=decide ((0:Int) < won)) (cmp_eq (name_at rfl h3) rfl rfl rfl rfl) ?_
  by_cases hz:won > 0
  ·rw [decide_eq_true (Int.natCast_pos.mpr hz),if_pos hz]; rfl
  ·rw [decide_eq_false (λq=>hz (Int.natCast_pos.mp q)),if_neg hz]
   exact item_eq (name_at rfl h4) (name_at rfl h2) (ends_at hk)
 have hl:(List.replicate (won+1) 46).length+(if won > 0 then [13,10] else endN k:List Nat).length≤lim:=by
  rw [List.length_replicate]
  have:(if won > 0 then [13,10] else endN k:List Nat).length≤2:=by
   by_cases hz:won > 0
   ·rw [if_pos hz]; exact Nat.le_refl _
   ·rw [if_neg hz]; exact endN_len hk
  exact Nat.le_trans (Nat.add_le_add (Nat.succ_le_succ hw) this) (by decide)
 exact ifn_eq (C:=cmpX .NotEq _ _) (cmp_eq (item_eq (name_at rfl h1) (name_at rfl h2) e1) (bin_eq (op:=.Add) (bin_eq (op:=.Mult) (F1:=sC [46]) rfl (bin_eq (op:=.Add) (F2:=iC 1) (name_at rfl h3) rfl rfl) (dots_eq hw)) e2 (add_str hl)) rfl rfl (ne_str _))
end
theorem for_inv {T:PyData->Loc->Option Loc} {B:XF} {its:List PyData} (I:Nat->St->Prop)
  (h:∀(k:Nat) (d:PyData) σ,its[k]?=some d->I k σ->∃loc σ',T d σ.loc=some loc∧B ⟨loc,σ.hp⟩=some (.next,σ')∧I (k+1) σ'):∀(l:List PyData) (k n:Nat) (σ:St),its.drop k=l->l.length < n->I k σ ->
  ∃σ',forF stepI T B n (.rem l) σ=some (.next,σ')∧I (k+l.length) σ'
 | [],k,n+1,σ,_,_,hI=>⟨σ,rfl,hI⟩
 | d::l,k,n+1,σ,hk,hn,hI=>by
  have hd:its[k]?=some d:=by
   have:(its.drop k)[0]?=some d:=by rw [hk]; rfl
   rwa [List.getElem?_drop,Nat.add_zero] at this
  have hk':its.drop (k+1)=l:=by
   have:(its.drop k).drop 1=l:=by rw [hk]; rfl
   rwa [List.drop_drop] at this
  refine cps λ_ KK=>?_
  obtain ⟨loc,σ',h1,h2,h3⟩:=h k d σ hd hI
  obtain ⟨σ_2,e,q⟩:=for_inv I h l (k+1) n σ' hk' (by rw [List.length_cons] at hn; (exact Nat.le_of_lt_succ (by assumption))) h3
  refine KK ?_
  refine ⟨σ_2,?_,by rw [List.length_cons,show k+(l.length+1)=k+1+l.length by lia]; exact q⟩
  rw [forF_next (is':=.rem l) (d:=d) (hp:=σ.hp) (loc:=loc) rfl h1 h2,e]
noncomputable def abcE:List PyData:=enumF 0 (chars [97,98,99,100,101])
theorem abcE_get {k:Nat} {d:PyData} (h:abcE[k]?=some d):k < 5∧d=.tuple [.int (k:Int),sD [97+k]]:=by
 match k,h with
 | 0,h | 1,h | 2,h | 3,h | 4,h=>exact ⟨by lia,by cases h; rfl⟩
theorem s5 {v:Vs} {W:List (Nat×Nat)} {Rs:RS} (h1:v.wins=some (.obj 1)) (h2:v.rows=some (.dat (rowsP Rs))) (h3:v.ends=some (.dat endsD)) (hW:W.length≤1000) (hR:Rs.length=5) (hq:∀k < 5,rowHas Rs k=rowWant (wonN W k) k) :
  ∃a b c,X_law_5.1 ⟨v.loc,[.tab 186 true,.lst (strsP (W.map wordP))]⟩=some (.next,⟨{ v with k:=a,name:=b,won:=c }.loc,[.tab 186 true,.lst (strsP (W.map wordP))]⟩):=by
 let hp:List MO:=[.tab 186 true,.lst (strsP (W.map wordP))]
 obtain ⟨σ',e,a,b,c,hI⟩:=for_inv (T:=setL2 10 11) (B:=seqF X_law_5_0.1 (seqF X_law_5_1.1 nextF)) (its:=abcE) (λk σ=>∃a b c,σ=⟨{ v with k:=a,name:=b,won:=c }.loc,hp⟩) (λk d σ hd ⟨a,b,c,hσ⟩=>by
  obtain ⟨hk,rfl⟩:=abcE_get hd
  subst hσ
  let v1:Vs:={ v with k:=some (.dat (.int (k:Int))),name:=some (.dat (sD [97+k])),won:=c }
  let v2:Vs:={ v1 with won:=some (.dat (.int (wonN W k))) }
  have e0:=p50 (v:=v1) (k:=k) h1 rfl hW
  have hwl:wonN W k≤1000:=by
   skip
   have:=List.length_filter_le (λw:Nat×Nat=>w.1==k) W
   (exact Nat.le_trans (by assumption) (by assumption))
  have e1:=p51 (v:=v2) (Rs:=Rs) (k:=k) (won:=wonN W k) (hp:=hp) h2 rfl rfl h3 hk hR hwl (hq k hk)
  refine ⟨v1.loc,⟨v2.loc,hp⟩,rfl,?_,_,_,_,rfl⟩
  rw [seq_next e0,seq_id]
  exact e1) abcE 0 6 ⟨v.loc,hp⟩ rfl (by decide) ⟨v.k,v.name,v.won,rfl⟩
 refine ⟨a,b,c,?_⟩
 refine hI▸?_
 exact e
noncomputable def tokS (a c:Nat):List Nat:=if a=0 then [34,46,c,34] else if a=1 then [92,46,92,c] else [46,c]
noncomputable def wsS (b:Nat):Nat:=[10,9,13,32].getD b 0
noncomputable def txtL (A B:Nat->Nat):Nat->List Nat
 | 0=>[]
 | j+1=>txtL A B j++(tokS (A j) (97+j)++[wsS (B j)])
theorem tokS_len (a c:Nat):(tokS a c).length≤4:=by
 unfold tokS
 split
 ·exact Nat.le_refl _
 ·split
  ·exact Nat.le_refl 4
  ·show 2≤4; (exact Nat.le_add_left _ _)
theorem txtL_len (A B:Nat->Nat):∀j,(txtL A B j).length≤5*j
 | 0=>by simp [txtL]
 | j+1=>by
  have:=txtL_len A B j
  have:=tokS_len (A j) (97+j)
  simp [txtL]; lia
section
variable {v:Vs} {hp:List MO} {k a b:Nat} {n:Int} {l:List Nat} {nums:List Int}
theorem nums_at (hn:nums[k]?=some n) (hk:k < 1000):itemD (.list (nums.map .int)) (.int (k:Int))=some (.int n):=by
 show (if (k:Int).natAbs≤lim then idx (nums.map PyData.int) k else none)=_
 rw [if_pos (show (k:Int).natAbs≤lim from Nat.le_trans (Nat.le_of_lt hk) (by decide)),idx_nat,List.getElem?_map,hn]
 rfl
theorem consL_eq {F:EF} {G:LF} {L:Loc} {hp1 hp2:List MO} {p:PV} {ps:List PV} (h1:F ⟨L,hp1⟩=some (p,hp2)) (h2:G ⟨L,hp2⟩=some (ps,hp2)):consL F G ⟨L,hp1⟩=some (p::ps,hp2):=by
 unfold consL bindE
 rw [h1]
 dsimp only
 rw [h2]
theorem listL_eq {G:LF} {L:Loc} {hp1 hp2:List MO} {ps:List PV} {ds:List PyData} (h1:G ⟨L,hp1⟩=some (ps,hp2)) (h2:dats ps=some ds) (h3:ds.length≤lim):datF (listF G) ⟨L,hp1⟩=some (.dat (.list ds),hp2):=by
 unfold datF listF
 rw [h1]
 dsimp only
 rw [h2]
 dsimp only
 rw [if_pos h3]
theorem digit_eq {k1:Nat} {q m:Int} (h1:v.numbers=some (.dat (.list (nums.map .int)))) (h2:v.k=some (.dat (.int (k:Int)))) (hn:nums[k]?=some n) (hk:k < 1000) (hq:fdivD (.int n) (.int q)=some (.int (n.fdiv q))) (e:modD (.int (n.fdiv q)) (.int m)=some (.int (k1:Int))) :
  datF (binX .Mod (datF (binX .FloorDiv (bindE (nameF 2) λa=>bindE (nameF 10) λb=>itemF a b) (iC q))) (iC m)) ⟨v.loc,hp⟩=some (.dat (.int (k1:Int)),hp) :=
 bin_eq (op:=.Mod) (bin_eq (op:=.FloorDiv) (item_eq (name_at rfl h1) (name_at rfl h2) (nums_at hn hk)) rfl hq) rfl e
theorem p70 (h1:v.numbers=some (.dat (.list (nums.map .int)))) (h2:v.k=some (.dat (.int (k:Int)))) (h3:v.name=some (.dat (sD [97+k]))) (h4:v.text=some (.dat (sD l))) (hl:l.length≤1000) (hn:nums[k]?=some n) (hk:k < 1000) (ha:a < 3) (e:(n.fdiv 216).fmod 3=(a:Int)) :
  X_law_7_0.1 ⟨v.loc,hp⟩=some (.next,⟨{ v with text:=some (.dat (sD (l++tokS a (97+k)))) }.loc,hp⟩):=by
 have e2:itemD (.list [sD [34,46,97+k,34],sD [92,46,92,97+k],sD [46,97+k]]) (.int (a:Int))=some (sD (tokS a (97+k))):=by
  match a,ha with
  | 0,_ | 1,_ | 2,_=>rfl
 have n3:nameF 11 ⟨v.loc,hp⟩=some (.dat (sD [97+k]),hp):=name_at rfl h3
 have l3:datF (listF (consL (datF (binX .Add (datF (binX .Add (sC [34,46]) (nameF 11))) (sC [34]))) (consL (datF (binX .Add (sC [92,46,92]) (nameF 11))) (consL (datF (binX .Add (sC [46]) (nameF 11))) nilL)))) ⟨v.loc,hp⟩=some (.dat (.list [sD [34,46,97+k,34],sD [92,46,92,97+k],sD [46,97+k]]),hp) :=
  listL_eq (consL_eq (bin_eq (op:=.Add) (bin_eq (op:=.Add) rfl n3 rfl) rfl rfl) (consL_eq (bin_eq (op:=.Add) rfl n3 rfl) (consL_eq (bin_eq (op:=.Add) rfl n3 rfl) rfl))) rfl (Nat.le_of_ble_eq_true rfl)
 exact asg_eq (bin_eq (op:=.Add) (name_at rfl h4) (item_eq l3 (digit_eq (q:=216) (m:=3) h1 h2 hn hk rfl (congrArg (λi=>some (PyData.int i)) e)) e2) (add_le hl (tokS_len a (97+k)) (by decide)))
theorem p71 (h1:v.numbers=some (.dat (.list (nums.map .int)))) (h2:v.k=some (.dat (.int (k:Int)))) (h4:v.text=some (.dat (sD l))) (hl:l.length≤1000) (hn:nums[k]?=some n) (hk:k < 1000) (hb:b < 4) (e:(n.fdiv 648).fmod 4=(b:Int)) :
  X_law_7_1.1 ⟨v.loc,hp⟩=some (.next,⟨{ v with text:=some (.dat (sD (l++[wsS b]))) }.loc,hp⟩):=by
 have e2:itemD (sD [10,9,13,32]) (.int (b:Int))=some (sD [wsS b]):=by
  match b,hb with
  | 0,_ | 1,_ | 2,_ | 3,_=>rfl
 exact asg_eq (bin_eq (op:=.Add) (name_at rfl h4) (item_eq (F1:=sC [10,9,13,32]) rfl (digit_eq (q:=648) (m:=4) h1 h2 hn hk rfl (congrArg (λi=>some (PyData.int i)) e)) e2) (add_le (b:=1) hl (Nat.le_refl _) (by decide)))
noncomputable def tokA (nums:List Int) (k:Nat):Nat:=(((nums[k]?.getD 0).fdiv 216).fmod 3).toNat
noncomputable def wsB (nums:List Int) (k:Nat):Nat:=(((nums[k]?.getD 0).fdiv 648).fmod 4).toNat
theorem s7 (h1:v.numbers=some (.dat (.list (nums.map .int)))) (h4:v.text=some (.dat (sD []))) (hn:∀n∈nums,0≤n) (hl:nums.length=10) :
  ∃a b,X_law_7.1 ⟨v.loc,hp⟩=some (.next,⟨{ v with k:=a,name:=b,text:=some (.dat (sD (txtL (tokA nums) (wsB nums) 5))) }.loc,hp⟩):=by
 refine cps λ_ KK=>?_
 obtain ⟨σ',e,a,b,hI⟩:=for_inv (T:=setL2 10 11) (B:=seqF X_law_7_0.1 (seqF X_law_7_1.1 nextF)) (its:=abcE) (λk σ=>∃a b,σ=⟨{ v with k:=a,name:=b,text:=some (.dat (sD (txtL (tokA nums) (wsB nums) k))) }.loc,hp⟩) (λk d σ hd ⟨a,b,hσ⟩=>by
  obtain ⟨hk,rfl⟩:=abcE_get hd
  subst hσ
  have hkn:k < nums.length:=by lia
  have hg:nums[k]?=some nums[k]:=List.getElem?_eq_getElem hkn
  have h0:0≤nums[k]:=hn _ (List.getElem_mem hkn)
  let v1:Vs:={ v with k:=some (.dat (.int (k:Int))),name:=some (.dat (sD [97+k])),text:=some (.dat (sD (txtL (tokA nums) (wsB nums) k))) }
  let v2:Vs:={ v1 with text:=some (.dat (sD (txtL (tokA nums) (wsB nums) k++tokS (tokA nums k) (97+k)))) }
  let v3:Vs:={ v2 with text:=some (.dat (sD (txtL (tokA nums) (wsB nums) (k+1)))) }
  have hlen:=txtL_len (tokA nums) (wsB nums) k
  have htl:=tokS_len (tokA nums k) (97+k)
  refine cps λ_ KK=>?_
  obtain ⟨x,hx,ex,_⟩:=fmod_nat (k:=3) (by (exact Nat.succ_pos _)) (fdiv_nonneg (k:=216) (by (exact Nat.succ_pos _)) h0)
  obtain ⟨y,hy,ey,_⟩:=fmod_nat (k:=4) (by (exact Nat.succ_pos _)) (fdiv_nonneg (k:=648) (by (exact Nat.succ_pos _)) h0)
  refine KK ?_
  have hxa:x=tokA nums k:=by
   unfold tokA
   refine hg.symm▸?_
   skip
   refine (show (nums[k].fdiv 216).fmod 3=(x:Int) from ex).symm▸?_
   rfl
  have hyb:y=wsB nums k:=by
   unfold wsB
   refine hg.symm▸?_
   skip
   refine (show (nums[k].fdiv 648).fmod 4=(y:Int) from ey).symm▸?_
   rfl
  have e0:X_law_7_0.1 ⟨v1.loc,hp⟩=some (.next,⟨v2.loc,hp⟩):=p70 (v:=v1) (a:=tokA nums k) h1 rfl rfl rfl (by lia) hg (by lia) (hxa▸hx) (hxa▸ex)
  have e1:X_law_7_1.1 ⟨v2.loc,hp⟩=some (.next,⟨v3.loc,hp⟩):=by
   have:=p71 (v:=v2) (hp:=hp) (b:=wsB nums k) h1 rfl rfl (by rw [List.length_append]; lia) hg (by lia) (hyb▸hy) (hyb▸ey)
   rw [this,List.append_assoc]
   rfl
  refine ⟨v1.loc,⟨v3.loc,hp⟩,rfl,?_,_,_,rfl⟩
  skip
  rw [seq_next e0,seq_id]
  exact e1) abcE 0 6 ⟨v.loc,hp⟩ rfl (by decide) ⟨v.k,v.name,(show txtL (tokA nums) (wsB nums) 0=[] from rfl).symm▸h4▸rfl⟩
 refine KK ?_
 refine ⟨a,b,?_⟩
 subst hI
 exact e
noncomputable def textF (A B:Nat->Nat):List Nat:=txtL A B 4++tokS (A 4) 101
theorem s8 {A B:Nat->Nat} (h4:v.text=some (.dat (sD (txtL A B 5)))):X_law_8.1 ⟨v.loc,hp⟩=some (.next,⟨{ v with text:=some (.dat (sD (textF A B))) }.loc,hp⟩):=by
 have hl:=txtL_len A B 5
 have e1:sliceD none (some (-1)) none (sD (txtL A B 5))=some (sD (textF A B)):=by
  rw [slice_str (by unfold lim; (exact Nat.le_trans (by assumption) (by decide)))]
  have:txtL A B 5=textF A B++[wsS (B 4)]:=by simp [txtL,textF]
  exact this.symm▸sl_init.symm▸rfl
 exact asg_eq (slice_eq (lo:=noP) (hi:=someP (iC (-1))) (st:=noP) (name_at rfl h4) rfl rfl rfl e1)
theorem s9 {wl:List PyData} (h4:v.text=some (.dat (sD l))) (hl:l.length≤lim):X_law_9.1 ⟨v.loc,[.tab 186 true,.lst wl]⟩=some (.next,⟨{ v with lexer:=some (.obj 3) }.loc,hs 186 false wl l false 1 [] none⟩):=by
 exact asg_eq (call1_eq (name_at rfl h4) (lexer_ok hl))
end
noncomputable abbrev hN (P:Addr) (fl:Bool) (wl:List PyData) (s:List Nat) (f:Bool) (n:Int) (pb:List PyData):List MO:=hs P fl wl s f n pb none
section
variable {P:Addr} {fl f:Bool} {wl pb:List PyData} {s:List Nat} {n:Int} {loc:Loc} {hp hp':List MO} {r:Option (PV×List MO)} {d:PyData}
theorem ins_get:insOf 97 "get_token" 3 (hN P fl wl s f n pb)=true:=by cases f<;>kernel_rfl
theorem ins_push:insOf 97 "push_token" 3 (hN P fl wl s f n pb)=true:=by cases f<;>kernel_rfl
noncomputable def getM:EF:=meth0F (nameF 14) 97 "get_token" F_L_get_token
theorem getM_eq (h:getV loc 14=some (.obj 3)) (h2:insOf 97 "get_token" 3 hp=true):getM ⟨loc,hp⟩=F_L_get_token [.obj 3] hp:=by
 unfold getM meth0F bindE nameF
 refine h.symm▸?_
 dsimp only
 exact (if_pos h2).symm▸rfl
noncomputable def pushM (F:EF):EF:=methF (nameF 14) 97 "push_token" (consL F nilL) F_L_push_token
theorem pushM_eq {F:EF} (h:getV loc 14=some (.obj 3)) (hF:F ⟨loc,hN P fl wl s f n pb⟩=some (.dat d,hN P fl wl s f n pb)) (hl:pb.length≤lim):pushM F ⟨loc,hN P fl wl s f n pb⟩=some (.dat .none,hN P fl wl s f n (pb++[d])):=by
 unfold pushM methF bindE nameF
 refine h.symm▸?_
 dsimp only
 refine (if_pos ins_push).symm▸?_
 unfold consL bindE
 refine hF.symm▸?_
 exact push_tok hl
noncomputable def Gets:List PyData->List MO->List MO->Prop
 | [],hp,hp'=>hp=hp'
 | t::ts,hp,hp'=>∃hp1,F_L_get_token [.obj 3] hp=some (.dat t,hp1)∧insOf 97 "get_token" 3 hp=true∧Gets ts hp1 hp'
theorem Gets.append:∀{a b:List PyData} {h1 h2 h3:List MO},Gets a h1 h2->Gets b h2 h3->Gets (a++b) h1 h3
 | [],_,_,_,_,h,q=>by cases h; exact q
 | t::a,b,_,_,_,⟨hp1,e1,e2,h⟩,q=>⟨hp1,e1,e2,Gets.append h q⟩
theorem gets_pb:∀(pb:List PyData) {rest:List PyData},pb.length+rest.length < lim->Gets pb (hN P fl wl s f n (pb++rest)) (hN P fl wl s f n rest)
 | [],_,_=>rfl
 | d::pb,rest,h=>⟨_,get_pb (by show (pb++rest).length < lim; rw [List.length_append]; rw [List.length_cons] at h; lia),ins_get,gets_pb pb (by rw [List.length_cons] at h; lia)⟩
theorem loop_gets {i:Nat} {base:Loc} (hi:∀a,getV (base.set i a) 14=some (.obj 3)):∀(ts l:List PyData) (m:Nat) (a:Option PV) (hp hp':List MO),l.length=ts.length->l.length < m->Gets ts hp hp' ->
  ∃a',loopC stepI (setL i) (λσ=>some (true,σ.hp)) (emitF getM) m (.rem l) ⟨base.set i a,hp⟩=some (ts,⟨base.set i a',hp'⟩)
 | [],[],m+1,a,hp,hp',_,_,h=>by cases h; exact ⟨a,rfl⟩
 | t::ts,d::l,m+1,a,hp,hp',hl,hm,⟨hp1,e1,e2,h⟩=>by
  obtain ⟨a',e⟩:=loop_gets hi ts l m (some (.dat d)) hp1 hp' (by simpa using hl) (by rw [List.length_cons] at hm; (exact Nat.le_of_lt_succ (by assumption))) h
  refine ⟨a',?_⟩
  rw [loopC]
  dsimp only [stepI,setL]
  rw [List.set_set]
  unfold emitF
  refine (getM_eq (hi _) e2).symm▸e1.symm▸?_
  dsimp only
  unfold emitF at e
  refine e.symm▸?_
  rfl
theorem comp_gets {i N:Nat} {base:Loc} {S:SF} {ts:List PyData} (hi:∀a,getV (base.set i a) 14=some (.obj 3)) (hN:N=ts.length) (hS:S ⟨base,hp⟩=some ((.rem (rngF 0 1 N),N+1),hp)) (hl:ts.length≤lim) (h:Gets ts hp hp') :
  compF S stepI (setL i) (λσ=>some (true,σ.hp)) (emitF getM) [i] ⟨base,hp⟩=some (.dat (.list ts),hp'):=by
 obtain ⟨a',e⟩:=loop_gets hi ts (rngF 0 1 N) (N+1) none hp hp' (by rw [rngF_length,hN]) (by rw [rngF_length]; (exact Nat.le_refl _)) h
 unfold compF
 rw [hS]
 dsimp only
 rw [show unset [i] base=base.set i none from rfl,e]
 dsimp only
 rw [if_pos hl]
end
theorem goT_tok {a c w:Nat} {r:List Nat} (hc:97≤c) (hw:isWs w=true) (hr:r≠[]):goT (tokS a c++w::r)=([46,c],some (if a=0 then w::r else r)):=by
 have h34:c≠34:=by lia
 have h92:c≠92:=by lia
 have hcw:isWs c=false:=by
  unfold isWs
  have h1:c≠10:=by lia
  have h2:c≠9:=by lia
  have h3:c≠13:=by lia
  have h4:c≠32:=by lia
  simp [h1,h2,h3,h4]
 have x1:isWs 34=false:=by decide
 have x2:isWs 46=false:=by decide
 have x3:isWs 92=false:=by decide
 obtain ⟨d,r',rfl⟩:=List.exists_cons_of_ne_nil hr
 unfold tokS
 by_cases h0:a=0
 ·simp [h0,goT,goQ,x1,h34,h92]
 ·by_cases h1:a=1
  ·simp [h1,goT,goW,x3,hcw,h92,hw]
  ·simp [h0,h1,goT,goW,x2,hcw,h92,hw]
theorem goT_end {a:Nat}:(goT (tokS a 101)).1=[46,101]∧(goT (tokS a 101)).2.getD []=[]:=by
 unfold tokS
 split
 ·exact ⟨rfl,rfl⟩
 ·split<;>exact ⟨rfl,rfl⟩
theorem goT_ws {w:Nat} {r:List Nat} (hw:isWs w=true) (hr:r≠[]):goT (w::r)=goT r:=by
 obtain ⟨d,r',rfl⟩:=List.exists_cons_of_ne_nil hr
 rw [goT,if_pos hw]
noncomputable def restL (A B:Nat->Nat):Nat->Nat->List Nat
 | 0,k=>tokS (A k) (97+k)
 | j+1,k=>tokS (A k) (97+k)++wsS (B k)::restL A B j (k+1)
theorem restL_ne (A B:Nat->Nat) (j k:Nat):restL A B j k≠[]:=by
 have:tokS (A k) (97+k)≠[]:=by unfold tokS; split<;>(try split)<;>simp
 cases j with
 | zero=>exact this
 | succ j=>simp [restL,this]
theorem textF_rest (A B:Nat->Nat):textF A B=restL A B 4 0:=by simp [textF,txtL,restL]
theorem ws_ok (b:Nat) (h:b < 4):isWs (wsS b)=true:=by
 match b,h with
 | 0,_ | 1,_ | 2,_ | 3,_=>rfl
theorem restL_len (A B:Nat->Nat):∀j k,(restL A B j k).length≤5*j+4
 | 0,k=>by have:=tokS_len (A k) (97+k); show (tokS (A k) (97+k)).length≤_; assumption
 | j+1,k=>by
  have:=tokS_len (A k) (97+k)
  have:=restL_len A B j (k+1)
  show (tokS (A k) (97+k)++wsS (B k)::restL A B j (k+1)).length≤_
  simp; lia
noncomputable def namesD:Nat->Nat->List PyData
 | 0,k=>[sD [46,97+k],sD []]
 | j+1,k=>sD [46,97+k]::namesD j (k+1)
theorem gets_text {A B:Nat->Nat} {P:Addr} {fl:Bool} {wl:List PyData} (hB:∀k,B k < 4):∀(j k:Nat) (s:List Nat) (f:Bool) (n:Int),j+k=4->goT s=goT (restL A B j k)->s.length≤100 ->
  ∃f' n',Gets (namesD j k) (hN P fl wl s f n []) (hN P fl wl [] f' n' [])∧n'=n+(s.count 10:Nat)
 | 0,k,s,f,n,hk,hs,hl=>by
  refine cps λ_ KK=>?_
  obtain ⟨f1,n1,e1,q1⟩:=get_text (P:=P) (fl:=fl) (wl:=wl) (s:=s) (f:=f) (n:=n) (by unfold lim; lia)
  have hk4:k=4:=by lia
  subst hk4
  have hg:goT s=goT (tokS (A 4) 101):=hs
  replace e1:=goT_end.2▸goT_end.1▸hg▸e1
  replace q1:=goT_end.2▸hg▸q1
  obtain ⟨f2,n2,e2,q2⟩:=get_text (P:=P) (fl:=fl) (wl:=wl) (s:=[]) (f:=f1) (n:=n1) (by decide)
  refine KK ?_
  refine ⟨f2,n2,⟨_,e1,ins_get,_,e2,ins_get,rfl⟩,?_⟩
  have z1:(([]:List Nat).count 10:Nat)=0:=rfl
  have z2:((goT []).2.getD []).count 10=0:=rfl
  replace q2:=z1▸z2▸q2
  replace q1:=z1▸q1
  lia
 | j+1,k,s,f,n,hk,hs,hl=>by
  refine cps λ_ KK=>?_
  obtain ⟨f1,n1,e1,q1⟩:=get_text (P:=P) (fl:=fl) (wl:=wl) (s:=s) (f:=f) (n:=n) (by unfold lim; lia)
  have hg:goT s=([46,97+k],some (if A k=0 then wsS (B k)::restL A B j (k+1) else restL A B j (k+1))):=hs.trans (goT_tok (by (exact Nat.le_add_right _ _)) (ws_ok _ (hB k)) (restL_ne A B j (k+1)))
  rw [hg] at e1 q1
  have hlr:=restL_len A B j (k+1)
  obtain ⟨f2,n2,G,q2⟩:=gets_text (P:=P) (fl:=fl) (wl:=wl) hB j (k+1) (if A k=0 then wsS (B k)::restL A B j (k+1) else restL A B j (k+1)) f1 n1 (by lia) (by
   split
   ·exact goT_ws (ws_ok _ (hB k)) (restL_ne A B j (k+1))
   ·rfl) (by split<;>(try simp)<;>lia)
  refine KK ?_
  refine ⟨f2,n2,⟨_,e1,ins_get,G⟩,?_⟩
  dsimp only [Option.getD] at q1
  (exact Eq.trans (by assumption) (by assumption))
end Mine
end
section
open PySem PyProof.Rows
namespace Mine
noncomputable def exprX (F:EF):XF:=bindX F λpv σ=>match pv with
 | .dat .none=>some (.next,σ)
 | _=>none
section
variable {v:Vs} {P:Addr} {fl f:Bool} {wl pb:List PyData} {s:List Nat} {n:Int} {hp hp':List MO} {d:PyData}
theorem cnt_count (c:Nat):∀l:List Nat,cnt c l=(l.count c:Nat)
 | []=>rfl
 | x::l=>by
  rw [cnt_cons,cnt_count c l,List.count_cons]
  by_cases h:x=c
  ·simp [h]; lia
  ·simp [h]
theorem s10 (h:v.lexer=some (.obj 3)) (h2:insOf 97 "get_token" 3 hp=true) (e:F_L_get_token [.obj 3] hp=some (.dat d,hp')):X_law_10.1 ⟨v.loc,hp⟩=some (.next,⟨{ v with early:=some (.dat d) }.loc,hp'⟩):=by
 show bindX getM (setF 15) _=_
 unfold bindX
 rw [getM_eq (getV_at rfl h) h2,e]
 rfl
theorem s11 (h:v.lexer=some (.obj 3)) (h2:v.early=some (.dat d)) (hl:pb.length≤lim):X_law_11.1 ⟨v.loc,hN P fl wl s f n pb⟩=some (.next,⟨v.loc,hN P fl wl s f n (pb++[d])⟩):=by
 show exprX (pushM (nameF 15)) _=_
 unfold exprX bindX
 rw [pushM_eq (d:=d) (getV_at rfl h) (name_at rfl h2) hl]
theorem s12 (h:v.lexer=some (.obj 3)) (h2:v.early=some (.dat d)) (hl:pb.length≤lim):X_law_12.1 ⟨v.loc,hN P fl wl s f n pb⟩=some (.next,⟨v.loc,hN P fl wl s f n (pb++[d])⟩):=s11 h h2 hl
theorem s13 {ts:List PyData} (h:v.lexer=some (.obj 3)) (hts:ts.length=7) (hg:Gets ts hp hp'):X_law_13.1 ⟨v.loc,hp⟩=some (.next,⟨{ v with tokens:=some (.dat (.list ts)) }.loc,hp'⟩):=by
 show bindX (compF (rngSrc (consL (iC 7) nilL)) stepI (setL 29) (λσ=>some (true,σ.hp)) (emitF getM) [29]) (setF 16) _=_
 unfold bindX
 rw [comp_gets (N:=7) (λa=>getV_at rfl h) hts.symm (by kernel_rfl) (by rw [hts]; decide) hg]
 rfl
noncomputable def toksD:PyData:=.list [sD [46,97],sD [46,97],sD [46,98],sD [46,99],sD [46,100],sD [46,101],sD []]
theorem ne_int (n:Int):cmpD .NotEq (.int n) (.int n)=some false:=by
 show some (!(n==n))=_
 rw [beq_self_eq_true]; rfl
theorem s14 {t:List Nat} (h:v.lexer=some (.obj 3)) (h2:v.tokens=some (.dat toksD)) (h3:v.text=some (.dat (sD t))) (hn:n=1+(t.count 10:Nat)):X_law_14.1 ⟨v.loc,hN P fl wl s f n pb⟩=some (.next,⟨v.loc,hN P fl wl s f n pb⟩):=by
 have e2:attrOf 97 1 (.obj 3) ⟨v.loc,hN P fl wl s f n pb⟩=some (.dat (.int n),hN P fl wl s f n pb):=by cases f<;>rfl
 have e3:Txt.count ⟨⟨t⟩⟩ ⟨⟨[10]⟩⟩=(t.count 10:Nat):=by
  rw [show (⟨⟨[10]⟩⟩:Str)=⟨#[10]⟩ from rfl,count_cnt,cnt_count]
 let tF:EF:=datF (listF (consL (sC [46,97]) (consL (sC [46,97]) (consL (sC [46,98]) (consL (sC [46,99]) (consL (sC [46,100]) (consL (sC [46,101]) (consL (sC []) nilL))))))))
 have c1:cmpX .NotEq (nameF 16) tF ⟨v.loc,hN P fl wl s f n pb⟩=some (false,hN P fl wl s f n pb):=by
  have a1:nameF 16 ⟨v.loc,hN P fl wl s f n pb⟩=some (.dat toksD,hN P fl wl s f n pb):=name_at rfl h2
  unfold cmpX bindE
  refine a1.symm▸?_
  kernel_rfl
 have a1:bindE (nameF 14) (attrOf 97 1) ⟨v.loc,hN P fl wl s f n pb⟩=some (.dat (.int n),hN P fl wl s f n pb):=by
  unfold bindE
  rw [name_at rfl h]
  exact e2
 have c2:cmpX .NotEq (bindE (nameF 14) (attrOf 97 1)) (datF (binX .Add (iC 1) (datF (Mine.meth1 .count (nameF 13) (sC [10]))))) ⟨v.loc,hN P fl wl s f n pb⟩=some (false,hN P fl wl s f n pb) :=
  cmp_eq a1 (bin_eq (op:=.Add) rfl (meth1_eq (m:=.count) (name_at rfl h3) rfl rfl (congrArg (λk=>some (PyData.int k)) e3)) (by rw [hn]; rfl)) rfl rfl (ne_int n)
 show ifF (bindB (cmpX .NotEq (nameF 16) tF) λb=>if b then retB true else bindB (cmpX .NotEq (bindE (nameF 14) (attrOf 97 1)) (datF (binX .Add (iC 1) (datF (Mine.meth1 .count (nameF 13) (sC [10])))))) λb=>if b then retB true else retB false) _ nextF _=_
 unfold ifF bindB
 refine c1.symm▸?_
 dsimp only
 refine (if_neg Bool.false_ne_true).symm▸c2.symm▸?_
 rfl
noncomputable def dotsD (k:Nat):List PyData:=(List.range k).map λk=>sD [46,97+k]
theorem s15 (h:v.lexer=some (.obj 3)):∃a,X_law_15.1 ⟨v.loc,hN P fl wl s f n []⟩=some (.next,⟨{ v with name:=a }.loc,hN P fl wl s f n (dotsD 5)⟩):=by
 obtain ⟨σ',e,a,hI⟩:=for_inv (T:=setL 11) (B:=seqF X_law_15_0.1 nextF) (its:=chars [97,98,99,100,101]) (λk σ=>∃a,σ=⟨{ v with name:=a }.loc,hN P fl wl s f n (dotsD k)⟩) (λk d σ hd ⟨a,hσ⟩=>by
  subst hσ
  have hkd:k < 5∧d=sD [97+k]:=by
   match k,hd with
   | 0,h | 1,h | 2,h | 3,h | 4,h=>exact ⟨by lia,by cases h; rfl⟩
  obtain ⟨hk,rfl⟩:=hkd
  let v1:Vs:={ v with name:=some (.dat (sD [97+k])) }
  refine ⟨v1.loc,⟨v1.loc,hN P fl wl s f n (dotsD (k+1))⟩,rfl,?_,_,rfl⟩
  rw [seq_id]
  show exprX (pushM (datF (binX .Add (sC [46]) (nameF 11)))) ⟨v1.loc,_⟩=_
  unfold exprX bindX
  have:datF (binX .Add (sC [46]) (nameF 11)) ⟨v1.loc,hN P fl wl s f n (dotsD k)⟩=some (.dat (sD [46,97+k]),hN P fl wl s f n (dotsD k)):=bin_eq (op:=.Add) rfl (name_at rfl rfl) rfl
  refine (pushM_eq (d:=sD [46,97+k]) (getV_at rfl h) this (by simp [dotsD,lim]; (exact Nat.le_trans (Nat.le_of_lt (by assumption)) (by decide)))).symm▸?_
  dsimp only
  have:dotsD k++[sD [46,97+k]]=dotsD (k+1):=by simp [dotsD,List.range_succ]
  rw [this]) (chars [97,98,99,100,101]) 0 6 ⟨v.loc,hN P fl wl s f n []⟩ rfl (by decide) ⟨v.name,rfl⟩
 refine ⟨a,?_⟩
 subst hI
 exact e
theorem s16:X_law_16.1 ⟨v.loc,hp⟩=some (.next,⟨{ v with many:=some (.dat (.int 5)) }.loc,hp⟩):=rfl
end
theorem sum_le {M k:Nat}:∀ws:List (List Nat),(∀w∈ws,w.length≤M)->(ws.map λw=>w.length+k).sum≤ws.length*(M+k)
 | [],_=>by simp
 | w::ws,h=>by
  have:=sum_le (k:=k) ws λx hx=>h x (List.mem_cons_of_mem _ hx)
  have h1:=h w (List.mem_cons_self ..)
  rw [List.map_cons,List.sum_cons,List.length_cons,Nat.add_mul]
  lia
theorem dotted_len (w:List Nat):(dotted w).length≤w.length+1:=by
 unfold dotted
 split<;>simp
theorem dotted_mem {w:List Nat} {c:Nat} (h:c∈dotted w):c∈w:=by
 unfold dotted at h
 split at h
 ·simp at h ⊢; rcases h with h | h<;>simp [h]
 ·exact h
theorem mail_ok {sep:List Nat} (hs:sep=[10]∨sep=[13]∨sep=[13,10]) {ws:List (List Nat)} (hne:ws≠[]) (hw:∀w∈ws,plainW w∧(∀c∈w,c < 200)∧w.length≤20) (hl:ws.length≤4000) (hp:List MO) :
  joinD ⟨⟨sep⟩⟩ (strsP ws)=some (sD (joinL sep ws))∧F_quotedata [.dat (sD (joinL sep ws))] hp=some (.dat (sD (joinL [13,10] (ws.map dotted))),hp)∧splitD ⟨⟨joinL [13,10] (ws.map dotted)⟩⟩ crlf=some (.list (strsP (ws.map dotted))):=by
 have hsl:sep.length≤2:=by rcases hs with rfl | rfl | rfl<;>decide
 have hsc:∀c∈sep,c < 200:=by rcases hs with rfl | rfl | rfl<;>simp
 have hcr:∀c∈([13,10]:List Nat),c < 200:=by simp
 have hcl:([13,10]:List Nat).length=2:=rfl
 have p1:∀w∈ws,plainW w:=λw h=>(hw w h).1
 have hj:=joinL_len sep ws
 have hjs:=sum_le (k:=sep.length) ws λw h=>(hw w h).2.2
 have hb:ws.length*(20+sep.length)≤4000*22:=Nat.mul_le_mul hl (by lia)
 have e1:sub2L (joinL sep ws)=joinL [13,10] ws:=sub2_join hs ws p1
 have e2:sub1L true (joinL [13,10] ws)=joinL [13,10] (ws.map dotted):=sub1_join ws p1
 have hj2:=joinL_len [13,10] ws
 have hjs2:=sum_le (k:=2) ws λw h=>(hw w h).2.2
 have hj3:=joinL_len [13,10] (ws.map dotted)
 have hd:∀w∈ws.map dotted,w.length≤21:=by
  intro w h
  obtain ⟨x,hx,rfl⟩:=List.mem_map.mp h
  have:=dotted_len x
  have:=(hw x hx).2.2
  lia
 have hjs3:=sum_le (k:=2) (ws.map dotted) hd
 rw [List.length_map] at hjs3
 rw [hcl] at hj2 hj3
 have hdc:∀w∈ws.map dotted,∀c∈w,c < 200∧c≠13:=by
  intro w h c hc
  obtain ⟨x,hx,rfl⟩:=List.mem_map.mp h
  have:=dotted_mem hc
  exact ⟨(hw x hx).2.1 c this,((hw x hx).1.2 c this).2⟩
 have c1:∀c∈joinL [13,10] ws,c < 0x110000:=by
  intro c hc
  rcases joinL_mem hc with h | ⟨w,h,h'⟩
  ·have:=hcr c h; (exact Nat.le_trans (by assumption) (by decide))
  ·have:=(hw w h).2.1 c h'; (exact Nat.le_trans (by assumption) (by decide))
 have c2:∀c∈joinL [13,10] (ws.map dotted),c < 0x110000:=by
  intro c hc
  rcases joinL_mem hc with h | ⟨w,h,h'⟩
  ·have:=hcr c h; (exact Nat.le_trans (by assumption) (by decide))
  ·have:=(hdc w h c h').1; (exact Nat.le_trans (by assumption) (by decide))
 refine ⟨?_,?_,?_⟩
 ·exact join_eq (by unfold lim; lia) (λc h=>by have:=hsc c h; (exact Nat.le_trans (by assumption) (by decide))) (λw h c hc=>by have:=(hw w h).2.1 c hc; (exact Nat.le_trans (by assumption) (by decide)))
 ·rw [quote_eq (l:=joinL sep ws) (hp:=hp) (by unfold lim; lia) (by rw [e1]; unfold lim; lia) (by rw [e1]; exact c1) (e1.symm▸e2.symm▸(c2)),e1,e2]
 ·refine (split_crlf (by unfold lim; lia) c2).symm▸(splitL_join _ (by simp [hne]) λw h c hc=>(hdc w h c hc).2).symm▸?_
  rfl
section
variable {v:Vs} {P:Addr} {fl f:Bool} {wl pb:List PyData} {s:List Nat} {n:Int} {hp hp':List MO} {d:PyData} {ws:List (List Nat)}
theorem fitsN {n:Nat} (h:n≤100000):Builtin.Range.rangeFitsLong (n:Int)=true:=by
 unfold Builtin.Range.rangeFitsLong
 rw [decide_eq_true (Int.le_trans (by decide) (Int.natCast_nonneg n)),decide_eq_true (Int.lt_of_le_of_lt (Int.ofNat_le.mpr h) (by decide))]
 rfl
theorem small_nn {a b:Nat} (ha:a≤100000) (hb:b≤100000):Builtin.Range.small a b 1=true∧(Builtin.Range.rangeSize a b 1).toNat=b - a:=by
 have e:Builtin.Range.rangeSize (a:Int) (b:Int) 1=((b - a:Nat):Int):=by
  rw [size_up]
  by_cases h:(a:Int) < b
  ·rw [if_pos h,Int.natCast_sub (Int.ofNat_le.mp (Int.le_of_lt h))]
  ·rw [if_neg h,Nat.sub_eq_zero_of_le (Int.ofNat_le.mp (Int.not_lt.mp h))]; rfl
 refine ⟨?_,by rw [e]; rfl⟩
 show (Builtin.Range.rangeFitsLong (a:Int)&&Builtin.Range.rangeFitsLong (b:Int)&&Builtin.Range.rangeFitsLong 1&&Builtin.Range.rangeFitsLong (Builtin.Range.rangeSize a b 1)&&(Builtin.Range.rangeSize a b 1==0||Builtin.Range.rangeFitsLong ((b:Int)+(1 - 1))))=true
 rw [e,fitsN ha,fitsN hb,fitsN (Nat.le_trans (Nat.sub_le ..) hb),show ((b:Int)+(1 - 1))=b from Int.add_zero _,fitsN hb,Bool.or_true]
 rfl
theorem small_rng {N:Nat} (h:N≤4000):Builtin.Range.small 0 N 1=true∧(Builtin.Range.rangeSize 0 N 1).toNat=N:=small_nn (a:=0) (Nat.zero_le _) (Nat.le_trans h (by decide))
theorem rng_src {N:Nat} {loc:Loc} {F:EF} (hN:N≤4000) (h:F ⟨loc,hp⟩=some (.dat (.int (N:Nat)),hp)):rngSrc (consL F nilL) ⟨loc,hp⟩=some ((.rem (rngF 0 1 N),N+1),hp):=by
 obtain ⟨h1,h2⟩:=small_rng hN
 unfold rngSrc
 rw [show consL F nilL ⟨loc,hp⟩=some ([.dat (.int (N:Nat))],hp) by unfold consL bindE; rw [h]; rfl]
 show (if (1:Int)≠0∧Builtin.Range.small 0 N 1=true∧(1:Int).natAbs < 2 ^ 60 then some ((IS.rem (rngF 0 1 (Builtin.Range.rangeSize 0 N 1).toNat),(Builtin.Range.rangeSize 0 N 1).toNat+1),hp) else none)=_
 rw [if_pos ⟨by decide,h1,by decide⟩,h2]
theorem p170 (h:v.lexer=some (.obj 3)) (h2:v.many=some (.dat (.int (pb.length:Nat)))) (hl:pb.length≤4000) :
  X_law_17_0.1 ⟨v.loc,hN P fl wl s f n pb⟩=some (.next,⟨{ v with mail:=some (.dat (.list (pb++[sD [120,46]]))) }.loc,hN P fl wl s f n []⟩):=by
 have e:=comp_gets (i:=30) (N:=pb.length) (base:=v.loc) (S:=rngSrc (consL (nameF 17) nilL)) (ts:=pb) (hp:=hN P fl wl s f n pb) (hp':=hN P fl wl s f n []) (λa=>getV_at rfl h) rfl (rng_src hl (name_at rfl h2)) (by unfold lim; (exact Nat.le_trans (by assumption) (by decide)))
  (by have:=gets_pb (P:=P) (fl:=fl) (wl:=wl) (s:=s) (f:=f) (n:=n) pb (rest:=[]) (by simp [lim]; (exact Nat.lt_of_le_of_lt (by assumption) (by decide))); rwa [List.append_nil] at this)
 show bindX (datF (binX .Add (compF (rngSrc (consL (nameF 17) nilL)) stepI (setL 30) (λσ=>some (true,σ.hp)) (emitF getM) [30]) (datF (listF (consL (sC [120,46]) nilL))))) (setF 19) _=_
 exact asg_eq (bin_eq (op:=.Add) (d:=.list (pb++[sD [120,46]])) e (show _=some (PV.dat (.list [sD [120,46]]),_) from rfl) (add_list (Nat.le_trans (Nat.add_le_add_right hl 1) (by decide))))
noncomputable def sepT (t:Nat):List Nat:=[[10],[13],[13,10]].getD (t % 3) []
theorem p171 {t:Nat} (h1:v.turn=some (.dat (.int (t:Nat)))) (h2:v.mail=some (.dat (.list (strsP ws)))) (hne:ws≠[]) (hw:∀w∈ws,plainW w∧(∀c∈w,c < 200)∧w.length≤20) (hl:ws.length≤4000) :
  X_law_17_1.1 ⟨v.loc,hp⟩=some (.next,⟨{ v with mail:=some (.dat (.list (strsP (ws.map dotted)))) }.loc,hp⟩):=by
 have e0:itemD (.list [sD [10],sD [13],sD [13,10]]) (.int ((t:Int).fmod 3))=some (sD (sepT t)):=by
  have:((t:Int).fmod 3)=((t % 3:Nat):Int):=by rw [Int.fmod_eq_emod_of_nonneg _ (by (exact Int.natCast_nonneg _))]; rfl
  refine this.symm▸?_
  unfold sepT
  have h3:t % 3 < 3:=Nat.mod_lt _ (by (exact Nat.succ_pos _))
  match t % 3,h3 with
  | 0,_ | 1,_ | 2,_=>rfl
 have hs:sepT t=[10]∨sepT t=[13]∨sepT t=[13,10]:=by
  unfold sepT
  have h3:t % 3 < 3:=Nat.mod_lt _ (by (exact Nat.succ_pos _))
  match t % 3,h3 with
  | 0,_=>exact .inl rfl
  | 1,_=>exact .inr (.inl rfl)
  | 2,_=>exact .inr (.inr rfl)
 obtain ⟨e1,e2,e3⟩:=mail_ok hs hne hw hl hp
 unfold crlf at e3
 exact asg_eq (meth1_eq (m:=.split) (F2:=sC [13,10]) (call1_eq (meth1_eq (m:=.join) (item_eq (F1:=datF (listF (consL (sC [10]) (consL (sC [13]) (consL (sC [13,10]) nilL))))) rfl (bin_eq (op:=.Mod) (F2:=iC 3) (name_at rfl h1) rfl rfl) e0) rfl (name_at rfl h2) e1) e2) rfl rfl e3)
theorem item_last {l:List PyData} {x:PyData}:itemD (.list (l++[x])) (.int (-1))=some x:=by
 show (if (-1:Int).natAbs≤lim then idx (l++[x]) (-1) else none)=_
 rw [if_pos (by decide),idx_last]
theorem p172 (h2:v.mail=some (.dat (.list (pb++[sD [120,46]])))):X_law_17_2.1 ⟨v.loc,hp⟩=some (.next,⟨v.loc,hp⟩):=by
 have e:=item_last (l:=pb) (x:=sD [120,46])
 exact ifn_eq (C:=cmpX .NotEq _ _) (cmp_eq (F2:=sC [120,46]) (item_eq (F2:=iC (-1)) (name_at rfl h2) rfl e) rfl rfl rfl (ne_str _))
theorem p173:X_law_17_3.1 ⟨v.loc,hp⟩=some (.next,⟨{ v with many:=some (.dat (.int (0:Nat))) }.loc,hp⟩):=rfl
noncomputable def inW (W:List (Nat×Nat)) (l k:Nat):Bool:=W.any λw=>w.1==l&&w.2==k
theorem in_wins (W:List (Nat×Nat)) (l k:Nat):inD (sD [97+l,97+k]) (.list (strsP (W.map wordP)))=some (inW W l k):=by
 show (if okD 3 (sD [97+l,97+k])=true then some ((strsP (W.map wordP)).any λy=>eqP y (sD [97+l,97+k])) else none)=_
 refine (if_pos (show okD 3 (sD [97+l,97+k])=true from rfl)).symm▸?_
 unfold strsP inW
 refine List.any_map.symm▸List.any_map.symm▸?_
 congr 2
 funext w
 show ([97+w.1,97+w.2]==[97+l,97+k])=(w.1==l&&w.2==k)
 rw [Bool.eq_iff_iff]
 simp
theorem sl_last {α:Type} {l:List α} {x:α}:sl (some (-1)) none (l++[x])=[x]:=by
 have e:clip (l++[x]).length (some (-1)) 0=l.length:=by
  exact List.length_append.symm▸List.length_singleton.symm▸clip_m1.symm▸rfl
 unfold sl
 refine e.symm▸?_
 have:clip (l++[x]).length none (l++[x]).length=(l++[x]).length:=rfl
 refine this.symm▸List.take_length.symm▸(List.drop_append_of_le_length (Nat.le_refl _)).symm▸List.drop_length.symm▸?_
 rfl
noncomputable def extB (W:List (Nat×Nat)) (w:List Nat) (l k:Nat):Bool:=inW W l k&&!w.contains (97+k)
theorem p1700 {W:List (Nat×Nat)} {x:List Nat} {l k m:Nat} (h0:v.lexer=some (.obj 3)) (h1:v.word=some (.dat (sD (x++[97+l])))) (h2:v.name=some (.dat (sD [97+k]))) (h3:v.wins=some (.obj 1)) (h4:v.many=some (.dat (.int (m:Nat)))) (hx:x.length≤100) (hpb:pb.length≤lim) :
  X_law_17_4_0_0.1 ⟨v.loc,hN P fl (strsP (W.map wordP)) s f n pb⟩=some (.next,if extB W (x++[97+l]) l k then ⟨{ v with many:=some (.dat (.int (m+1:Nat))) }.loc,hN P fl (strsP (W.map wordP)) s f n (pb++[sD (x++[97+l]++[97+k])])⟩ else ⟨v.loc,hN P fl (strsP (W.map wordP)) s f n pb⟩):=by
 let hp:=hN P fl (strsP (W.map wordP)) s f n pb
 have e1:sliceD (some (-1)) none none (sD (x++[97+l]))=some (sD [97+l]):=by
  rw [slice_str (by rw [List.length_append]; unfold lim; simp; (exact Nat.le_trans (by assumption) (by decide))),sl_last]
 have n20:nameF 20 ⟨v.loc,hp⟩=some (.dat (sD (x++[97+l])),hp):=name_at rfl h1
 have n11:nameF 11 ⟨v.loc,hp⟩=some (.dat (sD [97+k]),hp):=name_at rfl h2
 have n4:nameF 4 ⟨v.loc,hp⟩=some (.obj 1,hp):=name_at rfl h3
 have c1:cmpX .In (datF (binX .Add (datF (sliceX (nameF 20) (someP (iC (-1))) noP noP)) (nameF 11))) (nameF 4) ⟨v.loc,hp⟩=some (inW W l k,hp) :=
  cmp_eq (bin_eq (d:=sD [97+l,97+k]) (slice_eq n20 rfl rfl rfl e1) n11 rfl) n4 rfl rfl (in_wins W l k)
 have c2:cmpX .NotIn (nameF 11) (nameF 20) ⟨v.loc,hp⟩=some (!(x++[97+l]).contains (97+k),hp):=cmp_eq n11 n20 rfl rfl rfl
 have c:∀b,b=extB W (x++[97+l]) l k->(bindB (cmpX .In (datF (binX .Add (datF (sliceX (nameF 20) (someP (iC (-1))) noP noP)) (nameF 11))) (nameF 4)) λb=>if b then bindB (cmpX .NotIn (nameF 11) (nameF 20)) λb=>if b then retB true else retB false else retB false) ⟨v.loc,hp⟩=some (b,hp):=by
  intro b hb
  subst hb
  unfold bindB extB
  refine c1.symm▸?_
  cases inW W l k with
  | false=>rfl
  | true =>
   dsimp only
   refine (if_pos rfl).symm▸?_
   dsimp only
   refine c2.symm▸?_
   cases (x++[97+l]).contains (97+k)<;>rfl
 show ifF (bindB (cmpX .In (datF (binX .Add (datF (sliceX (nameF 20) (someP (iC (-1))) noP noP)) (nameF 11))) (nameF 4)) λb=>if b then bindB (cmpX .NotIn (nameF 11) (nameF 20)) λb=>if b then retB true else retB false else retB false)
  (seqF (exprX (pushM (datF (binX .Add (nameF 20) (nameF 11))))) (seqF (bindX (datF (binX .Add (nameF 17) (iC 1))) (setF 17)) nextF)) nextF ⟨v.loc,hp⟩=_
 unfold ifF
 refine (c _ rfl).symm▸?_
 dsimp only
 cases extB W (x++[97+l]) l k with
 | false=>rfl
 | true =>
  rw [if_pos rfl,if_pos rfl]
  have e2:datF (binX .Add (nameF 20) (nameF 11)) ⟨v.loc,hp⟩=some (.dat (sD (x++[97+l]++[97+k])),hp):=bin_eq (op:=.Add) n20 n11 (show addD (sD (x++[97+l])) (sD [97+k])=_ from if_pos (by unfold lim; simp; (exact Nat.le_trans (by assumption) (by decide))))
  have e3:exprX (pushM (datF (binX .Add (nameF 20) (nameF 11)))) ⟨v.loc,hp⟩=some (.next,⟨v.loc,hN P fl (strsP (W.map wordP)) s f n (pb++[sD (x++[97+l]++[97+k])])⟩):=by
   unfold exprX bindX
   exact (pushM_eq (getV_at rfl h0) e2 hpb).symm▸rfl
  rw [seq_next e3,seq_id]
  exact asg_eq (bin_eq (d:=.int ((m+1:Nat):Int)) (name_at rfl h4) (show iC 1 _=some (PV.dat (.int 1),_) from rfl) rfl)
end
noncomputable def abcC:List PyData:=chars [97,98,99,100,101]
theorem abcC_get {k:Nat} {d:PyData} (h:abcC[k]?=some d):k < 5∧d=sD [97+k]:=by
 match k,h with
 | 0,h | 1,h | 2,h | 3,h | 4,h=>exact ⟨by lia,by cases h; rfl⟩
noncomputable def extK (W:List (Nat×Nat)) (w:List Nat) (l k:Nat):List (List Nat):=((List.range k).filter (extB W w l)).map λk=>w++[97+k]
theorem extK_succ (W:List (Nat×Nat)) (w:List Nat) (l k:Nat):extK W w l (k+1)=extK W w l k++(if extB W w l k then [w++[97+k]] else []):=by
 unfold extK
 rw [List.range_succ,List.filter_append,List.map_append]
 congr 1
 cases h:extB W w l k<;>simp [h]
theorem extK_len (W:List (Nat×Nat)) (w:List Nat) (l k:Nat):(extK W w l k).length≤k:=by
 unfold extK
 rw [List.length_map]
 have:=List.length_filter_le (extB W w l) (List.range k)
 rwa [List.length_range] at this
theorem strsP_app (a b:List (List Nat)):strsP (a++b)=strsP a++strsP b:=by simp [strsP]
section
variable {v:Vs} {P:Addr} {fl f:Bool} {wl pb:List PyData} {s:List Nat} {n:Int} {hp hp':List MO} {d:PyData} {ws:List (List Nat)} {W:List (Nat×Nat)}
theorem pIn {x:List Nat} {l m:Nat} (h0:v.lexer=some (.obj 3)) (h1:v.word=some (.dat (sD (x++[97+l])))) (h3:v.wins=some (.obj 1)) (h4:v.many=some (.dat (.int (m:Nat)))) (hx:x.length≤100) (hpb:pb.length≤100000) :
  ∃a,X_law_17_4_0.1 ⟨v.loc,hN P fl (strsP (W.map wordP)) s f n pb⟩=some (.next,⟨{ v with name:=a,many:=some (.dat (.int ((m+(extK W (x++[97+l]) l 5).length:Nat):Int))) }.loc,hN P fl (strsP (W.map wordP)) s f n (pb++strsP (extK W (x++[97+l]) l 5))⟩):=by
 obtain ⟨σ',e,a,hI⟩:=for_inv (T:=setL 11) (B:=seqF X_law_17_4_0_0.1 nextF) (its:=abcC) (λk σ=>∃a,σ=⟨{ v with name:=a,many:=some (.dat (.int ((m+(extK W (x++[97+l]) l k).length:Nat):Int))) }.loc,hN P fl (strsP (W.map wordP)) s f n (pb++strsP (extK W (x++[97+l]) l k))⟩) (λk d σ hd ⟨a,hσ⟩=>by
  subst hσ
  obtain ⟨hk,rfl⟩:=abcC_get hd
  let v1:Vs:={ v with name:=some (.dat (sD [97+k])),many:=some (.dat (.int ((m+(extK W (x++[97+l]) l k).length:Nat):Int))) }
  let v2:Vs:={ v1 with many:=some (.dat (.int ((m+(extK W (x++[97+l]) l (k+1)).length:Nat):Int))) }
  refine ⟨v1.loc,⟨v2.loc,hN P fl (strsP (W.map wordP)) s f n (pb++strsP (extK W (x++[97+l]) l (k+1)))⟩,rfl,?_,_,rfl⟩
  rw [seq_id]
  have hle:=extK_len W (x++[97+l]) l k
  have e:=p1700 (v:=v1) (P:=P) (fl:=fl) (f:=f) (s:=s) (n:=n) (pb:=pb++strsP (extK W (x++[97+l]) l k)) (W:=W) (x:=x) (l:=l) (k:=k) (m:=m+(extK W (x++[97+l]) l k).length) h0 h1 rfl h3 rfl hx (by rw [List.length_append]; simp [strsP,lim]; lia)
  refine e.trans ?_
  have hv:v2={ v1 with many:=some (.dat (.int ((m+(extK W (x++[97+l]) l (k+1)).length:Nat):Int))) }:=rfl
  refine hv.symm▸?_
  cases hb:extB W (x++[97+l]) l k with
  | false=>rw [if_neg Bool.false_ne_true,extK_succ,hb,if_neg Bool.false_ne_true,List.append_nil]
  | true =>
   rw [if_pos rfl,extK_succ,hb,if_pos rfl,strsP_app,← List.append_assoc,List.length_append]
   rfl) abcC 0 6 ⟨v.loc,hN P fl (strsP (W.map wordP)) s f n pb⟩ rfl (by decide) ⟨v.name,by simp [Vs.loc,h4,extK,strsP]⟩
 refine ⟨a,?_⟩
 subst hI
 exact e
noncomputable def lastS (w:List Nat):Nat:=w.getLast?.getD 0 - 97
noncomputable def extS (W:List (Nat×Nat)) (w:List Nat):List (List Nat):=extK W w (lastS w) 5
theorem lastS_eq (x:List Nat) (l:Nat):lastS (x++[97+l])=l:=by simp [lastS]
theorem ext_len (W:List (Nat×Nat)):∀ws:List (List Nat),(ws.flatMap (extS W)).length≤5*ws.length
 | []=>by simp
 | w::ws=>by
  have:=ext_len W ws
  have:=extK_len W w (lastS w) 5
  rw [List.flatMap_cons,List.length_append,List.length_cons]
  unfold extS at *
  lia
theorem pOut (h0:v.lexer=some (.obj 3)) (h1:v.mail=some (.dat (.list (strsP ws++[sD [120,46]])))) (h3:v.wins=some (.obj 1)) (h4:v.many=some (.dat (.int (0:Nat)))) (hw:∀w∈ws,∃x l,w=x++[97+l]∧x.length≤100) (hl:ws.length≤4000) :
  ∃a b,X_law_17_4.1 ⟨v.loc,hN P fl (strsP (W.map wordP)) s f n []⟩=some (.next,⟨{ v with word:=a,name:=b,many:=some (.dat (.int (((ws.flatMap (extS W)).length:Nat):Int))) }.loc,hN P fl (strsP (W.map wordP)) s f n (strsP (ws.flatMap (extS W)))⟩):=by
 let Z:Nat->List (List Nat):=λk=>(ws.take k).flatMap (extS W)
 obtain ⟨σ',e,a,b,hI⟩:=for_inv (T:=setL 20) (B:=seqF X_law_17_4_0.1 nextF) (its:=strsP ws) (λk σ=>∃a b,σ=⟨{ v with word:=a,name:=b,many:=some (.dat (.int (((Z k).length:Nat):Int))) }.loc,hN P fl (strsP (W.map wordP)) s f n (strsP (Z k))⟩) (λk d σ hd ⟨a,b,hσ⟩=>by
  subst hσ
  have hd':(ws.map λw=>sD w)[k]?=some d:=hd
  rw [List.getElem?_map] at hd'
  obtain ⟨w,hwk,rfl⟩:=Option.map_eq_some_iff.mp hd'
  obtain ⟨x,l,rfl,hx⟩:=hw w (List.mem_of_getElem? hwk)
  have hkl:k < ws.length:=(List.getElem?_eq_some_iff.mp hwk).1
  have hZ:Z (k+1)=Z k++extK W (x++[97+l]) l 5:=by
   show (ws.take (k+1)).flatMap (extS W)=_
   refine List.take_add_one.symm▸hwk.symm▸List.flatMap_append.symm▸?_
   show _++(extK W (x++[97+l]) (lastS (x++[97+l])) 5++[])=_
   rw [lastS_eq,List.append_nil]
  have hZl:(Z k).length≤5*k:=by
   have:=ext_len W (ws.take k)
   replace this:=List.length_take▸this
   skip
   lia
  let v1:Vs:={ v with word:=some (.dat (sD (x++[97+l]))),name:=b,many:=some (.dat (.int (((Z k).length:Nat):Int))) }
  obtain ⟨c,e⟩:=pIn (v:=v1) (P:=P) (fl:=fl) (f:=f) (s:=s) (n:=n) (pb:=strsP (Z k)) (W:=W) (x:=x) (l:=l) (m:=(Z k).length) h0 rfl h3 rfl hx (by simp [strsP]; lia)
  rw [← strsP_app,← hZ] at e
  refine ⟨v1.loc,_,rfl,?_,some (.dat (sD (x++[97+l]))),c,rfl⟩
  rw [seq_id]
  refine e.trans ?_
  rw [hZ,List.length_append]) (strsP ws) 0 (ws.length+1) ⟨v.loc,hN P fl (strsP (W.map wordP)) s f n []⟩ rfl (by simp [strsP]) ⟨v.word,v.name,by simp [Vs.loc,h4,Z,strsP]⟩
 refine ⟨a,b,?_⟩
 have hZe:Z (0+(strsP ws).length)=ws.flatMap (extS W):=by
  show (ws.take _).flatMap (extS W)=_
  rw [List.take_of_length_le (by simp [strsP])]
 replace hI:=hZe▸hI
 subst hI
 have n19:nameF 19 ⟨v.loc,hN P fl (strsP (W.map wordP)) s f n []⟩=some (.dat (.list (strsP ws++[sD [120,46]])),hN P fl (strsP (W.map wordP)) s f n []):=name_eq (getV_at rfl h1)
 have hsl:datF (sliceX (nameF 19) noP (someP (iC (-1))) noP) ⟨v.loc,hN P fl (strsP (W.map wordP)) s f n []⟩=some (.dat (.list (strsP ws)),hN P fl (strsP (W.map wordP)) s f n []) :=
  slice_eq n19 rfl rfl rfl (by rw [slice_list (by simp [strsP,lim]; (exact Nat.le_trans (by assumption) (by decide))),sl_init])
 show bindI (srcF (datF (sliceX (nameF 19) noP (someP (iC (-1))) noP))) (λis n=>forF stepI (setL 20) (seqF X_law_17_4_0.1 nextF) n is) _=_
 unfold bindI srcF
 refine hsl.symm▸?_
 dsimp only [srcD]
 refine (show (strsP ws).length=ws.length by simp [strsP]).symm▸?_
 exact e
end
noncomputable def wordS (t:Nat) (c:List Nat):List Nat:=List.replicate t 46++c.map (97+·)
noncomputable def lastC (c:List Nat):Nat:=c.getLast?.getD 0
noncomputable def extC (W:List (Nat×Nat)) (c:List Nat):List (List Nat):=((List.range 5).filter λk=>inW W (lastC c) k&&!c.contains k).map λk=>c++[k]
noncomputable def QW (W:List (Nat×Nat)):Nat->List (List Nat)
 | 0=>[[0],[1],[2],[3],[4]]
 | t+1=>(QW W t).flatMap (extC W)
theorem QW_mem (W:List (Nat×Nat)):∀t,∀c∈QW W t,c.length=t+1∧∀x∈c,x < 5
 | 0,c,h=>by
  simp [QW] at h
  rcases h with rfl | rfl | rfl | rfl | rfl<;>simp
 | t+1,c,h=>by
  refine cps λ_ KK=>?_
  obtain ⟨c',h1,h2⟩:=List.mem_flatMap.mp h
  obtain ⟨k,hk,rfl⟩:=List.mem_map.mp h2
  have hk5:k < 5:=List.mem_range.mp (List.mem_filter.mp hk).1
  obtain ⟨q1,q2⟩:=QW_mem W t c' h1
  refine KK ?_
  refine ⟨by rw [List.length_append,q1]; rfl,λx hx=>?_⟩
  rcases List.mem_append.mp hx with hx | hx
  ·exact q2 x hx
  ·simp at hx; lia
theorem extC_len (W:List (Nat×Nat)) (c:List Nat):(extC W c).length≤5:=by
 unfold extC
 rw [List.length_map]
 have:=List.length_filter_le (λk=>inW W (lastC c) k&&!c.contains k) (List.range 5)
 rwa [List.length_range] at this
theorem flat_len (W:List (Nat×Nat)):∀l:List (List Nat),(l.flatMap (extC W)).length≤5*l.length
 | []=>by simp
 | c::l=>by
  have:=flat_len W l
  have:=extC_len W c
  refine List.flatMap_cons.symm▸List.length_append.symm▸List.length_cons.symm▸?_
  lia
theorem QW_len (W:List (Nat×Nat)) {t:Nat} (h:t≤4):(QW W t).length≤3125:=by
 have h0:(QW W 0).length=5:=rfl
 have h1:(QW W 1).length≤5*(QW W 0).length:=flat_len W _
 have h2:(QW W 2).length≤5*(QW W 1).length:=flat_len W _
 have h3:(QW W 3).length≤5*(QW W 2).length:=flat_len W _
 have h4:(QW W 4).length≤5*(QW W 3).length:=flat_len W _
 match t,h with
 | 0,_ | 1,_ | 2,_ | 3,_ | 4,_=>lia
theorem wordS_snoc (t:Nat) (c:List Nat) (l:Nat):wordS t (c++[l])=wordS t c++[97+l]:=by simp [wordS]
theorem wordS_contains (t k:Nat) (c:List Nat):(wordS t c).contains (97+k)=c.contains k:=by
 rw [Bool.eq_iff_iff]
 simp [wordS]
 lia
theorem extS_word (W:List (Nat×Nat)) (t:Nat) {c:List Nat} (h:c≠[]):extS W (wordS t c)=(extC W c).map (wordS t):=by
 obtain ⟨c',l,rfl⟩:∃c' l,c=c'++[l]:=⟨c.dropLast,c.getLast h,(List.dropLast_concat_getLast h).symm⟩
 unfold extS extK extC extB
 have e1:lastS (wordS t (c'++[l]))=l:=by rw [wordS_snoc,lastS_eq]
 have e2:lastC (c'++[l])=l:=by simp [lastC]
 refine e1.symm▸e2.symm▸List.map_map.symm▸?_
 have e3:(λk=>inW W l k&&!(wordS t (c'++[l])).contains (97+k))=λk=>inW W l k&&!(c'++[l]).contains k:=by
  funext k
  rw [wordS_contains]
 refine e3.symm▸?_
 refine List.map_congr_left λk _=>?_
 exact (wordS_snoc t _ k).symm
theorem flat_word (W:List (Nat×Nat)) (t:Nat):∀l:List (List Nat),(∀c∈l,c≠[])->(l.map (wordS t)).flatMap (extS W)=(l.flatMap (extC W)).map (wordS t)
 | [],_=>rfl
 | c::l,h=>by
  rw [List.map_cons,List.flatMap_cons,List.flatMap_cons,List.map_append,flat_word W t l (λx hx=>h x (List.mem_cons_of_mem _ hx)),extS_word W t (h c (List.mem_cons_self ..))]
noncomputable def B17:XF:=seqF X_law_17_0.1 (seqF X_law_17_1.1 (seqF X_law_17_2.1 (seqF X_law_17_3.1 (seqF X_law_17_4.1 nextF))))
theorem word_mem {t:Nat} {c:List Nat} (h:∀x∈c,x < 5):∀x∈wordS t c,x=46∨(97≤x∧x < 102):=λx hx=>(List.mem_append.mp hx).elim (λhx=>.inl (List.mem_replicate.mp hx).2) λhx=>(List.mem_map.mp hx).elim λy q=>.inr (q.2▸⟨Nat.le_add_right _ _,Nat.add_lt_add_left (h y q.1) 97⟩)
theorem word_len {t:Nat} {c:List Nat}:(wordS t c).length=t+c.length:=by rw [wordS,List.length_append,List.length_replicate,List.length_map]
theorem plain_word {w:List Nat} (hne:w≠[]) (h:∀x∈w,x=46∨(97≤x∧x < 102)) (hl:w.length≤20):plainW w∧(∀c∈w,c < 200)∧w.length≤20 :=
 ⟨⟨hne,λx hx=>by rcases h x hx with h | h<;>lia⟩,λx hx=>by rcases h x hx with h | h<;>lia,hl⟩
theorem words17 (W:List (Nat×Nat)) {t:Nat} (ht:t < 4):∀w∈(QW W t).map (wordS (t+1))++[[120,46]],plainW w∧(∀c∈w,c < 200)∧w.length≤20:=λw hw=>by
 rcases List.mem_append.mp hw with hw | hw
 ·refine cps λ_ KK=>?_
  obtain ⟨c,hc,e⟩:=List.mem_map.mp hw
  obtain ⟨q1,q2⟩:=QW_mem W t c hc
  refine KK ?_
  refine e▸?_
  exact plain_word (by simp [wordS]) (word_mem q2) (by rw [word_len,q1]; lia)
 ·refine (List.mem_singleton.mp hw).symm▸?_
  exact ⟨⟨by simp,by decide⟩,by decide,by decide⟩
theorem last_word (W:List (Nat×Nat)) {t:Nat} (ht:t < 4):∀w∈(QW W t).map (wordS (t+2)),∃x l,w=x++[97+l]∧x.length≤100:=λw hw=>by
 obtain ⟨c,hc,e⟩:=List.mem_map.mp hw
 obtain ⟨q1,q2⟩:=QW_mem W t c hc
 have hne:c≠[]:=λh=>by rw [h] at q1; exact nomatch q1
 refine ⟨wordS (t+2) c.dropLast,c.getLast hne,?_,by rw [word_len,List.length_dropLast,q1]; lia⟩
 rw [← wordS_snoc,List.dropLast_concat_getLast,e]
theorem dots17 (W:List (Nat×Nat)) (t:Nat):strsP (((QW W t).map (wordS (t+1))++[[120,46]]).map dotted)=strsP ((QW W t).map (wordS (t+2)))++[sD [120,46]]:=by
 rw [strsP_snoc,List.map_append,List.map_map]
 rfl
section
variable {v:Vs} {P:Addr} {fl f:Bool} {s:List Nat} {n:Int} {W:List (Nat×Nat)}
theorem turn17 {t:Nat} (ht:t < 4) (h0:v.lexer=some (.obj 3)) (h3:v.wins=some (.obj 1)) (h1:v.turn=some (.dat (.int (t:Nat)))) (h4:v.many=some (.dat (.int (((QW W t).length:Nat):Int)))) :
  ∃b c d,B17 ⟨v.loc,hN P fl (strsP (W.map wordP)) s f n (strsP ((QW W t).map (wordS (t+1))))⟩=some (.next,⟨{ v with mail:=b,word:=c,name:=d,many:=some (.dat (.int (((QW W (t+1)).length:Nat):Int))) }.loc,hN P fl (strsP (W.map wordP)) s f n (strsP ((QW W (t+1)).map (wordS (t+2))))⟩):=by
 have hQ:=QW_len W (t:=t) (Nat.le_of_lt ht)
 have hwl:((QW W t).map (wordS (t+1))).length=(QW W t).length:=List.length_map ..
 have pl:(strsP ((QW W t).map (wordS (t+1)))).length=(QW W t).length:=(List.length_map ..).trans hwl
 let v2:Vs:={ v with mail:=some (.dat (.list (strsP ((QW W t).map (wordS (t+1)))++[sD [120,46]]))) }
 let v3:Vs:={ v with mail:=some (.dat (.list (strsP ((QW W t).map (wordS (t+2)))++[sD [120,46]]))) }
 let v4:Vs:={ v3 with many:=some (.dat (.int (0:Nat))) }
 have hl:(QW W t).length≤4000:=Nat.le_trans hQ (by decide)
 have e0:=p170 (v:=v) (P:=P) (fl:=fl) (wl:=strsP (W.map wordP)) (s:=s) (f:=f) (n:=n) (pb:=strsP ((QW W t).map (wordS (t+1)))) h0 (by rw [pl]; exact h4) (pl.symm▸hl)
 have e1:=p171 (v:=v2) (hp:=hN P fl (strsP (W.map wordP)) s f n []) (t:=t) (ws:=(QW W t).map (wordS (t+1))++[[120,46]]) h1 (by rw [← strsP_snoc]) (λh=>ncn (List.append_eq_nil_iff.mp h).2) (words17 W ht) (List.length_append.symm▸hwl.symm▸Nat.le_trans (Nat.succ_le_succ hQ) (by decide))
 rw [dots17] at e1
 have e2:=p172 (v:=v3) (hp:=hN P fl (strsP (W.map wordP)) s f n []) (pb:=strsP ((QW W t).map (wordS (t+2)))) rfl
 have e3:=p173 (v:=v3) (hp:=hN P fl (strsP (W.map wordP)) s f n [])
 obtain ⟨g1,g2,e4⟩:=pOut (v:=v4) (P:=P) (fl:=fl) (f:=f) (s:=s) (n:=n) (ws:=(QW W t).map (wordS (t+2))) (W:=W) h0 rfl h3 rfl (last_word W ht) (by rw [List.length_map]; exact hl)
 rw [flat_word W (t+2) (QW W t) λc hc h=>(by have:=(QW_mem W t c hc).1; rw [h] at this; exact nomatch this),List.length_map] at e4
 exact ⟨some (.dat (.list (strsP ((QW W t).map (wordS (t+2)))++[sD [120,46]]))),g1,g2,(seq_next e0).trans ((seq_next e1).trans ((seq_next e2).trans ((seq_next e3).trans ((seq_id _ _).trans e4))))⟩
theorem rng4_at:∀{t:Nat} {d:PyData},(rngF 0 1 4)[t]?=some d->t < 4∧d=.int (t:Nat)
 | 0,_,h | 1,_,h | 2,_,h | 3,_,h=>⟨by decide,(sos h).symm⟩
theorem s17 (h0:v.lexer=some (.obj 3)) (h3:v.wins=some (.obj 1)) (h4:v.many=some (.dat (.int 5))) :
  ∃a b c d,X_law_17.1 ⟨v.loc,hN P fl (strsP (W.map wordP)) s f n (dotsD 5)⟩=some (.next,⟨{ v with turn:=a,mail:=b,word:=c,name:=d,many:=some (.dat (.int (((QW W 4).length:Nat):Int))) }.loc,hN P fl (strsP (W.map wordP)) s f n (strsP ((QW W 4).map (wordS 5)))⟩):=by
 refine cps λ_ KK=>?_
 obtain ⟨σ',e,a,b,c,d,hI⟩:=for_inv (T:=setL 18) (B:=B17) (its:=rngF 0 1 4) (λt σ=>∃a b c d,σ=⟨{ v with turn:=a,mail:=b,word:=c,name:=d,many:=some (.dat (.int (((QW W t).length:Nat):Int))) }.loc,hN P fl (strsP (W.map wordP)) s f n (strsP ((QW W t).map (wordS (t+1))))⟩) (λt d σ hd q=>by
  refine cps λ_ KK=>?_
  obtain ⟨a,b,c,e,hσ⟩:=q
  obtain ⟨ht,hd⟩:=rng4_at hd
  refine KK ?_
  rw [hσ,hd]
  refine cps λ_ KK=>?_
  obtain ⟨b',c',d',e'⟩:=turn17 (v:={ v with turn:=some (.dat (.int (t:Nat))),mail:=b,word:=c,name:=e,many:=some (.dat (.int (((QW W t).length:Nat):Int))) }) (P:=P) (fl:=fl) (s:=s) (f:=f) (n:=n) ht h0 h3 rfl rfl
  refine KK ?_
  exact ⟨_,_,rfl,e',some (.dat (.int (t:Nat))),b',c',d',rfl⟩) (rngF 0 1 4) 0 5 ⟨v.loc,hN P fl (strsP (W.map wordP)) s f n (dotsD 5)⟩ rfl (by decide) ⟨v.turn,v.mail,v.word,v.name,by
   rw [show dotsD 5=strsP ((QW W 0).map (wordS 1)) from rfl,show (((QW W 0).length:Nat):Int)=5 from rfl,← h4]⟩
 refine KK ?_
 rw [hI] at e
 refine ⟨a,b,c,d,?_⟩
 show bindI (rngSrc (consL (iC 4) nilL)) (λis n=>forF stepI (setL 18) B17 n is) _=_
 unfold bindI
 rw [show rngSrc (consL (iC 4) nilL) ⟨v.loc,hN P fl (strsP (W.map wordP)) s f n (dotsD 5)⟩=some ((.rem (rngF 0 1 4),5),hN P fl (strsP (W.map wordP)) s f n (dotsD 5)) from rng_src (N:=4) (by decide) rfl]
 exact e
end
theorem loop_map {α:Type} (g:α->PyData) (Φ:Loc->Prop) {T:PyData->Loc->Option Loc} {tests:BF} {inner:CF} {t:α->Bool} {ds:α->List PyData} {hp:List MO}:∀(l:List α),
  (∀k∈l,∀loc,Φ loc->∃loc1,Φ loc1∧T (g k) loc=some loc1∧tests ⟨loc1,hp⟩=some (t k,hp)∧(t k=true->∃loc2,Φ loc2∧inner ⟨loc1,hp⟩=some (ds k,⟨loc2,hp⟩))) ->
  ∀(loc:Loc) (n:Nat),Φ loc->l.length < n->∃loc',Φ loc'∧loopC stepI T tests inner n (.rem (l.map g)) ⟨loc,hp⟩=some ((l.filter t).flatMap ds,⟨loc',hp⟩)
 | [],_,loc,n+1,hl,_=>⟨loc,hl,rfl⟩
 | d::l,h,loc,n+1,hl,hn=>by
  refine cps λ_ KK=>?_
  obtain ⟨loc1,h1,h2,h3,h4⟩:=h d (List.mem_cons_self ..) loc hl
  refine KK ?_
  have ih:=loop_map g Φ (T:=T) (tests:=tests) (inner:=inner) (t:=t) (ds:=ds) (hp:=hp) l λx hx=>h x (List.mem_cons_of_mem _ hx)
  have hn':l.length < n:=by rw [List.length_cons] at hn; (exact Nat.le_of_lt_succ (by assumption))
  rw [List.map_cons,loopC]
  dsimp only [stepI]
  refine h2.symm▸?_
  dsimp only
  rw [h3]
  cases ht:t d with
  | false =>
   obtain ⟨loc',q,e⟩:=ih loc1 n h1 hn'
   refine ⟨loc',q,?_⟩
   dsimp only
   rw [e,List.filter_cons_of_neg (by rw [ht]; exact Bool.false_ne_true)]
  | true =>
   refine cps λ_ KK=>?_
   obtain ⟨loc2,h5,h6⟩:=h4 ht
   obtain ⟨loc',q,e⟩:=ih loc2 n h5 hn'
   refine KK ?_
   refine ⟨loc',q,?_⟩
   dsimp only
   refine h6.symm▸?_
   dsimp only
   refine e.symm▸(List.filter_cons_of_pos ht).symm▸?_
   rfl
theorem comp_map {α:Type} (g:α->PyData) (Φ:Loc->Prop) {S:SF} {T:PyData->Loc->Option Loc} {tests:BF} {F:EF} {t:α->Bool} {r:α->PyData} {hp:List MO} {l:List α} {loc:Loc} {ts:List Nat} {n:Nat} (hS:S ⟨loc,hp⟩=some ((.rem (l.map g),n),hp)) (hn:l.length < n)
  (h:∀k∈l,∀loc,Φ loc->∃loc1,Φ loc1∧T (g k) loc=some loc1∧tests ⟨loc1,hp⟩=some (t k,hp)∧(t k=true->F ⟨loc1,hp⟩=some (.dat (r k),hp))) (h0:Φ (unset ts loc)) (hl:l.length≤lim) :
  compF S stepI T tests (emitF F) ts ⟨loc,hp⟩=some (.dat (.list ((l.filter t).map r)),hp):=by
 obtain ⟨loc',_,e⟩:=loop_map g Φ (T:=T) (tests:=tests) (inner:=emitF F) (t:=t) (ds:=λd=>[r d]) (hp:=hp) l (λd hd loc hp'=>by
  refine cps λ_ KK=>?_
  obtain ⟨loc1,h1,h2,h3,h4⟩:=h d hd loc hp'
  refine KK ?_
  refine ⟨loc1,h1,h2,h3,λht=>⟨loc1,h1,?_⟩⟩
  unfold emitF
  rw [h4 ht]) (unset ts loc) n h0 hn
 unfold compF
 rw [hS]
 dsimp only
 rw [e]
 dsimp only
 have e2:(l.filter t).flatMap (λd=>[r d])=(l.filter t).map r:=(List.map_eq_flatMap ..).symm
 rw [e2,if_pos]
 have:=List.length_filter_le t l
 rw [List.length_map]; (exact Nat.le_trans (by assumption) (by assumption))
theorem len_eq {F:EF} {L:Loc} {hp1 hp2:List MO} {l:List PyData} (h:F ⟨L,hp1⟩=some (.dat (.list l),hp2)) (hl:l.length≤lim):datF (lenX F) ⟨L,hp1⟩=some (.dat (.int (l.length:Nat)),hp2):=by
 have e:lenD (.list l)=some (.int (l.length:Nat)):=if_pos hl
 unfold datF lenX bindE
 rw [h]
 skip
 unfold map1
 dsimp only [rd,B1.f]
 exact e.symm▸rfl
theorem eqPs_strs:∀ws:List (List Nat),eqPs (strsP ws) (strsP ws)=true
 | []=>rfl
 | w::ws=>by
  show (w==w&&eqPs (strsP ws) (strsP ws))=true
  rw [eqPs_strs ws]; simp
theorem okD_strs (ws:List (List Nat)):okD 3 (.list (strsP ws))=true:=by
 show (strsP ws).all (okD 2)=true
 rw [List.all_eq_true]
 intro d hd
 obtain ⟨w,_,rfl⟩:=List.mem_map.mp hd
 rfl
theorem ne_strs (ws:List (List Nat)):cmpD .NotEq (.list (strsP ws)) (.list (strsP ws))=some false:=by
 show (if (okD 3 (.list (strsP ws))||okD 3 (.list (strsP ws)))=true then some (!eqP (.list (strsP ws)) (.list (strsP ws))) else none)=_
 rw [okD_strs,if_pos (by rfl)]
 show some (!eqPs (strsP ws) (strsP ws))=_
 rw [eqPs_strs]; rfl
section
variable {v:Vs} {P:Addr} {fl f:Bool} {wl pb:List PyData} {s:List Nat} {n:Int} {hp hp':List MO} {d:PyData} {ws:List (List Nat)} {W:List (Nat×Nat)}
theorem s18 (h:v.lexer=some (.obj 3)) (h2:v.many=some (.dat (.int (pb.length:Nat)))) (hl:pb.length≤4000) :
  X_law_18.1 ⟨v.loc,hN P fl wl s f n pb⟩=some (.next,⟨{ v with ways:=some (.dat (.list pb)) }.loc,hN P fl wl s f n []⟩):=by
 have e:=comp_gets (i:=31) (N:=pb.length) (base:=v.loc) (S:=rngSrc (consL (nameF 17) nilL)) (ts:=pb) (hp:=hN P fl wl s f n pb) (hp':=hN P fl wl s f n []) (λa=>getV_at rfl h) rfl (rng_src hl (name_at rfl h2)) (by unfold lim; (exact Nat.le_trans (by assumption) (by decide)))
  (by have:=gets_pb (P:=P) (fl:=fl) (wl:=wl) (s:=s) (f:=f) (n:=n) pb (rest:=[]) (by simp [lim]; (exact Nat.lt_of_le_of_lt (by assumption) (by decide))); rwa [List.append_nil] at this)
 exact asg_eq e
theorem s19 {c:List (List Nat)} (h:v.ways=some (.dat (.list (strsP (c.map (wordS 5)))))) (h2:v.many=some (.dat (.int (c.length:Nat)))) (hc:∀x∈c,x.length=5) (hl:c.length < 64) (hs:sortedS (c.map λx=>(⟨⟨wordS 5 x⟩⟩:Str))=true) :
  X_law_19.1 ⟨v.loc,hp⟩=some (.next,⟨v.loc,hp⟩):=by
 have n21:nameF 21 ⟨v.loc,hp⟩=some (.dat (.list (strsP (c.map (wordS 5)))),hp):=name_eq (getV_at rfl h)
 have n17:nameF 17 ⟨v.loc,hp⟩=some (.dat (.int (c.length:Nat)),hp):=name_eq (getV_at rfl h2)
 have hsd:sortD (.list (strsP (c.map (wordS 5))))=some (.list (strsP (c.map (wordS 5)))):=by
  show (if (strsP (c.map (wordS 5))).length < 64 then match strsD (strsP (c.map (wordS 5))) with
   | some ss=>if sortedS ss then some (PyData.list (strsP (c.map (wordS 5)))) else none
   | none=>none else none)=_
  rw [if_pos (by simp [strsP]; exact hl),strsD_strsP]
  dsimp only
  rw [if_pos]
  rw [List.map_map]
  exact hs
 have e1:datF (bindE (nameF 21) (map1 sortD)) ⟨v.loc,hp⟩=some (.dat (.list (strsP (c.map (wordS 5)))),hp):=by
  unfold datF bindE
  rw [n21]
  skip
  unfold map1
  dsimp only [rd]
  exact hsd.symm▸rfl
 have c1:cmpX .NotEq (nameF 21) (datF (bindE (nameF 21) (map1 sortD))) ⟨v.loc,hp⟩=some (false,hp):=cmp_eq n21 e1 rfl rfl (ne_strs _)
 have e2:compF (srcF (nameF 21)) stepI (setL 32) (λσ=>some (true,σ.hp)) (emitF (datF (sliceX (nameF 32) noP (someP (iC (-5))) noP))) [32] ⟨v.loc,hp⟩=some (.dat (.list (strsP (List.replicate c.length [46,46,46,46,46]))),hp):=by
  have:=comp_map (λx=>sD (wordS 5 x)) (λloc=>∃a,loc=v.loc.set 32 a) (S:=srcF (nameF 21)) (T:=setL 32) (tests:=λσ=>some (true,σ.hp)) (F:=datF (sliceX (nameF 32) noP (someP (iC (-5))) noP)) (t:=λ_=>true) (r:=λ_=>sD [46,46,46,46,46]) (hp:=hp) (l:=c) (loc:=v.loc) (ts:=[32]) (n:=c.length+1)
   (by
    unfold srcF
    refine n21.symm▸?_
    dsimp only [srcD]
    simp [strsP,List.map_map]) (by (exact Nat.le_refl _)) (λk hk loc ⟨a,hloc⟩=>by
    subst hloc
    refine ⟨_,⟨some (.dat (sD (wordS 5 k))),rfl⟩,rfl,rfl,λ_=>?_⟩
    have n32:nameF 32 ⟨v.loc.set 32 (some (.dat (sD (wordS 5 k)))),hp⟩=some (.dat (sD (wordS 5 k)),hp):=rfl
    have hk5:=hc k hk
    have hwl:(wordS 5 k).length=10:=by simp [wordS,hk5]
    have hsl:sl none (some (-5)) (wordS 5 k)=[46,46,46,46,46]:=by
     unfold sl
     refine hwl.symm▸?_
     show ((wordS 5 k).take 5).drop 0=_
     rfl
    exact slice_eq n32 rfl rfl rfl ((slice_str (by rw [hwl]; decide)).symm▸hsl.symm▸rfl)) ⟨none,rfl⟩ (by unfold lim; (exact Nat.le_trans (Nat.le_of_lt (by assumption)) (by decide)))
  refine this.symm▸(List.filter_eq_self.mpr (λ_ _=>rfl)).symm▸?_
  simp [strsP,List.map_const']
 have e3:datF (binX .Mult (datF (listF (consL (sC [46,46,46,46,46]) nilL))) (nameF 17)) ⟨v.loc,hp⟩=some (.dat (.list (strsP (List.replicate c.length [46,46,46,46,46]))),hp) :=
  bin_eq (op:=.Mult) (show _=some (PV.dat (.list [sD [46,46,46,46,46]]),hp) from rfl) n17 (by
   show (if 1*((c.length:Nat):Int).toNat≤lim∧((c.length:Nat):Int).natAbs≤lim then some (PyData.list (List.replicate ((c.length:Nat):Int).toNat [sD [46,46,46,46,46]]).flatten) else none)=_
   rw [if_pos ⟨by unfold lim; lia,by unfold lim; (exact Nat.le_trans (Nat.le_of_lt (by assumption)) (by decide))⟩]
   simp [strsP])
 have c2:cmpX .NotEq (compF (srcF (nameF 21)) stepI (setL 32) (λσ=>some (true,σ.hp)) (emitF (datF (sliceX (nameF 32) noP (someP (iC (-5))) noP))) [32]) (datF (binX .Mult (datF (listF (consL (sC [46,46,46,46,46]) nilL))) (nameF 17))) ⟨v.loc,hp⟩=some (false,hp) :=
  cmp_eq e2 e3 rfl rfl (ne_strs _)
 show ifF (bindB (cmpX .NotEq (nameF 21) (datF (bindE (nameF 21) (map1 sortD)))) λb=>if b then retB true else bindB (cmpX .NotEq (compF (srcF (nameF 21)) stepI (setL 32) (λσ=>some (true,σ.hp)) (emitF (datF (sliceX (nameF 32) noP (someP (iC (-5))) noP))) [32]) (datF (binX .Mult (datF (listF (consL (sC [46,46,46,46,46]) nilL))) (nameF 17)))) λb=>if b then retB true else retB false) _ nextF _=_
 refine ifn_eq ?_
 unfold bindB
 refine c1.symm▸?_
 dsimp only
 refine (if_neg Bool.false_ne_true).symm▸c2.symm▸?_
 rfl
end
noncomputable def kL:List Nat:=[1,2,3,4]
noncomputable def gL (k:Nat):PyData:=sD [97+k]
noncomputable def fiveE (W:List (Nat×Nat)) (b d:Nat):List PyData:=(kL.filter λe=>b != e&&(inW W d e&&inW W e 0)).flatMap λ_=>[.int 0]
noncomputable def fiveD (W:List (Nat×Nat)) (b c:Nat):List PyData:=(kL.filter (inW W c)).flatMap (fiveE W b)
noncomputable def fiveC (W:List (Nat×Nat)) (b:Nat):List PyData:=(kL.filter (inW W b)).flatMap (fiveD W b)
noncomputable def fiveB (W:List (Nat×Nat)):List PyData:=(kL.filter (inW W 0)).flatMap (fiveC W)
section
variable {v:Vs} {P:Addr} {fl f:Bool} {wl pb:List PyData} {s:List Nat} {n:Int} {hp hp':List MO} {d:PyData} {ws:List (List Nat)} {W:List (Nat×Nat)}
noncomputable def loc4 (v:Vs) (a b c e:Option PV):Loc:=(((v.loc.set 33 a).set 34 b).set 35 c).set 36 e
noncomputable abbrev hW (P:Addr) (fl:Bool) (W:List (Nat×Nat)) (s:List Nat) (f:Bool) (n:Int) (pb:List PyData):List MO:=hN P fl (strsP (W.map wordP)) s f n pb
theorem in_eqG {F1 F2:EF} {L:Loc} {l k:Nat} (hr:rd hp (.obj 1)=some (.list (strsP (W.map wordP)))) (hw:getV L 4=some (.obj 1)) (h1:F1 ⟨L,hp⟩=some (.dat (sD [97+l]),hp)) (h2:F2 ⟨L,hp⟩=some (.dat (sD [97+k]),hp)) :
  cmpX .In (datF (binX .Add F1 F2)) (nameF 4) ⟨L,hp⟩=some (inW W l k,hp) :=
 cmp_eq (bin_eq (op:=.Add) (d:=sD [97+l,97+k]) h1 h2 rfl) (name_eq hw) rfl hr (in_wins W l k)
theorem in_eq {F1 F2:EF} {L:Loc} {l k:Nat} (hw:getV L 4=some (.obj 1)) (h1:F1 ⟨L,hW P fl W s f n pb⟩=some (.dat (sD [97+l]),hW P fl W s f n pb)) (h2:F2 ⟨L,hW P fl W s f n pb⟩=some (.dat (sD [97+k]),hW P fl W s f n pb)) :
  cmpX .In (datF (binX .Add F1 F2)) (nameF 4) ⟨L,hW P fl W s f n pb⟩=some (inW W l k,hW P fl W s f n pb):=in_eqG rfl hw h1 h2
noncomputable def testE:BF:=bindB (cmpX .NotEq (nameF 33) (nameF 36)) λb=>if b then bindB (cmpX .In (datF (binX .Add (nameF 35) (nameF 36))) (nameF 4)) λb=>if b then bindB (cmpX .In (datF (binX .Add (nameF 36) (sC [97]))) (nameF 4)) λb=>if b then retB true else retB false else retB false else retB false
theorem testE_eq {b c d e:Nat} (hw:v.wins=some (.obj 1)):testE ⟨loc4 v (some (.dat (gL b))) (some (.dat (gL c))) (some (.dat (gL d))) (some (.dat (gL e))),hW P fl W s f n pb⟩=some (b != e&&(inW W d e&&inW W e 0),hW P fl W s f n pb):=by
 let L:=loc4 v (some (.dat (gL b))) (some (.dat (gL c))) (some (.dat (gL d))) (some (.dat (gL e)))
 have h4:getV L 4=some (.obj 1):=getV_at rfl hw
 have n33:nameF 33 ⟨L,hW P fl W s f n pb⟩=some (.dat (sD [97+b]),hW P fl W s f n pb):=rfl
 have n35:nameF 35 ⟨L,hW P fl W s f n pb⟩=some (.dat (sD [97+d]),hW P fl W s f n pb):=rfl
 have n36:nameF 36 ⟨L,hW P fl W s f n pb⟩=some (.dat (sD [97+e]),hW P fl W s f n pb):=rfl
 have c1:cmpX .NotEq (nameF 33) (nameF 36) ⟨L,hW P fl W s f n pb⟩=some (b != e,hW P fl W s f n pb):=cmp_eq n33 n36 rfl rfl (by
  show (if (okD 3 (sD [97+b])||okD 3 (sD [97+e]))=true then some (!([97+b]==[97+e])) else none)=_
  rw [if_pos (by rfl)]
  congr 1
  show (!([97+b]==[97+e]))=!(b==e)
  congr 1
  rw [Bool.eq_iff_iff]; simp)
 have c2:=in_eq (W:=W) h4 n35 n36
 have c3:=in_eq (W:=W) (k:=0) h4 n36 (show sC [97] ⟨L,hW P fl W s f n pb⟩=some (.dat (sD [97+0]),hW P fl W s f n pb) from rfl)
 show testE ⟨L,_⟩=_
 unfold testE bindB
 refine c1.symm▸?_
 dsimp only
 cases b != e with
 | false=>rfl
 | true =>
  refine (if_pos rfl).symm▸?_
  dsimp only
  refine c2.symm▸?_
  dsimp only
  cases inW W d e with
  | false=>rfl
  | true =>
   refine (if_pos rfl).symm▸?_
   dsimp only
   refine c3.symm▸?_
   dsimp only
   cases inW W e 0<;>rfl
noncomputable def loopE:CF:=nestF (srcF (sC [98,99,100,101])) (loopC stepI (setL 36) testE (emitF (iC 0)))
noncomputable def loopD:CF:=nestF (srcF (sC [98,99,100,101])) (loopC stepI (setL 35) (cmpX .In (datF (binX .Add (nameF 34) (nameF 35))) (nameF 4)) loopE)
noncomputable def loopCC:CF:=nestF (srcF (sC [98,99,100,101])) (loopC stepI (setL 34) (cmpX .In (datF (binX .Add (nameF 33) (nameF 34))) (nameF 4)) loopD)
theorem loopE_eq {b c d:Nat} {e:Option PV} (hw:v.wins=some (.obj 1)):∃e',loopE ⟨loc4 v (some (.dat (gL b))) (some (.dat (gL c))) (some (.dat (gL d))) e,hW P fl W s f n pb⟩=some (fiveE W b d,⟨loc4 v (some (.dat (gL b))) (some (.dat (gL c))) (some (.dat (gL d))) e',hW P fl W s f n pb⟩):=by
 obtain ⟨loc',⟨e',rfl⟩,q⟩:=loop_map gL (λloc=>∃e',loc=loc4 v (some (.dat (gL b))) (some (.dat (gL c))) (some (.dat (gL d))) e') (T:=setL 36) (tests:=testE) (inner:=emitF (iC 0)) (t:=λe=>b != e&&(inW W d e&&inW W e 0)) (ds:=λ_=>[.int 0]) (hp:=hW P fl W s f n pb) kL (λk hk loc ⟨e',hl⟩=>by
  subst hl
  exact ⟨_,⟨some (.dat (gL k)),rfl⟩,rfl,testE_eq hw,λ_=>⟨_,⟨_,rfl⟩,rfl⟩⟩) (loc4 v (some (.dat (gL b))) (some (.dat (gL c))) (some (.dat (gL d))) e) 5 ⟨e,rfl⟩ (by decide)
 exact ⟨e',q⟩
theorem loopD_eq {b c:Nat} {d e:Option PV} (hw:v.wins=some (.obj 1)):∃d' e',loopD ⟨loc4 v (some (.dat (gL b))) (some (.dat (gL c))) d e,hW P fl W s f n pb⟩=some (fiveD W b c,⟨loc4 v (some (.dat (gL b))) (some (.dat (gL c))) d' e',hW P fl W s f n pb⟩):=by
 obtain ⟨loc',⟨d',e',rfl⟩,q⟩:=loop_map gL (λloc=>∃d' e',loc=loc4 v (some (.dat (gL b))) (some (.dat (gL c))) d' e') (T:=setL 35) (tests:=cmpX .In (datF (binX .Add (nameF 34) (nameF 35))) (nameF 4)) (inner:=loopE) (t:=inW W c) (ds:=fiveE W b) (hp:=hW P fl W s f n pb) kL (λk hk loc ⟨d',e',hl⟩=>by
  subst hl
  refine ⟨_,⟨some (.dat (gL k)),e',rfl⟩,rfl,in_eq (getV_at rfl hw) rfl rfl,λ_=>?_⟩
  obtain ⟨e2,q⟩:=loopE_eq (v:=v) (P:=P) (fl:=fl) (W:=W) (s:=s) (f:=f) (n:=n) (pb:=pb) (b:=b) (c:=c) (d:=k) (e:=e') hw
  exact ⟨_,⟨_,e2,rfl⟩,q⟩) (loc4 v (some (.dat (gL b))) (some (.dat (gL c))) d e) 5 ⟨d,e,rfl⟩ (by decide)
 exact ⟨d',e',q⟩
theorem loopCC_eq {b:Nat} {c d e:Option PV} (hw:v.wins=some (.obj 1)):∃c' d' e',loopCC ⟨loc4 v (some (.dat (gL b))) c d e,hW P fl W s f n pb⟩=some (fiveC W b,⟨loc4 v (some (.dat (gL b))) c' d' e',hW P fl W s f n pb⟩):=by
 obtain ⟨loc',⟨c',d',e',rfl⟩,q⟩:=loop_map gL (λloc=>∃c' d' e',loc=loc4 v (some (.dat (gL b))) c' d' e') (T:=setL 34) (tests:=cmpX .In (datF (binX .Add (nameF 33) (nameF 34))) (nameF 4)) (inner:=loopD) (t:=inW W b) (ds:=fiveD W b) (hp:=hW P fl W s f n pb) kL (λk hk loc ⟨c',d',e',hl⟩=>by
  subst hl
  refine ⟨_,⟨some (.dat (gL k)),d',e',rfl⟩,rfl,in_eq (getV_at rfl hw) rfl rfl,λ_=>?_⟩
  obtain ⟨d2,e2,q⟩:=loopD_eq (v:=v) (P:=P) (fl:=fl) (W:=W) (s:=s) (f:=f) (n:=n) (pb:=pb) (b:=b) (c:=k) (d:=d') (e:=e') hw
  exact ⟨_,⟨_,d2,e2,rfl⟩,q⟩) (loc4 v (some (.dat (gL b))) c d e) 5 ⟨c,d,e,rfl⟩ (by decide)
 exact ⟨c',d',e',q⟩
theorem flat_le {α:Type} {M:Nat} (F:α->List PyData) (t:α->Bool):∀l:List α,(∀x∈l,(F x).length≤M)->((l.filter t).flatMap F).length≤l.length*M
 | [],_=>by simp
 | x::l,h=>by
  have ih:=flat_le F t l λy hy=>h y (List.mem_cons_of_mem _ hy)
  have hx:=h x (List.mem_cons_self ..)
  rw [List.length_cons,Nat.add_mul]
  cases ht:t x with
  | false=>rw [List.filter_cons_of_neg (ht.symm▸Bool.false_ne_true)]; (exact Nat.le_trans (by assumption) (Nat.le_add_right _ _))
  | true=>rw [List.filter_cons_of_pos ht,List.flatMap_cons,List.length_append]; lia
theorem five_len (W:List (Nat×Nat)):(fiveB W).length≤256:=by
 have h1:∀b d,(fiveE W b d).length≤4:=λb d=>flat_le (M:=1) _ _ kL λ_ _=>Nat.le_refl _
 have h2:∀b c,(fiveD W b c).length≤16:=λb c=>flat_le (M:=4) _ _ kL λ_ _=>h1 _ _
 have h3:∀b,(fiveC W b).length≤64:=λb=>flat_le (M:=16) _ _ kL λ_ _=>h2 _ _
 exact flat_le (M:=64) _ _ kL λ_ _=>h3 _
theorem s20 (hw:v.wins=some (.obj 1)):X_law_20.1 ⟨v.loc,hW P fl W s f n pb⟩=some (.next,⟨{ v with five:=some (.dat (.int ((fiveB W).length:Nat))) }.loc,hW P fl W s f n pb⟩):=by
 have hfl:=five_len W
 have e:compF (srcF (sC [98,99,100,101])) stepI (setL 33) (cmpX .In (datF (binX .Add (sC [97]) (nameF 33))) (nameF 4)) loopCC [33,34,35,36] ⟨v.loc,hW P fl W s f n pb⟩=some (.dat (.list (fiveB W)),hW P fl W s f n pb):=by
  obtain ⟨loc',_,q⟩:=loop_map gL (λloc=>∃b' c' d' e',loc=loc4 v b' c' d' e') (T:=setL 33) (tests:=cmpX .In (datF (binX .Add (sC [97]) (nameF 33))) (nameF 4)) (inner:=loopCC) (t:=inW W 0) (ds:=fiveC W) (hp:=hW P fl W s f n pb) kL (λk hk loc ⟨b',c',d',e',hl⟩=>by
   subst hl
   refine ⟨_,⟨some (.dat (gL k)),c',d',e',rfl⟩,rfl,in_eq (l:=0) (getV_at rfl hw) rfl rfl,λ_=>?_⟩
   obtain ⟨c2,d2,e2,q⟩:=loopCC_eq (v:=v) (P:=P) (fl:=fl) (W:=W) (s:=s) (f:=f) (n:=n) (pb:=pb) (b:=k) (c:=c') (d:=d') (e:=e') hw
   exact ⟨_,⟨_,c2,d2,e2,rfl⟩,q⟩) (loc4 v none none none none) 5 ⟨none,none,none,none,rfl⟩ (by decide)
  unfold compF
  rw [show srcF (sC [98,99,100,101]) ⟨v.loc,hW P fl W s f n pb⟩=some ((.rem (kL.map gL),5),hW P fl W s f n pb) from rfl]
  dsimp only
  rw [show unset [33,34,35,36] v.loc=loc4 v none none none none from rfl,q]
  dsimp only
  rw [show (kL.filter (inW W 0)).flatMap (fiveC W)=fiveB W from rfl,if_pos (by unfold lim; (exact Nat.le_trans (by assumption) (by decide)))]
 exact asg_eq (i:=22) (len_eq e (by unfold lim; (exact Nat.le_trans (by assumption) (by decide))))
noncomputable def clos (W:List (Nat×Nat)) (c:List Nat):Bool:=inW W (lastC c) (c.headD 0)
theorem s24 {c:List (List Nat)} (hr:rd hp (.obj 1)=some (.list (strsP (W.map wordP)))) (hw:v.wins=some (.obj 1)) (h:v.ways=some (.dat (.list (strsP (c.map (wordS 5)))))) (h5:v.five=some (.dat (.int ((fiveB W).length:Nat)))) (hc:∀x∈c,x.length=5) (hl:c.length < 64) (hq:(c.filter (clos W)).length=5*(fiveB W).length) :
  X_law_24.1 ⟨v.loc,hp⟩=some (.next,⟨v.loc,hp⟩):=by
 have n21:nameF 21 ⟨v.loc,hp⟩=some (.dat (.list (strsP (c.map (wordS 5)))),hp):=name_eq (getV_at rfl h)
 have n22:nameF 22 ⟨v.loc,hp⟩=some (.dat (.int ((fiveB W).length:Nat)),hp):=name_eq (getV_at rfl h5)
 have e:=comp_map (λx=>sD (wordS 5 x)) (λloc=>∃a,loc=v.loc.set 41 a) (S:=srcF (nameF 21)) (T:=setL 41) (tests:=cmpX .In (datF (binX .Add (bindE (nameF 41) λa=>bindE (iC (-1)) λb=>itemF a b) (bindE (nameF 41) λa=>bindE (iC 5) λb=>itemF a b))) (nameF 4)) (F:=nameF 41) (t:=clos W) (r:=λx=>sD (wordS 5 x)) (hp:=hp) (l:=c) (loc:=v.loc) (ts:=[41]) (n:=c.length+1)
  (by
   unfold srcF
   rw [n21]
   dsimp only [srcD]
   simp [strsP,List.map_map]) (by (exact Nat.le_refl _)) (λk hk loc ⟨a,hloc⟩=>by
   subst hloc
   refine ⟨_,⟨some (.dat (sD (wordS 5 k))),rfl⟩,rfl,?_,λ_=>rfl⟩
   have hk5:=hc k hk
   obtain ⟨k0,k1,k2,k3,k4,rfl⟩:∃k0 k1 k2 k3 k4,k=[k0,k1,k2,k3,k4]:=by
    match k,hk5 with
    | [a,b,c,d,e],_=>exact ⟨a,b,c,d,e,rfl⟩
   exact in_eqG (W:=W) hr (l:=k4) (k:=k0) (getV_at rfl hw) rfl rfl) ⟨none,rfl⟩ (by unfold lim; (exact Nat.le_trans (Nat.le_of_lt (by assumption)) (by decide)))
 have hfl:=five_len W
 have hll:((c.filter (clos W)).map λx=>sD (wordS 5 x)).length=5*(fiveB W).length:=by rw [List.length_map,hq]
 have e1:=len_eq e (by rw [hll]; unfold lim; lia)
 rw [hll] at e1
 have e2:datF (binX .Mult (iC 5) (nameF 22)) ⟨v.loc,hp⟩=some (.dat (.int ((5*(fiveB W).length:Nat):Int)),hp):=bin_eq (op:=.Mult) rfl n22 (by
  show (if (((fiveB W).length:Nat):Int).natAbs < 2 ^ 60 then some (PyData.int (5*((fiveB W).length:Nat))) else none)=_
  rw [if_pos (by (exact Nat.lt_of_le_of_lt (by assumption) (by decide)))]
  simp)
 have c1:=cmp_eq (op:=.NotEq) (r:=false) e1 e2 rfl rfl (ne_int _)
 exact ifn_eq c1
theorem ret1_eq {F:EF} {L:Loc} {hp1 hp2:List MO} {p:PV} (h:F ⟨L,hp1⟩=some (p,hp2)):retX F ⟨L,hp1⟩=some (.ret p,⟨L,hp2⟩):=by
 unfold retX bindX
 exact h.symm▸rfl
theorem s25 {m t5:Nat} {t3:Int} (h1:v.many=some (.dat (.int (m:Nat)))) (h2:v.three=some (.dat (.int t3))) (h3:v.five=some (.dat (.int (t5:Nat)))) (hq:(m:Int)=1+2*(t3+t5)) (h3b:t3.natAbs < 1000) (h5b:t5≤1000):X_law_25.1 ⟨v.loc,hp⟩=some (.ret (.dat (.bool true)),⟨v.loc,hp⟩):=by
 have e:mulD (.int 2) (.int (t3+(t5:Nat)))=some (.int (2*(t3+(t5:Nat)))):=if_pos (Nat.lt_of_le_of_lt (Int.natAbs_add_le t3 t5) (Nat.lt_of_le_of_lt (Nat.add_le_add (Nat.le_of_lt h3b) h5b) (by decide)))
 have r:=cmpN_eq (op:=.Eq) (x:=true) (hp1:=hp) (name_at (i:=17) (L:=v.loc) rfl h1) (bin_eq (op:=.Add) (F1:=iC 1) rfl (bin_eq (op:=.Mult) (F1:=iC 2) rfl (bin_eq (op:=.Add) (name_at (i:=24) rfl h2) (name_at (i:=22) rfl h3) rfl) e) rfl) (by
  show some ((m:Int)==1+2*(t3+(t5:Nat)))=_
  rw [hq,beq_self_eq_true])
 exact ret1_eq r
end
noncomputable def atsW (t:List Nat) (c:List Nat) (len nt:Int):List (Nat×PV):=[(8,.dat (.bool (decide ((c.length:Int)≤1)))),(7,.dat (.tuple [.tuple (cntP c),.int 0])),(6,.dat (.int nt)),(5,.dat (.int len)),(4,.dat (sD t))]
theorem setAttr_eq {Fe:EF} {L:Loc} {hp:List MO} {i j:Nat} {pv:PV} {ats:List (Nat×PV)} (hL:getV L 0=some (.obj i)) (he:Fe ⟨L,hp⟩=some (pv,hp)) (hi:hp[i]?=some (.ins 180 ats)) (hj:j≤9) (ha:ats.length≤lim) (hb:ats.all (λp=>decide (p.1≤9))=true) :
  setAttrX (nameF 0) Fe 180 j ⟨L,hp⟩=some (.next,⟨L,hp.set i (.ins 180 (setA ats j pv))⟩):=by
 unfold setAttrX bindX
 rw [he]
 dsimp only
 rw [name_eq hL]
 dsimp only
 unfold setOf
 dsimp only
 rw [hi]
 dsimp only
 rw [if_pos ⟨rfl,hj,ha,hb⟩]
theorem LWs_get {i j:Nat} {s:List Nat} {b n nt:Int} {ch:Option PV}:getV (LWs i s j b n nt ch) 0=some (.obj i):=rfl
section
variable {base:List MO} {i j:Nat} {t c:List Nat} {b n nt:Int} {ch:Option PV} {hp:List MO}
theorem cntP_all (c:List Nat):(cntP c).length=c.length:=by simp [cntP]
theorem BWa_ok (h:InvW base i hp j c [(4,.dat (sD t))]) (hc:c.length≤lim):∃hp',BWa ⟨LWs i t j 0 n nt ch,hp⟩=some (.next,⟨LWs i t j 0 n nt ch,hp'⟩)∧InvW base i hp' j c (atsW t c n nt):=by
 have e1:=setAttr_eq (Fe:=nameF 6) (j:=5) (pv:=.dat (.int n)) (LWs_get (i:=i) (j:=j) (s:=t) (b:=0) (n:=n) (nt:=nt) (ch:=ch)) rfl h.self (by (exact Nat.le_add_left _ _)) (Nat.le_of_ble_eq_true rfl) (by rfl)
 have h1:=h.setS (setA [(4,.dat (sD t))] 5 (.dat (.int n)))
 have e2:=setAttr_eq (Fe:=nameF 7) (j:=6) (pv:=.dat (.int nt)) (LWs_get (i:=i) (j:=j) (s:=t) (b:=0) (n:=n) (nt:=nt) (ch:=ch)) rfl h1.self (by (exact Nat.le_add_left _ _)) (Nat.le_of_ble_eq_true rfl) (by rfl)
 have h2:=h1.setS (setA (setA [(4,.dat (sD t))] 5 (.dat (.int n))) 6 (.dat (.int nt)))
 have v3:datF (tupF (consL (datF (bindE (nameF 4) (map1 B1.tuple.f))) (consL (nameF 5) nilL))) ⟨LWs i t j 0 n nt ch,(hp.set i (.ins 180 (setA [(4,.dat (sD t))] 5 (.dat (.int n))))).set i (.ins 180 (setA (setA [(4,.dat (sD t))] 5 (.dat (.int n))) 6 (.dat (.int nt))))⟩
   = some (.dat (.tuple [.tuple (cntP c),.int 0]),(hp.set i (.ins 180 (setA [(4,.dat (sD t))] 5 (.dat (.int n))))).set i (.ins 180 (setA (setA [(4,.dat (sD t))] 5 (.dat (.int n))) 6 (.dat (.int nt))))):=by
  have a1:datF (bindE (nameF 4) (map1 B1.tuple.f)) ⟨LWs i t j 0 n nt ch,(hp.set i (.ins 180 (setA [(4,.dat (sD t))] 5 (.dat (.int n))))).set i (.ins 180 (setA (setA [(4,.dat (sD t))] 5 (.dat (.int n))) 6 (.dat (.int nt))))⟩
    = some (.dat (.tuple (cntP c)),(hp.set i (.ins 180 (setA [(4,.dat (sD t))] 5 (.dat (.int n))))).set i (.ins 180 (setA (setA [(4,.dat (sD t))] 5 (.dat (.int n))) 6 (.dat (.int nt))))):=by
   unfold datF bindE
   refine (name_eq (show getV (LWs i t j 0 n nt ch) 4=some (.obj j) from rfl)).symm▸?_
   skip
   unfold map1
   dsimp only
   refine (rd_cnt h2.at_).symm▸?_
   dsimp only
   exact (show B1.tuple.f (.list (cntP c))=some (.tuple (cntP c)) from if_pos (by rw [cntP_all]; exact hc)).symm▸rfl
  exact tup2_eq a1 rfl
 have e3:=setAttr_eq (j:=7) (LWs_get (i:=i) (j:=j) (s:=t) (b:=0) (n:=n) (nt:=nt) (ch:=ch)) v3 h2.self (by (exact Nat.le_add_left _ _)) (Nat.le_of_ble_eq_true rfl) (by rfl)
 have h3:=h2.setS (setA (setA (setA [(4,.dat (sD t))] 5 (.dat (.int n))) 6 (.dat (.int nt))) 7 (.dat (.tuple [.tuple (cntP c),.int 0])))
 have v4:∀hp:List MO,hp[j]?=some (.lst (cntP c))->datF (bindE (datF (lenX (nameF 4))) λa=>bindE (iC 1) λb=>map2 (λx y=>(cmpD .LtE x y).map .bool) a b) ⟨LWs i t j 0 n nt ch,hp⟩=some (.dat (.bool (decide ((c.length:Int)≤1))),hp):=by
  intro hp hj
  have a1:datF (lenX (nameF 4)) ⟨LWs i t j 0 n nt ch,hp⟩=some (.dat (.int c.length),hp):=by
   unfold datF; rw [len_cnt hj hc]
  unfold datF at a1 ⊢
  unfold bindE
  dsimp only
  refine a1.symm▸?_
  rfl
 have e4:=setAttr_eq (j:=8) (LWs_get (i:=i) (j:=j) (s:=t) (b:=0) (n:=n) (nt:=nt) (ch:=ch)) (v4 _ h3.at_) h3.self (by (exact Nat.le_add_left _ _)) (Nat.le_of_ble_eq_true rfl) (by rfl)
 have h4:=h3.setS (setA (setA (setA (setA [(4,.dat (sD t))] 5 (.dat (.int n))) 6 (.dat (.int nt))) 7 (.dat (.tuple [.tuple (cntP c),.int 0]))) 8 (.dat (.bool (decide ((c.length:Int)≤1)))))
 refine ⟨_,?_,h4⟩
 unfold BWa
 rw [seq_next e1,seq_next e2,seq_next e3,seq_id]
 exact e4
theorem W_new {runs:List Nat} (hbase:base.all (MO.closed (base.length+1))=true) (hr:∀r∈runs,r+1≤1000) (hn:runs.length≤1000) (hlen:(runsL runs).length≤100000) (hcl:(cOf runs []).length≤lim) :
  F_W_init [.obj base.length,.dat (sD (runsL runs))] (base++[.ins 180 []])=some (.dat .none,base++[.ins 180 (atsW (runsL runs) (cOf runs []) (runsL runs).length runs.length)]):=by
 let t:=runsL runs
 let i:=base.length
 let L0:Loc:=[some (.obj i),some (.dat (sD t)),none,none,none,none,none,none,none]
 let L1:Loc:=[some (.obj i),some (.dat (sD t)),some (.dat (sD [32])),some (.dat (sD [9])),none,none,none,none,none]
 let L2:Loc:=[some (.obj i),some (.dat (sD t)),some (.dat (sD [32])),some (.dat (sD [9])),some (.obj (i+1)),none,none,none,none]
 let hp1:List MO:=base++[.ins 180 [(4,.dat (sD t))]]
 let hp2:List MO:=hp1++[.lst (cntP [])]
 have hs0:(base++[MO.ins 180 []])[i]?=some (.ins 180 []):=by simp [i]
 have e1:setAttrX (nameF 0) (nameF 1) 180 4 ⟨L0,base++[.ins 180 []]⟩=some (.next,⟨L0,hp1⟩):=by
  rw [setAttr_eq (i:=i) (pv:=.dat (sD t)) (L:=L0) rfl rfl hs0 (by (exact Nat.le_add_left _ _)) (Nat.le_of_ble_eq_true rfl) (by rfl),List.set_append_right _ _ (Nat.le_refl _),Nat.sub_self]
  rfl
 have e2:tupRX [2,3] (consL (sC [32]) (consL (sC [9]) nilL)) ⟨L0,hp1⟩=some (.next,⟨L1,hp1⟩):=rfl
 have e3:bindX (trkF (listF nilL)) (setF 4) ⟨L1,hp1⟩=some (.next,⟨L2,hp2⟩):=by
  show some (Fl.next,(⟨L1.set 4 (some (.obj hp1.length)),hp1++[.lst []]⟩:St))=_
  have:hp1.length=i+1:=by simp [hp1,i]
  refine this.symm▸?_
  rfl
 have e4:set3 5 6 7 (iC 0) ⟨L2,hp2⟩=some (.next,⟨LWs i t (i+1) 0 0 0 none,hp2⟩):=rfl
 have hl1:hp1.length=i+1:=by simp [hp1,i]
 have h0:InvW base i hp2 (i+1) [] [(4,.dat (sD t))]:=⟨by
  skip
  rw [List.take_append_of_le_length (by (exact Nat.le_of_eq (Eq.symm (by assumption)))),List.take_of_length_le (by (exact Nat.le_of_eq (by assumption)))],rfl,by (exact Nat.le_refl _),by
  show (hp1++[MO.lst (cntP [])])[i+1]?=_
  rw [← hl1]; simp⟩
 refine cps λ_ KK=>?_
 obtain ⟨j',hp3,ch',h3,q⟩:=loopRuns (m:=1) (l:=[]) (s:=t) runs (i+1) [] 0 0 none hp2 h0 (λr hm=>by have:=hr r hm; unfold lim; (exact Nat.le_trans (by assumption) (by decide))) (by decide)
 have q0:forF stepI (setL 8) BWh 1 (.rem (chars [])) ⟨LWs i t j' 0 (0+(runsL runs).length) (0+runs.length) ch',hp3⟩=some (.next,⟨LWs i t j' 0 (0+(runsL runs).length) (0+runs.length) ch',hp3⟩):=rfl
 rw [q0,List.append_nil] at q
 have e5:bindI (srcF (bindE (nameF 0) (attrOf 180 4))) (λis n=>forF stepI (setL 8) BWh n is) ⟨LWs i t (i+1) 0 0 0 none,hp2⟩=some (.next,⟨LWs i t j' 0 (0+(runsL runs).length) (0+runs.length) ch',hp3⟩):=by
  have a1:bindE (nameF 0) (attrOf 180 4) ⟨LWs i t (i+1) 0 0 0 none,hp2⟩=some (.dat (sD t),hp2):=by
   unfold bindE
   refine (name_eq (LWs_get (i:=i))).symm▸?_
   skip
   unfold attrOf
   dsimp only
   refine h0.self.symm▸?_
   rfl
  unfold bindI srcF
  refine a1.symm▸?_
  dsimp only [srcD]
  have:(chars t).length+1=1+(runsL runs).length:=by simp [chars,t]; lia
  skip
  refine this.symm▸?_
  exact q
 obtain ⟨hp4,e6,h4⟩:=BWa_ok (n:=0+(runsL runs).length) (nt:=0+runs.length) (ch:=ch') h3 hcl
 refine KK ?_
 refine W_init_eq.symm▸?_
 skip
 have hB:BWx ⟨argLoc [.obj i,.dat (sD t)] 7,base++[.ins 180 []]⟩=some (.next,⟨LWs i t j' 0 (0+(runsL runs).length) (0+runs.length) ch',hp4⟩):=by
  skip
  unfold BWx
  refine (seq_next e1).symm▸(seq_next e2).symm▸(seq_next e3).symm▸(seq_next e4).symm▸(seq_next e5).symm▸?_
  exact e6
 show (match BWx ⟨argLoc [.obj i,.dat (sD t)] 7,base++[.ins 180 []]⟩ with
  | some (.ret pv,σ)=>if false then some (pv,σ.hp) else trunc (base++[MO.ins 180 []]).length pv σ.hp
  | some (.next,σ)=>if false then some (PV.dat .none,σ.hp) else trunc (base++[MO.ins 180 []]).length (.dat .none) σ.hp
  | _=>none)=_
 refine hB.symm▸?_
 dsimp only
 refine (if_neg Bool.false_ne_true).symm▸?_
 have hlen':(base++[MO.ins 180 []]).length=i+1:=by simp [i]
 refine hlen'.symm▸?_
 unfold trunc
 refine h4.pre.symm▸?_
 have hle:i+1≤hp4.length:=by have:=h4.jlt; have:=h4.lt; (exact Nat.lt_trans (by assumption) (by assumption))
 have hall:(base++[MO.ins 180 (atsW t (cOf runs []) (0+(runsL runs).length) (0+runs.length))]).all (MO.closed (i+1))=true:=by
  refine List.all_append.symm▸hbase.symm▸?_
  rfl
 rw [if_pos (by rw [hall]; simpa [PV.closed] using hle)]
 rw [Int.zero_add,Int.zero_add]
end
noncomputable def partW (c:List Nat) (size m:Nat):Nat:=((List.range m).map λi=>(i / size)*c.getD i 0).sum
theorem partW_succ (c:List Nat) (size m:Nat):partW c size (m+1)=partW c size m+(m / size)*c.getD m 0:=by
 unfold partW
 rw [List.range_succ,List.map_append,List.sum_append]
 simp
theorem partW_zero (c:List Nat) (size:Nat):∀m,m≤size->partW c size m=0
 | 0,_=>rfl
 | m+1,h=>by
  rw [partW_succ,partW_zero c size m (by (exact Nat.le_of_lt (by assumption))),Nat.div_eq_of_lt (by assumption)]
  simp
theorem partW_ge (c:List Nat) (size:Nat):∀d,partW c size (c.length+d)=partW c size c.length
 | 0=>rfl
 | d+1=>by
  rw [← Nat.add_assoc,partW_succ,partW_ge c size d]
  have:c.getD (c.length+d) 0=0:=by simp [List.getD]
  rw [this]; simp
noncomputable def LvW (c:List Nat) (size:Nat) (nt:Nat) (tr:Int):Int:=tr+size*((partW c size c.length:Nat)+(nt:Nat))
noncomputable def locV (i:Nat) (size:Nat) (c:List Nat) (tr:Int) (il:Int) (x:Option PV):Loc:=[some (.obj i),some (.dat (.int (size:Int))),some (.dat (.tuple (cntP c))),some (.dat (.int tr)),some (.dat (.int il)),x]
noncomputable def bodyV:XF:=bindX (datF (binX .Add (nameF 4) (datF (binX .Mult (datF (binX .FloorDiv (nameF 5) (nameF 1))) (bindE (nameF 2) λa=>bindE (nameF 5) λb=>itemF a b))))) (setF 4)
noncomputable def XV:XF:=seqF (asgF (bindE (nameF 0) (attrOf 180 7)) (setL2 2 3)) (seqF (bindX (iC 0) (setF 4)) (seqF (bindI (rngSrc (consL (nameF 1) (consL (datF (lenX (nameF 2))) nilL))) λis n=>forF stepI (setL 5) (seqF bodyV nextF) n is)
 (seqF (retX (datF (binX .Add (nameF 3) (datF (binX .Mult (nameF 1) (datF (binX .Add (nameF 4) (bindE (nameF 0) (attrOf 180 6))))))))) nextF)))
theorem XV_eq:F_W_indent_level=fnF 2 4 false XV:=rfl
section
variable {i size nt:Nat} {c:List Nat} {tr:Int} {hp:List MO} {ats:List (Nat×PV)}
theorem attr_at {k:Nat} {pv:PV} {L:Loc} (h1:hp[i]?=some (.ins 180 ats)) (hL:getV L 0=some (.obj i)) (hk:ats.lookup k=some pv):bindE (nameF 0) (attrOf 180 k) ⟨L,hp⟩=some (pv,hp):=by
 unfold bindE
 rw [name_eq hL]
 dsimp only
 unfold attrOf
 dsimp only
 rw [h1]
 dsimp only
 rw [if_pos rfl,hk]
theorem mul_nat {x y:Nat} (h:y≤100000000000):mulD (.int (x:Int)) (.int (y:Int))=some (.int ((x*y:Nat):Int)):=by
 show (if (y:Int).natAbs < 2 ^ 60 then some (PyData.int ((x:Int)*(y:Int))) else none)=_
 rw [if_pos (show (y:Int).natAbs < 2 ^ 60 from Nat.lt_of_le_of_lt h (by decide)),← Int.natCast_mul]
theorem lvl_step {m:Nat} (hm:m < c.length) (hs:0 < size) (hs2:size≤100000) (hc:c.length≤100000) (hcv:∀x∈c,x≤100000) :
  bodyV ⟨locV i size c tr (partW c size m:Nat) (some (.dat (.int (m:Int)))),hp⟩=some (.next,⟨locV i size c tr (partW c size (m+1):Nat) (some (.dat (.int (m:Int)))),hp⟩):=by
 have hg:c[m]?=some (c.getD m 0):=by simp [List.getD,hm]
 have hgv:c.getD m 0≤100000:=hcv _ (List.mem_of_getElem? hg)
 have f1:fdivD (.int (m:Int)) (.int (size:Int))=some (.int ((m / size:Nat):Int)):=by
  show (if (size:Int)≠0∧(size:Int).natAbs < 2 ^ 60 then some (PyData.int ((m:Int).fdiv (size:Int))) else none)=_
  rw [if_pos ⟨Int.natCast_ne_zero.mpr (Nat.ne_of_gt hs),show (size:Int).natAbs < 2 ^ 60 from Nat.lt_of_le_of_lt hs2 (by decide)⟩,Int.fdiv_eq_ediv_of_nonneg _ (Int.natCast_nonneg _)]
  rfl
 have f2:itemD (.tuple (cntP c)) (.int (m:Int))=some (.int (c.getD m 0:Nat)):=by
  show (if (m:Int).natAbs≤lim then idx (cntP c) (m:Int) else none)=_
  rw [if_pos (show (m:Int).natAbs≤lim from Nat.le_trans (Nat.le_of_lt hm) (Nat.le_trans hc (by decide))),idx_nat,cntP,List.getElem?_map,hg]
  rfl
 have f4:addD (.int (partW c size m:Nat)) (.int ((m / size*c.getD m 0:Nat):Int))=some (.int (partW c size (m+1):Nat)):=by
  rw [partW_succ]; rfl
 exact asg_eq (i:=4) (bin_eq (op:=.Add) (name_at rfl rfl) (bin_eq (op:=.Mult) (bin_eq (op:=.FloorDiv) (name_at rfl rfl) (name_at rfl rfl) f1) (item_eq (name_at rfl rfl) (name_at rfl rfl) f2) (mul_nat (Nat.le_trans hgv (by decide)))) f4)
theorem lvl_loop (hs:0 < size) (hs2:size≤100000) (hc:c.length≤100000) (hcv:∀x∈c,x≤100000):∃x,forF stepI (setL 5) (seqF bodyV nextF) (c.length - size+1) (.rem (rngF (size:Int) 1 (c.length - size))) ⟨locV i size c tr 0 none,hp⟩=some (.next,⟨locV i size c tr (partW c size c.length:Nat) x,hp⟩):=by
 obtain ⟨σ',e3,x,hI⟩:=for_inv (T:=setL 5) (B:=seqF bodyV nextF) (its:=rngF (size:Int) 1 (c.length - size)) (λj σ=>∃x,σ=⟨locV i size c tr (partW c size (size+j):Nat) x,hp⟩) (λj d σ hd q=>by
  obtain ⟨x,hσ⟩:=q
  have hjN:j < c.length - size:=by
   have:=(List.getElem?_eq_some_iff.mp hd).1
   rwa [rngF_length] at this
  rw [hσ,rngF_get _ _ _ _ hd,Int.mul_one,← Int.natCast_add]
  exact ⟨_,_,rfl,(seq_id _ _).trans (lvl_step (Nat.add_comm _ _▸Nat.add_lt_of_lt_sub hjN) hs hs2 hc hcv),_,rfl⟩) (rngF (size:Int) 1 (c.length - size)) 0 (c.length - size+1) ⟨locV i size c tr 0 none,hp⟩ rfl (by rw [rngF_length]; exact Nat.lt_succ_self _) ⟨none,by rw [Nat.add_zero,partW_zero c size size (Nat.le_refl _)]; rfl⟩
 refine ⟨x,?_⟩
 rw [e3,hI,rngF_length,Nat.zero_add]
 rcases Nat.le_total size c.length with h | h
 ·rw [Nat.add_sub_cancel' h]
 ·rw [Nat.sub_eq_zero_of_le h,Nat.add_zero,show size=c.length+(size - c.length) from (Nat.add_sub_cancel' h).symm,← show size=c.length+(size - c.length) from (Nat.add_sub_cancel' h).symm]
  have:=partW_ge c size (size - c.length)
  rw [Nat.add_sub_cancel' h] at this
  exact this.symm▸rfl
theorem rng2_eq {F1 F2:EF} {L:Loc} {a b:Int} {n:Nat} (h1:F1 ⟨L,hp⟩=some (.dat (.int a),hp)) (h2:F2 ⟨L,hp⟩=some (.dat (.int b),hp)) (hs:Builtin.Range.small a b 1=true) (hn:(Builtin.Range.rangeSize a b 1).toNat=n):rngSrc (consL F1 (consL F2 nilL)) ⟨L,hp⟩=some ((.rem (rngF a 1 n),n+1),hp):=by
 unfold rngSrc
 rw [cons2_eq h1 h2]
 show (if (1:Int)≠0∧Builtin.Range.small a b 1=true∧(1:Int).natAbs < 2 ^ 60 then some ((IS.rem (rngF a 1 (Builtin.Range.rangeSize a b 1).toNat),(Builtin.Range.rangeSize a b 1).toNat+1),hp) else none)=_
 rw [if_pos ⟨by decide,hs,by decide⟩,hn]
theorem lvl_rng (hs2:size≤100000) (hc:c.length≤100000) {G:IS->Nat->XF} {q:Option (Fl×St)} (k:G (.rem (rngF (size:Int) 1 (c.length - size))) (c.length - size+1) ⟨locV i size c tr 0 none,hp⟩=q):bindI (rngSrc (consL (nameF 1) (consL (datF (lenX (nameF 2))) nilL))) G ⟨locV i size c tr 0 none,hp⟩=q:=by
 have hrs:=small_nn hs2 hc
 have a1:datF (lenX (nameF 2)) ⟨locV i size c tr 0 none,hp⟩=some (.dat (.int (c.length:Nat)),hp):=map1_eq (f:=B1.len.f) (a:=.tuple (cntP c)) (name_at rfl rfl) (by
  show (if (cntP c).length≤lim then some (PyData.int (cntP c).length) else none)=_
  rw [cntP_all,if_pos (Nat.le_trans hc (by decide))])
 unfold bindI
 refine (rng2_eq (name_at (i:=1) rfl rfl) a1 hrs.1 hrs.2).symm▸?_
 exact k
theorem fn_ret {np N:Nat} {B:XF} {ps:List PV} {d:PyData} {L':Loc} (hl:ps.length=np) (hcl:hp.all (MO.closed hp.length)=true) (h:B ⟨argLoc ps N,hp⟩=some (.ret (.dat d),⟨L',hp⟩)):fnF np N false B ps hp=some (.dat d,hp):=by
 unfold fnF
 refine (if_pos (beq_iff_eq.mpr hl)).symm▸h.symm▸?_
 show trunc hp.length (.dat d) hp=_
 unfold trunc
 refine List.take_length.symm▸hcl.symm▸?_
 exact if_pos (decide_eq_true (Nat.le_refl _))
theorem lvl_gen (h1:hp[i]?=some (.ins 180 ats)) (h7:ats.lookup 7=some (.dat (.tuple [.tuple (cntP c),.int tr]))) (h6:ats.lookup 6=some (.dat (.int (nt:Int)))) (hs:0 < size) (hs2:size≤100000) (hc:c.length≤100000) (hcv:∀x∈c,x≤100000) (hnt:nt≤100000) (hcl:hp.all (MO.closed hp.length)=true) (hpart:partW c size c.length≤10000000000) :
  F_W_indent_level [.obj i,.dat (.int (size:Int))] hp=some (.dat (.int (LvW c size nt tr)),hp):=by
 have hpm:(partW c size c.length+nt)≤100000000000:=Nat.le_trans (Nat.add_le_add hpart hnt) (by decide)
 obtain ⟨x,e3⟩:=lvl_loop (i:=i) (tr:=tr) (hp:=hp) hs hs2 hc hcv
 have r2:datF (binX .Mult (nameF 1) (datF (binX .Add (nameF 4) (bindE (nameF 0) (attrOf 180 6))))) ⟨locV i size c tr (partW c size c.length:Nat) x,hp⟩=some (.dat (.int ((size*(partW c size c.length+nt):Nat):Int)),hp) :=
  bin_eq (op:=.Mult) (name_at rfl rfl) (bin_eq (op:=.Add) (d:=.int ((partW c size c.length+nt:Nat):Int)) (name_at rfl rfl) (attr_at h1 rfl h6) rfl) (mul_nat hpm)
 refine XV_eq.symm▸?_
 have e1:asgF (bindE (nameF 0) (attrOf 180 7)) (setL2 2 3) ⟨[some (.obj i),some (.dat (.int (size:Int))),none,none,none,none],hp⟩=some (.next,⟨[some (.obj i),some (.dat (.int (size:Int))),some (.dat (.tuple (cntP c))),some (.dat (.int tr)),none,none],hp⟩):=by
  unfold asgF bindX
  rw [attr_at h1 rfl h7]
  rfl
 exact fn_ret rfl hcl ((seq_next e1).trans ((seq_next (asg_eq (F:=iC 0) rfl)).trans ((seq_next (lvl_rng hs2 hc e3)).trans (ret_eq (bin_eq (op:=.Add) (name_at rfl rfl) r2 rfl)))))
end
theorem padC_get (c:List Nat) (b i:Nat):(padC c b).getD i 0=c.getD i 0:=by
 unfold padC
 split
 ·rfl
 ·simp only [List.getD]
  by_cases h:i < c.length
  ·exact (List.getElem?_append_left h).symm▸rfl
  ·have hn:c[i]?=none:=List.getElem?_eq_none (by (exact Nat.le_of_not_lt (by assumption)))
   refine (List.getElem?_append_right (by (exact Nat.le_of_not_lt (by assumption)))).symm▸hn.symm▸(List.getElem?_replicate).symm▸?_
   split<;>rfl
theorem padC_lt (c:List Nat) (b:Nat):b < (padC c b).length:=by
 unfold padC
 split
 ·assumption
 ·rw [List.length_append,List.length_replicate]; lia
theorem addC_get (c:List Nat) (b i:Nat):(addC c b).getD i 0=c.getD i 0+(if i=b then 1 else 0):=by
 refine (padC_get c b i)▸?_
 skip
 simp only [List.getD]
 refine (List.getElem?_set).symm▸?_
 by_cases h:b=i
 ·subst h
  refine (if_pos rfl).symm▸(if_pos (padC_lt c b)).symm▸(if_pos rfl).symm▸?_
  rfl
 ·rw [if_neg h,if_neg (λq=>h q.symm)]
  rfl
theorem partW_add (c:List Nat) (b size:Nat):∀m,partW (addC c b) size m=partW c size m+(if b < m then b / size else 0)
 | 0=>rfl
 | m+1=>by
  rw [partW_succ,partW_succ,partW_add c b size m,addC_get]
  by_cases h1:m=b
  ·subst h1
   rw [if_pos rfl,if_neg (Nat.lt_irrefl _),if_pos (Nat.lt_succ_self _),Nat.mul_add]
   lia
  ·rw [if_neg h1,Nat.add_zero]
   by_cases h2:b < m
   ·rw [if_pos h2,if_pos (by (exact Nat.lt_succ_of_lt (by assumption)))]; (exact Nat.add_right_comm _ _ _)
   ·rw [if_neg h2,if_neg (by lia)]; lia
noncomputable def TW (c:List Nat) (size:Nat):Nat:=partW c size c.length
theorem TW_ge (c:List Nat) (size:Nat) {m:Nat} (h:c.length≤m):partW c size m=TW c size:=by
 have:m=c.length+(m - c.length):=by lia
 rw [this,partW_ge]; rfl
theorem TW_add (c:List Nat) (b size:Nat):TW (addC c b) size=TW c size+b / size:=by
 rw [← TW_ge (addC c b) size (m:=max (addC c b).length (max c.length (b+1))) (Nat.le_max_left _ _),partW_add,if_pos (Nat.lt_of_lt_of_le (Nat.lt_succ_self b) (Nat.le_trans (Nat.le_max_right _ _) (Nat.le_max_right _ _))),TW_ge c size (Nat.le_trans (Nat.le_max_left _ _) (Nat.le_max_right _ _))]
theorem TW_runs (size:Nat):∀(runs c:List Nat),TW (cOf runs c) size=TW c size+(runs.map (· / size)).sum
 | [],c=>rfl
 | r::runs,c=>by
  show TW (cOf runs (addC c r)) size=_
  rw [TW_runs size runs,TW_add,List.map_cons,List.sum_cons]
  (exact Nat.add_assoc _ _ _)
theorem addC_mem {c:List Nat} {b M:Nat} (h:∀x∈c,x≤M):∀x∈addC c b,x≤M+1:=by
 intro x hx
 obtain ⟨i,hi⟩:=List.getElem?_of_mem hx
 have h1:(addC c b).getD i 0=x:=by simp [List.getD,hi]
 have h2:c.getD i 0≤M:=by
  simp only [List.getD]
  cases hq:c[i]? with
  | none=>exact Nat.zero_le _
  | some y=>exact h y (List.mem_of_getElem? hq)
 rw [addC_get] at h1
 split at h1<;>lia
theorem cOf_mem:∀(runs c:List Nat) (M:Nat),(∀x∈c,x≤M)->∀x∈cOf runs c,x≤M+runs.length
 | [],c,M,h,x,hx=>h x hx
 | r::runs,c,M,h,x,hx=>by
  have:=cOf_mem runs (addC c r) (M+1) (addC_mem h) x hx
  rw [List.length_cons]; lia
theorem cOf_len:∀(runs c:List Nat) (M:Nat),(∀r∈runs,r < M)->c.length≤M->(cOf runs c).length≤M
 | [],c,M,_,h=>h
 | r::runs,c,M,hr,h=>cOf_len runs (addC c r) M (λx hx=>hr x (List.mem_cons_of_mem _ hx)) (by rw [addC_len]; have:=hr r (List.mem_cons_self ..); lia)
noncomputable def LV (c:List Nat) (size:Nat):Nat:=size*(TW c size+5)
section
variable {v:Vs} {P:Addr} {fl f:Bool} {s t c:List Nat} {n len:Int} {pb:List PyData} {W:List (Nat×Nat)} {hp:List MO}
noncomputable abbrev hL (P:Addr) (fl:Bool) (W:List (Nat×Nat)) (s:List Nat) (f:Bool) (n:Int) (pb:List PyData) (t c:List Nat) (len:Int):List MO:=hW P fl W s f n pb++[.ins 180 (atsW t c len 5)]
noncomputable def lvlOK (hp:List MO) (c:List Nat) (k:Nat):Prop:=F_W_indent_level [.obj 5,.dat (.int (k:Int))] hp=some (.dat (.int (LV c k:Nat)),hp)
noncomputable def okC (c:List Nat):Prop:=c.length≤100000∧(∀x∈c,x≤100000)∧∀k,1≤k->TW c k≤100000
theorem lvl_ok (h:okC c) {k:Nat} (hk:0 < k) (hk2:k≤100000):lvlOK (hL P fl W s f n pb t c len) c k:=by
 have:=lvl_gen (hp:=hL P fl W s f n pb t c len) (i:=5) (nt:=5) (c:=c) (tr:=0) (ats:=atsW t c len 5) rfl rfl rfl hk hk2 h.1 h.2.1 (by (exact Nat.le_add_left _ _)) (by cases f<;>rfl) (by have:=h.2.2 k hk; unfold TW at this; (exact Nat.le_trans (by assumption) (by decide)))
 unfold lvlOK
 rw [this]
 unfold LvW LV TW
 congr 4
 simp
theorem ins_lvl:insOf 180 "indent_level" 5 (hL P fl W s f n pb t c len)=true:=by kernel_rfl
noncomputable def lvlM (i:Nat):EF:=methF (nameF 23) 180 "indent_level" (consL (nameF i) nilL) F_W_indent_level
theorem lvlM_eq {L:Loc} {i k:Nat} (h1:getV L 23=some (.obj 5)) (h2:getV L i=some (.dat (.int (k:Int)))) (h:lvlOK (hL P fl W s f n pb t c len) c k):lvlM i ⟨L,hL P fl W s f n pb t c len⟩=some (.dat (.int (LV c k:Nat)),hL P fl W s f n pb t c len):=by
 unfold lvlM methF bindE
 refine (name_eq h1).symm▸?_
 dsimp only
 refine (if_pos ins_lvl).symm▸?_
 unfold consL bindE
 refine (name_eq h2).symm▸?_
 exact h
theorem mod_self {k m:Nat} (hk:0 < k):modD (.int ((k*m:Nat):Int)) (.int (k:Int))=some (.int 0):=by
 show (if (k:Int)≠0 then some (PyData.int (((k*m:Nat):Int).fmod (k:Int))) else none)=_
 rw [if_pos (by lia),Int.fmod_eq_emod_of_nonneg _ (by (exact Int.natCast_nonneg _))]
 have:((k*m:Nat):Int) % (k:Int)=0:=by
  rw [Int.natCast_mul]
  exact Int.mul_emod_right _ _
 exact this.symm▸rfl
theorem div_self' {k m:Nat} (hk:0 < k) (h2:k < 1000):fdivD (.int ((k*m:Nat):Int)) (.int (k:Int))=some (.int (m:Nat)):=by
 show (if (k:Int)≠0∧(k:Int).natAbs < 2 ^ 60 then some (PyData.int (((k*m:Nat):Int).fdiv (k:Int))) else none)=_
 rw [if_pos ⟨by lia,by (exact Nat.le_trans (by assumption) (by decide))⟩,Int.fdiv_eq_ediv_of_nonneg _ (by (exact Int.natCast_nonneg _))]
 have:((k*m:Nat):Int) / (k:Int)=(m:Int):=by
  rw [Int.natCast_mul]
  exact Int.mul_ediv_cancel_left _ (by lia)
 exact this.symm▸rfl
theorem s22 (hl:v.lead=some (.obj 5)) (hc:okC c):X_law_22.1 ⟨v.loc,hL P fl W s f n pb t c len⟩=some (.next,⟨v.loc,hL P fl W s f n pb t c len⟩):=by
 have hok:∀k∈[1,2,3,4],lvlOK (hL P fl W s f n pb t c len) c k:=by
  intro k hk
  simp at hk
  exact lvl_ok hc (by lia) (by lia)
 have e:=comp_map (λk:Nat=>PyData.int (k:Int)) (λloc=>∃a,loc=v.loc.set 38 a) (S:=rngSrc (consL (iC 1) (consL (iC 5) nilL))) (T:=setL 38) (tests:=λσ=>some (true,σ.hp)) (F:=datF (binX .Mod (lvlM 38) (nameF 38))) (t:=λ_=>true) (r:=λ_=>.int 0) (hp:=hL P fl W s f n pb t c len) (l:=[1,2,3,4]) (loc:=v.loc) (ts:=[38]) (n:=5)
  (by kernel_rfl) (by decide) (λk hk loc ⟨a,hloc⟩=>by
   subst hloc
   refine ⟨_,⟨some (.dat (.int (k:Int))),rfl⟩,rfl,rfl,λ_=>?_⟩
   have hk0:0 < k:=by simp at hk; lia
   exact bin_eq (op:=.Mod) (lvlM_eq (getV_at rfl hl) rfl (hok k hk)) (name_eq rfl) (mod_self hk0)) ⟨none,rfl⟩ (by decide)
 have e2:datF (binX .Mult (datF (listF (consL (iC 0) nilL))) (iC 4)) ⟨v.loc,hL P fl W s f n pb t c len⟩=some (.dat (.list [.int 0,.int 0,.int 0,.int 0]),hL P fl W s f n pb t c len):=by kernel_rfl
 have c1:=cmp_eq (op:=.NotEq) (r:=false) e e2 rfl rfl rfl
 exact ifn_eq c1
noncomputable def threeN (c:List Nat):Int:=20 - ((TW c 1:Nat)+((TW c 2:Nat)+(2*(TW c 3:Nat)+(2*(TW c 4:Nat)+0))))
theorem s23 (hl:v.lead=some (.obj 5)) (hc:okC c):X_law_23.1 ⟨v.loc,hL P fl W s f n pb t c len⟩=some (.next,⟨{ v with three:=some (.dat (.int (threeN c))) }.loc,hL P fl W s f n pb t c len⟩):=by
 have hok:∀p∈[(1,1),(2,1),(3,2),(4,2)],lvlOK (hL P fl W s f n pb t c len) c p.1:=by
  intro k hk
  simp at hk
  rcases hk with rfl | rfl | rfl | rfl<;>exact lvl_ok hc (by decide) (by decide)
 have hb:∀k,1≤k->TW c k≤100000:=hc.2.2
 have e:=comp_map (λp:Nat×Nat=>PyData.tuple [.int (p.1:Int),.int (p.2:Int)]) (λloc=>∃a b,loc=(v.loc.set 39 a).set 40 b) (S:=srcF (datF (listF (consL (datF (tupF (consL (iC 1) (consL (iC 1) nilL)))) (consL (datF (tupF (consL (iC 2) (consL (iC 1) nilL)))) (consL (datF (tupF (consL (iC 3) (consL (iC 2) nilL)))) (consL (datF (tupF (consL (iC 4) (consL (iC 2) nilL)))) nilL))))))) (T:=setL2 39 40) (tests:=λσ=>some (true,σ.hp))
  (F:=datF (binX .Mult (nameF 40) (datF (binX .Sub (datF (binX .FloorDiv (lvlM 39) (nameF 39))) (iC 5))))) (t:=λ_=>true) (r:=λp=>.int ((p.2:Int)*(TW c p.1:Nat))) (hp:=hL P fl W s f n pb t c len) (l:=[(1,1),(2,1),(3,2),(4,2)]) (loc:=v.loc) (ts:=[39,40]) (n:=5)
  (by kernel_rfl) (by decide) (λp hk loc ⟨a,b,hloc⟩=>by
   subst hloc
   obtain ⟨k,m⟩:=p
   refine ⟨_,⟨some (.dat (.int (k:Int))),some (.dat (.int (m:Int))),rfl⟩,rfl,rfl,λ_=>?_⟩
   have hk0:0 < k∧k < 1000:=by simp at hk; lia
   have hbk:=hb k (by lia)
   have e1:=bin_eq (op:=.FloorDiv) (lvlM_eq (i:=39) (L:=(v.loc.set 39 (some (.dat (.int (k:Int))))).set 40 (some (.dat (.int (m:Int))))) (getV_at rfl hl) rfl (hok (k,m) hk)) (name_eq (i:=39) rfl) (div_self' hk0.1 hk0.2)
   have e2:=bin_eq (op:=.Sub) (d:=.int (TW c k:Nat)) e1 (show iC 5 _=some (PV.dat (.int 5),_) from rfl) (by
    show some (PyData.int (((TW c k+5:Nat):Int) - 5))=_
    exact congrArg (λz=>some (PyData.int z)) (Int.add_sub_cancel (TW c k:Int) 5))
   exact bin_eq (op:=.Mult) (name_eq (i:=40) rfl) e2 (by
    show (if (((TW c k:Nat):Int)).natAbs < 2 ^ 60 then some (PyData.int ((m:Int)*(TW c k:Nat))) else none)=_
    rw [if_pos (by (exact Nat.lt_of_le_of_lt (by assumption) (by decide)))])) ⟨none,none,rfl⟩ (by decide)
 have e2:datF (bindE (compF (srcF (datF (listF (consL (datF (tupF (consL (iC 1) (consL (iC 1) nilL)))) (consL (datF (tupF (consL (iC 2) (consL (iC 1) nilL)))) (consL (datF (tupF (consL (iC 3) (consL (iC 2) nilL)))) (consL (datF (tupF (consL (iC 4) (consL (iC 2) nilL)))) nilL))))))) stepI (setL2 39 40) (λσ=>some (true,σ.hp)) (emitF (datF (binX .Mult (nameF 40) (datF (binX .Sub (datF (binX .FloorDiv (lvlM 39) (nameF 39))) (iC 5)))))) [39,40]) (map1 B1.sum.f)) ⟨v.loc,hL P fl W s f n pb t c len⟩
   = some (.dat (.int ((TW c 1:Nat)+((TW c 2:Nat)+(2*(TW c 3:Nat)+(2*(TW c 4:Nat)+0))))),hL P fl W s f n pb t c len):=by
  refine map1_eq e ?_
  rw [List.filter_eq_self.mpr (λ_ _=>rfl)]
  simp [sumI,B1.f]
 have e3:=bin_eq (op:=.Sub) (F1:=iC 20) (a:=.int 20) rfl e2 rfl
 exact asg_eq (i:=24) e3
theorem s21 {Rs:RS} (hr:v.rows=some (.dat (rowsP Rs))) (hok:okRs Rs 100) (hc:(cOf (Rs.map (·.1)) []).length≤lim) (hlen:(runsL (Rs.map (·.1))).length≤100000) :
  X_law_21.1 ⟨v.loc,hW P fl W s f n pb⟩=some (.next,⟨{ v with lead:=some (.obj 5) }.loc,hL P fl W s f n pb (runsL (Rs.map (·.1))) (cOf (Rs.map (·.1)) []) (runsL (Rs.map (·.1))).length⟩):=by
 have n5:nameF 5 ⟨v.loc,hW P fl W s f n pb⟩=some (.dat (rowsP Rs),hW P fl W s f n pb):=name_eq (getV_at rfl hr)
 have e:=comp_map (λr:Nat×List Nat=>sD (rowL r.1 r.2)) (λloc=>∃a,loc=v.loc.set 37 a) (S:=srcF (nameF 5)) (T:=setL 37) (tests:=λσ=>some (true,σ.hp))
  (F:=datF (binX .Add (datF (binX .Mult (sC [32]) (datF (binX .Sub (datF (Mine.meth1 .count (nameF 37) (sC [46]))) (iC 1))))) (sC [9]))) (t:=λ_=>true) (r:=λr=>sD (List.replicate r.1 32++[9])) (hp:=hW P fl W s f n pb) (l:=Rs) (loc:=v.loc) (ts:=[37]) (n:=Rs.length+1)
  (by
   unfold srcF
   rw [n5]
   unfold rowsP
   dsimp only [srcD]
   simp [strsP,List.map_map]) (by (exact Nat.le_refl _)) (λr hm loc ⟨a,hloc⟩=>by
   subst hloc
   refine ⟨_,⟨some (.dat (sD (rowL r.1 r.2))),rfl⟩,rfl,rfl,λ_=>?_⟩
   obtain ⟨he,hk⟩:=hok.2 r hm
   have hcnt:Txt.count ⟨⟨rowL r.1 r.2⟩⟩ ⟨⟨[46]⟩⟩=((r.1+1:Nat):Int):=by
    rw [show (⟨⟨[46]⟩⟩:Str)=⟨#[46]⟩ from rfl,count_cnt,cnt_count]
    unfold rowL
    rw [List.count_append]
    have:r.2.count 46=0:=by rcases he with h | h | h<;>rw [h]<;>rfl
    refine this.symm▸?_
    simp
   have e1:datF (Mine.meth1 .count (nameF 37) (sC [46])) ⟨v.loc.set 37 (some (.dat (sD (rowL r.1 r.2)))),hW P fl W s f n pb⟩=some (.dat (.int ((r.1+1:Nat):Int)),hW P fl W s f n pb):=by
    rw [← hcnt]; rfl
   have e2:=bin_eq (op:=.Sub) (d:=.int ((r.1:Nat):Int)) e1 (show iC 1 _=some (PV.dat (.int 1),_) from rfl) (by
    show some (PyData.int (((r.1+1:Nat):Int) - 1))=_
    congr 2; lia)
   have e3:=bin_eq (op:=.Mult) (F1:=sC [32]) (a:=sD [32]) (d:=sD (List.replicate r.1 32)) rfl e2 (by
    show (if 1*(((r.1:Nat):Int)).toNat≤lim∧(((r.1:Nat):Int)).natAbs≤lim then some (PyData.str ⟨⟨(List.replicate (((r.1:Nat):Int)).toNat [32]).flatten⟩⟩) else none)=_
    rw [if_pos ⟨by unfold lim; lia,by unfold lim; (exact Nat.le_trans (by assumption) (by decide))⟩]
    simp)
   exact bin_eq (op:=.Add) e3 (show sC [9] _=some (PV.dat (sD [9]),_) from rfl) (show addD (sD (List.replicate r.1 32)) (sD [9])=_ from if_pos (by
    show (List.replicate r.1 32).length+1≤lim
    rw [List.length_replicate]; unfold lim; (exact Nat.lt_of_le_of_lt (by assumption) (by decide))))) ⟨none,rfl⟩ (by rw [hok.1]; decide)
 replace e:=(List.filter_eq_self.mpr (λ_ _=>rfl))▸e
 have hj:joinD ⟨⟨[]⟩⟩ (Rs.map λr=>sD (List.replicate r.1 32++[9]))=some (sD (runsL (Rs.map (·.1)))):=by
  have h1:(Rs.map λr=>sD (List.replicate r.1 32++[9]))=strsP (Rs.map λr=>List.replicate r.1 32++[9]):=by simp [strsP]
  have h2:joinL [] (Rs.map λr=>List.replicate r.1 32++[9])=runsL (Rs.map (·.1)):=by
   unfold runsL
   refine List.map_map.symm▸?_
   generalize hq:(Rs.map λr=>List.replicate r.1 32++[9])=ws
   have hq':(Rs.map ((λr=>List.replicate r 32++[9]) ∘ λx=>x.1))=ws:=hq
   rw [hq']
   cases ws with
   | nil=>rfl
   | cons w ws =>
    show w++(ws.map (([]:List Nat)++·)).flatten=_
    simp
  rw [h1,join_eq (by
   have:=sum_le (M:=101) (k:=0) (Rs.map λr=>List.replicate r.1 32++[9]) (by
    intro w hw
    obtain ⟨r,hm,rfl⟩:=List.mem_map.mp hw
    have:=(hok.2 r hm).2
    simp; assumption)
   rw [List.length_map,hok.1] at this
   refine Nat.le_trans this (by decide)) (by simp) (by
    intro w hw c hc
    obtain ⟨r,hm,rfl⟩:=List.mem_map.mp hw
    rcases List.mem_append.mp hc with h | h
    ·have:=(List.mem_replicate.mp h).2; lia
    ·simp at h; lia),h2]
 have e4:datF (Mine.meth1 .join (sC []) (compF (srcF (nameF 5)) stepI (setL 37) (λσ=>some (true,σ.hp)) (emitF (datF (binX .Add (datF (binX .Mult (sC [32]) (datF (binX .Sub (datF (Mine.meth1 .count (nameF 37) (sC [46]))) (iC 1))))) (sC [9])))) [37])) ⟨v.loc,hW P fl W s f n pb⟩=some (.dat (sD (runsL (Rs.map (·.1)))),hW P fl W s f n pb):=by
  exact meth1_eq (m:=.join) (F1:=sC []) (x:=sD []) rfl rfl e hj
 have hW5:(hW P fl W s f n pb).length=5:=rfl
 have hnew:=W_new (base:=hW P fl W s f n pb) (runs:=Rs.map (·.1)) (by cases f<;>rfl) (by
  intro r hm
  obtain ⟨x,hx,rfl⟩:=List.mem_map.mp hm
  have:=(hok.2 x hx).2
  (exact Nat.lt_of_le_of_lt (by assumption) (by decide))) (by rw [List.length_map,hok.1]; decide) hlen hc
 rw [hW5,List.length_map,hok.1] at hnew
 have e5:newF 180 (consL (datF (Mine.meth1 .join (sC []) (compF (srcF (nameF 5)) stepI (setL 37) (λσ=>some (true,σ.hp)) (emitF (datF (binX .Add (datF (binX .Mult (sC [32]) (datF (binX .Sub (datF (Mine.meth1 .count (nameF 37) (sC [46]))) (iC 1))))) (sC [9])))) [37]))) nilL) F_W_init ⟨v.loc,hW P fl W s f n pb⟩=some (.obj 5,hL P fl W s f n pb (runsL (Rs.map (·.1))) (cOf (Rs.map (·.1)) []) (runsL (Rs.map (·.1))).length):=by
  unfold newF consL bindE
  refine e4.symm▸?_
  dsimp only [nilL]
  refine hW5.symm▸hnew.symm▸?_
  rfl
 exact asg_eq (i:=23) e5
end
noncomputable def winsB (bs:List Bool):List (Nat×Nat):=bs.zipWith (λb (p:Nat×Nat)=>winP b p.1 p.2) prs
noncomputable def rsW (W:List (Nat×Nat)):RS:=W.foldl (λr (w:Nat×Nat)=>stepRs r w.1) Rs0
noncomputable def stF (f:Nat->Nat):RS:=[0,1,2,3,4].map λk=>(f k,if f k > 0 then [13,10] else endN k)
theorem lt5 {P:Nat->Prop} (h0:P 0) (h1:P 1) (h2:P 2) (h3:P 3) (h4:P 4) {n:Nat} (h:n < 5):P n:=by
 cases n with
 | zero=>exact h0
 | succ n=>cases n with
  | zero=>exact h1
  | succ n=>cases n with
   | zero=>exact h2
   | succ n=>cases n with
    | zero=>exact h3
    | succ n=>cases n with
     | zero=>exact h4
     | succ n=>exact absurd h (Nat.not_lt_of_le (Nat.le_add_left 5 n))
theorem st_step (f:Nat->Nat) {p:Nat} (h:p < 5):stepRs (stF f) p=stF (λk=>f k+(if p=k then 1 else 0)) :=
 lt5 (P:=λp=>stepRs (stF f) p=stF (λk=>f k+(if p=k then 1 else 0))) rfl rfl rfl rfl rfl h
theorem st_fold:∀(W:List (Nat×Nat)) (f:Nat->Nat),(∀w∈W,w.1 < 5)->W.foldl (λr (w:Nat×Nat)=>stepRs r w.1) (stF f)=stF (λk=>f k+wonN W k)
 | [],f,_=>rfl
 | w::W,f,h=>by
  rw [List.foldl_cons,st_step f (h w (List.mem_cons_self ..)),st_fold W _ λx hx=>h x (List.mem_cons_of_mem _ hx)]
  congr 1
  funext k
  unfold wonN
  rw [List.filter_cons]
  by_cases hk:w.1=k
  ·simp [hk]; (exact Nat.add_right_comm _ _ _)
  ·simp [hk]
theorem rsW_eq {W:List (Nat×Nat)} (h:∀w∈W,w.1 < 5):rsW W=stF (wonN W):=by
 have:Rs0=stF (λ_=>0):=rfl
 unfold rsW
 refine this.symm▸(st_fold W _ h).symm▸?_
 congr 1
 funext k
 (exact Nat.add_comm _ _)
theorem row_has (f:Nat->Nat) {k:Nat} (h:k < 5):rowHas (stF f) k=rowWant (f k) k:=lt5 (P:=λk=>rowHas (stF f) k=rowWant (f k) k) rfl rfl rfl rfl rfl h
theorem st_ok (f:Nat->Nat) (h:∀k,f k≤100):okRs (stF f) 100:=by
 refine ⟨rfl,λr hr=>?_⟩
 obtain ⟨k,hk,e⟩:=List.mem_map.mp hr
 have hk5:k < 5:=(by decide:∀k∈[0,1,2,3,4],k < 5) k hk
 refine e▸?_
 refine ⟨?_,h k⟩
 show endOK (if f k > 0 then [13,10] else endN k)
 by_cases c:f k > 0
 ·rw [if_pos c]; exact .inr (.inr rfl)
 ·rw [if_neg c]; exact lt5 (P:=λk=>endOK (endN k)) (.inl rfl) (.inr (.inl rfl)) (.inr (.inr rfl)) (.inl rfl) (.inr (.inl rfl)) hk5
theorem st_map (f:Nat->Nat):(stF f).map (·.1)=[f 0,f 1,f 2,f 3,f 4]:=rfl
noncomputable def extA (c:List Nat):List (List Nat):=((List.range 5).filter λk=>!c.contains k).map λk=>c++[k]
noncomputable def QA:Nat->List (List Nat)
 | 0=>[[0],[1],[2],[3],[4]]
 | t+1=>(QA t).flatMap extA
noncomputable def chainF (B:Nat->Nat->Bool):List Nat->Bool
 | a::b::r=>B a b&&chainF B (b::r)
 | _=>true
theorem chain_snoc (B:Nat->Nat->Bool) (k:Nat):∀(c:List Nat),c≠[]->chainF B (c++[k])=(chainF B c&&B (lastC c) k)
 | [a],_=>by simp [chainF,lastC]
 | a::b::r,_=>by
  have ih:=chain_snoc B k (b::r) (by simp)
  show (B a b&&chainF B (b::r++[k]))=_
  rw [ih]
  show _=((B a b&&chainF B (b::r))&&B (lastC (a::b::r)) k)
  have:lastC (a::b::r)=lastC (b::r):=by simp [lastC]
  rw [this,Bool.and_assoc]
theorem QA_ne:∀t,∀c∈QA t,c≠[]
 | 0,c,h=>(by decide:∀c∈QA 0,c≠[]) c h
 | t+1,c,h=>(List.mem_flatMap.mp h).elim λc' h=>(List.mem_map.mp h.2).elim λk h e=>List.append_ne_nil_of_right_ne_nil c' (List.cons_ne_nil k []) (h.2.trans e)
theorem flat_chain (W:List (Nat×Nat)):∀l:List (List Nat),(∀c∈l,c≠[])->(l.filter (chainF (inW W))).flatMap (extC W)=(l.flatMap extA).filter (chainF (inW W))
 | [],_=>rfl
 | c::l,h=>by
  have ih:=flat_chain W l λx hx=>h x (List.mem_cons_of_mem _ hx)
  have hc:=h c (List.mem_cons_self ..)
  rw [List.flatMap_cons,List.filter_append,← ih]
  have h1:(extA c).filter (chainF (inW W))=if chainF (inW W) c then extC W c else []:=by
   unfold extA extC
   rw [List.filter_map,List.filter_filter]
   have:∀k,(chainF (inW W) ∘ λk=>c++[k]) k=(chainF (inW W) c&&inW W (lastC c) k):=λk=>chain_snoc (inW W) k c hc
   cases hq:chainF (inW W) c with
   | true =>
    rw [if_pos rfl]
    congr 1
    refine List.filter_congr λk _=>?_
    rw [this k,hq,Bool.true_and]
   | false =>
    rw [if_neg Bool.false_ne_true]
    have:(List.range 5).filter (λk=>(chainF (inW W) ∘ λk=>c++[k]) k&&!c.contains k)=[]:=by
     rw [List.filter_eq_nil_iff]
     intro k _
     rw [this k,hq]
     simp
    rw [this]; rfl
  rw [h1]
  cases hq:chainF (inW W) c with
  | true=>rw [List.filter_cons_of_pos hq,List.flatMap_cons,if_pos rfl]
  | false=>rw [List.filter_cons_of_neg (by rw [hq]; exact Bool.false_ne_true),if_neg Bool.false_ne_true,List.nil_append]
theorem QW_chain (W:List (Nat×Nat)):∀t,QW W t=(QA t).filter (chainF (inW W))
 | 0=>rfl
 | t+1=>by
  show (QW W t).flatMap (extC W)=((QA t).flatMap extA).filter _
  exact (QW_chain W t).symm▸(flat_chain W _ (QA_ne t)).symm▸rfl
noncomputable def perms:List (List Nat):=[[0,1,2,3,4],[0,1,2,4,3],[0,1,3,2,4],[0,1,3,4,2],[0,1,4,2,3],[0,1,4,3,2],[0,2,1,3,4],[0,2,1,4,3],[0,2,3,1,4],[0,2,3,4,1],[0,2,4,1,3],[0,2,4,3,1],[0,3,1,2,4],[0,3,1,4,2],[0,3,2,1,4],[0,3,2,4,1],[0,3,4,1,2],[0,3,4,2,1],[0,4,1,2,3],[0,4,1,3,2],[0,4,2,1,3],[0,4,2,3,1],[0,4,3,1,2],[0,4,3,2,1],[1,0,2,3,4],[1,0,2,4,3],[1,0,3,2,4],[1,0,3,4,2],[1,0,4,2,3],[1,0,4,3,2],[1,2,0,3,4],[1,2,0,4,3],[1,2,3,0,4],[1,2,3,4,0],[1,2,4,0,3],[1,2,4,3,0],[1,3,0,2,4],[1,3,0,4,2],[1,3,2,0,4],[1,3,2,4,0],[1,3,4,0,2],[1,3,4,2,0],[1,4,0,2,3],[1,4,0,3,2],[1,4,2,0,3],[1,4,2,3,0],[1,4,3,0,2],[1,4,3,2,0],[2,0,1,3,4],[2,0,1,4,3],[2,0,3,1,4],[2,0,3,4,1],[2,0,4,1,3],[2,0,4,3,1],[2,1,0,3,4],[2,1,0,4,3],[2,1,3,0,4],[2,1,3,4,0],[2,1,4,0,3],[2,1,4,3,0],[2,3,0,1,4],[2,3,0,4,1],[2,3,1,0,4],[2,3,1,4,0],[2,3,4,0,1],[2,3,4,1,0],[2,4,0,1,3],[2,4,0,3,1],[2,4,1,0,3],[2,4,1,3,0],[2,4,3,0,1],[2,4,3,1,0],[3,0,1,2,4],[3,0,1,4,2],[3,0,2,1,4],[3,0,2,4,1],[3,0,4,1,2],[3,0,4,2,1],[3,1,0,2,4],[3,1,0,4,2],[3,1,2,0,4],[3,1,2,4,0],[3,1,4,0,2],[3,1,4,2,0],[3,2,0,1,4],[3,2,0,4,1],[3,2,1,0,4],[3,2,1,4,0],[3,2,4,0,1],[3,2,4,1,0],[3,4,0,1,2],[3,4,0,2,1],[3,4,1,0,2],[3,4,1,2,0],[3,4,2,0,1],[3,4,2,1,0],[4,0,1,2,3],[4,0,1,3,2],[4,0,2,1,3],[4,0,2,3,1],[4,0,3,1,2],[4,0,3,2,1],[4,1,0,2,3],[4,1,0,3,2],[4,1,2,0,3],[4,1,2,3,0],[4,1,3,0,2],[4,1,3,2,0],[4,2,0,1,3],[4,2,0,3,1],[4,2,1,0,3],[4,2,1,3,0],[4,2,3,0,1],[4,2,3,1,0],[4,3,0,1,2],[4,3,0,2,1],[4,3,1,0,2],[4,3,1,2,0],[4,3,2,0,1],[4,3,2,1,0]]
theorem perms_eq:QA 4=perms:=by decide +kernel
theorem perms_lt:∀c∈perms,∀x∈c,x < 5:=by decide +kernel
theorem perms_sorted:sortedS (perms.map λx=>(⟨⟨wordS 5 x⟩⟩:Str))=true:=by decide +kernel
theorem sortedS_of_pw:∀l:List Str,l.Pairwise leS->sortedS l=true
 | [],_=>rfl
 | x::l,h=>by
  have main:∀(l:List Str) (x:Str),(x::l).Pairwise leS->risingS x l=true:=by
   intro l
   induction l with
   | nil=>intro x _; rfl
   | cons y r ih =>
    intro x h
    have h1:=ih y (List.Pairwise.of_cons h)
    have h2:leS x y:=List.rel_of_pairwise_cons h (List.mem_cons_self ..)
    unfold leS at h2
    unfold risingS
    rw [h1,h2]; rfl
  exact main l x h
theorem ways_sorted (W:List (Nat×Nat)):sortedS ((QW W 4).map λx=>(⟨⟨wordS 5 x⟩⟩:Str))=true:=by
 refine sortedS_of_pw _ ?_
 rw [QW_chain,perms_eq]
 exact (sortedS_pw _ perms_sorted).sublist (List.Sublist.map _ (List.filter_sublist ..))
noncomputable def bt (b0 b1 b2 b3 b4 b5 b6 b7 b8 b9:Bool) (l k:Nat):Bool :=
 ([[false,b0,b1,b2,b3],[!b0,false,b4,b5,b6],[!b1,!b4,false,b7,b8],[!b2,!b5,!b7,false,b9],[!b3,!b6,!b8,!b9,false]].getD l []).getD k false
theorem any_win (b:Bool) (p q l k:Nat):((winP b p q).1==l&&(winP b p q).2==k)=(((p==l&&q==k)&&b)||((q==l&&p==k)&&!b)):=by
 cases b with
 | true=>show (p==l&&q==k)=_; rw [Bool.and_true,Bool.not_true,Bool.and_false,Bool.or_false]
 | false=>show (q==l&&p==k)=_; rw [Bool.and_false,Bool.not_false,Bool.and_true,Bool.false_or]
noncomputable def orB (l k:Nat):List Bool->List (Nat×Nat)->Bool
 | b::bs,p::ps=>(((p.1==l&&p.2==k)&&b)||((p.2==l&&p.1==k)&&!b))||orB l k bs ps
 | _,_=>false
theorem inW_or (l k:Nat):∀(bs:List Bool) (ps:List (Nat×Nat)),inW (bs.zipWith (λb (p:Nat×Nat)=>winP b p.1 p.2) ps) l k=orB l k bs ps
 | [],_=>rfl
 | _::_,[]=>rfl
 | b::bs,p::ps=>congr (congrArg or (any_win b p.1 p.2 l k)) (inW_or l k bs ps)
theorem inW_bt (b0 b1 b2 b3 b4 b5 b6 b7 b8 b9:Bool) {l k:Nat} (hl:l < 5) (hk:k < 5):inW (winsB [b0,b1,b2,b3,b4,b5,b6,b7,b8,b9]) l k=bt b0 b1 b2 b3 b4 b5 b6 b7 b8 b9 l k:=by
 refine (inW_or l k _ prs).trans ?_
 have h:∀b:Bool,(b||false)=b:=Bool.or_false
 have h2:∀b:Bool,((b||false)||false)=b:=λb=>(h _).trans (h b)
 exact lt5 (P:=λl=>orB l k [b0,b1,b2,b3,b4,b5,b6,b7,b8,b9] prs=bt b0 b1 b2 b3 b4 b5 b6 b7 b8 b9 l k)
  (lt5 (P:=λk=>orB 0 k [b0,b1,b2,b3,b4,b5,b6,b7,b8,b9] prs=bt b0 b1 b2 b3 b4 b5 b6 b7 b8 b9 0 k) rfl (h2 b0) (h2 b1) (h2 b2) (h2 b3) hk)
  (lt5 (P:=λk=>orB 1 k [b0,b1,b2,b3,b4,b5,b6,b7,b8,b9] prs=bt b0 b1 b2 b3 b4 b5 b6 b7 b8 b9 1 k) (h (!b0)) rfl (h2 b4) (h2 b5) (h2 b6) hk)
  (lt5 (P:=λk=>orB 2 k [b0,b1,b2,b3,b4,b5,b6,b7,b8,b9] prs=bt b0 b1 b2 b3 b4 b5 b6 b7 b8 b9 2 k) (h (!b1)) (h (!b4)) rfl (h2 b7) (h2 b8) hk)
  (lt5 (P:=λk=>orB 3 k [b0,b1,b2,b3,b4,b5,b6,b7,b8,b9] prs=bt b0 b1 b2 b3 b4 b5 b6 b7 b8 b9 3 k) (h (!b2)) (h (!b5)) (h (!b7)) rfl (h2 b9) hk)
  (lt5 (P:=λk=>orB 4 k [b0,b1,b2,b3,b4,b5,b6,b7,b8,b9] prs=bt b0 b1 b2 b3 b4 b5 b6 b7 b8 b9 4 k) (h (!b3)) (h (!b6)) (h (!b8)) (h (!b9)) rfl hk) hl
noncomputable def cP (p:List Nat->Bool):List (List Nat)->Nat
 | []=>0
 | c::l=>(bif p c then 1 else 0)+cP p l
theorem cP_eq (p:List Nat->Bool):∀l,(l.filter p).length=cP p l
 | []=>rfl
 | c::l=>by
  rw [cP,← cP_eq p l]
  cases h:p c with
  | true=>rw [List.filter_cons_of_pos h,List.length_cons,cond_true]; (exact Nat.add_comm _ _)
  | false=>rw [List.filter_cons_of_neg (h.symm▸Bool.false_ne_true),cond_false]; lia
noncomputable def closB (B:Nat->Nat->Bool) (c:List Nat):Bool:=B (lastC c) (c.headD 0)
noncomputable def EN (b0 b1 b2 b3 b4 b5 b6 b7 b8 b9:Bool):Nat:=((bif (b0&&(b4&&(b7&&(b9&&true)))) then 1 else 0)+((bif (b0&&(b4&&(b8&&(!b9&&true)))) then 1 else 0)+((bif (b0&&(b5&&(!b7&&(b8&&true)))) then 1 else 0)+((bif (b0&&(b5&&(b9&&(!b8&&true)))) then 1 else 0)+((bif (b0&&(b6&&(!b8&&(b7&&true)))) then 1 else 0)+((bif (b0&&(b6&&(!b9&&(!b7&&true)))) then 1 else 0)+((bif (b1&&(!b4&&(b5&&(b9&&true)))) then 1 else 0)+((bif (b1&&(!b4&&(b6&&(!b9&&true)))) then 1 else 0)+((bif (b1&&(b7&&(!b5&&(b6&&true)))) then 1 else 0)+((bif (b1&&(b7&&(b9&&(!b6&&true)))) then 1 else 0)+((bif (b1&&(b8&&(!b6&&(b5&&true)))) then 1 else 0)+((bif (b1&&(b8&&(!b9&&(!b5&&true)))) then 1 else 0)+((bif (b2&&(!b5&&(b4&&(b8&&true)))) then 1 else 0)+((bif (b2&&(!b5&&(b6&&(!b8&&true)))) then 1 else 0)+((bif (b2&&(!b7&&(!b4&&(b6&&true)))) then 1 else 0)+((bif (b2&&(!b7&&(b8&&(!b6&&true)))) then 1 else 0)+((bif (b2&&(b9&&(!b6&&(b4&&true)))) then 1 else 0)+((bif (b2&&(b9&&(!b8&&(!b4&&true)))) then 1 else 0)+((bif (b3&&(!b6&&(b4&&(b7&&true)))) then 1 else 0)+((bif (b3&&(!b6&&(b5&&(!b7&&true)))) then 1 else 0)+((bif (b3&&(!b8&&(!b4&&(b5&&true)))) then 1 else 0)+((bif (b3&&(!b8&&(b7&&(!b5&&true)))) then 1 else 0)+((bif (b3&&(!b9&&(!b5&&(b4&&true)))) then 1 else 0)+((bif (b3&&(!b9&&(!b7&&(!b4&&true)))) then 1 else 0)+((bif (!b0&&(b1&&(b7&&(b9&&true)))) then 1 else 0)+((bif (!b0&&(b1&&(b8&&(!b9&&true)))) then 1 else 0)+((bif (!b0&&(b2&&(!b7&&(b8&&true)))) then 1 else 0)+((bif (!b0&&(b2&&(b9&&(!b8&&true)))) then 1 else 0)+((bif (!b0&&(b3&&(!b8&&(b7&&true)))) then 1 else 0)+((bif (!b0&&(b3&&(!b9&&(!b7&&true)))) then 1 else 0)+((bif (b4&&(!b1&&(b2&&(b9&&true)))) then 1 else 0)+((bif (b4&&(!b1&&(b3&&(!b9&&true)))) then 1 else 0)+((bif (b4&&(b7&&(!b2&&(b3&&true)))) then 1 else 0)+((bif (b4&&(b7&&(b9&&(!b3&&true)))) then 1 else 0)+((bif (b4&&(b8&&(!b3&&(b2&&true)))) then 1 else 0)+((bif (b4&&(b8&&(!b9&&(!b2&&true)))) then 1 else 0)+((bif (b5&&(!b2&&(b1&&(b8&&true)))) then 1 else 0)+((bif (b5&&(!b2&&(b3&&(!b8&&true)))) then 1 else 0)+((bif (b5&&(!b7&&(!b1&&(b3&&true)))) then 1 else 0)+((bif (b5&&(!b7&&(b8&&(!b3&&true)))) then 1 else 0)+((bif (b5&&(b9&&(!b3&&(b1&&true)))) then 1 else 0)+((bif (b5&&(b9&&(!b8&&(!b1&&true)))) then 1 else 0)+((bif (b6&&(!b3&&(b1&&(b7&&true)))) then 1 else 0)+((bif (b6&&(!b3&&(b2&&(!b7&&true)))) then 1 else 0)+((bif (b6&&(!b8&&(!b1&&(b2&&true)))) then 1 else 0)+((bif (b6&&(!b8&&(b7&&(!b2&&true)))) then 1 else 0)+((bif (b6&&(!b9&&(!b2&&(b1&&true)))) then 1 else 0)+((bif (b6&&(!b9&&(!b7&&(!b1&&true)))) then 1 else 0)+((bif (!b1&&(b0&&(b5&&(b9&&true)))) then 1 else 0)+((bif (!b1&&(b0&&(b6&&(!b9&&true)))) then 1 else 0)+((bif (!b1&&(b2&&(!b5&&(b6&&true)))) then 1 else 0)+((bif (!b1&&(b2&&(b9&&(!b6&&true)))) then 1 else 0)+((bif (!b1&&(b3&&(!b6&&(b5&&true)))) then 1 else 0)+((bif (!b1&&(b3&&(!b9&&(!b5&&true)))) then 1 else 0)+((bif (!b4&&(!b0&&(b2&&(b9&&true)))) then 1 else 0)+((bif (!b4&&(!b0&&(b3&&(!b9&&true)))) then 1 else 0)+((bif (!b4&&(b5&&(!b2&&(b3&&true)))) then 1 else 0)+((bif (!b4&&(b5&&(b9&&(!b3&&true)))) then 1 else 0)+((bif (!b4&&(b6&&(!b3&&(b2&&true)))) then 1 else 0)+((bif (!b4&&(b6&&(!b9&&(!b2&&true)))) then 1 else 0)+((bif (b7&&(!b2&&(b0&&(b6&&true)))) then 1 else 0)+((bif (b7&&(!b2&&(b3&&(!b6&&true)))) then 1 else 0)+((bif (b7&&(!b5&&(!b0&&(b3&&true)))) then 1 else 0)+((bif (b7&&(!b5&&(b6&&(!b3&&true)))) then 1 else 0)+((bif (b7&&(b9&&(!b3&&(b0&&true)))) then 1 else 0)+((bif (b7&&(b9&&(!b6&&(!b0&&true)))) then 1 else 0)+((bif (b8&&(!b3&&(b0&&(b5&&true)))) then 1 else 0)+((bif (b8&&(!b3&&(b2&&(!b5&&true)))) then 1 else 0)+((bif (b8&&(!b6&&(!b0&&(b2&&true)))) then 1 else 0)+((bif (b8&&(!b6&&(b5&&(!b2&&true)))) then 1 else 0)+((bif (b8&&(!b9&&(!b2&&(b0&&true)))) then 1 else 0)+((bif (b8&&(!b9&&(!b5&&(!b0&&true)))) then 1 else 0)+((bif (!b2&&(b0&&(b4&&(b8&&true)))) then 1 else 0)+((bif (!b2&&(b0&&(b6&&(!b8&&true)))) then 1 else 0)+((bif (!b2&&(b1&&(!b4&&(b6&&true)))) then 1 else 0)+((bif (!b2&&(b1&&(b8&&(!b6&&true)))) then 1 else 0)+((bif (!b2&&(b3&&(!b6&&(b4&&true)))) then 1 else 0)+((bif (!b2&&(b3&&(!b8&&(!b4&&true)))) then 1 else 0)+((bif (!b5&&(!b0&&(b1&&(b8&&true)))) then 1 else 0)+((bif (!b5&&(!b0&&(b3&&(!b8&&true)))) then 1 else 0)+((bif (!b5&&(b4&&(!b1&&(b3&&true)))) then 1 else 0)+((bif (!b5&&(b4&&(b8&&(!b3&&true)))) then 1 else 0)+((bif (!b5&&(b6&&(!b3&&(b1&&true)))) then 1 else 0)+((bif (!b5&&(b6&&(!b8&&(!b1&&true)))) then 1 else 0)+((bif (!b7&&(!b1&&(b0&&(b6&&true)))) then 1 else 0)+((bif (!b7&&(!b1&&(b3&&(!b6&&true)))) then 1 else 0)+((bif (!b7&&(!b4&&(!b0&&(b3&&true)))) then 1 else 0)+((bif (!b7&&(!b4&&(b6&&(!b3&&true)))) then 1 else 0)+((bif (!b7&&(b8&&(!b3&&(b0&&true)))) then 1 else 0)+((bif (!b7&&(b8&&(!b6&&(!b0&&true)))) then 1 else 0)+((bif (b9&&(!b3&&(b0&&(b4&&true)))) then 1 else 0)+((bif (b9&&(!b3&&(b1&&(!b4&&true)))) then 1 else 0)+((bif (b9&&(!b6&&(!b0&&(b1&&true)))) then 1 else 0)+((bif (b9&&(!b6&&(b4&&(!b1&&true)))) then 1 else 0)+((bif (b9&&(!b8&&(!b1&&(b0&&true)))) then 1 else 0)+((bif (b9&&(!b8&&(!b4&&(!b0&&true)))) then 1 else 0)+((bif (!b3&&(b0&&(b4&&(b7&&true)))) then 1 else 0)+((bif (!b3&&(b0&&(b5&&(!b7&&true)))) then 1 else 0)+((bif (!b3&&(b1&&(!b4&&(b5&&true)))) then 1 else 0)+((bif (!b3&&(b1&&(b7&&(!b5&&true)))) then 1 else 0)+((bif (!b3&&(b2&&(!b5&&(b4&&true)))) then 1 else 0)+((bif (!b3&&(b2&&(!b7&&(!b4&&true)))) then 1 else 0)+((bif (!b6&&(!b0&&(b1&&(b7&&true)))) then 1 else 0)+((bif (!b6&&(!b0&&(b2&&(!b7&&true)))) then 1 else 0)+((bif (!b6&&(b4&&(!b1&&(b2&&true)))) then 1 else 0)+((bif (!b6&&(b4&&(b7&&(!b2&&true)))) then 1 else 0)+((bif (!b6&&(b5&&(!b2&&(b1&&true)))) then 1 else 0)+((bif (!b6&&(b5&&(!b7&&(!b1&&true)))) then 1 else 0)+((bif (!b8&&(!b1&&(b0&&(b5&&true)))) then 1 else 0)+((bif (!b8&&(!b1&&(b2&&(!b5&&true)))) then 1 else 0)+((bif (!b8&&(!b4&&(!b0&&(b2&&true)))) then 1 else 0)+((bif (!b8&&(!b4&&(b5&&(!b2&&true)))) then 1 else 0)+((bif (!b8&&(b7&&(!b2&&(b0&&true)))) then 1 else 0)+((bif (!b8&&(b7&&(!b5&&(!b0&&true)))) then 1 else 0)+((bif (!b9&&(!b2&&(b0&&(b4&&true)))) then 1 else 0)+((bif (!b9&&(!b2&&(b1&&(!b4&&true)))) then 1 else 0)+((bif (!b9&&(!b5&&(!b0&&(b1&&true)))) then 1 else 0)+((bif (!b9&&(!b5&&(b4&&(!b1&&true)))) then 1 else 0)+((bif (!b9&&(!b7&&(!b1&&(b0&&true)))) then 1 else 0)+((bif (!b9&&(!b7&&(!b4&&(!b0&&true)))) then 1 else 0)+0))))))))))))))))))))))))))))))))))))))))))))))))))))))))))))))))))))))))))))))))))))))))))))))))))))))))))))))))))))))))
noncomputable def EC (b0 b1 b2 b3 b4 b5 b6 b7 b8 b9:Bool):Nat:=((bif (!b3&&(b0&&(b4&&(b7&&(b9&&true))))) then 1 else 0)+((bif (!b2&&(b0&&(b4&&(b8&&(!b9&&true))))) then 1 else 0)+((bif (!b3&&(b0&&(b5&&(!b7&&(b8&&true))))) then 1 else 0)+((bif (!b1&&(b0&&(b5&&(b9&&(!b8&&true))))) then 1 else 0)+((bif (!b2&&(b0&&(b6&&(!b8&&(b7&&true))))) then 1 else 0)+((bif (!b1&&(b0&&(b6&&(!b9&&(!b7&&true))))) then 1 else 0)+((bif (!b3&&(b1&&(!b4&&(b5&&(b9&&true))))) then 1 else 0)+((bif (!b2&&(b1&&(!b4&&(b6&&(!b9&&true))))) then 1 else 0)+((bif (!b3&&(b1&&(b7&&(!b5&&(b6&&true))))) then 1 else 0)+((bif (!b0&&(b1&&(b7&&(b9&&(!b6&&true))))) then 1 else 0)+((bif (!b2&&(b1&&(b8&&(!b6&&(b5&&true))))) then 1 else 0)+((bif (!b0&&(b1&&(b8&&(!b9&&(!b5&&true))))) then 1 else 0)+((bif (!b3&&(b2&&(!b5&&(b4&&(b8&&true))))) then 1 else 0)+((bif (!b1&&(b2&&(!b5&&(b6&&(!b8&&true))))) then 1 else 0)+((bif (!b3&&(b2&&(!b7&&(!b4&&(b6&&true))))) then 1 else 0)+((bif (!b0&&(b2&&(!b7&&(b8&&(!b6&&true))))) then 1 else 0)+((bif (!b1&&(b2&&(b9&&(!b6&&(b4&&true))))) then 1 else 0)+((bif (!b0&&(b2&&(b9&&(!b8&&(!b4&&true))))) then 1 else 0)+((bif (!b2&&(b3&&(!b6&&(b4&&(b7&&true))))) then 1 else 0)+((bif (!b1&&(b3&&(!b6&&(b5&&(!b7&&true))))) then 1 else 0)+((bif (!b2&&(b3&&(!b8&&(!b4&&(b5&&true))))) then 1 else 0)+((bif (!b0&&(b3&&(!b8&&(b7&&(!b5&&true))))) then 1 else 0)+((bif (!b1&&(b3&&(!b9&&(!b5&&(b4&&true))))) then 1 else 0)+((bif (!b0&&(b3&&(!b9&&(!b7&&(!b4&&true))))) then 1 else 0)+((bif (!b6&&(!b0&&(b1&&(b7&&(b9&&true))))) then 1 else 0)+((bif (!b5&&(!b0&&(b1&&(b8&&(!b9&&true))))) then 1 else 0)+((bif (!b6&&(!b0&&(b2&&(!b7&&(b8&&true))))) then 1 else 0)+((bif (!b4&&(!b0&&(b2&&(b9&&(!b8&&true))))) then 1 else 0)+((bif (!b5&&(!b0&&(b3&&(!b8&&(b7&&true))))) then 1 else 0)+((bif (!b4&&(!b0&&(b3&&(!b9&&(!b7&&true))))) then 1 else 0)+((bif (!b6&&(b4&&(!b1&&(b2&&(b9&&true))))) then 1 else 0)+((bif (!b5&&(b4&&(!b1&&(b3&&(!b9&&true))))) then 1 else 0)+((bif (!b6&&(b4&&(b7&&(!b2&&(b3&&true))))) then 1 else 0)+((bif (b0&&(b4&&(b7&&(b9&&(!b3&&true))))) then 1 else 0)+((bif (!b5&&(b4&&(b8&&(!b3&&(b2&&true))))) then 1 else 0)+((bif (b0&&(b4&&(b8&&(!b9&&(!b2&&true))))) then 1 else 0)+((bif (!b6&&(b5&&(!b2&&(b1&&(b8&&true))))) then 1 else 0)+((bif (!b4&&(b5&&(!b2&&(b3&&(!b8&&true))))) then 1 else 0)+((bif (!b6&&(b5&&(!b7&&(!b1&&(b3&&true))))) then 1 else 0)+((bif (b0&&(b5&&(!b7&&(b8&&(!b3&&true))))) then 1 else 0)+((bif (!b4&&(b5&&(b9&&(!b3&&(b1&&true))))) then 1 else 0)+((bif (b0&&(b5&&(b9&&(!b8&&(!b1&&true))))) then 1 else 0)+((bif (!b5&&(b6&&(!b3&&(b1&&(b7&&true))))) then 1 else 0)+((bif (!b4&&(b6&&(!b3&&(b2&&(!b7&&true))))) then 1 else 0)+((bif (!b5&&(b6&&(!b8&&(!b1&&(b2&&true))))) then 1 else 0)+((bif (b0&&(b6&&(!b8&&(b7&&(!b2&&true))))) then 1 else 0)+((bif (!b4&&(b6&&(!b9&&(!b2&&(b1&&true))))) then 1 else 0)+((bif (b0&&(b6&&(!b9&&(!b7&&(!b1&&true))))) then 1 else 0)+((bif (!b8&&(!b1&&(b0&&(b5&&(b9&&true))))) then 1 else 0)+((bif (!b7&&(!b1&&(b0&&(b6&&(!b9&&true))))) then 1 else 0)+((bif (!b8&&(!b1&&(b2&&(!b5&&(b6&&true))))) then 1 else 0)+((bif (b4&&(!b1&&(b2&&(b9&&(!b6&&true))))) then 1 else 0)+((bif (!b7&&(!b1&&(b3&&(!b6&&(b5&&true))))) then 1 else 0)+((bif (b4&&(!b1&&(b3&&(!b9&&(!b5&&true))))) then 1 else 0)+((bif (!b8&&(!b4&&(!b0&&(b2&&(b9&&true))))) then 1 else 0)+((bif (!b7&&(!b4&&(!b0&&(b3&&(!b9&&true))))) then 1 else 0)+((bif (!b8&&(!b4&&(b5&&(!b2&&(b3&&true))))) then 1 else 0)+((bif (b1&&(!b4&&(b5&&(b9&&(!b3&&true))))) then 1 else 0)+((bif (!b7&&(!b4&&(b6&&(!b3&&(b2&&true))))) then 1 else 0)+((bif (b1&&(!b4&&(b6&&(!b9&&(!b2&&true))))) then 1 else 0)+((bif (!b8&&(b7&&(!b2&&(b0&&(b6&&true))))) then 1 else 0)+((bif (b4&&(b7&&(!b2&&(b3&&(!b6&&true))))) then 1 else 0)+((bif (!b8&&(b7&&(!b5&&(!b0&&(b3&&true))))) then 1 else 0)+((bif (b1&&(b7&&(!b5&&(b6&&(!b3&&true))))) then 1 else 0)+((bif (b4&&(b7&&(b9&&(!b3&&(b0&&true))))) then 1 else 0)+((bif (b1&&(b7&&(b9&&(!b6&&(!b0&&true))))) then 1 else 0)+((bif (!b7&&(b8&&(!b3&&(b0&&(b5&&true))))) then 1 else 0)+((bif (b4&&(b8&&(!b3&&(b2&&(!b5&&true))))) then 1 else 0)+((bif (!b7&&(b8&&(!b6&&(!b0&&(b2&&true))))) then 1 else 0)+((bif (b1&&(b8&&(!b6&&(b5&&(!b2&&true))))) then 1 else 0)+((bif (b4&&(b8&&(!b9&&(!b2&&(b0&&true))))) then 1 else 0)+((bif (b1&&(b8&&(!b9&&(!b5&&(!b0&&true))))) then 1 else 0)+((bif (!b9&&(!b2&&(b0&&(b4&&(b8&&true))))) then 1 else 0)+((bif (b7&&(!b2&&(b0&&(b6&&(!b8&&true))))) then 1 else 0)+((bif (!b9&&(!b2&&(b1&&(!b4&&(b6&&true))))) then 1 else 0)+((bif (b5&&(!b2&&(b1&&(b8&&(!b6&&true))))) then 1 else 0)+((bif (b7&&(!b2&&(b3&&(!b6&&(b4&&true))))) then 1 else 0)+((bif (b5&&(!b2&&(b3&&(!b8&&(!b4&&true))))) then 1 else 0)+((bif (!b9&&(!b5&&(!b0&&(b1&&(b8&&true))))) then 1 else 0)+((bif (b7&&(!b5&&(!b0&&(b3&&(!b8&&true))))) then 1 else 0)+((bif (!b9&&(!b5&&(b4&&(!b1&&(b3&&true))))) then 1 else 0)+((bif (b2&&(!b5&&(b4&&(b8&&(!b3&&true))))) then 1 else 0)+((bif (b7&&(!b5&&(b6&&(!b3&&(b1&&true))))) then 1 else 0)+((bif (b2&&(!b5&&(b6&&(!b8&&(!b1&&true))))) then 1 else 0)+((bif (!b9&&(!b7&&(!b1&&(b0&&(b6&&true))))) then 1 else 0)+((bif (b5&&(!b7&&(!b1&&(b3&&(!b6&&true))))) then 1 else 0)+((bif (!b9&&(!b7&&(!b4&&(!b0&&(b3&&true))))) then 1 else 0)+((bif (b2&&(!b7&&(!b4&&(b6&&(!b3&&true))))) then 1 else 0)+((bif (b5&&(!b7&&(b8&&(!b3&&(b0&&true))))) then 1 else 0)+((bif (b2&&(!b7&&(b8&&(!b6&&(!b0&&true))))) then 1 else 0)+((bif (b7&&(b9&&(!b3&&(b0&&(b4&&true))))) then 1 else 0)+((bif (b5&&(b9&&(!b3&&(b1&&(!b4&&true))))) then 1 else 0)+((bif (b7&&(b9&&(!b6&&(!b0&&(b1&&true))))) then 1 else 0)+((bif (b2&&(b9&&(!b6&&(b4&&(!b1&&true))))) then 1 else 0)+((bif (b5&&(b9&&(!b8&&(!b1&&(b0&&true))))) then 1 else 0)+((bif (b2&&(b9&&(!b8&&(!b4&&(!b0&&true))))) then 1 else 0)+((bif (b9&&(!b3&&(b0&&(b4&&(b7&&true))))) then 1 else 0)+((bif (b8&&(!b3&&(b0&&(b5&&(!b7&&true))))) then 1 else 0)+((bif (b9&&(!b3&&(b1&&(!b4&&(b5&&true))))) then 1 else 0)+((bif (b6&&(!b3&&(b1&&(b7&&(!b5&&true))))) then 1 else 0)+((bif (b8&&(!b3&&(b2&&(!b5&&(b4&&true))))) then 1 else 0)+((bif (b6&&(!b3&&(b2&&(!b7&&(!b4&&true))))) then 1 else 0)+((bif (b9&&(!b6&&(!b0&&(b1&&(b7&&true))))) then 1 else 0)+((bif (b8&&(!b6&&(!b0&&(b2&&(!b7&&true))))) then 1 else 0)+((bif (b9&&(!b6&&(b4&&(!b1&&(b2&&true))))) then 1 else 0)+((bif (b3&&(!b6&&(b4&&(b7&&(!b2&&true))))) then 1 else 0)+((bif (b8&&(!b6&&(b5&&(!b2&&(b1&&true))))) then 1 else 0)+((bif (b3&&(!b6&&(b5&&(!b7&&(!b1&&true))))) then 1 else 0)+((bif (b9&&(!b8&&(!b1&&(b0&&(b5&&true))))) then 1 else 0)+((bif (b6&&(!b8&&(!b1&&(b2&&(!b5&&true))))) then 1 else 0)+((bif (b9&&(!b8&&(!b4&&(!b0&&(b2&&true))))) then 1 else 0)+((bif (b3&&(!b8&&(!b4&&(b5&&(!b2&&true))))) then 1 else 0)+((bif (b6&&(!b8&&(b7&&(!b2&&(b0&&true))))) then 1 else 0)+((bif (b3&&(!b8&&(b7&&(!b5&&(!b0&&true))))) then 1 else 0)+((bif (b8&&(!b9&&(!b2&&(b0&&(b4&&true))))) then 1 else 0)+((bif (b6&&(!b9&&(!b2&&(b1&&(!b4&&true))))) then 1 else 0)+((bif (b8&&(!b9&&(!b5&&(!b0&&(b1&&true))))) then 1 else 0)+((bif (b3&&(!b9&&(!b5&&(b4&&(!b1&&true))))) then 1 else 0)+((bif (b6&&(!b9&&(!b7&&(!b1&&(b0&&true))))) then 1 else 0)+((bif (b3&&(!b9&&(!b7&&(!b4&&(!b0&&true))))) then 1 else 0)+0))))))))))))))))))))))))))))))))))))))))))))))))))))))))))))))))))))))))))))))))))))))))))))))))))))))))))))))))))))))))
theorem EN_eq (b0 b1 b2 b3 b4 b5 b6 b7 b8 b9:Bool):cP (chainF (bt b0 b1 b2 b3 b4 b5 b6 b7 b8 b9)) perms=EN b0 b1 b2 b3 b4 b5 b6 b7 b8 b9:=by kernel_rfl
theorem EC_eq (b0 b1 b2 b3 b4 b5 b6 b7 b8 b9:Bool):cP (λc=>closB (bt b0 b1 b2 b3 b4 b5 b6 b7 b8 b9) c&&chainF (bt b0 b1 b2 b3 b4 b5 b6 b7 b8 b9) c) perms=EC b0 b1 b2 b3 b4 b5 b6 b7 b8 b9:=by kernel_rfl
noncomputable def sumF (p:Nat->Bool) (f:Nat->Nat):List Nat->Nat
 | []=>0
 | x::l=>(bif p x then f x else 0)+sumF p f l
theorem sumF_eq (p:Nat->Bool) (F:Nat->List PyData):∀l,((l.filter p).flatMap F).length=sumF p (λx=>(F x).length) l
 | []=>rfl
 | x::l=>by
  rw [sumF,← sumF_eq p F l]
  cases h:p x with
  | true=>rw [List.filter_cons_of_pos h,List.flatMap_cons,List.length_append,cond_true]
  | false=>rw [List.filter_cons_of_neg (h.symm▸Bool.false_ne_true),cond_false]; lia
theorem sumF_congr {p q:Nat->Bool} {f g:Nat->Nat}:∀l:List Nat,(∀x∈l,p x=q x∧f x=g x)->sumF p f l=sumF q g l
 | [],_=>rfl
 | x::l,h=>by
  obtain ⟨h1,h2⟩:=h x (List.mem_cons_self ..)
  rw [sumF,sumF,h1,h2,sumF_congr l λy hy=>h y (List.mem_cons_of_mem _ hy)]
noncomputable def fiveN (B:Nat->Nat->Bool):Nat:=sumF (B 0) (λb=>sumF (B b) (λc=>sumF (B c) (λd=>sumF (λe=>b != e&&(B d e&&B e 0)) (λ_=>1) kL) kL) kL) kL
theorem kL_lt {x:Nat} (h:x∈kL):x < 5:=by simp [kL] at h; lia
theorem five_eq (b0 b1 b2 b3 b4 b5 b6 b7 b8 b9:Bool):(fiveB (winsB [b0,b1,b2,b3,b4,b5,b6,b7,b8,b9])).length=fiveN (bt b0 b1 b2 b3 b4 b5 b6 b7 b8 b9):=by
 unfold fiveB fiveN
 rw [sumF_eq]
 refine sumF_congr kL λb hb=>⟨inW_bt _ _ _ _ _ _ _ _ _ _ (by (exact Nat.succ_pos _)) (kL_lt hb),?_⟩
 unfold fiveC
 rw [sumF_eq]
 refine sumF_congr kL λc hc=>⟨inW_bt _ _ _ _ _ _ _ _ _ _ (kL_lt hb) (kL_lt hc),?_⟩
 unfold fiveD
 rw [sumF_eq]
 refine sumF_congr kL λd hd=>⟨inW_bt _ _ _ _ _ _ _ _ _ _ (kL_lt hc) (kL_lt hd),?_⟩
 unfold fiveE
 rw [sumF_eq]
 refine sumF_congr kL λe he=>⟨?_,rfl⟩
 rw [inW_bt _ _ _ _ _ _ _ _ _ _ (kL_lt hd) (kL_lt he),inW_bt _ _ _ _ _ _ _ _ _ _ (kL_lt he) (by (exact Nat.succ_pos _))]
theorem chain_congr {B C:Nat->Nat->Bool} (h:∀l k,l < 5->k < 5->B l k=C l k):∀c:List Nat,(∀x∈c,x < 5)->chainF B c=chainF C c
 | [],_=>rfl
 | [a],_=>rfl
 | a::b::r,hc=>by
  show (B a b&&chainF B (b::r))=(C a b&&chainF C (b::r))
  exact (h a b (hc a (by simp)) (hc b (by simp))).symm▸(chain_congr h (b::r) λx hx=>hc x (List.mem_cons_of_mem _ hx)).symm▸rfl
theorem many_eq (b0 b1 b2 b3 b4 b5 b6 b7 b8 b9:Bool):(QW (winsB [b0,b1,b2,b3,b4,b5,b6,b7,b8,b9]) 4).length=EN b0 b1 b2 b3 b4 b5 b6 b7 b8 b9:=by
 rw [QW_chain,perms_eq,← EN_eq,← cP_eq]
 congr 1
 exact List.filter_congr λc hc=>chain_congr (λl k hl hk=>inW_bt _ _ _ _ _ _ _ _ _ _ hl hk) c (perms_lt c hc)
theorem perms_shape:∀c∈perms,lastC c < 5∧c.headD 0 < 5:=by decide +kernel
theorem clos_eq (b0 b1 b2 b3 b4 b5 b6 b7 b8 b9:Bool):((QW (winsB [b0,b1,b2,b3,b4,b5,b6,b7,b8,b9]) 4).filter (clos (winsB [b0,b1,b2,b3,b4,b5,b6,b7,b8,b9]))).length=EC b0 b1 b2 b3 b4 b5 b6 b7 b8 b9:=by
 rw [QW_chain,perms_eq,List.filter_filter,← EC_eq,← cP_eq]
 congr 1
 refine List.filter_congr λc hc=>?_
 refine (chain_congr (λl k hl hk=>inW_bt b0 b1 b2 b3 b4 b5 b6 b7 b8 b9 hl hk) c (perms_lt c hc)).symm▸?_
 congr 1
 exact inW_bt _ _ _ _ _ _ _ _ _ _ (perms_shape c hc).1 (perms_shape c hc).2
noncomputable def gS (w:Nat):Nat:=w / 1+w / 2+2*(w / 3)+2*(w / 4)
noncomputable def scG (W:List (Nat×Nat)):Nat:=gS (wonN W 0)+gS (wonN W 1)+gS (wonN W 2)+gS (wonN W 3)+gS (wonN W 4)
noncomputable def chkF (b0 b1 b2 b3 b4 b5 b6 b7 b8 b9:Bool):Bool:=Nat.blt (EN b0 b1 b2 b3 b4 b5 b6 b7 b8 b9) 64&&(Nat.beq (EC b0 b1 b2 b3 b4 b5 b6 b7 b8 b9) (5*fiveN (bt b0 b1 b2 b3 b4 b5 b6 b7 b8 b9))&&Nat.beq (EN b0 b1 b2 b3 b4 b5 b6 b7 b8 b9+2*scG (winsB [b0,b1,b2,b3,b4,b5,b6,b7,b8,b9])) (41+2*fiveN (bt b0 b1 b2 b3 b4 b5 b6 b7 b8 b9)))
theorem chk_a:∀b3 b4 b5 b6 b7 b8 b9:Bool,chkF true true true b3 b4 b5 b6 b7 b8 b9=true:=by decide +kernel
theorem chk_b:∀b3 b4 b5 b6 b7 b8 b9:Bool,chkF true true false b3 b4 b5 b6 b7 b8 b9=true:=by decide +kernel
theorem chk_c:∀b3 b4 b5 b6 b7 b8 b9:Bool,chkF true false true b3 b4 b5 b6 b7 b8 b9=true:=by decide +kernel
theorem chk_d:∀b3 b4 b5 b6 b7 b8 b9:Bool,chkF true false false b3 b4 b5 b6 b7 b8 b9=true:=by decide +kernel
theorem chk_e:∀b3 b4 b5 b6 b7 b8 b9:Bool,chkF false true true b3 b4 b5 b6 b7 b8 b9=true:=by decide +kernel
theorem chk_f:∀b3 b4 b5 b6 b7 b8 b9:Bool,chkF false true false b3 b4 b5 b6 b7 b8 b9=true:=by decide +kernel
theorem chk_g:∀b3 b4 b5 b6 b7 b8 b9:Bool,chkF false false true b3 b4 b5 b6 b7 b8 b9=true:=by decide +kernel
theorem chk_h:∀b3 b4 b5 b6 b7 b8 b9:Bool,chkF false false false b3 b4 b5 b6 b7 b8 b9=true:=by decide +kernel
theorem chkF_all (b0 b1 b2 b3 b4 b5 b6 b7 b8 b9:Bool):chkF b0 b1 b2 b3 b4 b5 b6 b7 b8 b9=true:=by
 cases b0<;>cases b1<;>cases b2
 ·exact chk_h ..
 ·exact chk_g ..
 ·exact chk_f ..
 ·exact chk_e ..
 ·exact chk_d ..
 ·exact chk_c ..
 ·exact chk_b ..
 ·exact chk_a ..
theorem wins_lt (b0 b1 b2 b3 b4 b5 b6 b7 b8 b9:Bool):∀w∈winsB [b0,b1,b2,b3,b4,b5,b6,b7,b8,b9],w.1 < 5:=by
 intro w hw
 have e:winsB [b0,b1,b2,b3,b4,b5,b6,b7,b8,b9]=[winP b0 0 1,winP b1 0 2,winP b2 0 3,winP b3 0 4,winP b4 1 2,winP b5 1 3,winP b6 1 4,winP b7 2 3,winP b8 2 4,winP b9 3 4]:=rfl
 have h:∀(b:Bool) (p q:Nat),p < 5->q < 5->(winP b p q).1 < 5:=by
  intro b p q hp hq
  unfold winP
  split<;>assumption
 rw [e] at hw
 simp only [List.mem_cons,List.not_mem_nil,or_false] at hw
 rcases hw with rfl | rfl | rfl | rfl | rfl | rfl | rfl | rfl | rfl | rfl<;>exact h _ _ _ (by decide) (by decide)
theorem won_le (W:List (Nat×Nat)) (k:Nat):wonN W k≤W.length:=List.length_filter_le ..
noncomputable def BL:XF:=seqF X_law_0.1 (seqF X_law_1.1 (seqF X_law_2.1 (seqF X_law_3.1 (seqF X_law_4.1 (seqF X_law_5.1 (seqF X_law_6.1 (seqF X_law_7.1 (seqF X_law_8.1 (seqF X_law_9.1 (seqF X_law_10.1 (seqF X_law_11.1 (seqF X_law_12.1 (seqF X_law_13.1 (seqF X_law_14.1 (seqF X_law_15.1 (seqF X_law_16.1 (seqF X_law_17.1 (seqF X_law_18.1 (seqF X_law_19.1 (seqF X_law_20.1 (seqF X_law_21.1 (seqF X_law_22.1 (seqF X_law_23.1 (seqF X_law_24.1 (seqF X_law_25.1 nextF)))))))))))))))))))))))))
theorem BL_eq:F_law=fnF 1 41 false BL:=rfl
structure Facts (W:List (Nat×Nat)):Prop where
 len:W.length=10
 rows:rsW W=stF (wonN W)
 many:(QW W 4).length < 64
 clos:((QW W 4).filter (clos W)).length=5*(fiveB W).length
 sum:(QW W 4).length+2*scG W=41+2*(fiveB W).length
theorem facts_all (b0 b1 b2 b3 b4 b5 b6 b7 b8 b9:Bool):Facts (winsB [b0,b1,b2,b3,b4,b5,b6,b7,b8,b9]):=by
 have h:=chkF_all b0 b1 b2 b3 b4 b5 b6 b7 b8 b9
 unfold chkF at h
 rw [Bool.and_eq_true,Bool.and_eq_true] at h
 obtain ⟨h1,h2,h3⟩:=h
 refine ⟨rfl,rsW_eq (wins_lt _ _ _ _ _ _ _ _ _ _),?_,?_,?_⟩
 ·rw [many_eq]
  exact Nat.le_of_ble_eq_true h1
 ·rw [clos_eq,five_eq]
  exact Nat.eq_of_beq_eq_true h2
 ·rw [many_eq,five_eq]
  exact Nat.eq_of_beq_eq_true h3
theorem wsB_lt {ns:List Int} (h:∀n∈ns,0≤n) (k:Nat):wsB ns k < 4:=by
 have h0:0≤ns[k]?.getD 0:=by
  cases hq:ns[k]? with
  | none=>exact Int.le_refl _
  | some n=>exact h n (List.mem_of_getElem? hq)
 unfold wsB
 rw [Int.fmod_eq_emod_of_nonneg _ (by (exact Int.natCast_nonneg _))]
 lia
theorem runs_len (f:Nat->Nat) (h:∀k,f k≤100):(runsL ((stF f).map (·.1))).length≤100000:=by
 rw [st_map]
 unfold runsL
 have:=h 0; have:=h 1; have:=h 2; have:=h 3; have:=h 4
 simp
 lia
theorem gS_eq (f:Nat->Nat) (k:Nat):TW (cOf ((stF f).map (·.1)) []) k=f 0 / k+(f 1 / k+(f 2 / k+(f 3 / k+(f 4 / k+0)))):=by
 rw [TW_runs,st_map]
 have:TW [] k=0:=rfl
 refine this.symm▸?_
 simp
theorem three_eq (W:List (Nat×Nat)):threeN (cOf ((stF (wonN W)).map (·.1)) [])=20 - (scG W:Nat):=by
 unfold threeN
 rw [gS_eq,gS_eq,gS_eq,gS_eq]
 unfold scG gS
 lia
theorem okC_eq {f:Nat->Nat} (h:∀k,f k≤100):okC (cOf ((stF f).map (·.1)) []):=by
 have e0:=h 0
 have e1:=h 1
 have e2:=h 2
 have e3:=h 3
 have e4:=h 4
 have hm:∀r∈(stF f).map (·.1),r < 101:=by
  intro r hr
  rw [st_map] at hr
  simp only [List.mem_cons,List.not_mem_nil,or_false] at hr
  lia
 have hl:((stF f).map (·.1)).length=5:=rfl
 have h1:=cOf_len _ [] 101 hm (Nat.zero_le _)
 have h2:=cOf_mem ((stF f).map (·.1)) [] 0 (λ_ h=>(nin h))
 have h3:∀k,TW (cOf ((stF f).map (·.1)) []) k≤100000:=by
  intro k
  rw [gS_eq]
  have:=Nat.div_le_self (f 0) k
  have:=Nat.div_le_self (f 1) k
  have:=Nat.div_le_self (f 2) k
  have:=Nat.div_le_self (f 3) k
  have:=Nat.div_le_self (f 4) k
  lia
 generalize cOf ((stF f).map (·.1)) []=c at h1 h2 h3
 exact ⟨Nat.le_trans h1 (Nat.le_of_ble_eq_true rfl),λx hx=>Nat.le_trans (h2 x hx) (hl.symm▸Nat.le_of_ble_eq_true rfl),λk _=>h3 k⟩
theorem law_tail {v:Vs} {W:List (Nat×Nat)} {P:Addr} {fl f:Bool} {s:List Nat} {n:Int} (hF:Facts W) (h0:v.lexer=some (.obj 3)) (h1:v.wins=some (.obj 1)) (h2:v.rows=some (.dat (rowsP (stF (wonN W))))) (h3:v.many=some (.dat (.int (((QW W 4).length:Nat):Int)))) :
  ∃L hp',seqF X_law_18.1 (seqF X_law_19.1 (seqF X_law_20.1 (seqF X_law_21.1 (seqF X_law_22.1 (seqF X_law_23.1 (seqF X_law_24.1 (seqF X_law_25.1 nextF))))))) ⟨v.loc,hW P fl W s f n (strsP ((QW W 4).map (wordS 5)))⟩=some (.ret (.dat (.bool true)),⟨L,.tab P fl::hp'⟩):=by
 have hfl:=five_len W
 have hm64:=hF.many
 have hw:∀k,wonN W k≤100:=λk=>Nat.le_trans (won_le W k) (by rw [hF.len]; decide)
 have hQ:∀x∈QW W 4,x.length=5:=λx hx=>(QW_mem W 4 x hx).1
 let pb:=strsP ((QW W 4).map (wordS 5))
 have hpb:pb.length=(QW W 4).length:=by simp [pb,strsP]
 let v1:Vs:={ v with ways:=some (.dat (.list pb)) }
 let v2:Vs:={ v1 with five:=some (.dat (.int ((fiveB W).length:Nat))) }
 let v3:Vs:={ v2 with lead:=some (.obj 5) }
 let c:=cOf ((stF (wonN W)).map (·.1)) []
 let t:=runsL ((stF (wonN W)).map (·.1))
 let v4:Vs:={ v3 with three:=some (.dat (.int (threeN c))) }
 have hc:okC c:=okC_eq hw
 have e18:X_law_18.1 ⟨v.loc,hW P fl W s f n pb⟩=some (.next,⟨v1.loc,hW P fl W s f n []⟩):=s18 h0 (hpb.symm▸h3) (by rw [hpb]; lia)
 have e19:X_law_19.1 ⟨v1.loc,hW P fl W s f n []⟩=some (.next,⟨v1.loc,hW P fl W s f n []⟩):=s19 (v:=v1) (c:=QW W 4) rfl h3 hQ hm64 (ways_sorted W)
 have e20:X_law_20.1 ⟨v1.loc,hW P fl W s f n []⟩=some (.next,⟨v2.loc,hW P fl W s f n []⟩):=s20 (v:=v1) h1
 have e21:X_law_21.1 ⟨v2.loc,hW P fl W s f n []⟩=some (.next,⟨v3.loc,hL P fl W s f n [] t c t.length⟩):=s21 (v:=v2) (Rs:=stF (wonN W)) h2 (st_ok _ hw) (Nat.le_trans hc.1 (by decide)) (runs_len _ hw)
 have e22:X_law_22.1 ⟨v3.loc,hL P fl W s f n [] t c t.length⟩=some (.next,⟨v3.loc,hL P fl W s f n [] t c t.length⟩):=s22 (v:=v3) rfl hc
 have e23:X_law_23.1 ⟨v3.loc,hL P fl W s f n [] t c t.length⟩=some (.next,⟨v4.loc,hL P fl W s f n [] t c t.length⟩):=s23 (v:=v3) rfl hc
 have e24:X_law_24.1 ⟨v4.loc,hL P fl W s f n [] t c t.length⟩=some (.next,⟨v4.loc,hL P fl W s f n [] t c t.length⟩):=s24 (v:=v4) (W:=W) (c:=QW W 4) rfl h1 rfl rfl hQ hm64 hF.clos
 have h3e:threeN c=20 - (scG W:Nat):=three_eq W
 have hsum:=hF.sum
 have e25:X_law_25.1 ⟨v4.loc,hL P fl W s f n [] t c t.length⟩=some (.ret (.dat (.bool true)),⟨v4.loc,hL P fl W s f n [] t c t.length⟩):=s25 (v:=v4) (m:=(QW W 4).length) (t5:=(fiveB W).length) (t3:=threeN c) h3 rfl rfl (by rw [h3e]; lia) (by rw [h3e]; lia) (by lia)
 refine ⟨v4.loc,(hL P fl W s f n [] t c t.length).tail,?_⟩
 exact (seq_next e18).trans <| (seq_next e19).trans <| (seq_next e20).trans <| (seq_next e21).trans <| (seq_next e22).trans <| (seq_next e23).trans <| (seq_next e24).trans <| seq_ret e25
theorem allg {α:Type} {a:α} {l:List α} {P:α->Prop} (h:P a) (k:∀b∈l,P b):∀c∈a::l,P c:=λc hc=>(List.mem_cons.mp hc).elim (λe=>e▸h) (k c)
theorem law_run (script:List Int) (hs:script.length≤63):∃L hp',BL ⟨Vs.loc { script:=some (.dat (.list (script.map .int))) },[.tab 186 true]⟩=some (.ret (.dat (.bool true)),⟨L,.tab 186 false::hp'⟩):=by
 let ns:=numsL script
 have hnn:∀n∈ns,0≤n:=by
  exact allg (numK_nonneg ..) <| allg (numK_nonneg ..) <| allg (numK_nonneg ..) <| allg (numK_nonneg ..) <| allg (numK_nonneg ..) <| allg (numK_nonneg ..) <| allg (numK_nonneg ..) <| allg (numK_nonneg ..) <| allg (numK_nonneg ..) <| allg (numK_nonneg ..) λ_ h=>nin h
 let v0:Vs:={ script:=some (.dat (.list (script.map .int))) }
 let v1:Vs:={ v0 with begins:=some (.dat (.list beginsD)) }
 let v2:Vs:={ v1 with numbers:=some (.dat (.list (ns.map .int))) }
 let v3:Vs:={ v2 with ends:=some (.dat endsD) }
 let v4:Vs:={ v3 with wins:=some (.obj 1),rows:=some (.dat (rowsP Rs0)) }
 have e0:X_law_0.1 ⟨v0.loc,[.tab 186 true]⟩=some (.next,⟨v1.loc,[.tab 186 true]⟩):=s0 (v:=v0)
 have e1:X_law_1.1 ⟨v1.loc,[.tab 186 true]⟩=some (.next,⟨v2.loc,[.tab 186 true]⟩):=s1 (v:=v1) rfl hs rfl
 have e2:X_law_2.1 ⟨v2.loc,[.tab 186 true]⟩=some (.next,⟨v3.loc,[.tab 186 true]⟩):=s2 (v:=v2)
 have e3:X_law_3.1 ⟨v3.loc,[.tab 186 true]⟩=some (.next,⟨v4.loc,[.tab 186 true,.lst []]⟩):=s3 (v:=v3) rfl
 obtain ⟨W,hWd⟩:∃W,W=winsB [(numK script 0 24).fmod 2==0,(numK script 1 902).fmod 2==0,(numK script 2 1924).fmod 2==0,(numK script 3 1975).fmod 2==0,(numK script 4 390).fmod 2==0,(numK script 5 116).fmod 2==0,(numK script 6 4).fmod 2==0,(numK script 7 90).fmod 2==0,(numK script 8 62).fmod 2==0,(numK script 9 196).fmod 2==0]:=⟨_,rfl⟩
 have hF:Facts W:=hWd.symm▸facts_all ..
 let wl:=strsP (W.map wordP)
 let H1:List MO:=[.tab 186 true,.lst wl]
 refine cps λ_ KK=>?_
 obtain ⟨q1,q2,q3,q4,e4⟩:∃a b c d,X_law_4.1 ⟨v4.loc,[.tab 186 true,.lst []]⟩=some (.next,⟨Vs.loc { v4 with number:=a,pair:=b,verdict:=c,place:=d,rows:=some (.dat (rowsP (stF (wonN W)))) },H1⟩):=by
  have:=s4 (v:=v4) (n0:=numK script 0 24) (n1:=numK script 1 902) (n2:=numK script 2 1924) (n3:=numK script 3 1975) (n4:=numK script 4 390) (n5:=numK script 5 116) (n6:=numK script 6 4) (n7:=numK script 7 90) (n8:=numK script 8 62) (n9:=numK script 9 196) rfl hnn rfl rfl
  have hI:(itsL [numK script 0 24,numK script 1 902,numK script 2 1924,numK script 3 1975,numK script 4 390,numK script 5 116,numK script 6 4,numK script 7 90,numK script 8 62,numK script 9 196]).map winI=W:=by rw [hWd]; rfl
  replace this:=hI▸this
  refine hF.rows▸?_
  exact this
 refine KK ?_
 let v5:Vs:={ v4 with number:=q1,pair:=q2,verdict:=q3,place:=q4,rows:=some (.dat (rowsP (stF (wonN W)))) }
 refine cps λ_ KK=>?_
 obtain ⟨a1,a2,a3,e5⟩:=s5 (v:=v5) (W:=W) (Rs:=stF (wonN W)) rfl rfl rfl (by rw [hF.len]; decide) rfl (λk hk=>row_has _ hk)
 refine KK ?_
 let v6:Vs:={ v5 with k:=a1,name:=a2,won:=a3 }
 let v7:Vs:={ v6 with text:=some (.dat (sD [])) }
 have e6:X_law_6.1 ⟨v6.loc,H1⟩=some (.next,⟨v7.loc,H1⟩):=s6 (v:=v6)
 refine cps λ_ KK=>?_
 obtain ⟨c1,c2,e7⟩:=s7 (v:=v7) (nums:=ns) (hp:=H1) rfl rfl hnn rfl
 obtain ⟨A,hA⟩:∃A,A=tokA ns:=⟨_,rfl⟩
 obtain ⟨B,hBd⟩:∃B,B=wsB ns:=⟨_,rfl⟩
 refine KK ?_
 have hB:∀k,B k < 4:=hBd.symm▸wsB_lt hnn
 replace e7:=hBd.symm▸hA.symm▸e7
 let v8:Vs:={ v7 with k:=c1,name:=c2,text:=some (.dat (sD (txtL A B 5))) }
 let v9:Vs:={ v8 with text:=some (.dat (sD (textF A B))) }
 let v10:Vs:={ v9 with lexer:=some (.obj 3) }
 have htl:(textF A B).length≤100:=by rw [textF_rest]; exact Nat.le_trans (restL_len A B 4 0) (by decide)
 have e8:X_law_8.1 ⟨v8.loc,H1⟩=some (.next,⟨v9.loc,H1⟩):=s8 (v:=v8) rfl
 have e9:X_law_9.1 ⟨v9.loc,H1⟩=some (.next,⟨v10.loc,hN 186 false wl (textF A B) false 1 []⟩):=s9 (v:=v9) rfl (by unfold lim; (exact Nat.le_trans (by assumption) (by decide)))
 refine cps λ_ KK=>?_
 obtain ⟨f1,n1,g1,z1⟩:=get_text (P:=186) (fl:=false) (wl:=wl) (s:=textF A B) (f:=false) (n:=1) (by unfold lim; lia)
 have hg:goT (textF A B)=([46,97],some (if A 0=0 then wsS (B 0)::restL A B 3 1 else restL A B 3 1)):=by
  rw [textF_rest]
  exact goT_tok (by decide) (ws_ok _ (hB 0)) (restL_ne A B 3 1)
 obtain ⟨r,hr⟩:∃r,r=(if A 0=0 then wsS (B 0)::restL A B 3 1 else restL A B 3 1):=⟨_,rfl⟩
 refine KK ?_
 replace hg:=hr.symm▸hg
 rw [hg] at g1 z1
 dsimp only [Option.getD] at g1 z1
 let d:PyData:=sD [46,97]
 let v11:Vs:={ v10 with early:=some (.dat d) }
 have e10:X_law_10.1 ⟨v10.loc,hN 186 false wl (textF A B) false 1 []⟩=some (.next,⟨v11.loc,hN 186 false wl r f1 n1 []⟩):=s10 (v:=v10) rfl ins_get g1
 have e11:X_law_11.1 ⟨v11.loc,hN 186 false wl r f1 n1 []⟩=some (.next,⟨v11.loc,hN 186 false wl r f1 n1 [d]⟩):=s11 (v:=v11) rfl rfl (by decide)
 have e12:X_law_12.1 ⟨v11.loc,hN 186 false wl r f1 n1 [d]⟩=some (.next,⟨v11.loc,hN 186 false wl r f1 n1 [d,d]⟩):=s12 (v:=v11) rfl rfl (by decide)
 refine cps λ_ KK=>?_
 obtain ⟨f2,n2,G,z2⟩:=gets_text (A:=A) (B:=B) (P:=186) (fl:=false) (wl:=wl) hB 3 1 r f1 n1 rfl (by
  refine hr.symm▸?_
  split
  ·exact goT_ws (ws_ok _ (hB 0)) (restL_ne A B 3 1)
  ·rfl) (by
  have:=restL_len A B 3 1
  refine hr.symm▸?_
  split<;>(try simp)<;>lia)
 refine KK ?_
 let v12:Vs:={ v11 with tokens:=some (.dat toksD) }
 have e13:X_law_13.1 ⟨v11.loc,hN 186 false wl r f1 n1 [d,d]⟩=some (.next,⟨v12.loc,hN 186 false wl [] f2 n2 []⟩):=s13 (v:=v11) (ts:=[d,d]++namesD 3 1) rfl rfl (Gets.append (gets_pb [d,d] (rest:=[]) (by decide)) G)
 have e14:X_law_14.1 ⟨v12.loc,hN 186 false wl [] f2 n2 []⟩=some (.next,⟨v12.loc,hN 186 false wl [] f2 n2 []⟩):=s14 (v:=v12) (t:=textF A B) rfl rfl rfl (by lia)
 obtain ⟨a4,e15⟩:=s15 (v:=v12) (P:=186) (fl:=false) (wl:=wl) (s:=[]) (f:=f2) (n:=n2) rfl
 let v13:Vs:={ v12 with name:=a4 }
 let v14:Vs:={ v13 with many:=some (.dat (.int 5)) }
 have e16:X_law_16.1 ⟨v13.loc,hN 186 false wl [] f2 n2 (dotsD 5)⟩=some (.next,⟨v14.loc,hN 186 false wl [] f2 n2 (dotsD 5)⟩):=s16 (v:=v13)
 refine cps λ_ KK=>?_
 obtain ⟨x1,x2,x3,x4,e17⟩:=s17 (v:=v14) (P:=186) (fl:=false) (s:=[]) (f:=f2) (n:=n2) (W:=W) rfl rfl rfl
 refine KK ?_
 let v15:Vs:={ v14 with turn:=x1,mail:=x2,word:=x3,name:=x4,many:=some (.dat (.int (((QW W 4).length:Nat):Int))) }
 obtain ⟨L,hp',e⟩:=law_tail (v:=v15) (P:=186) (fl:=false) (s:=[]) (f:=f2) (n:=n2) hF rfl rfl rfl rfl
 refine ⟨L,hp',?_⟩
 skip
 skip
 exact (seq_next e0).trans <| (seq_next e1).trans <| (seq_next e2).trans <| (seq_next e3).trans <| (seq_next e4).trans <| (seq_next e5).trans <| (seq_next e6).trans <| (seq_next e7).trans <| (seq_next e8).trans <| (seq_next e9).trans <| (seq_next e10).trans <| (seq_next e11).trans <| (seq_next e12).trans <| (seq_next e13).trans <| (seq_next e14).trans <| (seq_next e15).trans <| (seq_next e16).trans <| (seq_next e17).trans e
theorem law_true (script:List Int) (hs:script.length≤63):F_law [.dat (.list (script.map .int))] [.tab 186 true]=some (.dat (.bool true),[.tab 186 false]):=by
 obtain ⟨L,hp',e⟩:=law_run script hs
 refine BL_eq.symm▸?_
 skip
 show (match BL ⟨Vs.loc { script:=some (.dat (.list (script.map .int))) },[.tab 186 true]⟩ with
  | some (.ret pv,σ)=>if false=true then some (pv,σ.hp) else trunc 1 pv σ.hp
  | some (.next,σ)=>if false=true then some (.dat .none,σ.hp) else trunc 1 (.dat .none) σ.hp
  | _=>none)=_
 refine e.symm▸?_
 rfl
end Mine
end
theorem PySem.Challenge.cw_uc0022_03_holds : PySem.Challenge.rw_uc0022_03.Holds :=
  Mine.head3 ⟨Mine.F_law, fun T => (Mine.ok_law T).ok, Mine.law_true⟩
