import PyProof.Rows.All
import Wide.All
import OpenK.AllK
import Wide.FinOn
import Lean
import PySem.Challenge.RW_uc0022_02
set_option Elab.async false
set_option maxRecDepth 100000
set_option linter.all false
section
open PySem PySem.Calls PySem.W PyProof.Rows
namespace Mine
theorem cps {P:Prop} (h:∀G:Prop,(P->G)->G):P:=h P id
theorem C1 {C:Prop} (h:false=true):C:=nomatch h
theorem ck {α:Type} {a:α} {C:Prop} (h:a∈[]):C:=nomatch h
theorem al {α:Type} {x:α} {C:Prop} (h:none=some x):C:=nomatch h
mutual
inductive RD (h:Heap):Value->PyData->List Addr->Prop
 | none:RD h .none .none []
 | bool (b:Bool):RD h (.bool b) (.bool b) []
 | int (i:Int) (t:Tok):RD h (.int i t) (.int i) []
 | str (x:Str) (t:Tok):PyData.strOk x=true->RD h (.str x t) (.str x) []
 | list {a o vs n xs as}:h.get? a=some o->o.cls=.type "list"->o.dict=none->o.slots=#[]->o.data=.seq vs n->RDs h vs.toList xs as->RD h (.ref a) (.list xs) (a::as)
 | tuple {a o vs n xs as}:h.get? a=some o->o.cls=.type "tuple"->o.data=.seq vs n->RDs h vs.toList xs as->RD h (.ref a) (.tuple xs) (a::as)
inductive RDs (h:Heap):List Value->List PyData->List Addr->Prop
 | nil:RDs h [] [] []
 | cons {v vs d ds as bs}:RD h v d as->RDs h vs ds bs->RDs h (v::vs) (d::ds) (as++bs)
end
inductive PV where
 | dat (d:PyData)
 | obj (i:Nat)
 | strm (i:Nat)
 | objs (lst:Bool) (l:List Nat)
inductive MO where
 | lst (l:List PyData)
 | ins (C:Addr) (at_:List (Nat×PV))
 | cit (self:Nat) (f:Addr) (done:Bool)
 | tab (a:Addr) (fresh:Bool)
abbrev av:=List (Addr×Addr)
abbrev ax (ρ:av):List Addr:=ρ.map (·.2)
noncomputable def an:Nat->Str
 | 0=>"instream" | 1=>"lineno" | 2=>"whitespace" | 3=>"pushback"
 | 4=>"raw" | 5=>"n" | 6=>"nt" | 7=>"norm" | 8=>"is_simple" | _=>"read"
noncomputable def mt (P:Nat->Pos):List Stmt:=[.Return (some (.IfExp (.Name "signs" (P 0)) (.Call (.Attribute (.Name "signs" (P 1)) "pop" (P 2)) [.Constant (.int 0) 0 (P 3)] [] (P 4)) (.Constant (.str "") 0 (P 5)) (P 6))) (P 7)]
noncomputable def readScope:Scope:={ kind:=.function,names:=[("size",.local),("signs",.free)],isGenerator:=false,isCoroutine:=false,more:=[] }
noncomputable def Gp (fd:FuncData) (c cc:Addr):Prop:=fd.closure=[(("signs":Str),c)]∧fd.globals=mainGlobals∧fd.builtins=builtinsNs∧fd.scope=readScope∧(∃P,fd.body=.stmts (mt P)∧((P 2).endLine==(P 4).line)=true) ∧
 (∃p,fd.params=⟨[],[⟨"size",none,p⟩],none,[],[],none,[]⟩)∧fd.defaults=.none∧fd.kwdefaults=.none∧fd.code=.ref cc
inductive Mp (h:Heap) (a g:Addr) (fs:List Addr):Prop
 | mk (o o_1:Obj) (d r c cc:Addr) (fd:FuncData):fs=[a,d,r,c,cc]->h.get? a=some o->o.cls=.type "function"->(∃f,o.data=.func f)->o.dict=some d->h.Ns d (λx=>if x="read" then some (.ref r) else none) ->
  h.get? r=some o_1->o_1.cls=.type "function"->o_1.data=.func fd->Gp fd c cc->h.IsCell c (some (.ref g))->h.CodeRec (.ref cc) fd.qualname->Mp h a g fs
structure Strm (h:Heap) (a g:Addr) (fs:List Addr):Prop where
 ex:Mp h a g fs
inductive Ik (ρ:av) (Z:List Addr) (h:Heap) (lst:Bool) (l:List Nat) (v:Value):Prop
 | mk (a:Addr) (o:Obj) (vs:Array Value) (n:Nat):v=Value.ref a->h.get? a=some o->o.cls=.type (if lst then "list" else "tuple")->o.data=.seq vs n->vs.size=l.length ->
  (∀(k i:Nat),l[k]?=some i->∃x y,vs[k]?=some (Value.ref x)∧ρ[i]?=some (x,y))->a∉ax ρ->a∉Z->Ik ρ Z h lst l v
noncomputable def VR (ρ:av) (Z:List Addr) (h:Heap):PV->Value->Prop
 | .dat d,v=>∃as,RD h v d as∧∀a∈as,a∉ax ρ∧a∉Z
 | .obj i,v=>∃r b,ρ[i]?=some (r,b)∧v=.ref r
 | .strm i,v=>∃r b a fs,ρ[i]?=some (r,b)∧v=.ref a∧Strm h a r fs∧∀a∈fs,a∉ax ρ∧a∉Z
 | .objs lst l,v=>Ik ρ Z h lst l v
structure Ext (X:List Addr) (ρ:av) (s:Shared) (ρ':av) (s':Shared):Prop where
 more:∃e,ρ'=ρ++e∧∀p∈e,s.heap.get? p.2=none
 heap:∀b o,b∉ax ρ->b∉X->s.heap.get? b=some o->s'.heap.get? b=some o
 live:∀b o,s.heap.get? b=some o->∃o',s'.heap.get? b=some o'
 drawn:s'.drawn=s.drawn
 os:s'.os=s.os
 gens:∀(g:Nat) (st:GenState),s.gens[g]?=some st->s'.gens[g]?=some st
 bare:AllBare s.gens->AllBare s'.gens
noncomputable def jk (m:Addr) (t:Tok) (done:Bool):Obj:={ cls:=.type "callable_iterator",data:=.fields (if done then #[.none,.none,.bool true] else #[.ref m,.str ⟨⟨[]⟩⟩ t,.bool false]) }
noncomputable def methObj (f r:Addr):Obj:={ cls:=.type "method",data:=.fields #[.ref f,.ref r] }
inductive Rn (ρ:av) (Z:List Addr) (h:Heap) (r b:Addr) (l:List PyData):Prop
 | mk:r=b->∀(o:Obj) (vs:Array Value) (n:Nat) (as:List Addr),h.get? b=some o->o.cls=.type "list"->o.dict=none->o.slots=#[]->o.data=.seq vs n->RDs h vs.toList l as->(∀a∈as,a∉ax ρ∧a∉Z)->Rn ρ Z h r b l
inductive Rd (ρ:av) (Z:List Addr) (h:Heap) (r b C:Addr) (ats:List (Nat×PV)):Prop
 | mk:r∉ax ρ->r∉Z->∀(o:Obj) (mA:Str->Option Value),h.get? r=some o->o.cls=.ref C->(∀c,o.data≠.cls c)->o.dict=some b->b≠r->h.Ns1 b mA->(∀p∈ats,∃v,mA (an p.1)=some v∧VR ρ Z h p.2 v)->(∀x,(∀p∈ats,x≠an p.1)->mA x=none)->Rd ρ Z h r b C ats
inductive Ry (ρ:av) (Z:List Addr) (h:Heap) (r b:Addr) (i:Nat) (f:Addr) (done:Bool):Prop
 | mk:r=b->∀(m:Addr) (t:Tok) (x y:Addr),ρ[i]?=some (x,y)->m∉ax ρ->m∉Z->h.get? m=some (methObj f x)->h.get? b=some (jk m t done)->Ry ρ Z h r b i f done
noncomputable def MR (ρ:av) (Z:List Addr) (h:Heap) (r b:Addr):MO->Prop
 | .lst l=>Rn ρ Z h r b l
 | .ins C ats=>Rd ρ Z h r b C ats
 | .cit i f done=>Ry ρ Z h r b i f done
 | .tab a fr=>r=b∧b=a∧∃vs,h.get? b=some (PySem.W.X.tableObj vs)∧(fr=true->vs=#[])
inductive AtR (ρ:av) (Z:List Addr) (h:Heap) (i:Nat) (mo:MO):Prop
 | mk (r b:Addr):ρ[i]?=some (r,b)->MR ρ Z h r b mo->AtR ρ Z h i mo
structure HR (ρ:av) (Z:List Addr) (hp:List MO) (h:Heap):Prop where
 len:ρ.length=hp.length
 nodup:(ax ρ).Nodup
 offZ:∀b∈ax ρ,b∉Z
 liveZ:∀a∈Z,∃o,h.get? a=some o
 at_:∀(i:Nat) (mo:MO),hp[i]?=some mo->AtR ρ Z h i mo
noncomputable def TopOK (K:Addr->Option Obj) (h:Heap):Prop:=∀a o,K a=some o->h.get? a=some o
structure Room (A:Around) (k:Nat):Prop where
 handled:A.handled=none
 depth:A.depth+k < 900
 units:A.units+40*k < 9000
section
variable (prog:Program) (w:World) (K:Addr->Option Obj)
noncomputable def Post (ρ:av) (Z:List Addr) (s:Shared) (pv:PV) (hp':List MO) (v:Value) (s':Shared):Prop :=
 ∃ρ',Ext [] ρ s ρ' s'∧VR ρ' Z s'.heap pv v∧HR ρ' Z hp' s'.heap
abbrev bn:Value->Shared->Prop:=λ_ _=>False
end
inductive VRs (ρ:av) (Z:List Addr) (h:Heap):List PV->List Value->Prop
 | nil:VRs ρ Z h [] []
 | cons {p v ps vs}:VR ρ Z h p v->VRs ρ Z h ps vs->VRs ρ Z h (p::ps) (v::vs)
structure Gl (K:Addr->Option Obj) (mg mb:Str->Option Value):Prop where
 g:∀h,TopOK K h->h.Ns mainGlobals mg
 b:∀h,TopOK K h->h.Ns builtinsNs mb
 lim:∀h,TopOK K h->h.NoLimit
abbrev FnF:=List PV->List MO->Option (PV×List MO)
noncomputable def l4 (K:Addr->Option Obj) (ρ:av) (Z:List Addr):Prop:=∀a,K a≠none->a∉ax ρ∧a∉Z
structure FnOK (prog:Program) (w:World) (K:Addr->Option Obj) (a:Addr) (k:Nat) (G:FnF):Prop where
 run:∀(A:Around) (ρ:av) (Z:List Addr) (hp:List MO) (s:Shared) (ps:List PV) (vs:List Value) (pv:PV) (hp':List MO),Room A k->HR ρ Z hp s.heap->TopOK K s.heap->l4 K ρ Z->VRs ρ Z s.heap ps vs->G ps hp=some (pv,hp') ->
  wpAny (model prog w) A (call (.ref a) vs) (Post ρ Z s pv hp') bn s
section
variable {prog:Program} {w:World} {K:Addr->Option Obj} {fx:Fx} {mg mb:Str->Option Value} {A:Around}
inductive O8 (K:Addr->Option Obj) (C:Addr) (mN:Str->Option Value):Prop
 | mk (nm q:Str) (N:Addr) (bs:List Value) (sn:List Str) (sub:List Value) (col:Option Bool) (dd:Option Addr) (k0 k1 k2 k3 k5:Option Value) :
  K C=some (excClassObj nm q C N bs [.type "object"] true sn sub false col dd k0 k1 k2 k3 k5 "object.__new__")->(∀h,TopOK K h->h.Ns N mN)->O8 K C mN
structure fj (K:Addr->Option Obj) (C:Addr) (mN:Str->Option Value):Prop where
 ex:O8 K C mN
 ga:mN "__getattribute__"=none
 gh:mN "__getattr__"=none
 sa:mN "__setattr__"=none
end
end Mine
end
section
open PySem PySem.Sre
namespace Mine
noncomputable def code2:Array Nat:=#[14,9,4,1,2,16,10,16,13,0,7,7,16,13,16,10,15,18,5,16,10,15,13,11,16,13,5,5,0,16,10,1,15,2,0,1]
noncomputable def d9:Array Nat:=#[14,4,0,1,1,6,1,16,46,1]
end Mine
end
section
open PySem PySem.Sre PySem.Builtin.Re PySem.Calls PyProof.Rows open Builtin Builtin.Str
namespace Mine
inductive O4 (h:Heap) (pa ca:Addr) (code:Array Nat):Prop
 | mk (o oc:Obj) (x:PySem.Str) (t t1 t2 t3:Tok) (fl:Int) (vs:Array Value) (n:Nat):h.get? pa=some o->o.cls=.type "re.Pattern"->o.dict=none->o.data=.fields #[.str x t,.int fl t1,.int 0 t2,.none,.none,.ref ca,.int 0 t3] ->
  h.get? ca=some oc->oc.data=.seq vs n->(vs.map reRawOf).map (·.toNat)=code->O4 h pa ca code
structure Pat (h:Heap) (pa ca:Addr) (code:Array Nat):Prop where
 ex:O4 h pa ca code
end Mine
end
section
open PySem PySem.Calls PySem.W PyProof.Rows
namespace Mine
noncomputable def Stmt.params:Stmt->Arguments
 | .FunctionDef _ args ..=>args
 | _=>⟨[],[],none,[],[],none,[]⟩
noncomputable def Stmt.bodyOf:Stmt->List Stmt
 | .FunctionDef _ _ body ..=>body
 | .ClassDef _ _ _ body ..=>body
 | _=>[]
noncomputable def Stmt.scopeOf:Stmt->Scope
 | .FunctionDef _ _ _ _ _ _ scope ..=>scope
 | _=>readScope
noncomputable def Stmt.nameOf:Stmt->Str
 | .FunctionDef n ..=>n
 | _=>""
noncomputable def mz (st:Stmt) (q:Str) (pm code doc:Value):FuncData :=
 { name:=Stmt.nameOf st,qualname:=q,params:=Stmt.params st,body:=.stmts (Stmt.bodyOf st),scope:=Stmt.scopeOf st,globals:=mainGlobals,closure:=[],defaults:=.none,kwdefaults:=.none,doc,pyModule:=pm,code,builtins:=builtinsNs }
inductive FnAt (K:Addr->Option Obj) (a:Addr) (st:Stmt):Prop
 | mk (o:Obj) (q:Str) (pm:Value) (c:Addr) (doc:Value):K a=some o->o.cls=.type "function"->o.data=.func (mz st q pm (.ref c) doc)->(∀h,TopOK K h->h.CodeRec (.ref c) q)->FnAt K a st
noncomputable def en (i:Nat):Stmt:=(PySem.Challenge.pw_uc0022_02.main.body)[i]?.getD (.Pass ⟨0,0,0,0⟩)
noncomputable def Fc (c m:Nat):Stmt:=(Stmt.bodyOf (en c))[m]?.getD (.Pass ⟨0,0,0,0⟩)
set_option genInjectivity false in
set_option genSizeOf false in
structure Tab (K:Addr->Option Obj) (mg mb:Str->Option Value) where
 mL:Str->Option Value
 mW:Str->Option Value
 Kf:Frag
 mc:Value
 tC:Tok
 tS:Tok
 tT:Tok
 gl:Gl K mg mb
 n_len:mg "len"=none
 b_len:mb "len"=some (.builtin "len")
 n_sum:mg "sum"=none
 b_sum:mb "sum"=some (.builtin "sum")
 n_int:mg "int"=none
 b_int:mb "int"=some (.type "int")
 n_tuple:mg "tuple"=none
 b_tuple:mb "tuple"=some (.type "tuple")
 n_list:mg "list"=none
 b_list:mb "list"=some (.type "list")
 n_max:mg "max"=none
 b_max:mb "max"=some (.builtin "max")
 n_min:mg "min"=none
 b_min:mb "min"=some (.builtin "min")
 n_sorted:mg "sorted"=none
 b_sorted:mb "sorted"=some (.builtin "sorted")
 n_iter:mg "iter"=none
 b_iter:mb "iter"=some (.builtin "iter")
 n_enumerate:mg "enumerate"=none
 b_enumerate:mb "enumerate"=some (.type "enumerate")
 n_zip:mg "zip"=none
 b_zip:mb "zip"=some (.type "zip")
 n_range:mg "range"=none
 b_range:mb "range"=some (.type "range")
 f_iter_escaped_chars:FnAt K 87 (en 5)
 g_iter_escaped_chars:mg "_iter_escaped_chars"=some (.ref 87)
 f_strip_quoted_realnames:FnAt K 94 (en 6)
 g_strip_quoted_realnames:mg "_strip_quoted_realnames"=some (.ref 94)
 f_check_parenthesis:FnAt K 101 (en 7)
 g_check_parenthesis:mg "_check_parenthesis"=some (.ref 101)
 f_quotedata:FnAt K 118 (en 12)
 g_quotedata:mg "quotedata"=some (.ref 118)
 f_law_lexer:FnAt K 191 (en 16)
 g_law_lexer:mg "_law_lexer"=some (.ref 191)
 f_law_row:FnAt K 198 (en 17)
 g_law_row:mg "_law_row"=some (.ref 198)
 f_law_lead:FnAt K 203 (en 18)
 g_law_lead:mg "_law_lead"=some (.ref 203)
 f_law:FnAt K 208 (en 19)
 g_law:mg "law"=some (.ref 208)
 fL_init:FnAt K 52 (Fc 3 0)
 mL_init:mL "__init__"=some (.ref 52)
 fL_read_char:FnAt K 59 (Fc 3 1)
 mL_read_char:mL "_read_char"=some (.ref 59)
 fL_get_token:FnAt K 66 (Fc 3 2)
 mL_get_token:mL "get_token"=some (.ref 66)
 fL_push_token:FnAt K 73 (Fc 3 3)
 mL_push_token:mL "push_token"=some (.ref 73)
 fW_init:FnAt K 135 (Fc 14 1)
 mW_init:mW "__init__"=some (.ref 135)
 fW_equal:FnAt K 156 (Fc 14 4)
 mW_equal:mW "equal"=some (.ref 156)
 cL:fj K 76 mL
 aL:∀j,j≤9->mL (an j)=none
 g_netrclex:mg "_netrclex"=some (.ref 76)
 cW:fj K 180 mW
 aW:∀j,j≤9->mW (an j)=none
 g_Whitespace:mg "Whitespace"=some (.ref 180)
 p_re1:∀h,TopOK K h->Pat h 106 105 d9
 p_re2:∀h,TopOK K h->Pat h 111 110 code2
 g_re1:mg "_twin_re_1"=some (.ref 106)
 g_re2:mg "_twin_re_2"=some (.ref 111)
 g_CRLF:mg "CRLF"=some (.str "\r\n" tC)
 cX:∀h,TopOK K h->Kf.In h
 cR:readsIn Kf 180 mc=true
 c_S:findCls Kf (.ref 180) mc "S"=some (.val (.str " " tS))
 c_T:findCls Kf (.ref 180) mc "T"=some (.val (.str "\t" tT))
 fc_law_lexer:∃o q pm doc,K 191=some o∧o.cls=.type "function"∧o.data=.func (mz (en 16) q pm (.ref 190) doc)∧∀h,TopOK K h->h.CodeRec (.ref 190) q
 hC:∀h,TopOK K h->CodeHd h 190 186
 hB:∀h,TopOK K h->h.BuiltinsAt mg 186
theorem Tl {P:Nat->Prop} (h:P 0):∀j,j≤0->P j:=λ_ q=>Nat.le_zero.mp q▸h
theorem xr {P:Nat->Prop} {n:Nat} (h:∀j,j≤n->P j) (k:P (n+1)):∀j,j≤n+1->P j:=λj q=>(Nat.lt_or_eq_of_le q).elim (λq=>h j (Nat.le_of_lt_succ q)) λe=>e▸k
theorem le9 {P:Nat->Prop} (h0:P 0) (h1:P 1) (h2:P 2) (h3:P 3) (h4:P 4) (h5:P 5) (h6:P 6) (h7:P 7) (h8:P 8) (h9:P 9):∀j,j≤9->P j:=xr (xr (xr (xr (xr (xr (xr (xr (xr (Tl h0) h1) h2) h3) h4) h5) h6) h7) h8) h9
noncomputable def Kr (P N a:Addr):Bool:=!(a==P)&&decide (a < N)
noncomputable def K0 (P N:Addr) (h:Heap):Addr->Option Obj:=λa=>if Kr P N a then h.get? a else none
noncomputable def Tk (o:Option Obj):Array DictEntry:=match o with
 | some ⟨_,_,.dict es _,_⟩=>es
 | _=>#[]
noncomputable def tokO:Option Value->Tok
 | some (.str _ t)=>t
 | _=>0
noncomputable def nsT {h:Heap} {t:PySem.W.X.KT} (_:PySem.W.X.KT.Holds h 1 0 t) (a:Addr):Str->Option Value:=nsFind (Tk (t.get a))
section
variable {h h':Heap} {P N:Addr}
noncomputable def fragT {Kf:Frag} (_:Kf.In h) (P N:Addr):Frag:=Kf.filter λq=>Kr P N q.1
theorem K0_eq {a:Addr} (e:Kr P N a=true):K0 P N h a=h.get? a:=if_pos e
theorem top_get {a:Addr} {o:Obj} (x:TopOK (K0 P N h) h') (e:h.get? a=some o) (ha:Kr P N a=true):h'.get? a=some o:=x a o ((K0_eq ha).symm▸e)
theorem M8:TopOK (K0 P N h) h:=λa o e=>by
 unfold K0 at e
 split at e
 ·exact e
 ·exact al e
theorem Ns_top {a:Addr} {m:Str->Option Value} (n:h.Ns a m) (ha:Kr P N a=true) (x:TopOK (K0 P N h) h'):h'.Ns a m:=by
 obtain ⟨o,es,ep,ho,r⟩:=n
 exact ⟨o,es,ep,top_get x ho ha,r⟩
theorem Ns_at {a:Addr} {m:Str->Option Value} (n:h.Ns a m) {o:Obj} {es:Array DictEntry} {ep:Nat} (e:h.get? a=some o) (hd:o.data=.dict es ep) (x:Str):m x=nsFind es x:=by
 refine cps λ_ KK=>?_
 obtain ⟨o',es',ep',ho,hd',_,r⟩:=n
 refine KK ?_
 replace ho:=e▸ho
 cases ho
 replace hd':=hd▸hd'
 cases hd'
 exact (r x).symm
noncomputable def Gg (es:Array DictEntry):Bool:=es.toList.all λe=>match e.key with
 | .str _ _=>true
 | _=>false
theorem Ns_of {a:Addr} {o:Obj} {es:Array DictEntry} {ep:Nat} (e:h.get? a=some o) (hd:o.data=.dict es ep) (hk:Gg es=true):h.Ns a (nsFind es):=by
 refine ⟨o,es,ep,e,hd,λx hx=>?_,λ_=>rfl⟩
 have:=List.all_eq_true.mp hk x (Array.mem_toList_iff.mpr hx)
 revert this
 cases x.key<;>intro q<;>first | exact ⟨_,_,rfl⟩ | cases q
theorem FnAt_of {a c:Addr} {o oc:Obj} {st:Stmt} {q:Str} {pm doc:Value} {vs:Array Value} {tq:Tok} (e:h.get? a=some o) (ha:Kr P N a=true) (hc:o.cls=.type "function") (hd:o.data=.func (mz st q pm (.ref c) doc)) (e2:h.get? c=some oc) (hc2:Kr P N c=true) (hv:oc.data=.fields vs) (hq:vs[1]?=some (.str q tq)):FnAt (K0 P N h) a st :=
 ⟨o,q,pm,c,doc,(K0_eq ha).trans e,hc,hd,λh' x=>⟨c,oc,vs,tq,rfl,top_get x e2 hc2,hv,hq⟩⟩
theorem io {α:Type} (p:Nat->Bool):∀(l:List (Nat×α)) (a:Nat) (o:α),(l.filter λq=>p q.1).lookup a=some o->p a=true∧l.lookup a=some o
 | [],_,_,e=>al e
 | (b,x)::l,a,o,e=>by
  cases hb:p b with
  | false =>
   rw [List.filter_cons_of_neg (p:=λq:Nat×α=>p q.1) (a:=(b,x)) (hb.symm▸(Bool.false_ne_true))] at e
   obtain ⟨h1,h2⟩:=io p l a o e
   refine ⟨h1,?_⟩
   rw [List.lookup_cons]
   have:(a==b)=false:=by
    rw [beq_eq_false_iff_ne]
    intro q
    replace h1:=hb▸q▸h1
    exact C1 h1
   refine this.symm▸?_
   exact h2
  | true =>
   rw [List.filter_cons_of_pos (p:=λq:Nat×α=>p q.1) (a:=(b,x)) hb,List.lookup_cons] at e
   rw [List.lookup_cons]
   cases hq:a==b with
   | true =>
    replace e:=hq▸e
    refine (eq_of_beq hq).symm▸?_
    exact ⟨hb,e⟩
   | false =>
    replace e:=hq▸e
    exact io p l a o e
theorem Frag_of {Kf:Frag} (x:Kf.In h):∀h',TopOK (K0 P N h) h'->Frag.In (fragT x P N) h':=λh' t a o e=>by
 obtain ⟨h1,h2⟩:=io (Kr P N) Kf a o e
 exact top_get t (x a o h2) h1
theorem y6:∀{vs:List Value} {xs:List Int},IntsAre vs xs->RDs h vs (xs.map .int) []
 | _,_,.nil=>.nil
 | _,_,.cons n t e=>.cons (.int n t) (y6 e)
theorem join_end {p:Program} {w:World} {s_1:Shared} {f L:Addr} {c:ClaimW} {cl:Str->Option Addr} {mean:ExcName->Option Value} {args:List WData} {G:FnF} {script:List Int} {its:Array Value} {k:Nat} (hk:k≤100) (hf:FnOK p w (K0 P N s_1.heap) f k G)
  (hG:G [.dat (.list (script.map .int))] [.tab P true]=some (.dat (.bool true),[.tab P false])) (h1:s_1.heap.get? P=some (PySem.W.X.tableObj #[])) (hPL:P≠L) (hLN:N≤L) (ht:isCodeTable s_1.heap P)
  (h2:s_1.heap.get? L=some { cls:=.type "list",data:=.seq its }) (hi:IntsAre its.toList script) (hb:AllBare s_1.gens) (hr:∀cls,c.raises args cls=false) (hp:c.post args (.bool true) args=true) :
  wpAny (model p w) callerA (call (.ref f) [.ref L]) (λv s'=>GoodWG c cl mean args s_1 (.ok (.ret v)) s') (λe s'=>GoodWG c cl mean args s_1 (.error e) s') s_1:=by
 have H:HR [(P,P)] [] [.tab P true] s_1.heap:=⟨rfl,by simp,λ_ _ h=>(nomatch h),λ_ h=>(ck h),λi mo e=>by
  match i,e with
  | 0,e=>cases e; exact ⟨P,P,rfl,rfl,rfl,#[],h1,λ_=>rfl⟩⟩
 have V:VRs [(P,P)] [] s_1.heap [.dat (.list (script.map .int))] [.ref L]:=by
  refine .cons ⟨[L],.list h2 rfl rfl rfl rfl (y6 hi),λa ha=>⟨λm=>?_,λm=>(ck m)⟩⟩ .nil
  simp at ha m
  exact hPL (m.symm.trans ha)
 have off:l4 (K0 P N s_1.heap) [(P,P)] []:=λa ha=>⟨λm=>by
  simp at m
  refine ha ?_
  unfold K0 Kr
  refine m.symm▸?_
  simp,λm=>(ck m)⟩
 refine wpAny_mono (hf.run callerA [(P,P)] [] _ s_1 _ _ _ _ ⟨rfl,?_,?_⟩ H M8 off V hG) (λv s' q=>?_) λ_ _ q=>q.elim
 ·show 1+claimMargin+k < 900
  have:claimMargin≤700:=by decide
  lia
 ·show 4+40*k < 9000
  lia
 ·obtain ⟨ρ',x,⟨as,rv,_⟩,H'⟩:=q
  cases rv
  refine ⟨.inl ⟨_,_,[],rfl,hr,ReadsW.bool true,hp,λ_=>⟨List.nodup_nil,λ_ hm=>(nomatch hm)⟩⟩,⟨λb o e=>?_,λb o e=>x.live b o e⟩,x.os,x.bare hb⟩
  by_cases hbP:b=P
  ·subst hbP
   obtain ⟨e',rfl,_⟩:=x.more
   obtain ⟨r,b',hρ,hm⟩:=H'.at_ 0 _ rfl
   cases hρ
   obtain ⟨_,_,vs,hv,_⟩:=hm
   replace e:=h1▸e
   cases e
   exact .inr (.inl ⟨ht,rfl,#[],vs,rfl,by rw [hv]; simp [PySem.W.X.tableObj]⟩)
  ·exact .inl (x.heap b o (λm=>by simp at m; exact hbP m) (λm=>(ck m)) e)
end
end Mine
end
section
open PySem PySem.Calls PySem.W PyProof.Rows PySem.W.X PySem.W.ZRun
def Mine.Q2:Prop:=∃F:Mine.FnF,(∀{prog:Program} {w:World} {K:Addr->Option Obj} {mg mb:Str->Option Value},Mine.Tab K mg mb->Mine.FnOK prog w K 208 9 F)∧∀script:List Int,script.length≤63->F [.dat (.list (script.map .int))] [.tab 186 true]=some (.dat (.bool true),[.tab 186 false])
theorem Mine.useQ {A B:Prop} (q:A) (k:A->B):B:=k q
section
local macro_rules
 | `(tactic| refine $f:ident $args*) =>
  if f.getId.eraseMacroScopes==`PySem.W.holds_openX&&(args.back?.map λa=>a.raw.isOfKind `Lean.Parser.Term.syntheticHole).getD false then do
   let a:Lean.TSyntax `term:=⟨args.back!.raw⟩
   let b ← `(Mine.useQ $(Lean.mkIdent `hQ) $a)
   let as:=args.pop.push ⟨b.raw⟩
   `(tactic| refine $f $as*)
  else Lean.Macro.throwUnsupported
set_option maxRecDepth 100000 in
set_option maxHeartbeats 8000000 in
theorem Mine.head2 (hQ:Mine.Q2):PySem.Challenge.rw_uc0022_02.Holds:=by
 w_on
 o_law
 z_head
 (case hw=>w_witness2)
 intro hQ
 k_fill
 intro w s_0 s_1 mg mb G y fa o pm cd doc dV kV ho hd hcd hD hmg hg args vals as L hpre hlay hrd hwl hlo
 z_open y L KX ZH ZN ZT
 refine Ground.open G ?_
 intro T B D TE TW
 wrow_args hpre hlay hrd hwl hlo
 obtain ⟨hat,hsz⟩:=script_at L
 have htk:=script_toks L ZT
 rw [ZN] at hat hsz
 subst hat
 x_fa T KX hmg
 have Gm:∀x,mg x=Mine.nsT ZH 3 x:=Mine.Ns_at T.g (kt_at ZH (a:=3) (o:=_) rfl) rfl
 have Bn:∀x,mb x=Mine.nsT ZH 0 x:=Mine.Ns_at T.b (kt_at ZH (a:=0) (o:=_) rfl) rfl
 obtain ⟨ml,nl1,zt⟩:=T.nolimit
 have ng:=T.g
 have nb:=T.b
 have Tb:Mine.Tab (Mine.K0 186 209 s_1.heap) mg mb:={
  mL:=Mine.nsT ZH 75
  mW:=Mine.nsT ZH 179
  Kf:=Mine.fragT KX 186 209
  mc:=.type "type"
  tC:=Mine.tokO (Mine.nsT ZH 3 "CRLF")
  tS:=Mine.tokO (Mine.nsT ZH 179 "S")
  tT:=Mine.tokO (Mine.nsT ZH 179 "T")
  gl:=⟨λ_ x=>Mine.Ns_top ng rfl x,λ_ x=>Mine.Ns_top nb rfl x,λ_ x=>⟨_,Mine.Ns_top nl1 rfl x,zt⟩⟩
  n_len:=(Gm _).trans (by kernel_rfl)
  b_len:=(Bn _).trans (by kernel_rfl)
  n_sum:=(Gm _).trans (by kernel_rfl)
  b_sum:=(Bn _).trans (by kernel_rfl)
  n_int:=(Gm _).trans (by kernel_rfl)
  b_int:=(Bn _).trans (by kernel_rfl)
  n_tuple:=(Gm _).trans (by kernel_rfl)
  b_tuple:=(Bn _).trans (by kernel_rfl)
  n_list:=(Gm _).trans (by kernel_rfl)
  b_list:=(Bn _).trans (by kernel_rfl)
  n_max:=(Gm _).trans (by kernel_rfl)
  b_max:=(Bn _).trans (by kernel_rfl)
  n_min:=(Gm _).trans (by kernel_rfl)
  b_min:=(Bn _).trans (by kernel_rfl)
  n_sorted:=(Gm _).trans (by kernel_rfl)
  b_sorted:=(Bn _).trans (by kernel_rfl)
  n_iter:=(Gm _).trans (by kernel_rfl)
  b_iter:=(Bn _).trans (by kernel_rfl)
  n_enumerate:=(Gm _).trans (by kernel_rfl)
  b_enumerate:=(Bn _).trans (by kernel_rfl)
  n_zip:=(Gm _).trans (by kernel_rfl)
  b_zip:=(Bn _).trans (by kernel_rfl)
  n_range:=(Gm _).trans (by kernel_rfl)
  b_range:=(Bn _).trans (by kernel_rfl)
  f_iter_escaped_chars:=Mine.FnAt_of (kt_at ZH (a:=87) (o:=_) rfl) rfl rfl rfl (kt_at ZH (a:=86) (o:=_) rfl) rfl rfl rfl
  g_iter_escaped_chars:=(Gm _).trans (by kernel_rfl)
  f_strip_quoted_realnames:=Mine.FnAt_of (kt_at ZH (a:=94) (o:=_) rfl) rfl rfl rfl (kt_at ZH (a:=93) (o:=_) rfl) rfl rfl rfl
  g_strip_quoted_realnames:=(Gm _).trans (by kernel_rfl)
  f_check_parenthesis:=Mine.FnAt_of (kt_at ZH (a:=101) (o:=_) rfl) rfl rfl rfl (kt_at ZH (a:=100) (o:=_) rfl) rfl rfl rfl
  g_check_parenthesis:=(Gm _).trans (by kernel_rfl)
  f_quotedata:=Mine.FnAt_of (kt_at ZH (a:=118) (o:=_) rfl) rfl rfl rfl (kt_at ZH (a:=117) (o:=_) rfl) rfl rfl rfl
  g_quotedata:=(Gm _).trans (by kernel_rfl)
  f_law_lexer:=Mine.FnAt_of (kt_at ZH (a:=191) (o:=_) rfl) rfl rfl rfl (kt_at ZH (a:=190) (o:=_) rfl) rfl rfl rfl
  g_law_lexer:=(Gm _).trans (by kernel_rfl)
  f_law_row:=Mine.FnAt_of (kt_at ZH (a:=198) (o:=_) rfl) rfl rfl rfl (kt_at ZH (a:=197) (o:=_) rfl) rfl rfl rfl
  g_law_row:=(Gm _).trans (by kernel_rfl)
  f_law_lead:=Mine.FnAt_of (kt_at ZH (a:=203) (o:=_) rfl) rfl rfl rfl (kt_at ZH (a:=202) (o:=_) rfl) rfl rfl rfl
  g_law_lead:=(Gm _).trans (by kernel_rfl)
  f_law:=Mine.FnAt_of (kt_at ZH (a:=208) (o:=_) rfl) rfl rfl rfl (kt_at ZH (a:=207) (o:=_) rfl) rfl rfl rfl
  g_law:=(Gm _).trans (by kernel_rfl)
  fL_init:=Mine.FnAt_of (kt_at ZH (a:=52) (o:=_) rfl) rfl rfl rfl (kt_at ZH (a:=51) (o:=_) rfl) rfl rfl rfl
  mL_init:=by kernel_rfl
  fL_read_char:=Mine.FnAt_of (kt_at ZH (a:=59) (o:=_) rfl) rfl rfl rfl (kt_at ZH (a:=58) (o:=_) rfl) rfl rfl rfl
  mL_read_char:=by kernel_rfl
  fL_get_token:=Mine.FnAt_of (kt_at ZH (a:=66) (o:=_) rfl) rfl rfl rfl (kt_at ZH (a:=65) (o:=_) rfl) rfl rfl rfl
  mL_get_token:=by kernel_rfl
  fL_push_token:=Mine.FnAt_of (kt_at ZH (a:=73) (o:=_) rfl) rfl rfl rfl (kt_at ZH (a:=72) (o:=_) rfl) rfl rfl rfl
  mL_push_token:=by kernel_rfl
  fW_init:=Mine.FnAt_of (kt_at ZH (a:=135) (o:=_) rfl) rfl rfl rfl (kt_at ZH (a:=134) (o:=_) rfl) rfl rfl rfl
  mW_init:=by kernel_rfl
  fW_equal:=Mine.FnAt_of (kt_at ZH (a:=156) (o:=_) rfl) rfl rfl rfl (kt_at ZH (a:=155) (o:=_) rfl) rfl rfl rfl
  mW_equal:=by kernel_rfl
  cL:=⟨⟨_,_,75,_,_,_,_,_,_,_,_,_,_,(Mine.K0_eq rfl).trans (kt_at ZH (a:=76) (o:=_) rfl),λ_ x=>Mine.Ns_top (Mine.Ns_of (kt_at ZH (a:=75) (o:=_) rfl) rfl (by kernel_rfl)) rfl x⟩,by kernel_rfl,by kernel_rfl,by kernel_rfl⟩
  aL:=Mine.le9 (by kernel_rfl) (by kernel_rfl) (by kernel_rfl) (by kernel_rfl) (by kernel_rfl) (by kernel_rfl) (by kernel_rfl) (by kernel_rfl) (by kernel_rfl) (by kernel_rfl)
  g_netrclex:=(Gm _).trans (by kernel_rfl)
  cW:=⟨⟨_,_,179,_,_,_,_,_,_,_,_,_,_,(Mine.K0_eq rfl).trans (kt_at ZH (a:=180) (o:=_) rfl),λ_ x=>Mine.Ns_top (Mine.Ns_of (kt_at ZH (a:=179) (o:=_) rfl) rfl (by kernel_rfl)) rfl x⟩,by kernel_rfl,by kernel_rfl,by kernel_rfl⟩
  aW:=Mine.le9 (by kernel_rfl) (by kernel_rfl) (by kernel_rfl) (by kernel_rfl) (by kernel_rfl) (by kernel_rfl) (by kernel_rfl) (by kernel_rfl) (by kernel_rfl) (by kernel_rfl)
  g_Whitespace:=(Gm _).trans (by kernel_rfl)
  p_re1:=λ_ x=>⟨_,_,_,_,_,_,_,_,_,_,Mine.top_get x (kt_at ZH (a:=106) (o:=_) rfl) rfl,rfl,rfl,rfl,Mine.top_get x (kt_at ZH (a:=105) (o:=_) rfl) rfl,rfl,by kernel_rfl⟩
  g_re1:=(Gm _).trans (by kernel_rfl)
  p_re2:=λ_ x=>⟨_,_,_,_,_,_,_,_,_,_,Mine.top_get x (kt_at ZH (a:=111) (o:=_) rfl) rfl,rfl,rfl,rfl,Mine.top_get x (kt_at ZH (a:=110) (o:=_) rfl) rfl,rfl,by kernel_rfl⟩
  g_re2:=(Gm _).trans (by kernel_rfl)
  g_CRLF:=(Gm _).trans (by kernel_rfl)
  cX:=Mine.Frag_of KX
  cR:=by kernel_rfl
  c_S:=by kernel_rfl
  c_T:=by kernel_rfl
  fc_law_lexer:=⟨_,_,_,_,(Mine.K0_eq rfl).trans (kt_at ZH (a:=191) (o:=_) rfl),rfl,rfl,λ_ x=>⟨190,_,_,_,rfl,Mine.top_get x (kt_at ZH (a:=190) (o:=_) rfl) rfl,rfl,rfl⟩⟩
  hC:=λ_ x=>⟨_,_,_,_,_,_,_,_,_,Mine.top_get x (kt_at ZH (a:=190) (o:=_) rfl) rfl,rfl,rfl,rfl,rfl,rfl,rfl,rfl,rfl,by decide⟩
  hB:=λ_ x=>⟨4,_,(Gm _).trans (by kernel_rfl),by decide,by decide,by decide,Mine.top_get x (kt_at ZH (a:=4) (o:=_) rfl) rfl,rfl,rfl,rfl⟩
 }
 rename IntsAre _ _=>hI
 rename Heap.IsList _ _ _=>hLs
 refine hQ.elim λF hF=>?_
 refine Mine.join_end (P:=186) (N:=209) (k:=9) (by decide) (hF.1 Tb) (hF.2 _ (by omega)) (kt_at ZH (a:=186) (o:=_) rfl) (by decide) (by decide) ⟨190,_,_,kt_at ZH (a:=190) (o:=_) rfl,rfl,rfl,rfl⟩ (script_obj L hLs) hI (AllBare.of_eq hg) (λ_=>rfl) ?_
 first | rfl | wrow_post
end
end
section
open PySem PySem.Calls PySem.W PyProof.Rows
namespace Mine
theorem O0 {α:Type} {x:α} {C:Prop} (h:some x=none):C:=nomatch h
theorem Sn {C:Prop} (h:true=false):C:=nomatch h
theorem Qm {α:Type} {a:α} {l:List α} {C:Prop} (h:a::l=[]):C:=nomatch h
theorem Rp {α:Type} {a:α} {l:List α} {C:Prop} (h:[]=a::l):C:=nomatch h
theorem zz {i:Int} {n:Nat} (h:i.natAbs≤n):-(n:Int)≤i:=Int.neg_le_of_neg_le (Int.le_trans (Int.natAbs_neg i▸Int.le_natAbs (a:=-i)) (Int.ofNat_le.mpr h))
theorem vr {i:Int} {n:Nat} (h:i.natAbs≤n):i≤(n:Int):=Int.le_trans Int.le_natAbs (Int.ofNat_le.mpr h)
theorem Q7 {a i n:Nat} (h:a - i=n+1):a - (i+1)=n:=congrArg Nat.pred h
theorem Tj {a i:Nat} (h1:i≤a) (h:a - i=0):i=a:=Nat.le_antisymm h1 (Nat.le_of_sub_eq_zero h)
theorem Si {n p e f:Nat} (h:n - p < f+1) (h1:p < e) (h2:e≤n):n - e < f:=Nat.lt_of_lt_of_le (Nat.sub_lt_sub_left (Nat.lt_of_lt_of_le h1 h2) h1) (Nat.le_of_lt_succ h)
theorem Sh {a b k c:Nat} (h:a+40*(k+1) < c) (hb:b≤40):a+b+40*k < c:=Nat.lt_of_le_of_lt (by rw [Nat.mul_succ,Nat.add_comm (40*k),← Nat.add_assoc]; exact Nat.add_le_add_right (Nat.add_le_add_left hb a) _) h
theorem Qt {s b:Nat} (h:s+1≤b):b - s=b - (s+1)+1:=(Nat.succ_pred (Nat.sub_ne_zero_of_lt h)).symm
theorem T4 {b c:Nat} (h:c≤b):c+(b - c+1)=b+1:=congrArg (·+1) (Nat.add_sub_of_le h)
theorem b9 {α:Type} {x y:α} (h:some x=some y):x=y:=Option.some.inj h
theorem cq {α β:Type} {a c:α} {b d:β} (h:some (a,b)=some (c,d)):a=c∧b=d:=Prod.mk.inj (Option.some.inj h)
theorem c8 {a:Addr} {P:Addr->Prop} (h:P a):∀b∈[a],P b:=λ_ hb=>List.mem_singleton.mp hb▸h
theorem ri {a:Addr} {l:List Addr} {P:Addr->Prop} (h:P a) (k:∀b∈l,P b):∀c∈a::l,P c:=λc hc=>(List.mem_cons.mp hc).elim (λe=>e▸h) (k c)
theorem ip {a b:Addr} {P:Addr->Prop} (h1:P a) (h2:P b):∀c∈[a,b],P c:=λc hc=>(List.mem_cons.mp hc).elim (λe=>e▸h1) (c8 h2 c)
theorem gn {α:Type} {c:Prop} [Decidable c] {o:Option α} {y:α} {C:Prop} (e:(if c then o else none)=some y) (k:c->o=some y->C):C:=by
 by_cases h:c
 ·rw [if_pos h] at e; exact k h e
 ·rw [if_neg h] at e; exact al e
theorem ay {α:Type} {c:Prop} [Decidable c] {x:α} {y:α} {C:Prop} (e:(if c then some x else none)=some y) (k:c->x=y->C):C:=gn e λh e=>k h (b9 e)
theorem RD.ind {h:Heap} {P:Value->PyData->List Addr->Prop} {Q:List Value->List PyData->List Addr->Prop} (p0:P .none .none []) (p1:∀b,P (.bool b) (.bool b) []) (p2:∀i t,P (.int i t) (.int i) []) (p3:∀x t,PyData.strOk x=true->P (.str x t) (.str x) [])
  (p4:∀{a o vs n xs as},h.get? a=some o->o.cls=.type "list"->o.dict=Option.none->o.slots=#[]->o.data=.seq vs n->Q vs.toList xs as->P (.ref a) (.list xs) (a::as))
  (p5:∀{a o vs n xs as},h.get? a=some o->o.cls=.type "tuple"->o.data=.seq vs n->Q vs.toList xs as->P (.ref a) (.tuple xs) (a::as))
  (q0:Q [] [] []) (q1:∀{v vs d ds as bs},P v d as->Q vs ds bs->Q (v::vs) (d::ds) (as++bs)):(∀{v d as},RD h v d as->P v d as)∧∀{v d as},RDs h v d as->Q v d as :=
 ⟨λr=>RD.rec (motive_1:=λv d as _=>P v d as) (motive_2:=λv d as _=>Q v d as) p0 p1 p2 p3 (λe c d u q _ ih=>p4 e c d u q ih) (λe c q _ ih=>p5 e c q ih) q0 (λ_ _ a b=>q1 a b) r,
  λr=>RDs.rec (motive_1:=λv d as _=>P v d as) (motive_2:=λv d as _=>Q v d as) p0 p1 p2 p3 (λe c d u q _ ih=>p4 e c d u q ih) (λe c q _ ih=>p5 e c q ih) q0 (λ_ _ a b=>q1 a b) r⟩
noncomputable def uw (h h':Heap) (as:List Addr):Prop:=∀a∈as,∀o,h.get? a=some o->h'.get? a=some o
theorem RD.keep2 (h h':Heap):(∀{v d as},RD h v d as->uw h h' as->RD h' v d as)∧∀{v d as},RDs h v d as->uw h h' as->RDs h' v d as :=
 RD.ind (P:=λv d as=>uw h h' as->RD h' v d as) (Q:=λv d as=>uw h h' as->RDs h' v d as) (λ_=>.none) (λb _=>.bool b) (λi t _=>.int i t) (λx t q _=>.str x t q)
  (λe c d u q ih k=>.list (k _ (List.mem_cons_self ..) _ e) c d u q (ih λa ha=>k a (List.mem_cons_of_mem _ ha))) (λe c q ih k=>.tuple (k _ (List.mem_cons_self ..) _ e) c q (ih λa ha=>k a (List.mem_cons_of_mem _ ha)))
  (λ_=>.nil) λx r k=>.cons (x λa ha=>k a (List.mem_append_left _ ha)) (r λa ha=>k a (List.mem_append_right _ ha))
theorem RD.keep {h h':Heap} {v d as} (r:RD h v d as) (k:∀a∈as,∀o,h.get? a=some o->h'.get? a=some o):RD h' v d as:=(RD.keep2 h h').1 r k
theorem RDs.keep {h h':Heap} {v d as} (r:RDs h v d as) (k:∀a∈as,∀o,h.get? a=some o->h'.get? a=some o):RDs h' v d as:=(RD.keep2 h h').2 r k
noncomputable def Live (h:Heap) (as:List Addr):Prop:=∀a∈as,∃o,h.get? a=some o
theorem Live.nil {h:Heap}:Live h []:=λ_ h=>(ck h)
theorem Live.cons {h:Heap} {a:Addr} {o:Obj} {as:List Addr} (e:h.get? a=some o) (l:Live h as):Live h (a::as):=λb hb=>(List.mem_cons.mp hb).elim (λq=>⟨o,q▸e⟩) (l b)
theorem Live.append {h:Heap} {as bs:List Addr} (x:Live h as) (y:Live h bs):Live h (as++bs):=λb hb=>(List.mem_append.mp hb).elim (x b) (y b)
theorem RD.live2 (h:Heap):(∀{v d as},RD h v d as->Live h as)∧∀{v d as},RDs h v d as->Live h as :=
 RD.ind (P:=λ_ _ as=>Live h as) (Q:=λ_ _ as=>Live h as) .nil (λ_=>.nil) (λ_ _=>.nil) (λ_ _ _=>.nil) (λe _ _ _ _ ih=>.cons e ih) (λe _ _ ih=>.cons e ih) .nil λx r=>x.append r
theorem RD.live {h:Heap} {v d as} (r:RD h v d as):∀a∈as,∃o,h.get? a=some o:=(RD.live2 h).1 r
theorem RDs.live {h:Heap} {v d as} (r:RDs h v d as):∀a∈as,∃o,h.get? a=some o:=(RD.live2 h).2 r
theorem RD.reads2 (h:Heap):(∀{v d as},RD h v d as->∃bs,Reads h v d bs)∧∀{v d as},RDs h v d as->∃bs,ReadsAll h v d bs :=
 RD.ind (P:=λv d _=>∃bs,Reads h v d bs) (Q:=λv d _=>∃bs,ReadsAll h v d bs) ⟨_,.none⟩ (λb=>⟨_,.bool b⟩) (λi t=>⟨_,.int i t⟩) (λx t _=>⟨_,.str x t⟩) (λe c _ _ q ih=>ih.elim λ_ r=>⟨_,.list e c q r⟩) (λe c q ih=>ih.elim λ_ r=>⟨_,.tuple e c q r⟩)
  ⟨_,.nil⟩ λx r=>x.elim λ_ x=>r.elim λ_ r=>⟨_,.cons x r⟩
theorem RD.reads {h:Heap} {v d as} (r:RD h v d as):∃bs,Reads h v d bs:=(RD.reads2 h).1 r
theorem RDs.ind {h:Heap} {Q:List Value->List PyData->List Addr->Prop} (q0:Q [] [] []) (q1:∀{v vs d ds as bs},RD h v d as->RDs h vs ds bs->Q vs ds bs->Q (v::vs) (d::ds) (as++bs)) {v d as} (r:RDs h v d as):Q v d as :=
 RDs.rec (motive_1:=λ_ _ _ _=>True) (motive_2:=λv d as _=>Q v d as) trivial (λ_=>trivial) (λ_ _=>trivial) (λ_ _ _=>trivial) (λ_ _ _ _ _ _ _=>trivial) (λ_ _ _ _ _=>trivial) q0 (λx r _ ih=>q1 x r ih) r
theorem RDs.length {h:Heap} {v d as} (r:RDs h v d as):v.length=d.length:=RDs.ind (Q:=λv d _=>v.length=d.length) rfl (λ_ _ ih=>congrArg (·+1) ih) r
theorem RDs.append {h:Heap} {v d as w e bs} (r:RDs h v d as) (r2:RDs h w e bs):RDs h (v++w) (d++e) (as++bs) :=
 RDs.ind (Q:=λv d as=>RDs h (v++w) (d++e) (as++bs)) r2 (λx _ ih=>(List.append_assoc _ _ bs).symm▸.cons x ih) r
theorem RDs.get {h:Heap} {v d as} (r:RDs h v d as):∀(i:Nat) (x:PyData),d[i]?=some x->∃y bs,v[i]?=some y∧RD h y x bs∧∀a∈bs,a∈as :=
 RDs.ind (Q:=λv d as=>∀(i:Nat) (x:PyData),d[i]?=some x->∃y bs,v[i]?=some y∧RD h y x bs∧∀a∈bs,a∈as) (λ_ _ e=>al e)
  (λ{v vs d ds as bs} y _ ih i x e=>match i,e with
   | 0,e=>⟨v,as,rfl,Option.some.inj e▸y,λa ha=>List.mem_append_left _ ha⟩
   | i+1,e=>(ih i x e).elim λz q=>q.elim λcs q=>⟨z,cs,q.1,q.2.1,λa ha=>List.mem_append_right _ (q.2.2 a ha)⟩) r
theorem Ext.refl (X:List Addr) (ρ:av) (s:Shared):Ext X ρ s ρ s:=⟨⟨[],by simp,λ_ h=>ck h⟩,λ_ _ _ _ e=>e,λ_ o e=>⟨o,e⟩,rfl,rfl,λ_ _ e=>e,λh=>h⟩
theorem Ext.of_keep {X:List Addr} {ρ:av} {s:Shared} {h:Heap} {t:Nat} (k:∀b o,s.heap.get? b=some o->h.get? b=some o):Ext X ρ s ρ { s with heap:=h,toks:=t } :=
 ⟨⟨[],by simp,λ_ h=>ck h⟩,λb o _ _ e=>k b o e,λb o e=>⟨o,k b o e⟩,rfl,rfl,λ_ _ e=>e,λh=>h⟩
section
variable {X:List Addr} {ρ ρ' ρ_0 ρ_1 ρ_2:av} {s s' s_0 s_1 s_2:Shared} {Z:List Addr}
theorem Ext.mem (x:Ext X ρ s ρ' s') {b:Addr} (h:b∈ax ρ'):b∈ax ρ∨s.heap.get? b=none:=by
 obtain ⟨e,rfl,he⟩:=x.more
 simp only [ax,List.map_append,List.mem_append] at h ⊢
 rcases h with q | q
 ·exact .inl q
 ·obtain ⟨p,hp,rfl⟩:=List.mem_map.mp q
  exact .inr (he p hp)
theorem Ext.notin (x:Ext X ρ s ρ' s') {b:Addr} {o:Obj} (hb:s.heap.get? b=some o) (h:b∉ax ρ):b∉ax ρ':=λq=>by
 rcases x.mem q with q | q
 ·exact h q
 ·rw [hb] at q; cases q
theorem Ext.old (x:Ext X ρ s ρ' s') {i:Nat} {p:Addr×Addr} (h:ρ[i]?=some p):ρ'[i]?=some p:=by
 obtain ⟨e,rfl,_⟩:=x.more
 rw [List.getElem?_append_left]
 ·exact h
 ·exact (List.getElem?_eq_some_iff.mp h).1
theorem Ext.weak {Y:List Addr} (x:Ext X ρ s ρ' s') (h:∀a∈X,a∈Y):Ext Y ρ s ρ' s':=⟨x.more,λb o hm hy e=>x.heap b o hm (λq=>hy (h b q)) e,x.live,x.drawn,x.os,x.gens,x.bare⟩
theorem Ext.trans (x:Ext X ρ_0 s_0 ρ_1 s_1) (y:Ext X ρ_1 s_1 ρ_2 s_2):Ext X ρ_0 s_0 ρ_2 s_2:=by
 refine ⟨?_,λb o h hX e=>y.heap b o (x.notin e h) hX (x.heap b o h hX e),λb o e=>?_,y.drawn.trans x.drawn,y.os.trans x.os,λg st e=>y.gens g st (x.gens g st e),λh=>y.bare (x.bare h)⟩
 ·obtain ⟨e,rfl,he⟩:=x.more
  obtain ⟨e',rfl,he'⟩:=y.more
  refine ⟨e++e',by rw [List.append_assoc],λp hp=>?_⟩
  rcases List.mem_append.mp hp with hp | hp
  ·exact he p hp
  ·cases q:s_0.heap.get? p.2 with
   | none=>rfl
   | some o =>
    obtain ⟨o',q'⟩:=x.live _ _ q
    rw [he' p hp] at q'
    exact al q'
 ·obtain ⟨o',e'⟩:=x.live b o e
  exact y.live b o' e'
theorem Ext.shrink {Y:List Addr} (x:Ext X ρ s ρ' s') (h:∀a∈X,a∈Y∨s.heap.get? a=none):Ext Y ρ s ρ' s':=⟨x.more,λb o hm hy e=>x.heap b o hm (λq=>by
 rcases h b q with q | q
 ·exact hy q
 ·rw [e] at q; cases q) e,x.live,x.drawn,x.os,x.gens,x.bare⟩
theorem Ns.keep {h h':Heap} {a:Addr} {m:Str->Option Value} (x:h.Ns a m) (k:∀o,h.get? a=some o->h'.get? a=some o):h'.Ns a m:=x.elim λo q=>q.elim λes q=>q.elim λep q=>⟨o,es,ep,k o q.1,q.2⟩
theorem Ns.live {h:Heap} {a:Addr} {m:Str->Option Value} (x:h.Ns a m):∃o,h.get? a=some o:=x.elim λo q=>q.elim λ_ q=>q.elim λ_ q=>⟨o,q.1⟩
theorem CodeRec.keep {h h':Heap} {a:Addr} {q:Str} (x:h.CodeRec (.ref a) q) (k:∀o,h.get? a=some o->h'.get? a=some o):h'.CodeRec (.ref a) q:=by
 obtain ⟨c,o,vs,t,e,h1,h2⟩:=x
 have e:=Value.ref.inj e
 exact ⟨a,o,vs,t,rfl,k o (e▸h1),h2⟩
theorem CodeRec.live {h:Heap} {a:Addr} {q:Str} (x:h.CodeRec (.ref a) q):∃o,h.get? a=some o:=by
 refine cps λ_ KK=>?_
 obtain ⟨c,o,vs,t,e,h1,h2⟩:=x
 refine KK ?_
 have e:=Value.ref.inj e
 exact ⟨o,e▸h1⟩
theorem IsCell.keep {h h':Heap} {a:Addr} {v:Option Value} (x:h.IsCell a v) (k:∀o,h.get? a=some o->h'.get? a=some o):h'.IsCell a v:=x.elim λo q=>⟨o,k o q.1,q.2⟩
theorem Strm.live {h:Heap} {a g:Addr} {fs:List Addr} (x:Strm h a g fs):∀b∈fs,∃o,h.get? b=some o:=by
 refine cps λ_ KK=>?_
 obtain ⟨o,o_1,d,r,c,cc,fd,hfs,ho,_,_,_,hn,hr,_,_,_,hc,hcc⟩:=x.ex
 refine KK ?_
 rw [hfs]
 refine cps λ_ KK=>?_
 obtain ⟨_,hd⟩:=Ns.live hn
 obtain ⟨_,hc,_⟩:=hc
 obtain ⟨_,hcc⟩:=CodeRec.live hcc
 refine KK ?_
 exact Live.cons ho (.cons hd (.cons hr (.cons hc (.cons hcc .nil))))
theorem Strm.keep {h h':Heap} {a g:Addr} {fs:List Addr} (x:Strm h a g fs) (k:∀a∈fs,∀o,h.get? a=some o->h'.get? a=some o):Strm h' a g fs:=by
 obtain ⟨o,o_1,d,r,c,cc,fd,hfs,ho,ho1,ho2,ho3,hn,hr,hr1,hr2,hr3,hc,hcc⟩:=x.ex
 have k':uw h h' [a,d,r,c,cc]:=hfs▸k
 have m:∀(l:List Addr) (b:Addr),b∈b::l:=λl b=>List.mem_cons_self ..
 have m1:∀{l:List Addr} {b c:Addr},b∈l->b∈c::l:=λh=>List.mem_cons_of_mem _ h
 exact ⟨⟨o,o_1,d,r,c,cc,fd,hfs,k' _ (m _ _) _ ho,ho1,ho2,ho3,Ns.keep hn (k' _ (m1 (m _ _))),k' _ (m1 (m1 (m _ _))) _ hr,hr1,hr2,hr3,IsCell.keep hc (k' _ (m1 (m1 (m1 (m _ _))))),CodeRec.keep hcc (k' _ (m1 (m1 (m1 (m1 (m _ _))))))⟩⟩
noncomputable def Moves (ρ ρ':av) (Z Z':List Addr) (h h':Heap):Prop:=∀a o,a∉ax ρ->a∉Z->h.get? a=some o->h'.get? a=some o∧a∉ax ρ'∧a∉Z'
theorem Moves.foot {ρ ρ':av} {Z Z':List Addr} {h h':Heap} (k:Moves ρ ρ' Z Z' h h') {as:List Addr} (l:∀a∈as,∃o,h.get? a=some o) (q:∀a∈as,a∉ax ρ∧a∉Z):uw h h' as∧∀a∈as,a∉ax ρ'∧a∉Z' :=
 ⟨λa ha o e=>(k a o (q a ha).1 (q a ha).2 e).1,λa ha=>(l a ha).elim λo e=>(k a o (q a ha).1 (q a ha).2 e).2⟩
theorem VR.map {ρ ρ':av} {Z Z':List Addr} {h h':Heap} (hρ:∀(i:Nat) q,ρ[i]?=some q->ρ'[i]?=some q) (k:Moves ρ ρ' Z Z' h h') {p:PV} {v:Value} (x:VR ρ Z h p v):VR ρ' Z' h' p v:=by
 cases p with
 | dat d =>
  obtain ⟨as,r,q⟩:=x
  have f:=k.foot r.live q
  exact ⟨as,r.keep f.1,f.2⟩
 | obj i =>
  obtain ⟨r,b,e,hv⟩:=x
  exact ⟨r,b,hρ _ _ e,hv⟩
 | strm i =>
  obtain ⟨r,b,a,fs,e,hv,hs,q⟩:=x
  have f:=k.foot hs.live q
  exact ⟨r,b,a,fs,hρ _ _ e,hv,hs.keep f.1,f.2⟩
 | objs lst l =>
  obtain ⟨a,o,vs,n,e,ho,h1,h2,h3,h4,h5,h6⟩:=x
  have f:=k a o h5 h6 ho
  exact ⟨a,o,vs,n,e,f.1,h1,h2,h3,λj i hj=>(h4 j i hj).elim λx q=>q.elim λy q=>⟨x,y,q.1,hρ _ _ q.2⟩,f.2.1,f.2.2⟩
theorem Ext.moves (x:Ext X ρ s ρ' s') (hX:∀a∈X,a∈Z):Moves ρ ρ' Z Z s.heap s'.heap:=λa _ h1 h2 e=>⟨x.heap a _ h1 (λq=>h2 (hX a q)) e,x.notin e h1,h2⟩
theorem VR.ext (x:Ext X ρ s ρ' s') (hX:∀a∈X,a∈Z) {p:PV} {v:Value} (r:VR ρ Z s.heap p v):VR ρ' Z s'.heap p v:=VR.map (λ_ _ e=>x.old e) (x.moves hX) r
theorem VR.weak {Z':List Addr} {h:Heap} (hZ:∀a∈Z',a∈Z) {p:PV} {v:Value} (r:VR ρ Z h p v):VR ρ Z' h p v:=VR.map (λ_ _ e=>e) (λa _ h1 h2 e=>⟨e,h1,λq=>h2 (hZ a q)⟩) r
theorem VR.fresh {Z':List Addr} {h:Heap} (hZ:∀a∈Z',a∈Z∨h.get? a=none) {p:PV} {v:Value} (r:VR ρ Z h p v):VR ρ Z' h p v :=
 VR.map (λ_ _ e=>e) (λa _ h1 h2 e=>⟨e,h1,λq=>(hZ a q).elim h2 λn=>al (n.symm.trans e)⟩) r
end
theorem Ns1.keep {h h':Heap} {a:Addr} {m:Str->Option Value} (x:h.Ns1 a m) (k:∀o,h.get? a=some o->h'.get? a=some o):h'.Ns1 a m:=x.elim λo q=>q.elim λes q=>q.elim λep q=>⟨o,es,ep,k o q.1,q.2⟩
theorem MR.map {ρ ρ':av} {Z Z':List Addr} {h h':Heap} (hρ:∀(i:Nat) q,ρ[i]?=some q->ρ'[i]?=some q) (k:Moves ρ ρ' Z Z' h h') {r b:Addr} (kb:∀o,h.get? b=some o->h'.get? b=some o) {mo:MO} (x:MR ρ Z h r b mo):MR ρ' Z' h' r b mo:=by
 cases mo with
 | lst l =>
  obtain ⟨hr,o,vs,n,as,ho,h1,h2,h3,h4,rs,q⟩:=x
  have f:=k.foot rs.live q
  exact ⟨hr,o,vs,n,as,kb o ho,h1,h2,h3,h4,rs.keep f.1,f.2⟩
 | ins c ats =>
  obtain ⟨hr,hz,o,mA,ho,h1,h2,h3,h4,h5,h6,h7⟩:=x
  have f:=k r o hr hz ho
  exact ⟨f.2.1,f.2.2,o,mA,f.1,h1,h2,h3,h4,Ns1.keep h5 kb,λp hp=>(h6 p hp).elim λv e=>⟨v,e.1,e.2.map hρ k⟩,h7⟩
 | cit i f dn =>
  obtain ⟨hr,m,t,x,y,h1,h2,h3,h4,h5⟩:=x
  have f:=k m _ h2 h3 h4
  exact ⟨hr,m,t,x,y,hρ _ _ h1,f.2.1,f.2.2,f.1,kb _ h5⟩
 | tab a f =>
  obtain ⟨hr,ha,vs,ho,hv⟩:=x
  exact ⟨hr,ha,vs,kb _ ho,hv⟩
structure Fx where
 env:Env
 sc:Scope
 vars:List (Nat×Str)
 own:List Addr
 k:Nat
abbrev bg:=List (Option PV)
structure St where
 loc:bg
 hp:List MO
noncomputable def cf (env:Env) (m cm:Str->Option Value) (x:Str):Option Value :=
 match env.kindOf x with
 | some .local=>m x
 | some .cell=>(env.cells.lookup x).bind λ_=>cm x
 | some .free=>(env.cells.lookup x).bind λ_=>cm x
 | _=>none
inductive O2 (fx:Fx) (ρ:av) (Z:List Addr) (loc:bg) (h:Heap):Prop
 | mk (m cm:Str->Option Value):h.Ns fx.env.locals m->(∀n c,fx.env.cells.lookup n=some c->h.IsCell c (cm n)) ->
  (∀i x pv,fx.vars.lookup i=some x->loc[i]?=some (some pv)->∃v,cf fx.env m cm x=some v∧VR ρ Z h pv v)->O2 fx ρ Z loc h
structure EnvR (fx:Fx) (ρ:av) (Z:List Addr) (loc:bg) (h:Heap):Prop where
 ex:O2 fx ρ Z loc h
 fn:fx.env.scope.kind=.function
 sc:fx.env.scope=fx.sc
 vinj:∀i j x,fx.vars.lookup i=some x->fx.vars.lookup j=some x->i=j
 glob:fx.env.globals=mainGlobals
 bi:fx.env.builtins=builtinsNs
 lown:fx.env.locals∈fx.own
 ownZ:∀a∈fx.own,a∈Z
 lmut:fx.env.locals∉ax ρ
 cell:∀n c,fx.env.cells.lookup n=some c->c∉ax ρ∧c≠fx.env.locals
 inj:∀n n' c,fx.env.cells.lookup n=some c->fx.env.cells.lookup n'=some c->n=n'
structure SR (K:Addr->Option Obj) (fx:Fx) (ρ:av) (Z:List Addr) (σ:St) (s:Shared):Prop where
 hr:HR ρ Z σ.hp s.heap
 er:EnvR fx ρ Z σ.loc s.heap
 top:TopOK K s.heap
 off:∀a,K a≠none->a∉ax ρ∧a∉Z
theorem Room.mono {A:Around} {k k':Nat} (h:Room A k) (hk:k'≤k):Room A k':=⟨h.handled,by have:=h.depth; (exact Nat.lt_of_le_of_lt (Nat.add_le_add_left (by assumption) _) (by assumption)),by have:=h.units; (exact Nat.lt_of_le_of_lt (Nat.add_le_add_left (Nat.mul_le_mul_left _ (by assumption)) _) (by assumption))⟩
section
variable {h:Heap} {v:Value} {as:List Addr}
theorem RD.int_ {x:Int} (r:RD h v (.int x) as):∃t,v=.int x t∧as=[]:=match r with | .int _ t=>⟨t,rfl,rfl⟩
theorem RD.bool_ {x:Bool} (r:RD h v (.bool x) as):v=.bool x∧as=[]:=match r with | .bool _=>⟨rfl,rfl⟩
theorem RD.none_ (r:RD h v .none as):v=.none∧as=[]:=match r with | .none=>⟨rfl,rfl⟩
theorem RD.str_ {x:Str} (r:RD h v (.str x) as):∃t,v=.str x t∧as=[]∧PyData.strOk x=true:=match r with | .str _ t q=>⟨t,rfl,rfl,q⟩
inductive S0 (h:Heap) (v:Value) (xs:List PyData) (as:List Addr):Prop
 | mk (a:Addr) (vs:Array Value) (n:Nat) (bs:List Addr):v=.ref a->as=a::bs->h.get? a=some { cls:=.type "list",dict:=none,data:=.seq vs n,slots:=#[] }->vs.size=xs.length->RDs h vs.toList xs bs->S0 h v xs as
theorem ye:∀{o:Obj} {vs:Array Value} {n:Nat},o.cls=.type "list"->o.dict=none->o.slots=#[]->o.data=.seq vs n->o={ cls:=.type "list",dict:=none,data:=.seq vs n,slots:=#[] }
 | ⟨_,_,_,_⟩,_,_,rfl,rfl,rfl,rfl=>rfl
theorem RD.list_ {xs:List PyData} (r:RD h v (.list xs) as):S0 h v xs as:=match r with
 | .list (vs:=vs) h1 h2 h3 h4 h5 h6=>⟨_,vs,_,_,rfl,rfl,ye h2 h3 h4 h5▸h1,by have:=h6.length; rwa [Array.length_toList] at this,h6⟩
inductive So (h:Heap) (v:Value) (xs:List PyData) (as:List Addr):Prop
 | mk (a:Addr) (o:Obj) (vs:Array Value) (n:Nat) (bs:List Addr):v=.ref a->as=a::bs->h.get? a=some o->o.cls=.type "tuple"->o.data=.seq vs n->vs.size=xs.length->RDs h vs.toList xs bs->So h v xs as
theorem RD.tuple_ {xs:List PyData} (r:RD h v (.tuple xs) as):So h v xs as:=match r with
 | .tuple (vs:=vs) h1 h2 h3 h4=>⟨_,_,vs,_,_,rfl,rfl,h1,h2,h3,by have:=h4.length; rwa [Array.length_toList] at this,h4⟩
end
section
variable {ρ ρ':av} {Z C e:List Addr} {h h':Heap}
theorem bo (ρ e:av):ax (ρ++e)=ax ρ++ax e:=List.map_append
theorem g0 {ρ e:av} {i:Nat} {p:Addr×Addr} (h:ρ[i]?=some p):(ρ++e)[i]?=some p:=by
 rw [List.getElem?_append_left (List.getElem?_eq_some_iff.mp h).1]; exact h
theorem xd {ρ e:av} {b:Addr} {o:Obj} (he:∀p∈e,h.get? p.2=none) (hb:h.get? b=some o) (n:b∉ax ρ):b∉ax (ρ++e):=by
 rw [bo,List.mem_append]
 rintro (q | q)
 ·exact n q
 ·obtain ⟨p,hp,rfl⟩:=List.mem_map.mp q
  rw [he p hp] at hb; cases hb
theorem Af {e:av} (he:∀p∈e,h.get? p.2=none) (hC:∀a∈C,a∈ax ρ) (k:∀a o,a∉C->h.get? a=some o->h'.get? a=some o):Moves ρ (ρ++e) Z Z h h':=λa o h1 h2 x=>⟨k a o (λm=>h1 (hC a m)) x,xd he x h1,h2⟩
theorem MR.step {e:av} (he:∀p∈e,h.get? p.2=none) (hC:∀a∈C,a∈ax ρ) (k:∀a o,a∉C->h.get? a=some o->h'.get? a=some o) {r b:Addr} (hb:b∉C) {mo:MO} (x:MR ρ Z h r b mo):MR (ρ++e) Z h' r b mo:=MR.map (λ_ _ e=>g0 e) (Af he hC k) (λo=>k b o hb) x
theorem MR.live {r b:Addr} {mo:MO} (x:MR ρ Z h r b mo):∃o,h.get? b=some o:=by
 cases mo with
 | lst l=>cases x with | mk _ o _ _ _ ho=>exact ⟨o,ho⟩
 | ins c ats=>cases x with | mk _ _ _ _ _ _ _ _ _ h5=>exact h5.elim λo q=>q.elim λ_ q=>q.elim λ_ q=>⟨o,q.1⟩
 | cit i f dn=>cases x with | mk _ _ _ _ _ _ _ _ _ ho=>exact ⟨_,ho⟩
 | tab _ _=>exact x.2.2.elim λ_ q=>⟨_,q.1⟩
variable {hp:List MO}
theorem HR.live (H:HR ρ Z hp h):∀b∈ax ρ,∃o,h.get? b=some o:=λb hb=>by
 obtain ⟨p,hp',rfl⟩:=List.mem_map.mp hb
 obtain ⟨i,hi⟩:=List.mem_iff_getElem?.mp hp'
 have hlt:i < hp.length:=H.len▸(List.getElem?_eq_some_iff.mp hi).1
 obtain ⟨r,b,hr,hm⟩:=H.at_ i hp[i] (List.getElem?_eq_getElem hlt)
 replace hr:=hi▸hr
 cases hr
 exact hm.live
theorem HR.fresh (H:HR ρ Z hp h) {a:Addr} (ha:h.get? a=none):a∉ax ρ∧a∉Z :=
 ⟨λq=>(by obtain ⟨o,e⟩:=H.live a q; rw [ha] at e; cases e),λq=>(by obtain ⟨o,e⟩:=H.liveZ a q; rw [ha] at e; cases e)⟩
theorem HR.keep (H:HR ρ Z hp h) (k:∀b o,h.get? b=some o->h'.get? b=some o):HR ρ Z hp h' :=
 ⟨H.len,H.nodup,H.offZ,λa ha=>let ⟨o,e⟩:=H.liveZ a ha; ⟨o,k a o e⟩,λi mo e=>by
  obtain ⟨r,b,hr,hm⟩:=H.at_ i mo e
  exact ⟨r,b,hr,MR.map (λ_ _ e=>e) (λa o h1 h2 e=>⟨k a o e,h1,h2⟩) (k b) hm⟩⟩
theorem HR.set (H:HR ρ Z hp h) {i:Nat} {r b:Addr} {mo:MO} (hi:ρ[i]?=some (r,b)) (k:∀a o,a≠b->h.get? a=some o->h'.get? a=some o) (hm:MR ρ Z h' r b mo):HR ρ Z (hp.set i mo) h':=by
 have hbm:b∈ax ρ:=List.mem_map_of_mem (f:=Prod.snd) (List.mem_of_getElem? hi)
 refine ⟨List.length_set.symm▸H.len,H.nodup,H.offZ,λa ha=>?_,λj mo' e=>?_⟩
 ·obtain ⟨o,e⟩:=H.liveZ a ha
  exact ⟨o,k a o (λq=>H.offZ b hbm (q▸ha)) e⟩
 ·replace e:=(List.getElem?_set)▸e
  split at e
  ·rename_i hij
   subst hij
   split at e
   ·cases e; exact ⟨r,b,hi,hm⟩
   ·exact al e
  ·rename_i hij
   refine cps λ_ KK=>?_
   obtain ⟨r',b',hr',hm'⟩:=H.at_ j mo' e
   refine KK ?_
   refine ⟨r',b',hr',?_⟩
   have hne:b'≠b:=λq=>by
    have nd:=H.nodup
    have e1:(ax ρ)[i]?=some b:=by rw [List.getElem?_map,hi]; rfl
    have e2:(ax ρ)[j]?=some b:=by rw [List.getElem?_map,hr',← q]; rfl
    exact hij ((List.getElem?_inj (List.getElem?_eq_some_iff.mp e1).1 nd).mp (e1.trans e2.symm))
   exact MR.map (λ_ _ e=>e) (λa o h1 h2 e=>⟨k a o (λq=>h1 (q▸hbm)) e,h1,h2⟩) (λo=>k b' o hne) hm'
theorem HR.push (H:HR ρ Z hp h) {r b:Addr} {mo:MO} (hb:h.get? b=none) (k:∀a o,h.get? a=some o->h'.get? a=some o) (hm:MR (ρ++[(r,b)]) Z h' r b mo):HR (ρ++[(r,b)]) Z (hp++[mo]) h':=by
 have fr:=H.fresh hb
 have he:∀p∈([(r,b)]:av),h.get? p.2=none:=λp hp=>(List.mem_singleton.mp hp).symm▸hb
 refine ⟨by rw [List.length_append,List.length_append,H.len]; rfl,?_,λa ha=>?_,λa ha=>let ⟨o,e⟩:=H.liveZ a ha; ⟨o,k a o e⟩,λj mo' e=>?_⟩
 ·rw [bo,List.nodup_append]
  refine ⟨H.nodup,by simp,λa ha b' hb' q=>?_⟩
  have:b'=b:=by simpa using hb'
  exact fr.1 (this▸q▸ha)
 ·rw [bo,List.mem_append] at ha
  rcases ha with ha | ha
  ·exact H.offZ a ha
  ·have:a=b:=by simpa using ha
   exact this▸fr.2
 ·by_cases hj:j < hp.length
  ·replace e:=(List.getElem?_append_left hj)▸e
   refine cps λ_ KK=>?_
   obtain ⟨r',b',hr',hm'⟩:=H.at_ j mo' e
   refine KK ?_
   exact ⟨r',b',g0 hr',hm'.step (C:=[]) he (λ_ h=>ck h) (λa o _=>k a o) List.not_mem_nil⟩
  ·have hj':hp.length≤j:=Nat.le_of_not_lt hj
   replace e:=(List.getElem?_append_right hj')▸e
   have:j - hp.length=0:=by
    cases q:j - hp.length with
    | zero=>rfl
    | succ n=>rw [q] at e; simp at e
   replace e:=this▸e
   have hjeq:j=hp.length:=Nat.le_antisymm (Nat.le_of_sub_eq_zero this) hj'
   cases e
   refine ⟨r,b,?_,hm⟩
   rw [hjeq,← H.len,List.getElem?_append_right (Nat.le_refl _),Nat.sub_self]
   rfl
theorem HR.forget {e:av} {hp':List MO} (H:HR (ρ++e) Z (hp++hp') h) (hl:ρ.length=hp.length)
  (hm:∀(i:Nat) (mo:MO) (r b:Addr),hp[i]?=some mo->MR (ρ++e) Z h r b mo->MR ρ Z h r b mo):HR ρ Z hp h :=
 ⟨hl,(List.nodup_append.mp (bo ρ e▸H.nodup)).1,λb hb=>H.offZ b (by rw [bo]; exact List.mem_append_left _ hb),H.liveZ,λi mo hi=>by
  have hlt:i < hp.length:=(List.getElem?_eq_some_iff.mp hi).1
  obtain ⟨r,b,hr,q⟩:=H.at_ i mo ((List.getElem?_append_left hlt).symm▸hi)
  refine ⟨r,b,?_,hm i mo r b hi q⟩
  rwa [List.getElem?_append_left (hl.symm▸hlt)] at hr⟩
end
section
variable {K:Addr->Option Obj} {fx:Fx} {ρ ρ':av} {Z:List Addr} {σ:St} {s s':Shared} {hp':List MO}
noncomputable def FrameK (fx:Fx) (h h':Heap):Prop:=(∀o,h.get? fx.env.locals=some o->h'.get? fx.env.locals=some o)∧∀n c,fx.env.cells.lookup n=some c->∀o,h.get? c=some o->h'.get? c=some o
theorem SR.map {Z':List Addr} (R:SR K fx ρ Z σ s) (hρ:∀(i:Nat) q,ρ[i]?=some q->ρ'[i]?=some q) (k:Moves ρ ρ' Z Z' s.heap s'.heap) (kf:FrameK fx s.heap s'.heap) (hm:∀a o,s.heap.get? a=some o->a∉ax ρ->a∉ax ρ') (ho:∀a∈fx.own,a∈Z') (H:HR ρ' Z' hp' s'.heap):SR K fx ρ' Z' ⟨σ.loc,hp'⟩ s':=by
 refine cps λ_ KK=>?_
 obtain ⟨m,cm,hn,hc,hv⟩:=R.er.ex
 refine KK ?_
 refine ⟨H,⟨⟨m,cm,Ns.keep hn kf.1,λn c e=>IsCell.keep (hc n c e) (kf.2 n c e),λi y pv hi hl=>(hv i y pv hi hl).elim λv q=>⟨v,q.1,q.2.map hρ k⟩⟩,R.er.fn,R.er.sc,R.er.vinj,R.er.glob,R.er.bi,R.er.lown,ho,(Ns.live hn).elim λo e=>hm _ o e R.er.lmut,
  λn c e=>⟨(hc n c e).elim λo q=>hm c o q.1 (R.er.cell n c e).1,(R.er.cell n c e).2⟩,R.er.inj⟩,λa o e=>?_,λa ha=>?_⟩
 ·have q:=R.off a λh=>al (h.symm.trans e)
  exact (k a o q.1 q.2 (R.top a o e)).1
 ·cases q:K a with
  | none=>exact absurd q ha
  | some o=>exact (k a o (R.off a ha).1 (R.off a ha).2 (R.top a o q)).2
theorem SR.next (R:SR K fx ρ Z σ s) (x:Ext [] ρ s ρ' s') (H:HR ρ' Z hp' s'.heap):SR K fx ρ' Z ⟨σ.loc,hp'⟩ s' :=
 R.map (λ_ _ e=>x.old e) (x.moves λ_ h=>nomatch h) ⟨λo e=>x.heap _ o R.er.lmut List.not_mem_nil e,λn c e o q=>x.heap c o (R.er.cell n c e).1 List.not_mem_nil q⟩ (λa o e h=>x.notin e h) R.er.ownZ H
end
section
variable (prog:Program) (w:World) (K:Addr->Option Obj)
abbrev EF:=St->Option (PV×List MO)
structure Ev (fx:Fx) (e:Expr) (F:EF):Prop where
 run:∀(A:Around) (ρ:av) (Z:List Addr) (σ:St) (s:Shared) (pv:PV) (hp':List MO),Room A fx.k->SR K fx ρ Z σ s->F σ=some (pv,hp') ->
  wpAny (model prog w) A (eval e fx.env) (Post ρ Z s pv hp') bn s
noncomputable def rd (hp:List MO):PV->Option PyData
 | .dat d=>some d
 | .obj i=>match hp[i]? with
  | some (.lst l)=>some (.list l)
  | _=>none
 | .strm _=>none
 | .objs _ _=>none
end
theorem Kw {o:Option MO} {d:PyData} {C:Prop} (e:(match o with | some (.lst l)=>some (PyData.list l) | _=>none)=some d) (k:∀l,o=some (.lst l)->.list l=d->C):C:=by
 cases o with
 | none=>exact al e
 | some mo=>cases mo with
  | lst l=>exact k l rfl (b9 e)
  | _=>exact al e
theorem HR.lst {ρ:av} {Z:List Addr} {h:Heap} {hp:List MO} (H:HR ρ Z hp h) {i:Nat} {l:List PyData} (hl:hp[i]?=some (.lst l)) {r b:Addr} (hr:ρ[i]?=some (r,b)):Rn ρ Z h r b l:=by
 refine cps λ_ KK=>?_
 obtain ⟨r',b',hr',hm⟩:=H.at_ i _ hl
 obtain ⟨rfl,rfl⟩:=cq (hr.symm.trans hr')
 refine KK ?_
 exact hm
theorem ft {ρ:av} {Z:List Addr} {h:Heap} {hp:List MO} {d:PyData} {v:Value} (H:HR ρ Z hp h) {pv:PV} (x:VR ρ Z h pv v) (e:rd hp pv=some d):∃as,RD h v d as∧∀a∈as.tail,a∉ax ρ∧a∉Z:=by
 cases pv with
 | dat d' =>
  obtain ⟨as,r,q⟩:=x
  exact ⟨as,b9 e▸r,λa ha=>q a (List.mem_of_mem_tail ha)⟩
 | obj i =>
  obtain ⟨r,b,e1,hv⟩:=x
  refine Kw e λl hl hd=>?_
  obtain ⟨hrb,o,vs,n,as,ho,h1,h2,h3,h4,rs,q⟩:=H.lst hl e1
  exact ⟨b::as,hd▸hv.symm▸hrb.symm▸.list ho h1 h2 h3 h4 rs,q⟩
 | strm _=>exact al e
 | objs _ _=>exact al e
noncomputable def lim:Nat:=1048576
noncomputable def Lf:PyData->PyData->Option PyData
 | .int a,.int b=>some (.int (a+b))
 | .str x,.str y=>if x.cps.size+y.cps.size≤lim then some (.str ⟨⟨x.cps.toList++y.cps.toList⟩⟩) else none
 | .list xs,.list ys=>if xs.length+ys.length≤lim then some (.list (xs++ys)) else none
 | _,_=>none
noncomputable def Pl:PyData->PyData->Option PyData
 | .int a,.int b=>some (.int (a - b))
 | _,_=>none
noncomputable def Ou:PyData->PyData->Option PyData
 | .int a,.int b=>if b.natAbs < 2 ^ 60 then some (.int (a*b)) else none
 | .str x,.int n=>if x.cps.size*n.toNat≤lim∧n.natAbs≤lim then some (.str ⟨⟨(List.replicate n.toNat x.cps.toList).flatten⟩⟩) else none
 | .list xs,.int n=>if xs.length*n.toNat≤lim∧n.natAbs≤lim then some (.list (List.replicate n.toNat xs).flatten) else none
 | _,_=>none
noncomputable def Jk:PyData->PyData->Option PyData
 | .int a,.int b=>if b≠0∧b.natAbs < 2 ^ 60 then some (.int (a.fdiv b)) else none
 | _,_=>none
noncomputable def Nc:PyData->PyData->Option PyData
 | .int a,.int b=>if b≠0 then some (.int (a.fmod b)) else none
 | _,_=>none
noncomputable def Pi:PyData->PyData->Option PyData
 | .int a,.int b=>if 0≤b∧b≤1000∧a.natAbs < 2 ^ 60 then some (.int (a ^ b.toNat)) else none
 | _,_=>none
noncomputable def rj:Operator->PyData->PyData->Option PyData
 | .Add=>Lf
 | .Sub=>Pl
 | .Mult=>Ou
 | .FloorDiv=>Jk
 | .Mod=>Nc
 | .Pow=>Pi
 | _=>λ_ _=>none
noncomputable def uh:Nat->PyData->Bool
 | 0,.list _=>false
 | 0,.tuple _=>false
 | n+1,.list l=>l.all (uh n)
 | n+1,.tuple l=>l.all (uh n)
 | _,.dict _=>false
 | _,_=>true
theorem RD.canLay2 (h:Heap):(∀{v d as},RD h v d as->d.canLay0=true)∧∀{v d as},RDs h v d as->PyData.canLayAll0 d=true :=
 RD.ind (P:=λ_ d _=>d.canLay0=true) (Q:=λ_ d _=>PyData.canLayAll0 d=true) rfl (λ_=>rfl) (λ_ _=>rfl) (λx t q=>(by rw [PyData.canLay0]; exact q)) (λ_ _ _ _ _ ih=>(by rw [PyData.canLay0]; exact ih)) (λ_ _ _ ih=>(by rw [PyData.canLay0]; exact ih)) rfl
  λx r=>(by rw [PyData.canLayAll0,x,r]; rfl)
theorem RD.canLay {h:Heap} {v d as} (r:RD h v d as):d.canLay0=true:=(RD.canLay2 h).1 r
theorem RDs.canLay {h:Heap} {v d as} (r:RDs h v d as):PyData.canLayAll0 d=true:=(RD.canLay2 h).2 r
noncomputable def NewD (s:Shared) (d:PyData) (P:Addr->Prop) (v:Value) (s':Shared):Prop :=
 ∃h t as,s'={ s with heap:=h,toks:=t }∧(∀b o,s.heap.get? b=some o->h.get? b=some o)∧RD h v d as∧(∀a∈as,s.heap.get? a=none∨P a)∧∀a,as.head?=some a->s.heap.get? a=none∧a∉as.tail
section
variable {prog:Program} {w:World} {A:Around} {E:Value->Shared->Prop} {s:Shared} {P:Addr->Prop}
theorem NewD.val {v:Value} {d:PyData} {t:Nat} (r:RD s.heap v d []):NewD s d P v { s with toks:=t }:=⟨s.heap,t,[],rfl,λ_ _ e=>e,r,(λ_ h=>ck h),(λ_ h=>al h)⟩
theorem NewD.weak {P':Addr->Prop} {v:Value} {d:PyData} {s':Shared} (n:NewD s d P v s') (k:∀a,P a->P' a):NewD s d P' v s' :=
 n.elim λh n=>n.elim λt n=>n.elim λas n=>⟨h,t,as,n.1,n.2.1,n.2.2.1,λa ha=>(n.2.2.2.1 a ha).imp id (k a),n.2.2.2.2⟩
theorem NewD.list {vs:List Value} {ds:List PyData} {as:List Addr} {t:Nat} (r:RDs s.heap vs ds as) (q:∀a∈as,s.heap.get? a=none∨P a) :
  NewD s (.list ds) P (.ref s.heap.objs.size) { s with heap:=s.heap.push { cls:=.type "list",data:=.seq vs.toArray },toks:=t } :=
 ⟨_,t,s.heap.objs.size::as,rfl,λb o e=>Heap.get?_push_of_some _ e,.list (Heap.get?_push_size _ rfl) rfl rfl rfl rfl (r.keep λa _ o e=>Heap.get?_push_of_some _ e),λa ha=>by
  rcases List.mem_cons.mp ha with rfl | ha
  ·exact .inl (Heap.get?_none_of_le (Nat.le_refl _))
  ·exact q a ha,λa h=>by
   cases h
   have e:s.heap.get? s.heap.objs.size=none:=Heap.get?_none_of_le (Nat.le_refl _)
   exact ⟨e,λm=>by obtain ⟨o,q⟩:=r.live _ m; rw [e] at q; cases q⟩⟩
theorem NewD.tuple {vs:List Value} {ds:List PyData} {as:List Addr} {t:Nat} (r:RDs s.heap vs ds as) (q:∀a∈as,s.heap.get? a=none∨P a) :
  NewD s (.tuple ds) P (.ref s.heap.objs.size) { s with heap:=s.heap.push { cls:=.type "tuple",data:=.seq vs.toArray },toks:=t } :=
 ⟨_,t,s.heap.objs.size::as,rfl,λb o e=>Heap.get?_push_of_some _ e,.tuple (Heap.get?_push_size _ rfl) rfl rfl (r.keep λa _ o e=>Heap.get?_push_of_some _ e),λa ha=>by
  rcases List.mem_cons.mp ha with rfl | ha
  ·exact .inl (Heap.get?_none_of_le (Nat.le_refl _))
  ·exact q a ha,λa h=>by
   cases h
   have e:s.heap.get? s.heap.objs.size=none:=Heap.get?_none_of_le (Nat.le_refl _)
   exact ⟨e,λm=>by obtain ⟨o,q⟩:=r.live _ m; rw [e] at q; cases q⟩⟩
theorem RDs.flatten {h:Heap} {vs:List Value} {ds:List PyData} {as:List Addr} (r:RDs h vs ds as):∀n,∃bs,RDs h (List.replicate n vs).flatten (List.replicate n ds).flatten bs∧∀a∈bs,a∈as
 | 0=>⟨[],.nil,λ_ h=>ck h⟩
 | n+1=>by
  obtain ⟨bs,hb,hs⟩:=r.flatten n
  refine ⟨as++bs,?_,λa ha=>?_⟩
  ·rw [List.replicate_succ,List.replicate_succ,List.flatten_cons,List.flatten_cons]
   exact r.append hb
  ·rcases List.mem_append.mp ha with q | q
   ·exact q
   ·exact hs a q
theorem foldl_append (vs:Array Value):∀(n:Nat) (a:Array Value),(List.foldl (λx1 x2=>x1++x2) a (List.replicate n vs))=(a.toList++(List.replicate n vs.toList).flatten).toArray
 | 0,a=>by simp
 | n+1,a=>by rw [List.replicate_succ,List.foldl_cons,foldl_append vs n,List.replicate_succ,List.flatten_cons]; simp
theorem C8 {x y:Int} (h:y.natAbs < 2 ^ 60):Builtin.divisionGoesByPylong x y=false:=by
 unfold Builtin.divisionGoesByPylong
 have h2:y.natAbs.log2 < 60:=by
  by_cases h0:y.natAbs=0
  ·rw [h0]; decide
  ·exact (Nat.log2_lt h0).mpr h
 simp only [Bool.and_eq_false_iff,decide_eq_false_iff_not]
 left
 split
 ·decide
 ·lia
theorem mu {x y:Str} (hx:PyData.strOk x=true) (hy:PyData.strOk y=true):PyData.strOk ⟨⟨x.cps.toList++y.cps.toList⟩⟩=true:=by
 unfold PyData.strOk at *
 simp only [Array.all_eq_true_iff_forall_mem] at *
 intro c hc
 simp only [List.mem_toArray,List.mem_append,Array.mem_toList_iff] at hc
 rcases hc with h | h
 ·exact hx c h
 ·exact hy c h
theorem i2 {x:Str} {l:List Nat} (hx:PyData.strOk x=true) (h:∀c∈l,c∈x.cps.toList):PyData.strOk ⟨⟨l⟩⟩=true:=by
 unfold PyData.strOk at *
 simp only [Array.all_eq_true_iff_forall_mem] at *
 intro c hc
 exact hx c (by simpa using h c (by simpa using hc))
theorem Dw {x:Str} (hx:PyData.strOk x=true) (n:Nat):PyData.strOk ⟨⟨(List.replicate n x.cps.toList).flatten⟩⟩=true :=
 i2 hx λc hc=>by
  obtain ⟨l,hl,hc⟩:=List.mem_flatten.mp hc
  replace hc:=((List.mem_replicate.mp hl).2)▸hc
  exact hc
theorem lu (vs:Array Nat):∀(n:Nat) (a:Array Nat),(List.foldl (λx1 x2=>x1++x2) a (List.replicate n vs))=(a.toList++(List.replicate n vs.toList).flatten).toArray
 | 0,a=>by simp
 | n+1,a=>by rw [List.replicate_succ,List.foldl_cons,lu vs n,List.replicate_succ,List.flatten_cons]; simp
theorem Lz (x:Str) (n:Int):Txt.mul x n=⟨⟨(List.replicate n.toNat x.cps.toList).flatten⟩⟩:=by
 unfold Txt.mul
 split
 ·have:n.toNat=0:=by lia
  rw [this]; rfl
 ·split
  ·rename_i h1 h2
   rw [Bool.or_eq_true] at h2
   rcases h2 with h2 | h2
   ·have:n=1:=by simpa using h2
    subst this
    obtain ⟨⟨l⟩⟩:=x
    simp
   ·have:x.cps=#[]:=Array.eq_empty_of_size_eq_zero (by simpa [Str.length] using h2)
    obtain ⟨l⟩:=x
    simp only at this
    subst this
    simp
  ·rw [lu]
   simp
theorem RD.int2 {h:Heap} {C:Value->Value->Prop} {x y:Int} {va vb:Value} {as bs:List Addr} (ra:RD h va (.int x) as) (rb:RD h vb (.int y) bs) (k:∀t u,C (.int x t) (.int y u)):C va vb:=by
 obtain ⟨t,rfl,_⟩:=ra.int_
 obtain ⟨u,rfl,_⟩:=rb.int_
 exact k t u
inductive zg (f:Int->Int->PyData) (c:Int->Int->Prop) (a b d:PyData):Prop
 | mk (x y:Int):a=.int x->b=.int y->c x y->d=f x y->zg f c a b d
inductive No (f:Str->Str->PyData) (c:Str->Str->Prop) (a b d:PyData):Prop
 | mk (x y:Str):a=.str x->b=.str y->c x y->d=f x y->No f c a b d
inductive Pw (f:List PyData->List PyData->PyData) (c:List PyData->List PyData->Prop) (a b d:PyData):Prop
 | mk (x y:List PyData):a=.list x->b=.list y->c x y->d=f x y->Pw f c a b d
section
variable {a b d:PyData}
theorem Gc (e:Lf a b=some d):zg (λx y=>.int (x+y)) (λ_ _=>True) a b d∨No (λx y=>.str ⟨⟨x.cps.toList++y.cps.toList⟩⟩) (λx y=>x.cps.size+y.cps.size≤lim) a b d∨Pw (λx y=>.list (x++y)) (λx y=>x.length+y.length≤lim) a b d:=by
 cases a with
 | int x=>cases b with
  | int y=>exact .inl ⟨x,y,rfl,rfl,trivial,(b9 e).symm⟩
  | _=>exact al e
 | str x=>cases b with
  | str y=>exact ay e λh q=>.inr (.inl ⟨x,y,rfl,rfl,h,q.symm⟩)
  | _=>exact al e
 | list x=>cases b with
  | list y=>exact ay e λh q=>.inr (.inr ⟨x,y,rfl,rfl,h,q.symm⟩)
  | _=>exact al e
 | _=>exact al e
theorem Hv (e:Pl a b=some d):zg (λx y=>.int (x - y)) (λ_ _=>True) a b d:=by
 cases a with
 | int x=>cases b with
  | int y=>exact ⟨x,y,rfl,rfl,trivial,(b9 e).symm⟩
  | _=>exact al e
 | _=>exact al e
inductive Lc (a b d:PyData):Prop
 | ii (x y:Int):a=.int x->b=.int y->y.natAbs < 2 ^ 60->d=.int (x*y)->Lc a b d
 | si (x:Str) (y:Int):a=.str x->b=.int y->x.cps.size*y.toNat≤lim->y.natAbs≤lim->d=.str ⟨⟨(List.replicate y.toNat x.cps.toList).flatten⟩⟩->Lc a b d
 | li (x:List PyData) (y:Int):a=.list x->b=.int y->x.length*y.toNat≤lim->y.natAbs≤lim->d=.list (List.replicate y.toNat x).flatten->Lc a b d
theorem G8 (e:Ou a b=some d):Lc a b d:=by
 cases b with
 | int y=>cases a with
  | int x=>exact ay e λh q=>.ii x y rfl rfl h q.symm
  | str x=>exact ay e λh q=>.si x y rfl rfl h.1 h.2 q.symm
  | list x=>exact ay e λh q=>.li x y rfl rfl h.1 h.2 q.symm
  | _=>exact al e
 | _=>cases a<;>exact al e
theorem El (e:Jk a b=some d):zg (λx y=>.int (x.fdiv y)) (λ_ y=>y≠0∧y.natAbs < 2 ^ 60) a b d:=by
 cases a with
 | int x=>cases b with
  | int y=>exact ay e λh q=>⟨x,y,rfl,rfl,h,q.symm⟩
  | _=>exact al e
 | _=>exact al e
theorem Fw (e:Nc a b=some d):zg (λx y=>.int (x.fmod y)) (λ_ y=>y≠0) a b d:=by
 cases a with
 | int x=>cases b with
  | int y=>exact ay e λh q=>⟨x,y,rfl,rfl,h,q.symm⟩
  | _=>exact al e
 | _=>exact al e
theorem Jj (e:Pi a b=some d):zg (λx y=>.int (x ^ y.toNat)) (λx y=>0≤y∧y≤1000∧x.natAbs < 2 ^ 60) a b d:=by
 cases a with
 | int x=>cases b with
  | int y=>exact ay e λh q=>⟨x,y,rfl,rfl,h,q.symm⟩
  | _=>exact al e
 | _=>exact al e
end
theorem iy {op:Operator} {a b d D:PyData} {x y:Int} {va vb:Value} {as bs:List Addr} (ra:RD s.heap va a as) (rb:RD s.heap vb b bs) (ha:a=.int x) (hb:b=.int y) (hd:d=D)
  (k:∀t u,wpAny (model prog w) A (binaryOp op (.int x t) (.int y u)) (NewD s D P) bn s):wpAny (model prog w) A (binaryOp op va vb) (NewD s d P) bn s:=by
 subst ha hb hd
 exact RD.int2 (C:=λva vb=>wpAny (model prog w) A (binaryOp op va vb) (NewD s d P) bn s) ra rb k
theorem Gu {x y:Str} {va vb:Value} {as bs:List Addr} (ra:RD s.heap va (.str x) as) (rb:RD s.heap vb (.str y) bs) (hl:x.cps.size+y.cps.size≤lim):wpAny (model prog w) A (binaryOp .Add va vb) (NewD s (.str ⟨⟨x.cps.toList++y.cps.toList⟩⟩) P) bn s:=by
 obtain ⟨t,rfl,_,hx⟩:=ra.str_
 obtain ⟨u,rfl,_,hy⟩:=rb.str_
 refine PyProof.Rows.add_str (λt' tk=>?_) (Nat.le_trans hl (by decide))
 have:x++y=⟨⟨x.cps.toList++y.cps.toList⟩⟩:=by
  show Str.append x y=_
  unfold Str.append
  congr 1
  rw [← Array.toList_inj,Array.toList_append]
 refine this.symm▸?_
 exact NewD.val (.str _ _ (mu hx hy))
theorem Di {x y:List PyData} {va vb:Value} {as bs:List Addr} (ra:RD s.heap va (.list x) as) (rb:RD s.heap vb (.list y) bs) (hl:x.length+y.length≤lim):wpAny (model prog w) A (binaryOp .Add va vb) (NewD s (.list (x++y)) (λx=>x∈as.tail∨x∈bs.tail)) bn s:=by
 obtain ⟨la,va,na,as',rfl,rfl,h1,l1,h6⟩:=ra.list_
 obtain ⟨lb,vb,nb,bs',rfl,rfl,k1,l2,k6⟩:=rb.list_
 have hsz:va.size+vb.size≤sizeLine:=l1.symm▸l2.symm▸Nat.le_trans hl (by decide)
 refine binaryOp_concat (T:="list") ⟨_,h1,rfl⟩ ⟨_,k1,rfl⟩ (by first | exact noFill_list_add | decide) (by first | exact seq_list_add | decide) (call_meets F.slot_list_add ⟨_,h1,rfl⟩ F.entry_list_add (F.args_list_add_2 _ _)
  (list_addW la lb va vb na nb none none #[] #[] hsz) ⟨h1,k1,?_⟩)
 have r:=NewD.list (P:=λx=>x∈(la::as').tail∨x∈(lb::bs').tail) (t:=s.toks) (h6.append k6) λa ha=>.inr (List.mem_append.mp ha)
 have e2:(va.toList++vb.toList).toArray=va++vb:=by rw [← Array.toList_inj]; simp
 replace r:=e2▸r
 exact r
theorem G5 {x:Str} {y:Int} {va vb:Value} {as bs:List Addr} (ra:RD s.heap va (.str x) as) (rb:RD s.heap vb (.int y) bs) (hl:x.cps.size*y.toNat≤lim∧y.natAbs≤lim):wpAny (model prog w) A (binaryOp .Mult va vb) (NewD s (.str ⟨⟨(List.replicate y.toNat x.cps.toList).flatten⟩⟩) P) bn s:=by
 obtain ⟨t,rfl,_,hx⟩:=ra.str_
 obtain ⟨u,rfl,_⟩:=rb.int_
 have hm:MulOk x y:=by
  refine ⟨by unfold lim at hl; simp only [Bool.or_eq_false_iff,decide_eq_false_iff_not]; exact ⟨Int.not_lt.mpr (Int.le_trans (by decide) (zz hl.2)),Int.not_le.mpr (Int.lt_of_le_of_lt (vr hl.2) (by decide))⟩,λh1 h2=>?_,λh1 h2=>?_⟩
  ·have hl2:=hl.2
   have hl1:=hl.1
   unfold lim at hl1 hl2
   have hy0:0 < y:=by omega
   have hlen:(x.length:Int)*y≤1048576:=by
    have:((x.cps.size*y.toNat:Nat):Int)≤((1048576:Nat):Int):=Int.ofNat_le.mpr hl1
    rw [Int.natCast_mul,Int.toNat_of_nonneg (by (exact Int.le_of_lt (by assumption)))] at this
    exact this
   have hq:(1048576:Int)≤(2 ^ 63 - 1) / y:=(Int.le_ediv_iff_mul_le hy0).mpr (Int.le_trans (Int.mul_le_mul_of_nonneg_left (vr hl2) (by decide)) (by decide))
   have hx1:(x.length:Int)≤1048576:=by
    have h3:(x.length:Int)*1≤(x.length:Int)*y:=Int.mul_le_mul_of_nonneg_left (by assumption) (by (exact Int.natCast_nonneg _))
    omega
   omega
  ·have hl1:=hl.1
   unfold lim at hl1
   skip
   exact decide_eq_false (by show ¬ x.cps.size*y.toNat > 2 ^ 24; exact Nat.not_lt.mpr (Nat.le_trans hl1 (by decide)))
 refine SB.mul hm λt' k=>?_
 rw [Lz]
 exact NewD.val (.str _ _ (Dw hx _))
theorem Ds {xs:List PyData} {y:Int} {va' vb:Value} {as bs:List Addr} (ra:RD s.heap va' (.list xs) as) (rb:RD s.heap vb (.int y) bs) (hl:xs.length*y.toNat≤lim∧y.natAbs≤lim):wpAny (model prog w) A (binaryOp .Mult va' vb) (NewD s (.list (List.replicate y.toNat xs).flatten) (λx=>x∈as.tail∨x∈bs.tail)) bn s:=by
 obtain ⟨la,va,na,as',rfl,rfl,h1,hlen,h6⟩:=ra.list_
 obtain ⟨u,rfl,rfl⟩:=rb.int_
 have hl1:=hl.1
 have hl2:=hl.2
 unfold lim at hl1 hl2
 refine wpAny_binaryOp_repeat_ref (T:="list") (U:="int") (by decide) ⟨_,h1,rfl⟩ (λs'=>typeIs_int s' y u) noFill_list_mul F.fills_int_mul F.slot_int_rmul repeat_list F.slot_int_index.lookup
  (call_meets F.slot_int_rmul (typeIs_int s y u) F.entry_int_rmul (F.args_int_rmul_2 _ _) (int___rmul___int_list y u la va na)
   ⟨h1,rfl,⟨_,h1,rfl⟩,call_meets F.slot_list_mul ⟨_,h1,rfl⟩ F.entry_list_mul (F.args_list_mul_2 _ _)
    (AutoListH.list___mul___list_int_3 la va na y u (by simp [Builtin.List.listFitsIndex]; exact ⟨Int.le_trans (by decide) (zz hl2),Int.lt_of_le_of_lt (vr hl2) (by decide)⟩) (by rw [hlen]; exact Nat.not_lt.mpr (Nat.le_trans hl1 (by decide))) (by rw [hlen]; show ¬ (decide (_ > 2 ^ 24)=true); exact λq=>absurd (of_decide_eq_true q) (Nat.not_lt.mpr (Nat.le_trans hl1 (by decide)))))
    ⟨h1,?_⟩⟩)
 rw [foldl_append]
 have e3:(List.replicate (if va.isEmpty=true then 0 else y.toNat) va.toList).flatten=(List.replicate y.toNat va.toList).flatten:=by
  cases hv:va.isEmpty with
  | false=>simp
  | true =>
   have:va=#[]:=by simpa using hv
   subst this
   simp
 refine e3.symm▸?_
 obtain ⟨bs,hb,hbs⟩:=h6.flatten y.toNat
 have r:=NewD.list (P:=λx=>x∈(la::as').tail∨x∈([]:List Addr).tail) (t:=s.toks) hb λa ha=>.inr (.inl (hbs a ha))
 simpa using r
theorem Ow (op:Operator) {a b d:PyData} {va vb:Value} {as bs:List Addr} (ra:RD s.heap va a as) (rb:RD s.heap vb b bs) (e:rj op a b=some d) :
  wpAny (model prog w) A (binaryOp op va vb) (NewD s d (λx=>x∈as.tail∨x∈bs.tail)) bn s:=by
 cases op with
 | Add =>
  rcases Gc e with ⟨x,y,h1,h2,_,h3⟩ | ⟨x,y,h1,h2,h4,h3⟩ | ⟨x,y,h1,h2,h4,h3⟩
  ·exact iy ra rb h1 h2 h3 λt u=>PyProof.Rows.add_int (NewD.val (.int _ _))
  ·rw [h3]; exact Gu (h1▸ra) (h2▸rb) h4
  ·rw [h3]; exact Di (h1▸ra) (h2▸rb) h4
 | Sub =>
  obtain ⟨x,y,h1,h2,_,h3⟩:=Hv e
  exact iy ra rb h1 h2 h3 λt u=>PyProof.Rows.sub_int' (NewD.val (.int _ _))
 | Mult =>
  cases G8 e with
  | ii x y h1 h2 hl h3 =>
   exact iy ra rb h1 h2 h3 λt u=>PyProof.Rows.mul_int (NewD.val (.int _ _)) (by
    have:=intBits_le_64 (k:=y) (by omega) (by omega)
    simp only [IntMulOk,Bool.and_eq_true,not_and,decide_eq_true_eq]
    intro q
    have h64:shortFactorBits=64:=rfl
    lia)
  | si x y h1 h2 l1 l2 h3=>rw [h3]; exact G5 (h1▸ra) (h2▸rb) ⟨l1,l2⟩
  | li x y h1 h2 l1 l2 h3=>rw [h3]; exact Ds (h1▸ra) (h2▸rb) ⟨l1,l2⟩
 | FloorDiv =>
  obtain ⟨x,y,h1,h2,hl,h3⟩:=El e
  exact iy ra rb h1 h2 h3 λt u=>PyProof.Rows.floordiv_int hl.1 (NewD.val (.int _ _)) (.inl (C8 hl.2))
 | Mod =>
  obtain ⟨x,y,h1,h2,hl,h3⟩:=Fw e
  exact iy ra rb h1 h2 h3 λt u=>PyProof.Rows.mod_int' hl (NewD.val (.int _ _))
 | Pow =>
  obtain ⟨x,y,h1,h2,hl,h3⟩:=Jj e
  exact iy ra rb h1 h2 h3 λt u=>pow_int_small hl.1 (by omega) (by omega) (NewD.val (.int _ _))
 | _=>exact al e
end
mutual
noncomputable def Ol:PyData->PyData->Bool
 | .none,.none=>true
 | .bool a,.bool b=>a==b
 | .bool a,.int j=>(if a then 1 else 0)==j
 | .int i,.bool b=>i==(if b then 1 else 0)
 | .int i,.int j=>i==j
 | .str x,.str y=>x.cps.toList==y.cps.toList
 | .list xs,.list ys=>sk xs ys
 | .tuple xs,.tuple ys=>sk xs ys
 | _,_=>false
noncomputable def sk:List PyData->List PyData->Bool
 | [],[]=>true
 | x::xs,y::ys=>Ol x y&&sk xs ys
 | _,_=>false
end
mutual
theorem qo:∀x y:PyData,Ol x y=PyData.eqv x y
 | .none,y=>by cases y<;>rfl
 | .bool a,y=>by cases y<;>rfl
 | .int i,y=>by cases y<;>rfl
 | .str a,y=>by
  cases y with
  | str b=>exact toList_beq _ _
  | _=>rfl
 | .list xs,y=>by
  cases y with
  | list ys=>exact tz xs ys
  | _=>rfl
 | .tuple xs,y=>by
  cases y with
  | tuple ys=>exact tz xs ys
  | _=>rfl
 | .dict _,y=>by cases y<;>rfl
theorem tz:∀xs ys:List PyData,sk xs ys=PyData.eqvAll xs ys
 | [],ys=>by cases ys<;>rfl
 | x::xs,ys=>by
  cases ys with
  | nil=>rfl
  | cons y ys =>
   show (Ol x y&&sk xs ys)=(PyData.eqv x y&&PyData.eqvAll xs ys)
   exact (qo x y).symm▸(tz xs ys).symm▸rfl
end
theorem or {n:Nat} {f:PyData->Bool}:∀l:List PyData,(∀x∈l,f x=true->x.depth≤n)->l.all f=true->PyData.depthAll l≤n
 | [],_,_=>Nat.zero_le _
 | x::r,k,h=>by
  rw [List.all_cons,Bool.and_eq_true] at h
  exact Nat.max_le.mpr ⟨k x (List.mem_cons_self ..) h.1,or r (λy hy=>k y (List.mem_cons_of_mem _ hy)) h.2⟩
theorem iz:∀(n:Nat) (d:PyData),uh n d=true->d.depth≤n
 | n,.none,_=>Nat.zero_le _
 | n,.bool _,_=>Nat.zero_le _
 | n,.int _,_=>Nat.zero_le _
 | n,.str _,_=>Nat.zero_le _
 | 0,.list l,h=>absurd h Bool.false_ne_true
 | 0,.tuple l,h=>absurd h Bool.false_ne_true
 | n+1,.list l,h=>by
  rw [PyData.depth]
  have:=or l (λx _=>iz n x) h
  (exact Nat.lt_succ_of_le (by assumption))
 | n+1,.tuple l,h=>by
  rw [PyData.depth]
  have:=or l (λx _=>iz n x) h
  (exact Nat.lt_succ_of_le (by assumption))
 | 0,.dict _,h=>absurd h Bool.false_ne_true
 | n+1,.dict _,h=>absurd h Bool.false_ne_true
noncomputable def Rl (a:PyData):PyData->Option Bool
 | .list l=>if uh 3 a then some (l.any λy=>Ol y a) else none
 | .str x=>match a with
  | .str y=>match y.cps.toList with
   | [c]=>some (x.cps.toList.contains c)
   | _=>none
  | _=>none
 | _=>none
noncomputable def vy (f:Int->Int->Bool):PyData->PyData->Option Bool
 | .int x,.int y=>some (f x y)
 | _,_=>none
noncomputable def Ql:PyData->PyData->Option Bool
 | .bool x,.bool y=>some (x==y)
 | .none,.none=>some true
 | .int _,.none=>some false
 | _,_=>none
noncomputable def di (op:CmpOp) (a b:PyData):Option Bool :=
 match op with
 | .Eq=>if uh 3 a||uh 3 b then some (Ol a b) else none
 | .NotEq=>if uh 3 a||uh 3 b then some (!Ol a b) else none
 | .Lt=>vy (λx y=>decide (x < y)) a b
 | .LtE=>vy (λx y=>decide (x≤y)) a b
 | .Gt=>vy (λx y=>decide (y < x)) a b
 | .GtE=>vy (λx y=>decide (y≤x)) a b
 | .Is=>Ql a b
 | .IsNot=>(Ql a b).map (!·)
 | .In=>Rl a b
 | .NotIn=>(Rl a b).map (!·)
section
variable {prog:Program} {w:World} {A:Around} {E:Value->Shared->Prop} {s:Shared}
theorem o7 {y:Str} {l:List Nat} (h:y.cps.toList=l):y=⟨⟨l⟩⟩:=by obtain ⟨⟨l'⟩⟩:=y; simp at h; rw [h]
theorem jn (l:List Nat) (c:Nat):decide (c∈l)=l.contains c:=by rw [Bool.eq_iff_iff]; simp
noncomputable def CmpP (s:Shared) (r:Bool) (v:Value) (s':Shared):Prop:=v=.bool r∧∃t,s'={ s with toks:=t }
theorem CmpP.mk (r:Bool):CmpP s r (.bool r) s:=⟨rfl,s.toks,rfl⟩
theorem Ee {f:Int->Int->Bool} {a b:PyData} {r:Bool} (e:vy f a b=some r):∃x y,a=.int x∧b=.int y∧f x y=r:=by
 cases a with
 | int x=>cases b with
  | int y=>exact ⟨x,y,rfl,rfl,b9 e⟩
  | _=>exact al e
 | _=>exact al e
theorem nf {op:CmpOp} {f:Int->Int->Bool} {a b:PyData} {r:Bool} {va vb:Value} {as bs:List Addr} (ra:RD s.heap va a as) (rb:RD s.heap vb b bs) (e:vy f a b=some r)
  (k:∀x y t u,wpAny (model prog w) A (compareOp op (.int x t) (.int y u)) (CmpP s (f x y)) bn s):wpAny (model prog w) A (compareOp op va vb) (CmpP s r) bn s:=by
 obtain ⟨x,y,rfl,rfl,rfl⟩:=Ee e
 exact RD.int2 (C:=λva vb=>wpAny (model prog w) A (compareOp op va vb) (CmpP s (f x y)) bn s) ra rb (k x y)
inductive Qh (a b:PyData) (r:Bool):Prop
 | bb (x y:Bool):a=.bool x->b=.bool y->(x==y)=r->Qh a b r
 | nn:a=.none->b=.none->true=r->Qh a b r
 | nx (x:Int):a=.int x->b=.none->false=r->Qh a b r
theorem Kg {a b:PyData} {r:Bool} (e:Ql a b=some r):Qh a b r:=by
 cases a with
 | bool x=>cases b with
  | bool y=>exact .bb x y rfl rfl (b9 e)
  | _=>exact al e
 | none=>cases b with
  | none=>exact .nn rfl rfl (b9 e)
  | _=>exact al e
 | int x=>cases b with
  | none=>exact .nx x rfl rfl (b9 e)
  | _=>exact al e
 | _=>exact al e
theorem Ib {C:Value->Value->Bool->Prop} {a b:PyData} {r:Bool} {va vb:Value} {as bs:List Addr} (ra:RD s.heap va a as) (rb:RD s.heap vb b bs) (e:Ql a b=some r)
  (k1:∀x y,C (.bool x) (.bool y) (x==y)) (k2:C .none .none true) (k3:∀x t,C (.int x t) .none false):C va vb r:=by
 cases Kg e with
 | bb x y h1 h2 h3 =>
  subst h1 h2 h3
  refine ra.bool_.1.symm▸rb.bool_.1.symm▸?_
  exact k1 x y
 | nn h1 h2 h3 =>
  subst h1 h2 h3
  refine ra.none_.1.symm▸rb.none_.1.symm▸?_
  exact k2
 | nx x h1 h2 h3 =>
  subst h1 h2 h3
  obtain ⟨t,q,_⟩:=ra.int_
  refine q.symm▸rb.none_.1.symm▸?_
  exact k3 x t
inductive Qi (a b:PyData) (r:Bool):Prop
 | li (l:List PyData):b=.list l->uh 3 a=true->l.any (λy=>PyData.eqv y a)=r->Qi a b r
 | si (x:Str) (c:Nat):b=.str x->a=.str ⟨⟨[c]⟩⟩->x.cps.toList.contains c=r->Qi a b r
theorem Ks {l m:List Nat} {r:Bool} (e:(match l with | [c]=>some (m.contains c) | _=>none)=some r):∃c,l=[c]∧m.contains c=r :=
 match l,e with
 | [c],e=>⟨c,rfl,b9 e⟩
 | [],e=>al e
 | _::_::_,e=>al e
theorem Ci {a b:PyData} {r:Bool} (e:Rl a b=some r):Qi a b r:=by
 cases b with
 | list l =>
  exact ay e λh q=>.li l rfl h (q▸(show (λy=>Ol y a)=λy=>PyData.eqv y a from funext λy=>qo y a).symm▸rfl)
 | str x=>cases a with
  | str y =>
   obtain ⟨c,h1,h2⟩:=Ks e
   exact .si x c rfl ((o7 h1).symm▸rfl) h2
  | _=>exact al e
 | _=>exact al e
theorem Id {x y n:Nat} (R:Room A 1) (hn:n≤3) (h:x≤n∨y≤n):A.units+1+min x y < cLine:=by
 have hu:=R.units
 have cl:cLine=9900:=rfl
 have:min x y≤n:=h.elim (Nat.le_trans (Nat.min_le_left _ _)) (Nat.le_trans (Nat.min_le_right _ _))
 lia
theorem Gf {op:CmpOp} {a b:PyData} {r r':Bool} {va vb:Value} {as bs:List Addr} (ra:RD s.heap va a as) (rb:RD s.heap vb b bs) (e:Qi a b r)
  (k1:∀l x y n,RD s.heap va a as->RDs s.heap x l y->∀bs',Reads s.heap vb (.list l) bs'->uh 3 a=true->b=.list l->n=l.any (λy=>PyData.eqv y a)->n=r->wpAny (model prog w) A (compareOp op va vb) (CmpP s r') bn s)
  (k2:∀x c t u,x.cps.toList.contains c=r->wpAny (model prog w) A (compareOp op (.str ⟨#[c]⟩ t) (.str x u)) (CmpP s r') bn s):wpAny (model prog w) A (compareOp op va vb) (CmpP s r') bn s:=by
 cases e with
 | li l h1 h2 h3 =>
  subst h1
  obtain ⟨_,Rb⟩:=rb.reads
  obtain ⟨_,vs,_,bs',_,_,_,_,q⟩:=rb.list_
  exact k1 l _ _ _ ra q _ Rb h2 rfl rfl h3
 | si x c h1 h2 h3 =>
  subst h1 h2
  obtain ⟨t,q1,_⟩:=ra.str_
  obtain ⟨u,q2,_⟩:=rb.str_
  refine q1.symm▸q2.symm▸?_
  exact k2 x c t u h3
theorem Cw {o:Option Bool} {r:Bool} (e:o.map (!·)=some r):o=some !r:=by
 cases o with
 | none=>exact al e
 | some x=>rw [← b9 e]; cases x<;>rfl
theorem Jg (op:CmpOp) {a b:PyData} {r:Bool} {va vb:Value} {as bs:List Addr} (R:Room A 1) (ra:RD s.heap va a as) (rb:RD s.heap vb b bs) (e:di op a b=some r) :
  wpAny (model prog w) A (compareOp op va vb) (λv s'=>v=.bool r∧∃t,s'={ s with toks:=t }) bn s:=by
 show wpAny (model prog w) A (compareOp op va vb) (CmpP s r) bn s
 have room:(uh 3 a||uh 3 b)=true->A.units+min a.depth b.depth < cLine:=λh=>by
  have:=Id (x:=a.depth) (y:=b.depth) R (Nat.le_refl 3) ((Bool.or_eq_true _ _▸h:uh 3 a=true∨uh 3 b=true).imp (iz 3 a) (iz 3 b))
  exact Nat.lt_of_le_of_lt (Nat.add_le_add_right (Nat.le_add_right _ _) _) this
 have roomIn:∀{l:List PyData},uh 3 a=true->A.units+1+min (PyData.depthAll l) a.depth < cLine:=λh=>Id R (Nat.le_refl 3) (.inr (iz 3 a h))
 cases op with
 | Eq =>
  obtain ⟨_,Ra⟩:=ra.reads
  obtain ⟨_,Rb⟩:=rb.reads
  exact ay e λh q=>SeqAt.compareEq_reads Ra Rb ra.canLay rb.canLay (room h) (by rw [← qo,q]; exact .mk _)
 | NotEq =>
  obtain ⟨_,Ra⟩:=ra.reads
  obtain ⟨_,Rb⟩:=rb.reads
  exact ay e λh q=>SeqAt.compareNe_reads Ra Rb ra.canLay rb.canLay (room h) (by rw [← qo,q]; exact .mk _)
 | Lt=>exact nf ra rb e λ_ _ _ _=>PyProof.Rows.lt_int (.mk _)
 | LtE=>exact nf ra rb e λ_ _ _ _=>PyProof.Rows.le_int (.mk _)
 | Gt=>exact nf ra rb e λ_ _ _ _=>PyProof.Rows.gt_int (.mk _)
 | GtE=>exact nf ra rb e λ_ _ _ _=>PyProof.Rows.ge_int (.mk _)
 | Is=>exact Ib (C:=λva vb r=>wpAny (model prog w) A (compareOp .Is va vb) (CmpP s r) bn s) ra rb e (λ_ _=>is_bool (.mk _)) (is_none_none (.mk _)) λ_ _=>is_none_ne (λh=>nomatch h) (.mk _)
 | IsNot =>
  have:=Ib (C:=λva vb r=>wpAny (model prog w) A (compareOp .IsNot va vb) (CmpP s (!r)) bn s) ra rb (Cw e) (λ_ _=>isnot_bool (.mk _)) (isnot_none_none (.mk _)) λ_ _=>isnot_none_ne (λh=>nomatch h) (.mk _)
  rwa [Bool.not_not] at this
 | In =>
  exact Gf ra rb (Ci e) (λl x y n ra q _ Rb h hb hn hr=>by
   obtain ⟨_,Ra⟩:=ra.reads
   exact SeqAt.in_list_reads Rb Ra q.canLay ra.canLay (roomIn h) (by rw [← hn,hr]; exact .mk _)) λx c t u h=>in_str (by rw [StrLaws.found_one,jn,h]; exact .mk _)
 | NotIn =>
  exact Gf (r:=!r) ra rb (Ci (Cw e)) (λl x y n ra q _ Rb h hb hn hr=>by
   obtain ⟨_,Ra⟩:=ra.reads
   exact SeqAt.notIn_list_reads Rb Ra q.canLay ra.canLay (roomIn h) (by rw [← hn,hr,Bool.not_not]; exact .mk _)) λx c t u h=>notIn_str (by rw [StrLaws.found_one,jn,h,Bool.not_not]; exact .mk _)
end
theorem VRs.map {ρ ρ':av} {Z Z':List Addr} {h h':Heap} (f:∀{p v},VR ρ Z h p v->VR ρ' Z' h' p v) {ps:List PV} {vs:List Value} (r:VRs ρ Z h ps vs):VRs ρ' Z' h' ps vs:=VRs.rec (motive:=λps vs _=>VRs ρ' Z' h' ps vs) .nil (λx _ ih=>.cons (f x) ih) r
theorem VRs.ext {X:List Addr} {ρ ρ':av} {s s':Shared} {Z:List Addr} (x:Ext X ρ s ρ' s') (hX:∀a∈X,a∈Z) {ps:List PV} {vs:List Value} (r:VRs ρ Z s.heap ps vs):VRs ρ' Z s'.heap ps vs:=r.map λy=>y.ext x hX
noncomputable def rds (hp:List MO):List PV->Option (List PyData)
 | []=>some []
 | p::r=>match rd hp p,rds hp r with
  | some d,some ds=>some (d::ds)
  | _,_=>none
noncomputable def fz:List PV->Option (List PyData)
 | []=>some []
 | .dat d::r=>(fz r).map (d::·)
 | _::_=>none
theorem D6 {p:PV} {r:List PV} {ds:List PyData} {C:Prop} (e:fz (p::r)=some ds) (k:∀d l,p=.dat d->fz r=some l->d::l=ds->C):C:=by
 cases p with
 | dat d =>
  obtain ⟨l,h1,h2⟩:=Option.map_eq_some_iff.mp (show (fz r).map (d::·)=some ds from e)
  exact k d l rfl h1 h2
 | _=>exact al e
theorem tl {ρ:av} {Z:List Addr} {h:Heap} {ps:List PV} {vs:List Value} {ds:List PyData} (x:VRs ρ Z h ps vs) (e:fz ps=some ds):∃as,RDs h vs ds as∧∀a∈as,a∉ax ρ∧a∉Z:=by
 revert ds
 refine VRs.rec (motive:=λps vs _=>∀{ds:List PyData},fz ps=some ds->∃as,RDs h vs ds as∧∀a∈as,a∉ax ρ∧a∉Z) (λe=>⟨[],b9 e▸.nil,λ_ h=>ck h⟩) (λx _ ih ds e=>D6 e λd l h1 h2 h3=>?_) x
 rw [h1] at x
 obtain ⟨as,ra,ha⟩:=x
 obtain ⟨bs,rb,hb⟩:=ih h2
 exact ⟨as++bs,h3▸.cons ra rb,λa h=>(List.mem_append.mp h).elim (ha a) (hb a)⟩
section
variable {prog:Program} {w:World} {K:Addr->Option Obj} {fx:Fx} {Z:List Addr}
theorem NewD.post {ρ:av} {Z:List Addr} {hp:List MO} {s s':Shared} {d:PyData} {P:Addr->Prop} {v:Value} (H:HR ρ Z hp s.heap) (x:NewD s d P v s') (hP:∀a,P a->a∉ax ρ∧a∉Z):Post ρ Z s (.dat d) hp v s':=by
 refine cps λ_ KK=>?_
 obtain ⟨h,t,as,rfl,k,r,q,_⟩:=x
 refine KK ?_
 exact ⟨ρ,Ext.of_keep k,⟨as,r,λa ha=>(q a ha).elim H.fresh (hP a)⟩,H.keep k⟩
theorem Post.trans {ρ ρ_1:av} {Z:List Addr} {hp':List MO} {s s_1 s_2:Shared} {pv:PV} {v:Value} (x:Ext [] ρ s ρ_1 s_1) (p:Post ρ_1 Z s_1 pv hp' v s_2):Post ρ Z s pv hp' v s_2 :=
 Exists.elim p λρ' q=>⟨ρ',x.trans q.1,q.2⟩
theorem Post.of_toks {ρ:av} {Z:List Addr} {hp:List MO} {s:Shared} {pv:PV} {v:Value} {t:Nat} (H:HR ρ Z hp s.heap) (r:VR ρ Z s.heap pv v):Post ρ Z s pv hp v { s with toks:=t } :=
 ⟨ρ,Ext.of_keep (h:=s.heap) λ_ _ e=>e,r,H⟩
noncomputable def af {α:Type} (F:EF) (G:PV->St->Option (α×List MO)):St->Option (α×List MO):=λσ=>match F σ with
 | some (v,hp)=>G v ⟨σ.loc,hp⟩
 | none=>none
abbrev NF:=St->Option (PyData×List MO)
noncomputable def dw (f:PyData->PyData->Option PyData) (a b:PV):NF:=λσ=>match rd σ.hp a,rd σ.hp b with
 | some x,some y=>match f x y with
  | some d=>some (d,σ.hp)
  | none=>none
 | _,_=>none
noncomputable def PostN (ρ:av) (Z:List Addr) (s:Shared) (d:PyData) (hp':List MO) (v:Value) (s':Shared):Prop :=
 ∃ρ' s_2 P,Ext [] ρ s ρ' s_2∧HR ρ' Z hp' s_2.heap∧NewD s_2 d P v s'∧∀a,P a->a∉ax ρ'∧a∉Z
structure EvN (prog:Program) (w:World) (K:Addr->Option Obj) (fx:Fx) (e:Expr) (F:NF):Prop where
 run:∀(A:Around) (ρ:av) (Z:List Addr) (σ:St) (s:Shared) (d:PyData) (hp':List MO),Room A fx.k->SR K fx ρ Z σ s->F σ=some (d,hp') ->
  wpAny (model prog w) A (eval e fx.env) (PostN ρ Z s d hp') bn s
theorem PostN.post {ρ:av} {Z:List Addr} {hp:List MO} {s s':Shared} {d:PyData} {v:Value} (p:PostN ρ Z s d hp v s'):Post ρ Z s (.dat d) hp v s' :=
 Exists.elim p λ_ p=>p.elim λ_ p=>p.elim λ_ p=>Post.trans p.1 (p.2.2.1.post p.2.1 p.2.2.2)
theorem PostN.track {ρ:av} {Z:List Addr} {hp:List MO} {s s':Shared} {ds:List PyData} {v:Value} (p:PostN ρ Z s (.list ds) hp v s'):Post ρ Z s (.obj hp.length) (hp++[.lst ds]) v s':=by
 refine cps λ_ KK=>?_
 obtain ⟨ρ',s_2,P,x,H,⟨h,t,as,rfl,k,r,q,q'⟩,hP⟩:=p
 obtain ⟨a,vs,n,as',rfl,has,h1,_,h6⟩:=r.list_
 refine KK ?_
 have fr:=q' a (by rw [has]; rfl)
 replace fr:=has▸fr
 refine ⟨ρ'++[(a,a)],x.trans ⟨⟨_,rfl,λp hp=>(List.mem_singleton.mp hp).symm▸fr.1⟩,λb o _ _ e=>k b o e,λb o e=>⟨o,k b o e⟩,rfl,rfl,λ_ _ e=>e,λh=>h⟩,?_,H.push fr.1 k ⟨rfl,_,vs,n,as',h1,rfl,rfl,rfl,rfl,h6,λc hc=>?_⟩⟩
 ·exact ⟨a,a,by rw [List.getElem?_append_right (H.len.symm▸Nat.le_refl _),H.len,Nat.sub_self]; rfl,rfl⟩
 ·have base:c∉ax ρ'∧c∉Z:=(q c (has▸List.mem_cons_of_mem _ hc)).elim H.fresh (hP c)
  refine ⟨λm=>?_,base.2⟩
  rw [bo,List.mem_append] at m
  exact m.elim base.1 λm=>fr.2 ((List.mem_singleton.mp m:c=a)▸hc)
noncomputable def am (F:NF):EF:=λσ=>match F σ with
 | some (d,hp)=>some (.dat d,hp)
 | none=>none
noncomputable def ll (F:NF):EF:=λσ=>match F σ with
 | some (.list l,hp)=>some (.obj hp.length,hp++[.lst l])
 | _=>none
theorem Gj {F:NF} {σ:St} {pv:PV} {hp':List MO} {C:Prop} (q:am F σ=some (pv,hp')) (k:∀d,F σ=some (d,hp')->.dat d=pv->C):C:=by
 unfold am at q
 cases h:F σ with
 | none=>rw [h] at q; exact al q
 | some x =>
  replace q:=h▸q
  obtain ⟨h1,h2⟩:=cq q
  exact k x.1 (h.symm▸h2▸rfl) h1
theorem Gz {F:NF} {σ:St} {pv:PV} {hp':List MO} {C:Prop} (q:ll F σ=some (pv,hp')) (k:∀l hp,F σ=some (.list l,hp)->.obj hp.length=pv->hp++[.lst l]=hp'->C):C:=by
 unfold ll at q
 cases h:F σ with
 | none=>rw [h] at q; exact al q
 | some x =>
  obtain ⟨d,hp⟩:=x
  replace q:=h▸q
  cases d with
  | list l =>
   obtain ⟨h1,h2⟩:=cq q
   exact k l hp h h1 h2
  | _=>exact al q
theorem EvN.dat {e:Expr} {F:NF} (h:EvN prog w K fx e F):Ev prog w K fx e (am F):=.mk λA ρ Z σ s pv hp' Rm R q =>
 Gj q λd hd hp=>wpAny_mono (h.run A ρ Z σ s _ _ Rm R hd) (λv s' p=>hp▸p.post) λ_ _ q=>q
theorem EvN.trk {e:Expr} {F:NF} (h:EvN prog w K fx e F):Ev prog w K fx e (ll F):=.mk λA ρ Z σ s pv hp' Rm R q =>
 Gz q λl hp hd h1 h2=>wpAny_mono (h.run A ρ Z σ s _ _ Rm R hd) (λv s' p=>h1▸h2▸p.track) λ_ _ q=>q
theorem Post.val {ρ:av} {Z:List Addr} {hp hp':List MO} {s:Shared} {d:PyData} {pv:PV} {v:Value} {t:Nat} (H:HR ρ Z hp s.heap) (e:some (PV.dat d,hp)=some (pv,hp')) (r:RD s.heap v d []):Post ρ Z s pv hp' v { s with toks:=t } :=
 (cq e).1▸(cq e).2▸Post.of_toks H ⟨[],r,λ_ h=>ck h⟩
theorem Ev.none_ {k pos}:Ev prog w K fx (.Constant .none k pos) (λσ=>some (.dat .none,σ.hp)):=.mk λA ρ Z σ s pv hp' _ R e=>wpAny_Constant_none (Post.val (t:=s.toks) R.hr e .none)
theorem Ev.bool {b k pos}:Ev prog w K fx (.Constant (.bool b) k pos) (λσ=>some (.dat (.bool b),σ.hp)):=.mk λA ρ Z σ s pv hp' _ R e=>wpAny_Constant_bool (Post.val (t:=s.toks) R.hr e (.bool b))
theorem Ev.int {i k pos}:Ev prog w K fx (.Constant (.int i) k pos) (λσ=>some (.dat (.int i),σ.hp)):=.mk λA ρ Z σ s pv hp' _ R e=>wpAny_Constant_int (Post.val R.hr e (.int i _))
theorem Ev.str {x k pos} {l:List Nat} (hl:x=⟨⟨l⟩⟩) (ho:PyData.strOk x=true):Ev prog w K fx (.Constant (.str x) k pos) (λσ=>some (.dat (.str ⟨⟨l⟩⟩),σ.hp)):=.mk λA ρ Z σ s pv hp' _ R e =>
 wpAny_Constant_str (Post.val R.hr (hl▸e) (.str x _ ho))
noncomputable def eg (loc:bg) (i:Nat):Option PV:=match loc[i]? with
 | some (some pv)=>some pv
 | _=>none
theorem qt {loc:bg} {i:Nat} {pv:PV} (h:eg loc i=some pv):loc[i]?=some (some pv):=by
 unfold eg at h
 cases q:loc[i]? with
 | none=>rw [q] at h; exact al h
 | some x=>cases x with
  | none=>rw [q] at h; exact al h
  | some y=>rw [q] at h; rw [b9 h]
noncomputable def aa (i:Nat):EF:=λσ=>match eg σ.loc i with
 | some pv=>some (pv,σ.hp)
 | none=>none
noncomputable def Qd (env:Env) (m cm:Str->Option Value) (x:Str) (v:Value):Prop :=
 (env.kindOf x=some .local∧m x=some v)∨((env.kindOf x=some .cell∨env.kindOf x=some .free)∧∃c,env.cells.lookup x=some c∧cm x=some v)
theorem on {o:Option NameKind} {a b:Option Value} {v:Value} {C:Prop} (e:(match o with | some .local=>a | some .cell=>b | some .free=>b | _=>none)=some v) (k1:o=some .local->a=some v->C) (k2:o=some .cell∨o=some .free->b=some v->C):C:=by
 cases o with
 | none=>exact al e
 | some x=>cases x with
  | «local»=>exact k1 rfl e
  | cell=>exact k2 (.inl rfl) e
  | free=>exact k2 (.inr rfl) e
  | _=>exact al e
theorem mj {env:Env} {m cm:Str->Option Value} {x:Str} {v:Value} (h:cf env m cm x=some v):Qd env m cm x v :=
 on (show (match env.kindOf x with | some .local=>m x | some .cell=>(env.cells.lookup x).bind λ_=>cm x | some .free=>(env.cells.lookup x).bind λ_=>cm x | _=>none)=some v from h) (λh1 h2=>.inl ⟨h1,h2⟩) λh1 h2 =>
  (Option.bind_eq_some_iff.mp h2).elim λc q=>.inr ⟨h1,c,q⟩
theorem E6 {i:Nat} {σ:St} {pv:PV} {hp':List MO} (e:aa i σ=some (pv,hp')):eg σ.loc i=some pv∧σ.hp=hp':=by
 unfold aa at e
 cases h:eg σ.loc i with
 | none=>rw [h] at e; exact al e
 | some x=>rw [h] at e; exact ⟨congrArg some (cq e).1,(cq e).2⟩
theorem Ev.name {i:Nat} {x:Str} {pos:Pos} (hv:fx.vars.lookup i=some x) (hd:(x==("__debug__":Str))=false:=by decide) (hd':(x==("__classdict__":Str))=false:=by decide):Ev prog w K fx (.Name x pos) (aa i):=.mk λA ρ Z σ s pv hp' _ R e=>by
 refine cps λ_ KK=>?_
 obtain ⟨hp,hh⟩:=E6 e
 obtain ⟨m,cm,hn,hc,hvs⟩:=R.er.ex
 obtain ⟨v,hs,r⟩:=hvs i x _ hv (qt hp)
 refine KK ?_
 have fin:Post ρ Z s pv hp' v s:=Post.of_toks (t:=s.toks) (hh▸R.hr) r
 refine wpAny_Name ?_ hd
 rcases mj hs with ⟨hk,hm⟩ | ⟨hk | hk,c,hl,hm⟩
 ·exact wpAny_loadName_local R.er.fn hk hn hm fin
 ·exact wpAny_loadName_cell R.er.fn hk hl (hm▸hc x c hl) fin
 ·exact wpAny_loadName_free R.er.fn hk hl (hm▸hc x c hl) fin hd'
theorem A4 {α:Type} {F:EF} {G:PV->St->Option (α×List MO)} {σ:St} {r:α×List MO} (e:af F G σ=some r):∃v hp,F σ=some (v,hp)∧G v ⟨σ.loc,hp⟩=some r:=by
 unfold af at e
 cases h:F σ with
 | none=>rw [h] at e; exact al e
 | some x=>rw [h] at e; exact ⟨x.1,x.2,rfl,e⟩
theorem rq {f:PyData->PyData->Option PyData} {a b:PV} {σ:St} {d:PyData} {hp':List MO} {C:Prop} (e:dw f a b σ=some (d,hp')) (k:∀x y,rd σ.hp a=some x->rd σ.hp b=some y->f x y=some d->σ.hp=hp'->C):C:=by
 unfold dw at e
 cases h1:rd σ.hp a with
 | none=>rw [h1] at e; exact al e
 | some x=>cases h2:rd σ.hp b with
  | none=>rw [h1,h2] at e; exact al e
  | some y =>
   replace e:=h2▸h1▸e
   have e:(match f x y with | some d=>some (d,σ.hp) | none=>none)=some (d,hp'):=e
   cases h3:f x y with
   | none=>rw [h3] at e; exact al e
   | some z =>
    replace e:=h3▸e
    exact k x y h1 h2 (h3.symm▸((cq e).1).symm▸rfl) (cq e).2
theorem Ev.then {α:Type} {e:Expr} {F:EF} {G:PV->St->Option (α×List MO)} (h:Ev prog w K fx e F) {A:Around} {ρ:av} {Z:List Addr} {σ:St} {s:Shared} {r:α×List MO} (Rm:Room A fx.k) (R:SR K fx ρ Z σ s)
  (q:af F G σ=some r) {Q:Value->Shared->Prop}
  (k:∀a v h1 ρ_1 s_1,G a ⟨σ.loc,h1⟩=some r->Ext [] ρ s ρ_1 s_1->VR ρ_1 Z s_1.heap a v->SR K fx ρ_1 Z ⟨σ.loc,h1⟩ s_1->Q v s_1):wpAny (model prog w) A (eval e fx.env) Q bn s:=by
 obtain ⟨a,h1,e1,e2⟩:=A4 q
 refine wpAny_mono (h.run A ρ Z σ s _ _ Rm R e1) (λv s_1 p=>?_) λ_ _ q=>q
 obtain ⟨ρ_1,x_1,v_1,H_1⟩:=p
 exact k a v h1 ρ_1 s_1 e2 x_1 v_1 (R.next x_1 H_1)
theorem Ev.then2 {α:Type} {e e':Expr} {F F':EF} {G:PV->PV->St->Option (α×List MO)} (h:Ev prog w K fx e F) (h':Ev prog w K fx e' F') {A:Around} {ρ:av} {Z:List Addr} {σ:St} {s:Shared} {r:α×List MO} (Rm:Room A fx.k) (R:SR K fx ρ Z σ s)
  (q:af F (λa=>af F' (G a)) σ=some r) {Q:Value->Value->Shared->Prop}
  (k:∀a b va vb hp ρ_1 s_1,G a b ⟨σ.loc,hp⟩=some r->Ext [] ρ s ρ_1 s_1->VR ρ_1 Z s_1.heap a va->VR ρ_1 Z s_1.heap b vb->SR K fx ρ_1 Z ⟨σ.loc,hp⟩ s_1->Q va vb s_1):wpAny (model prog w) A (eval e fx.env) (λva s_1=>wpAny (model prog w) A (eval e' fx.env) (Q va) bn s_1) bn s :=
 h.then Rm R q λa va h1 ρ_1 s_1 e1 x_1 v_1 R_1=>h'.then Rm R_1 e1 λb vb h2 ρ_2 s_2 e2 x_2 v_2 R_2=>k a b va vb h2 ρ_2 s_2 e2 (x_1.trans x_2) (v_1.ext x_2 (λ_ h=>ck h)) v_2 R_2
theorem EvN.bin {l r:Expr} {op:Operator} {pos:Pos} {Fl Fr:EF} (hl:Ev prog w K fx l Fl) (hr:Ev prog w K fx r Fr) :
  EvN prog w K fx (.BinOp l op r pos) (af Fl λa=>af Fr λb=>dw (rj op) a b):=.mk λA ρ Z σ s d hp' Rm R e =>
 wpAny_BinOp (hl.then2 hr Rm R e λa b va vb h2 ρ_2 s_2 e2 x v_1 v_2 R_2=>rq e2 λx' y hx hy hd q =>
  (ft R_2.hr v_1 hx).elim λas ra=>(ft R_2.hr v_2 hy).elim λbs rb =>
  wpAny_mono (Ow op ra.1 rb.1 hd) (λv s_3 n=>⟨_,_,_,x,q▸R_2.hr,n,λc hc=>hc.elim (ra.2 c) (rb.2 c)⟩) λ_ _ q=>q)
theorem CmpP.new {s s':Shared} {r:Bool} {v:Value} (n:CmpP s r v s'):NewD s (.bool r) (λ_=>False) v s':=by
 obtain ⟨rfl,t,rfl⟩:=n
 exact NewD.val (.bool _)
theorem EvN.cmp {l r:Expr} {op:CmpOp} {pos:Pos} {Fl Fr:EF} (hl:Ev prog w K fx l Fl) (hr:Ev prog w K fx r Fr) (hk:1≤fx.k:=by decide) (hm:behindInMarks op r=false:=by rfl) :
  EvN prog w K fx (.Compare l [op] [r] pos) (af Fl λa=>af Fr λb=>dw (λx y=>(di op x y).map .bool) a b):=.mk λA ρ Z σ s d hp' Rm R e =>
 wpAny_Compare1 (hl.then2 hr Rm R e λa b va vb h2 ρ_2 s_2 e2 x v_1 v_2 R_2=>rq e2 λx' y hx hy hd q =>
  (ft R_2.hr v_1 hx).elim λas ra=>(ft R_2.hr v_2 hy).elim λbs rb=>(Option.map_eq_some_iff.mp hd).elim λd' hd =>
  wpAny_mono (Jg op (Rm.mono hk) ra.1 rb.1 hd.1) (λv s_3 n=>⟨_,_,λ_=>False,x,q▸R_2.hr,hd.2▸CmpP.new n,λ_ h=>h.elim⟩) λ_ _ q=>q) hm
theorem Ev.neg {e:Expr} {pos:Pos} {i:Int} {k p} (he:e=.Constant (.int i) k p):Ev prog w K fx (.UnaryOp .USub e pos) (λσ=>some (.dat (.int (-i)),σ.hp)):=.mk λA ρ Z σ s pv hp' _ R q =>
 he▸wpAny_UnaryOp (wpAny_Constant_int (neg_int (Post.val R.hr q (.int (-i) _))))
end
section
variable {prog:Program} {w:World} {K:Addr->Option Obj} {fx:Fx} {Z:List Addr}
abbrev LF:=St->Option (List PV×List MO)
structure EvL (prog:Program) (w:World) (K:Addr->Option Obj) (fx:Fx) (es:List Expr) (F:LF):Prop where
 run:∀(pos:Pos) (A:Around) (ρ:av) (Z:List Addr) (σ:St) (s:Shared) (ps:List PV) (hp':List MO),Room A fx.k->SR K fx ρ Z σ s->F σ=some (ps,hp') ->
  wpAny (model prog w) A (spliced (backTo pos (starEach es fx.env))) (λvs s'=>∃ρ',Ext [] ρ s ρ' s'∧VRs ρ' Z s'.heap ps vs∧HR ρ' Z hp' s'.heap) bn s
noncomputable def ba:LF:=λσ=>some ([],σ.hp)
noncomputable def ak (F:EF) (G:LF):LF:=af F λp σ=>match G σ with
 | some (ps,hp)=>some (p::ps,hp)
 | none=>none
theorem EvL.nil:EvL prog w K fx [] ba:=.mk λpos A ρ Z σ s ps hp' Rm R e=>by
 cases e
 exact wpAny_items_nil ⟨ρ,Ext.refl _ _ _,.nil,R.hr⟩
theorem Er {G:LF} {p:PV} {σ:St} {ps:List PV} {hp':List MO} {C:Prop} (q:(match G σ with | some (ps,hp)=>some (p::ps,hp) | none=>none)=some (ps,hp')) (k:∀l,G σ=some (l,hp')->p::l=ps->C):C:=by
 cases h:G σ with
 | none=>rw [h] at q; exact al q
 | some x =>
  replace q:=h▸q
  exact k x.1 (h.symm▸((cq q).2)▸rfl) (cq q).1
theorem EvL.cons {e:Expr} {r:List Expr} {F:EF} {G:LF} (h:Ev prog w K fx e F) (hr:EvL prog w K fx r G) (he:∀env,starEach (e::r) env=(false,eval e env)::starEach r env:=by intro _; rfl) :
  EvL prog w K fx (e::r) (ak F G):=.mk λpos A ρ Z σ s ps hp' Rm R q =>
 wpAny_items_cons (h.then Rm R q λa v h1 ρ_1 s_1 e1 x_1 v_1 R_1=>Er e1 λl e2 hps =>
  wpAny_mono (hr.run pos A ρ_1 Z ⟨σ.loc,h1⟩ s_1 _ _ Rm R_1 e2) (λvs s_2 p=>p.elim λρ_2 p=>⟨ρ_2,x_1.trans p.1,hps▸.cons (v_1.ext p.1 (λ_ h=>ck h)) p.2.1,p.2.2⟩) λ_ _ q=>q) (he _)
noncomputable def cw (G:LF):NF:=λσ=>match G σ with
 | some (ps,hp)=>match fz ps with
  | some ds=>if ds.length≤lim then some (.list ds,hp) else none
  | none=>none
 | none=>none
noncomputable def Fp (G:LF):NF:=λσ=>match G σ with
 | some (ps,hp)=>match fz ps with
  | some ds=>if ds.length≤lim then some (.tuple ds,hp) else none
  | none=>none
 | none=>none
theorem VRs.length {ρ:av} {h:Heap} {ps:List PV} {vs:List Value} (r:VRs ρ Z h ps vs):ps.length=vs.length:=VRs.rec (motive:=λps vs _=>ps.length=vs.length) rfl (λ_ _ ih=>congrArg (·+1) ih) r
theorem u3 {G:LF} {f:List PyData->PyData} {σ:St} {d:PyData} {hp':List MO} {C:Prop} (q:(match G σ with
 | some (ps,hp)=>match fz ps with
  | some ds=>if ds.length≤lim then some (f ds,hp) else none
  | none=>none
 | none=>none)=some (d,hp')) (k:∀ps ds,G σ=some (ps,hp')->fz ps=some ds->ds.length≤lim->f ds=d->C):C:=by
 cases h:G σ with
 | none=>rw [h] at q; exact al q
 | some x =>
  replace q:=h▸q
  have q:(match fz x.1 with | some ds=>if ds.length≤lim then some (f ds,x.2) else none | none=>none)=some (d,hp'):=q
  cases h2:fz x.1 with
  | none=>rw [h2] at q; exact al q
  | some ds =>
   replace q:=h2▸q
   exact ay (show (if ds.length≤lim then some (f ds,x.2) else none)=_ from q) λhl e=>k x.1 ds (h.symm▸((Prod.mk.inj e).2)▸rfl) h2 hl (Prod.mk.inj e).1
theorem EvL.newD {es:List Expr} {pos:Pos} {G:LF} (h:EvL prog w K fx es G) {A:Around} {ρ:av} {σ:St} {s:Shared} {ps:List PV} {ds:List PyData} {hp':List MO} (Rm:Room A fx.k) (R:SR K fx ρ Z σ s) (e1:G σ=some (ps,hp')) (e2:fz ps=some ds) (hl:ds.length≤lim) {Q:List Value->Shared->Prop}
  (k:∀vs s_1 ρ_1 as,vs.length≤2 ^ 24->Ext [] ρ s ρ_1 s_1->HR ρ_1 Z hp' s_1.heap->RDs s_1.heap vs ds as->(∀a∈as,a∉ax ρ_1∧a∉Z)->Q vs s_1):wpAny (model prog w) A (spliced (backTo pos (starEach es fx.env))) Q bn s :=
 wpAny_mono (h.run pos A ρ Z σ s _ _ Rm R e1) (λvs s_1 p=>p.elim λρ_1 p=>(tl p.2.1 e2).elim λas r=>k vs s_1 ρ_1 as (r.1.length.symm▸Nat.le_trans hl (by decide)) p.1 p.2.2 r.1 r.2) λ_ _ q=>q
theorem EvN.list {es:List Expr} {pos:Pos} {G:LF} (h:EvL prog w K fx es G):EvN prog w K fx (.List es pos) (cw G):=.mk λA ρ Z σ s d hp' Rm R e =>
 u3 e λps ds e1 e2 hl hd=>wpAny_List (h.newD Rm R e1 e2 hl λvs s_1 ρ_1 as hs x H r q=>⟨hs,ρ_1,s_1,λa=>a∈as,x,H,hd▸NewD.list (t:=s_1.toks) r λa ha=>.inr ha,q⟩)
theorem EvN.tuple {es:List Expr} {k:Nat} {pos:Pos} {G:LF} (h:EvL prog w K fx es G):EvN prog w K fx (.Tuple es k pos) (Fp G):=.mk λA ρ Z σ s d hp' Rm R e =>
 u3 e λps ds e1 e2 hl hd=>wpAny_Tuple (h.newD Rm R e1 e2 hl λvs s_1 ρ_1 as hs x H r q=>⟨hs,ρ_1,s_1,λa=>a∈as,x,H,hd▸NewD.tuple (t:=s_1.toks) r λa ha=>.inr ha,q⟩)
abbrev BF:=St->Option (Bool×List MO)
structure Tr (prog:Program) (w:World) (K:Addr->Option Obj) (fx:Fx) (e:Expr) (F:BF):Prop where
 run:∀(A:Around) (ρ:av) (Z:List Addr) (σ:St) (s:Shared) (b:Bool) (hp':List MO),Room A fx.k->SR K fx ρ Z σ s->F σ=some (b,hp') ->
  wpAny (model prog w) A (isTrue e fx.env (eval e fx.env)) (λb' s'=>b'=b∧∃ρ',Ext [] ρ s ρ' s'∧HR ρ' Z hp' s'.heap) bn s
noncomputable def Nd:PyData->Option Bool
 | .none=>some false
 | .bool b=>some b
 | .int i=>some (i != 0)
 | .str x=>if x.cps.size≤lim then some (x.cps.size != 0) else none
 | .list l=>if l.length≤lim then some (l.length != 0) else none
 | _=>none
noncomputable def B6 (p:PV):BF:=λσ=>match rd σ.hp p with
 | some d=>match Nd d with
  | some b=>some (b,σ.hp)
  | none=>none
 | none=>none
noncomputable def TruP (s:Shared) (b:Bool) (b':Bool) (s':Shared):Prop:=b'=b∧∃t,s'={ s with toks:=t }
theorem TruP.mk {s:Shared} (b:Bool):TruP s b b s:=⟨rfl,s.toks,rfl⟩
theorem Dg {A:Around} {s:Shared} {d:PyData} {v:Value} {as:List Addr} {b:Bool} (r:RD s.heap v d as) (e:Nd d=some b):wpAny (model prog w) A (truthy v) (λb' s'=>b'=b∧∃t,s'={ s with toks:=t }) bn s:=by
 show wpAny (model prog w) A (truthy v) (TruP s b) bn s
 cases d with
 | none=>rw [r.none_.1,← b9 e]; exact truthy_none (.mk _)
 | bool c=>rw [r.bool_.1,← b9 e]; exact wpAny_truthy_bool (.mk _)
 | int i =>
  obtain ⟨t,q,_⟩:=r.int_
  refine q.symm▸(b9 e)▸?_
  exact PyProof.Rows.truthy_int (.mk _)
 | str x =>
  obtain ⟨t,q,_⟩:=r.str_
  refine q.symm▸?_
  refine ay e λhl hb=>PySem.P.truthy_str (λh=>?_) ⟨?_,_,rfl⟩
  ·exact absurd (Int.le_trans h (Int.ofNat_le.mpr hl)) (by decide)
  ·refine hb▸?_
   skip
   rw [Bool.eq_iff_iff,bne_iff_ne,bne_iff_ne]
   exact not_congr Int.natCast_eq_zero
 | list xs =>
  obtain ⟨a,vs,n,bs,q,_,h1,hlen,_⟩:=r.list_
  refine q.symm▸?_
  refine ay e λhl hb=>wpAny_truthy_list ⟨_,h1,rfl,n,rfl⟩ (by unfold lim at hl; lia) ⟨?_,_,rfl⟩
  rw [← hb,← hlen,Bool.eq_iff_iff,bne_iff_ne]
  skip
  simp
 | _=>exact al e
theorem Ke {p:PV} {σ:St} {b:Bool} {hp':List MO} {C:Prop} (e:B6 p σ=some (b,hp')) (k:∀d,rd σ.hp p=some d->Nd d=some b->σ.hp=hp'->C):C:=by
 unfold B6 at e
 cases h:rd σ.hp p with
 | none=>rw [h] at e; exact al e
 | some d =>
  replace e:=h▸e
  have e:(match Nd d with | some b=>some (b,σ.hp) | none=>none)=some (b,hp'):=e
  cases h2:Nd d with
  | none=>rw [h2] at e; exact al e
  | some c =>
   replace e:=h2▸e
   exact k d h (h2.symm▸((cq e).1).symm▸rfl) (cq e).2
theorem Tr.val {e:Expr} {F:EF} (h:Ev prog w K fx e F) (he:∀env whole,isTrue e env whole=(do let v ← whole; standAt e.pos; holding [v] (truthy v)):=by intro _ _; rfl):Tr prog w K fx e (af F B6):=.mk λA ρ Z σ s b hp' Rm R q =>
 wpAny_isTrue_value (h.then Rm R q λa v h1 ρ_1 s_1 e1 x_1 v_1 R_1=>Ke e1 λd hd hb hh=>(ft R_1.hr v_1 hd).elim λas r =>
  wpAny_mono (Dg r.1 hb) (λb' s' p=>⟨p.1,p.2.elim λt q=>q▸⟨ρ_1,x_1.trans (Ext.of_keep (h:=s_1.heap) λ_ _ e=>e),hh▸R_1.hr⟩⟩) λ_ _ q=>q) (he _ _)
noncomputable def By (op:CmpOp) (a b:PV):BF:=λσ=>match rd σ.hp a,rd σ.hp b with
 | some x,some y=>match di op x y with
  | some d=>some (d,σ.hp)
  | none=>none
 | _,_=>none
theorem Hn {op:CmpOp} {a b:PV} {σ:St} {d:Bool} {hp':List MO} {C:Prop} (e:By op a b σ=some (d,hp')) (k:∀x y,rd σ.hp a=some x->rd σ.hp b=some y->di op x y=some d->σ.hp=hp'->C):C:=by
 unfold By at e
 cases h1:rd σ.hp a with
 | none=>rw [h1] at e; exact al e
 | some x=>cases h2:rd σ.hp b with
  | none=>rw [h1,h2] at e; exact al e
  | some y =>
   replace e:=h2▸h1▸e
   have e:(match di op x y with | some d=>some (d,σ.hp) | none=>none)=some (d,hp'):=e
   cases h3:di op x y with
   | none=>rw [h3] at e; exact al e
   | some z =>
    replace e:=h3▸e
    exact k x y h1 h2 (h3.symm▸((cq e).1).symm▸rfl) (cq e).2
theorem CmpP.tru {A:Around} {s s':Shared} {r:Bool} {v:Value} {Q:Bool->Shared->Prop} (n:CmpP s r v s') (k:∀t,Q r { s with toks:=t }):wpAny (model prog w) A (truthy v) Q bn s':=by
 obtain ⟨rfl,t,rfl⟩:=n
 exact wpAny_truthy_bool (k t)
theorem Tr.cmp {l r:Expr} {op:CmpOp} {pos:Pos} {Fl Fr:EF} (hl:Ev prog w K fx l Fl) (hr:Ev prog w K fx r Fr) (hk:1≤fx.k:=by decide) (hm:behindInMarks op r=false:=by rfl) :
  Tr prog w K fx (.Compare l [op] [r] pos) (af Fl λa=>af Fr λb=>By op a b):=.mk λA ρ Z σ s d hp' Rm R e =>
 wpAny_isTrue_Compare1 (hl.then2 hr Rm R e λa b va vb h2 ρ_2 s_2 e2 x v_1 v_2 R_2=>Hn e2 λx' y hx hy hd q =>
  (ft R_2.hr v_1 hx).elim λas ra=>(ft R_2.hr v_2 hy).elim λbs rb =>
  wpAny_mono (Jg op (Rm.mono hk) ra.1 rb.1 hd) (λv s_3 n=>CmpP.tru n λt=>⟨rfl,ρ_2,x.trans (Ext.of_keep (h:=s_2.heap) λ_ _ e=>e),q▸R_2.hr⟩) λ_ _ q=>q) hm
noncomputable def fv {α:Type} (F:BF) (G:Bool->St->Option (α×List MO)):St->Option (α×List MO):=λσ=>match F σ with
 | some (b,hp)=>G b ⟨σ.loc,hp⟩
 | none=>none
theorem Ay {α:Type} {F:BF} {G:Bool->St->Option (α×List MO)} {σ:St} {r:α×List MO} (e:fv F G σ=some r):∃v hp,F σ=some (v,hp)∧G v ⟨σ.loc,hp⟩=some r:=by
 unfold fv at e
 cases h:F σ with
 | none=>rw [h] at e; exact al e
 | some x=>rw [h] at e; exact ⟨x.1,x.2,rfl,e⟩
theorem Tr.then {α:Type} {e:Expr} {F:BF} {G:Bool->St->Option (α×List MO)} (h:Tr prog w K fx e F) {A:Around} {ρ:av} {Z:List Addr} {σ:St} {s:Shared} {r:α×List MO} (Rm:Room A fx.k) (R:SR K fx ρ Z σ s)
  (q:fv F G σ=some r) {Q:Bool->Shared->Prop}
  (k:∀b h1 ρ_1 s_1,G b ⟨σ.loc,h1⟩=some r->Ext [] ρ s ρ_1 s_1->SR K fx ρ_1 Z ⟨σ.loc,h1⟩ s_1->Q b s_1):wpAny (model prog w) A (isTrue e fx.env (eval e fx.env)) Q bn s:=by
 obtain ⟨a,h1,e1,e2⟩:=Ay q
 refine wpAny_mono (h.run A ρ Z σ s _ _ Rm R e1) (λv s_1 p=>?_) λ_ _ q=>q
 obtain ⟨rfl,ρ_1,x_1,H_1⟩:=p
 exact k v h1 ρ_1 s_1 e2 x_1 (R.next x_1 H_1)
structure TrA (prog:Program) (w:World) (K:Addr->Option Obj) (fx:Fx) (op:BoolOp) (es:List Expr) (F:BF):Prop where
 run:∀(A:Around) (ρ:av) (Z:List Addr) (σ:St) (s:Shared) (b:Bool) (hp':List MO),Room A fx.k->SR K fx ρ Z σ s->F σ=some (b,hp') ->
  wpAny (model prog w) A (allTrue op es fx.env) (λb' s'=>b'=b∧∃ρ',Ext [] ρ s ρ' s'∧HR ρ' Z hp' s'.heap) bn s
noncomputable def yh (b:Bool):BF:=λσ=>some (b,σ.hp)
noncomputable def TrP (ρ:av) (Z:List Addr) (s:Shared) (b:Bool) (hp':List MO) (b':Bool) (s':Shared):Prop:=b'=b∧∃ρ',Ext [] ρ s ρ' s'∧HR ρ' Z hp' s'.heap
theorem TrP.ret {ρ ρ_1:av} {s s_1:Shared} {b b':Bool} {hp hp':List MO} (x:Ext [] ρ s ρ_1 s_1) (H:HR ρ_1 Z hp s_1.heap) (e:some (b',hp)=some (b,hp')):TrP ρ Z s b hp' b' s_1:=⟨(cq e).1,ρ_1,x,(cq e).2▸H⟩
theorem TrP.trans {ρ ρ_1:av} {s s_1 s_2:Shared} {b b':Bool} {hp':List MO} (x:Ext [] ρ s ρ_1 s_1) (p:TrP ρ_1 Z s_1 b hp' b' s_2):TrP ρ Z s b hp' b' s_2:=⟨p.1,p.2.elim λρ_2 q=>⟨ρ_2,x.trans q.1,q.2⟩⟩
theorem TrA.or_nil:TrA prog w K fx .Or [] (yh false):=.mk λA ρ Z σ s b hp' Rm R e=>wpAny_allTrue_Or_nil (TrP.ret (Ext.refl _ _ _) R.hr e)
theorem TrA.or_cons {e:Expr} {r:List Expr} {F G:BF} (h:Tr prog w K fx e F) (hr:TrA prog w K fx .Or r G):TrA prog w K fx .Or (e::r) (fv F λb=>if b then yh true else G):=.mk λA ρ Z σ s b hp' Rm R q =>
 wpAny_allTrue_Or_cons (h.then Rm R q λc h1 ρ_1 s_1 e1 x_1 R_1=>match c,e1 with
  | false,e1=>wpAny_mono (hr.run A ρ_1 Z ⟨σ.loc,h1⟩ s_1 _ _ Rm R_1 e1) (λb' s_2 p=>TrP.trans x_1 p) λ_ _ q=>q
  | true,e1=>TrP.ret x_1 R_1.hr e1)
theorem Tr.boolop {op:BoolOp} {es:List Expr} {pos:Pos} {F:BF} (h:TrA prog w K fx op es F):Tr prog w K fx (.BoolOp op es pos) F:=.mk λA ρ Z σ s b hp' Rm R e=>wpAny_isTrue_BoolOp (h.run A ρ Z σ s b hp' Rm R e)
theorem Ev.ife {t b o:Expr} {pos:Pos} {T:BF} {F G:EF} (ht:Tr prog w K fx t T) (hb:Ev prog w K fx b F) (ho:Ev prog w K fx o G):Ev prog w K fx (.IfExp t b o pos) (fv T λc=>if c then F else G):=.mk λA ρ Z σ s pv hp' Rm R q=>by
 refine wpAny_IfExp (ht.then Rm R q λc h1 ρ_1 s_1 e1 x_1 R_1=>?_)
 cases c with
 | true=>exact wpAny_mono (hb.run A ρ_1 Z ⟨σ.loc,h1⟩ s_1 _ _ Rm R_1 e1) (λv s_2 p=>Post.trans x_1 p) λ_ _ q=>q
 | false=>exact wpAny_mono (ho.run A ρ_1 Z ⟨σ.loc,h1⟩ s_1 _ _ Rm R_1 e1) (λv s_2 p=>Post.trans x_1 p) λ_ _ q=>q
end
noncomputable def qu {α:Type} (l:List α) (i:Int):Option α :=
 if i < 0 then (if 0≤i+l.length then l[(i+l.length).toNat]? else none) else l[i.toNat]?
noncomputable def ik:PyData->PyData->Option PyData
 | .list l,.int i=>if i.natAbs≤lim then qu l i else none
 | .tuple l,.int i=>if i.natAbs≤lim then qu l i else none
 | .str x,.int i=>if i.natAbs≤lim then (qu x.cps.toList i).map (λc=>.str ⟨⟨[c]⟩⟩) else none
 | _,_=>none
theorem xy {α:Type} {l:List α} {i:Int} {x:α} (h:qu l i=some x):∃j,seqIndex? i l.length=some j∧l[j]?=some x∧((0≤i∧j=i.toNat)∨(i < 0∧-(l.length:Int)≤i∧j=(i+l.length).toNat)):=by
 unfold qu at h
 by_cases hn:i < 0
 ·rw [if_pos hn] at h
  refine gn h λh0 h=>?_
  have h1:-(l.length:Int)≤i:=by lia
  exact ⟨_,seqIndex_neg hn h1,h,.inr ⟨hn,h1,rfl⟩⟩
 ·rw [if_neg hn] at h
  have hlt:=(List.getElem?_eq_some_iff.mp h).1
  refine ⟨_,?_,h,.inl ⟨Int.not_lt.mp hn,rfl⟩⟩
  unfold seqIndex?
  simp only [hn,if_false]
  rw [if_pos (by simp only [Bool.and_eq_true,decide_eq_true_eq]; exact ⟨Int.not_lt.mp hn,(Int.toNat_lt (Int.not_lt.mp hn)).mp hlt⟩)]
theorem p9 (slice:Expr) (o i:Value):∃ops,subscripted slice false o i=operate ops (getItem o i):=by
 cases slice with
 | Slice a b c d=>cases c<;>exact ⟨_,rfl⟩
 | _=>exact ⟨_,rfl⟩
section
variable {prog:Program} {w:World} {A:Around} {E:Value->Shared->Prop} {s:Shared}
theorem lc {value slice:Expr} {o i:Value} {T id:String} {Q:Value->Shared->Prop} (hT:s.TypeIs o T)
  (hl:typeLookup (.type T) "__getitem__"=pure (some (.builtin id))) (h:wpAny (model prog w) A (getItem o i) Q E s) :
  wpAny (model prog w) A (subscriptTail value slice o i) Q E s:=by
 obtain ⟨ops,hs⟩:=p9 slice o i
 skip
 refine wpAny_bind ?_
 refine (getitemInPython_of_ne hT.not_modules).symm▸?_
 refine wpAny_bind (wpAny_specialOf hT hl ?_)
 have fin:wpAny (model prog w) A (subscripted slice false o i) (λr s_3=>wpAny (model prog w) A (letTemporaryGo value o r >>= λ_=>pure r) Q E s_3) E s:=by
  refine hs.symm▸?_
  exact wpAny_operating (wpAny_mono h (λr s_3 h_3=>wpAny_bind (wpAny_letTemporaryGo (wpAny_pure h_3))) λ_ _ x=>x)
 first
  | exact wpAny_pure (wpAny_bind fin)
  | exact wpAny_bind (wpAny_pure (wpAny_bind fin))
  | exact wpAny_bind fin
inductive Qk (a b d:PyData):Prop
 | li (l:List PyData) (i:Int):a=.list l->b=.int i->i.natAbs≤lim->qu l i=some d->Qk a b d
 | tu (l:List PyData) (i:Int):a=.tuple l->b=.int i->i.natAbs≤lim->qu l i=some d->Qk a b d
 | st (x:Str) (i:Int) (c:Nat):a=.str x->b=.int i->i.natAbs≤lim->qu x.cps.toList i=some c->.str ⟨⟨[c]⟩⟩=d->Qk a b d
theorem Et {a b d:PyData} (e:ik a b=some d):Qk a b d:=by
 cases b with
 | int i=>cases a with
  | list l=>exact gn e λh q=>.li l i rfl rfl h q
  | tuple l=>exact gn e λh q=>.tu l i rfl rfl h q
  | str x=>exact gn e λh q=>(Option.map_eq_some_iff.mp q).elim λc q=>.st x i c rfl rfl h q.1 q.2
  | _=>exact al e
 | _=>cases a<;>exact al e
noncomputable def ItemP (s:Shared) (d:PyData) (as:List Addr) (v:Value) (s':Shared):Prop:=(∃t,s'={ s with toks:=t })∧∃cs,RD s.heap v d cs∧∀c∈cs,c∈as.tail
theorem yc {vs:Array Value} {xs:List PyData} {as:List Addr} {i:Int} {d:PyData} (r:RDs s.heap vs.toList xs as) (e:qu xs i=some d) {C:Prop}
  (k:∀j y cs,seqIndex? i vs.size=some j->vs[j]?=some y->RD s.heap y d cs->(∀c∈cs,c∈as)->((0≤i∧j=i.toNat)∨(i < 0∧-(vs.size:Int)≤i∧j=(i+vs.size).toNat))->C):C:=by
 obtain ⟨j,hj,hx,hc⟩:=xy e
 obtain ⟨y,cs,hy,hr,hs⟩:=r.get j d hx
 have hlen:vs.size=xs.length:=r.length▸Array.length_toList.symm▸rfl
 rw [← hlen] at hj hc
 exact k j y cs hj ((Array.getElem?_toList)▸hy) hr hs hc
theorem Do {value slice:Expr} {l:List PyData} {i:Int} {d:PyData} {va vb:Value} {as bs:List Addr} (ra:RD s.heap va (.list l) as) (rb:RD s.heap vb (.int i) bs) (hl:i.natAbs≤lim) (e:qu l i=some d) :
  wpAny (model prog w) A (subscriptTail value slice va vb) (ItemP s d as) bn s:=by
 obtain ⟨a,vs,n,as',rfl,rfl,h1,hlen,h6⟩:=ra.list_
 obtain ⟨u,rfl,_⟩:=rb.int_
 have hL:s.heap.IsList a vs:=⟨_,h1,rfl,n,rfl⟩
 unfold lim at hl
 refine yc h6 e λj y cs hj hy hr hs hc=>lc hL.typeIs list_getitem_lookup ?_
 have fin:ItemP s d (a::as') y s:=⟨⟨s.toks,rfl⟩,cs,hr,hs⟩
 rcases hc with ⟨h0,hj⟩ | ⟨h0,hlo,hj⟩
 ·exact wpAny_getItem_list hL h0 (Int.lt_of_le_of_lt (vr hl) (by decide)) (hj▸hy) fin
 ·exact wpAny_getItem_list_neg hL h0 hlo (Int.le_trans (by decide) (zz hl)) (hj▸hy) fin
theorem Bc {value slice:Expr} {l:List PyData} {i:Int} {d:PyData} {va vb:Value} {as bs:List Addr} (ra:RD s.heap va (.tuple l) as) (rb:RD s.heap vb (.int i) bs) (hl:i.natAbs≤lim) (e:qu l i=some d) :
  wpAny (model prog w) A (subscriptTail value slice va vb) (ItemP s d as) bn s:=by
 obtain ⟨a,o,vs,n,as',rfl,rfl,h1,h2,h3,hlen,h6⟩:=ra.tuple_
 obtain ⟨u,rfl,_⟩:=rb.int_
 unfold lim at hl
 exact yc h6 e λj y cs hj hy hr hs _=>lc (T:="tuple") ⟨o,h1,h2⟩ F.slot_tuple_getitem.lookup
  (PyProof.Rows.getItem_tuple ⟨o,h1,h2,n,h3⟩ (Int.le_trans (by decide) (zz hl)) (Int.lt_of_le_of_lt (vr hl) (by decide)) hj hy ⟨⟨s.toks,rfl⟩,cs,hr,hs⟩)
theorem Ff {value slice:Expr} {x:Str} {i:Int} {c:Nat} {va vb:Value} {as bs:List Addr} (ra:RD s.heap va (.str x) as) (rb:RD s.heap vb (.int i) bs) (hl:i.natAbs≤lim) (e:qu x.cps.toList i=some c) :
  wpAny (model prog w) A (subscriptTail value slice va vb) (ItemP s (.str ⟨⟨[c]⟩⟩) as) bn s:=by
 refine cps λ_ KK=>?_
 obtain ⟨t,rfl,_,q⟩:=ra.str_
 obtain ⟨u,rfl,_⟩:=rb.int_
 unfold lim at hl
 obtain ⟨j,hj,hx,_⟩:=xy e
 refine KK ?_
 have hin:(seqIndex? i x.length).bind (x.cps[·]?)=some c:=by
  have:x.length=x.cps.toList.length:=Array.length_toList.symm
  refine this.symm▸hj.symm▸?_
  show x.cps[j]?=some c
  refine (Array.getElem?_toList)▸?_
  exact hx
 exact lc (typeIs_str s x t) F.slot_str_getitem.lookup (PyProof.Rows.getItem_str (by simp only [Bool.or_eq_false_iff,decide_eq_false_iff_not]; exact ⟨Int.not_lt.mpr (Int.le_trans (by decide) (zz hl)),Int.not_le.mpr (Int.lt_of_le_of_lt (vr hl) (by decide))⟩) hin
  ⟨⟨_,rfl⟩,[],.str _ _ (i2 q λc' hc'=>(List.mem_singleton.mp hc':c'=c)▸List.mem_of_getElem? hx),λ_ h=>nomatch h⟩)
theorem J5 {value slice:Expr} {a b d:PyData} {va vb:Value} {as bs:List Addr} (ra:RD s.heap va a as) (rb:RD s.heap vb b bs) (e:ik a b=some d) :
  wpAny (model prog w) A (subscriptTail value slice va vb) (λv s'=>(∃t,s'={ s with toks:=t })∧∃cs,RD s.heap v d cs∧∀c∈cs,c∈as.tail) bn s:=by
 show wpAny (model prog w) A (subscriptTail value slice va vb) (ItemP s d as) bn s
 cases Et e with
 | li l i h1 h2 hl e=>exact Do (h1▸ra) (h2▸rb) hl e
 | tu l i h1 h2 hl e=>exact Bc (h1▸ra) (h2▸rb) hl e
 | st x i c h1 h2 hl e hd=>rw [← hd]; exact Ff (h1▸ra) (h2▸rb) hl e
noncomputable def om (n:Nat) (v:Option Int) (dflt:Nat):Nat:=match v with
 | none=>dflt
 | some i=>(max 0 (min (if i < 0 then i+n else i) n)).toNat
noncomputable def sl {α:Type} (lo hi:Option Int) (l:List α):List α:=(l.take (om l.length hi l.length)).drop (om l.length lo 0)
noncomputable def o4 {α:Type} (lo hi st:Option Int) (l:List α):List α :=
 (sliceRange (sliceBounds lo hi st l.length).1 (sliceBounds lo hi st l.length).2.1 (sliceBounds lo hi st l.length).2.2).filterMap (l[·]?)
theorem jp {α:Type} (l:List α) (a:Nat):∀n,(List.range n).filterMap (λk=>l[a+k]?)=(l.drop a).take n
 | 0=>by simp
 | n+1=>by
  rw [List.range_succ,List.filterMap_append,jp l a n,List.take_add_one,List.getElem?_drop]
  simp only [List.filterMap_cons,List.filterMap_nil]
  cases l[a+n]?<;>rfl
theorem L7 {n:Nat} {v:Option Int} {d:Nat} (h:d≤n):om n v d≤n:=by
 cases v with
 | none=>exact h
 | some i=>exact Int.toNat_le.mpr (Int.max_le.mpr ⟨Int.natCast_nonneg _,Int.min_le_right _ _⟩)
theorem kn (n:Nat) (i:Int) (d:Nat):max 0 (min (if i < 0 then i+(n:Int) else i) (n:Int))=((om n (some i) d:Nat):Int):=(Int.toNat_of_nonneg (Int.le_max_left _ _)).symm
theorem vq (n:Nat) (lo hi:Option Int):sliceBounds lo hi none n=(((om n lo 0:Nat):Int),((om n hi n:Nat):Int),1):=by
 cases lo with
 | none=>cases hi with
  | none=>rfl
  | some j=>exact congrArg (λx=>((0:Int),x,(1:Int))) (kn n j n)
 | some i=>cases hi with
  | none=>exact congrArg (λx=>(x,(n:Int),(1:Int))) (kn n i 0)
  | some j=>exact congr (congrArg (λx y=>(x,y,(1:Int))) (kn n i 0)) (kn n j n)
theorem x7 (a c:Nat):sliceRange (a:Int) (c:Int) 1=(List.range (c - a)).map (a+·):=by
 unfold sliceRange
 rw [if_pos (by decide),Int.ediv_one]
 dsimp only
 have hn:(if (a:Int) < c then (c:Int) - a+1 - 1 else 0).toNat=c - a:=by
  by_cases h:(a:Int) < c
  ·rw [if_pos h,Int.add_sub_cancel]; exact Int.toNat_sub c a
  ·rw [if_neg h]; exact (Nat.sub_eq_zero_of_le (Int.ofNat_le.mp (Int.not_lt.mp h))).symm
 refine hn.symm▸?_
 refine List.map_congr_left λk _=>?_
 rw [Int.one_mul]; rfl
theorem u8 {α:Type} (lo hi:Option Int) (l:List α):o4 lo hi none l=sl lo hi l:=by
 unfold o4 sl
 rw [vq,x7,List.filterMap_map]
 exact (jp l _ _).trans (List.drop_take ..).symm
theorem RDs.places {h:Heap} {vs:List Value} {ds:List PyData} {as:List Addr} (r:RDs h vs ds as) (js:List Nat):∃bs,RDs h (js.filterMap (vs[·]?)) (js.filterMap (ds[·]?)) bs∧∀a∈bs,a∈as:=by
 induction js with
 | nil=>exact ⟨[],.nil,λ_ h=>nomatch h⟩
 | cons j js ih =>
  obtain ⟨bs,hb,hs⟩:=ih
  refine List.filterMap_cons.symm▸List.filterMap_cons.symm▸?_
  cases hn:ds[j]? with
  | some x =>
   refine cps λ_ KK=>?_
   obtain ⟨y,cs,hy,hr,hcs⟩:=r.get j x hn
   refine KK ?_
   refine hy.symm▸?_
   exact ⟨cs++bs,.cons hr hb,λa ha=>(List.mem_append.mp ha).elim (hcs a) (hs a)⟩
  | none =>
   have hv:vs[j]?=none:=by
    rw [List.getElem?_eq_none_iff] at hn ⊢
    rw [r.length]; exact hn
   refine hv.symm▸?_
   exact ⟨bs,hb,hs⟩
noncomputable def ek (lo hi st:Option Int):PyData->Option PyData
 | .list l=>if l.length≤lim then match st with
  | none=>some (.list (sl lo hi l))
  | some k=>if k≠0 then some (.list (o4 lo hi (some k) l)) else none
  else none
 | .str x=>match st with
  | none=>if x.cps.size≤lim then some (.str ⟨⟨sl lo hi x.cps.toList⟩⟩) else none
  | _=>none
 | _=>none
theorem un {l sl':Addr} {items:Array Value} {vl vu vs:Value} {lo hi st:Option Int} {n:Nat} {o:Obj} {xs:List PyData} {as:List Addr} (h1:s.heap.get? l=some o) (h2:o.cls=.type "list") (h5:o.data=.seq items n)
  (r:RDs s.heap items.toList xs as) (hs:s.heap.IsSliceOf sl' vl vu vs) (pl:IsPart vl lo) (pu:IsPart vu hi) (ps:IsPart vs st) (h0:st≠some 0) (hsz:items.size≤sizeLine) :
  wpAny (model prog w) A (getItem (.ref l) (.ref sl')) (NewD s (.list (o4 lo hi st xs)) (λa=>a∈as)) bn s:=by
 refine wpAny_getItem_list_slice ⟨o,h1,h2,n,h5⟩ hs pl pu ps h0 ?_ hsz
 obtain ⟨bs,hb,hbs⟩:=r.places (sliceRange (sliceBounds lo hi st xs.length).1 (sliceBounds lo hi st xs.length).2.1 (sliceBounds lo hi st xs.length).2.2)
 have hl:=r.length
 simp only [Array.length_toList] at hl
 have e:slicePick items lo hi st=((sliceRange (sliceBounds lo hi st xs.length).1 (sliceBounds lo hi st xs.length).2.1 (sliceBounds lo hi st xs.length).2.2).filterMap (items.toList[·]?)).toArray:=by
  unfold slicePick
  refine hl.symm▸?_
  simp only [Array.getElem?_toList]
 refine e.symm▸?_
 exact NewD.list (t:=s.toks) hb λa ha=>.inr (hbs a ha)
end
section
variable {prog:Program} {w:World} {A:Around} {E:Value->Shared->Prop} {s:Shared}
theorem Ki {lo hi:Option Int} {l:List Nat} (h:(sliceRange (sliceBounds lo hi none l.length).1 (sliceBounds lo hi none l.length).2.1 (sliceBounds lo hi none l.length).2.2).length=l.length):sl lo hi l=l:=by
 rw [vq,x7,List.length_map,List.length_range] at h
 have hb:om l.length hi l.length≤l.length:=L7 (Nat.le_refl _)
 unfold sl
 by_cases hl:l.length=0
 ·have:l=[]:=List.eq_nil_of_length_eq_zero hl
  rw [this,List.take_nil,List.drop_nil]
 ·have e1:om l.length hi l.length=l.length:=by lia
  have e2:om l.length lo 0=0:=by lia
  exact e1.symm▸e2.symm▸List.take_length.symm▸List.drop_zero.symm▸rfl
theorem Cx {v:Value} {o:Option Int} (h:IsPart v o):∃p:Option (Int×Tok),v=partValue p∧p.map (·.1)=o:=by
 cases h with
 | none=>exact ⟨none,rfl,rfl⟩
 | int i t=>exact ⟨some (i,t),rfl,rfl⟩
theorem xf {x:Str} {t:Tok} {sl':Addr} {vl vu:Value} {lo hi:Option Int} (hx:PyData.strOk x=true) (hs:s.heap.IsSliceOf sl' vl vu .none) (pl:IsPart vl lo) (pu:IsPart vu hi) (hsz:x.cps.size≤lim) :
  wpAny (model prog w) A (getItem (.str x t) (.ref sl')) (NewD s (.str ⟨⟨sl lo hi x.cps.toList⟩⟩) (λa=>False)) bn s:=by
 refine cps λ_ KK=>?_
 obtain ⟨l,e1,hl⟩:=Cx pl
 obtain ⟨u,e2,hu⟩:=Cx pu
 refine KK ?_
 replace hs:=e2▸e1▸hs
 have ok:PyData.strOk (⟨⟨sl lo hi x.cps.toList⟩⟩:Str)=true:=i2 hx λc hc=>List.mem_of_mem_take (List.mem_of_mem_drop hc)
 have hpk:slicePicked x l u none=sliceRange (sliceBounds lo hi none x.cps.toList.length).1 (sliceBounds lo hi none x.cps.toList.length).2.1 (sliceBounds lo hi none x.cps.toList.length).2.2:=by
  rw [← hl,← hu,Array.length_toList]; rfl
 refine wpAny_getItem_str_slice (l:=l) (u:=u) (st:=none) hs rfl ?_
 unfold sliceMade
 refine hpk.symm▸?_
 split
 ·rename_i h
  have h:=(Bool.and_eq_true _ _▸h:_∧_).2
  have:=Ki (l:=x.cps.toList) ((eq_of_beq h).trans Array.length_toList.symm)
  rw [this] at ok ⊢
  exact NewD.val (t:=s.toks) (.str _ _ hx)
 ·have e:(⟨((sliceRange (sliceBounds lo hi none x.cps.toList.length).1 (sliceBounds lo hi none x.cps.toList.length).2.1 (sliceBounds lo hi none x.cps.toList.length).2.2).filterMap (x.cps[·]?)).toArray⟩:Str)=⟨⟨sl lo hi x.cps.toList⟩⟩:=by
   rw [← u8]
   unfold o4
   simp only [Array.getElem?_toList]
  refine e.symm▸?_
  refine ⟨Nat.le_trans ?_ (Nat.le_trans hsz (by decide)),NewD.val (.str _ _ ok)⟩
  show (sl lo hi x.cps.toList).length≤x.cps.size
  unfold sl
  refine List.length_drop.symm▸List.length_take.symm▸Array.length_toList.symm▸?_
  exact Nat.le_trans (Nat.sub_le _ _) (Nat.min_le_right _ _)
end
section
variable {prog:Program} {w:World} {K:Addr->Option Obj} {fx:Fx}
noncomputable def et (a b:PV):EF:=λσ=>match rd σ.hp a,rd σ.hp b with
 | some x,some y=>match ik x y with
  | some d=>some (.dat d,σ.hp)
  | none=>none
 | _,_=>none
theorem Db {a b:PV} {σ:St} {pv:PV} {hp':List MO} {C:Prop} (e:et a b σ=some (pv,hp')) (k:∀x y d,rd σ.hp a=some x->rd σ.hp b=some y->ik x y=some d->.dat d=pv->σ.hp=hp'->C):C:=by
 unfold et at e
 cases h1:rd σ.hp a with
 | none=>rw [h1] at e; exact al e
 | some x=>cases h2:rd σ.hp b with
  | none=>rw [h1,h2] at e; exact al e
  | some y =>
   replace e:=h2▸h1▸e
   have e:(match ik x y with | some d=>some (PV.dat d,σ.hp) | none=>none)=some (pv,hp'):=e
   cases h3:ik x y with
   | none=>rw [h3] at e; exact al e
   | some z =>
    replace e:=h3▸e
    exact k x y z h1 h2 h3 (cq e).1 (cq e).2
theorem ItemP.post {s s':Shared} {d:PyData} {as:List Addr} {v:Value} {ρ:av} {Z:List Addr} {hp:List MO} (n:ItemP s d as v s') (H:HR ρ Z hp s.heap) (q:∀a∈as.tail,a∉ax ρ∧a∉Z):Post ρ Z s (.dat d) hp v s':=by
 refine cps λ_ KK=>?_
 obtain ⟨⟨t,rfl⟩,cs,r,hcs⟩:=n
 refine KK ?_
 exact Post.of_toks H ⟨cs,r,λc hc=>q c (hcs c hc)⟩
theorem Ev.sub {e i:Expr} {pos:Pos} {F G:EF} (he:Ev prog w K fx e F) (hi:Ev prog w K fx i G):Ev prog w K fx (.Subscript e i pos) (af F λa=>af G λb=>et a b):=.mk λA ρ Z σ s pv hp' Rm R q =>
 Subscript_ (he.then2 hi Rm R q λa b va vb h2 ρ_2 s_2 e2 x v_1 v_2 R_2=>Db e2 λx' y d hx hy hd h1 h2 =>
  (ft R_2.hr v_1 hx).elim λas ra=>(ft R_2.hr v_2 hy).elim λbs rb =>
  wpAny_mono (J5 ra.1 rb.1 hd) (λv s_3 n=>h1▸h2▸Post.trans x (ItemP.post n R_2.hr ra.2)) λ_ _ q=>q)
abbrev PF:=St->Option (Option Int×List MO)
structure EvP (prog:Program) (w:World) (K:Addr->Option Obj) (fx:Fx) (e:Option Expr) (F:PF):Prop where
 run:∀(A:Around) (ρ:av) (Z:List Addr) (σ:St) (s:Shared) (o:Option Int) (hp':List MO),Room A fx.k->SR K fx ρ Z σ s->F σ=some (o,hp') ->
  wpAny (model prog w) A (evalPart e fx.env) (λv s'=>IsPart v o∧∃ρ',Ext [] ρ s ρ' s'∧HR ρ' Z hp' s'.heap) bn s
noncomputable def Aa:PF:=λσ=>some (none,σ.hp)
noncomputable def ev (F:EF):PF:=af F λp σ=>match rd σ.hp p with
 | some (.int i)=>some (some i,σ.hp)
 | _=>none
noncomputable def PartP (ρ:av) (Z:List Addr) (s:Shared) (o:Option Int) (hp':List MO) (v:Value) (s':Shared):Prop:=IsPart v o∧∃ρ',Ext [] ρ s ρ' s'∧HR ρ' Z hp' s'.heap
theorem PartP.mk {ρ ρ':av} {Z:List Addr} {s s':Shared} {o o':Option Int} {hp hp':List MO} {v:Value} (i:IsPart v o') (x:Ext [] ρ s ρ' s') (H:HR ρ' Z hp s'.heap) (e:some (o',hp)=some (o,hp')):PartP ρ Z s o hp' v s':=⟨(cq e).1▸i,ρ',x,(cq e).2▸H⟩
theorem EvP.none_:EvP prog w K fx none Aa:=.mk λA ρ Z σ s o hp' Rm R q=>evalPart_none fx.env▸wpAny_pure (PartP.mk .none (Ext.refl _ _ _) R.hr q)
theorem E4 {r:Option PyData} {hp hp':List MO} {o:Option Int} {C:Prop} (e:(match r with | some (.int i)=>some (some i,hp) | _=>none)=some (o,hp')) (k:∀i,r=some (.int i)->some (some i,hp)=some (o,hp')->C):C:=by
 cases r with
 | none=>exact al e
 | some d=>cases d with
  | int i=>exact k i rfl e
  | _=>exact al e
theorem EvP.some_ {e:Expr} {F:EF} (h:Ev prog w K fx e F):EvP prog w K fx (some e) (ev F):=.mk λA ρ Z σ s o hp' Rm R q=>by
 rw [evalPart_some]
 refine h.then Rm R q λa va h1 ρ_1 s_1 e1 x_1 v_1 R_1=>E4 e1 λi hi e=>?_
 refine cps λ_ KK=>?_
 obtain ⟨as,ra,_⟩:=ft R_1.hr v_1 hi
 obtain ⟨t,hv,_⟩:=ra.int_
 refine KK ?_
 exact hv▸PartP.mk (.int _ _) x_1 R_1.hr e
noncomputable def ny {α:Type} (F:PF) (G:Option Int->St->Option (α×List MO)):St->Option (α×List MO):=λσ=>match F σ with
 | some (o,hp)=>G o ⟨σ.loc,hp⟩
 | none=>none
theorem EvP.then {α:Type} {e:Option Expr} {F:PF} {G:Option Int->St->Option (α×List MO)} (h:EvP prog w K fx e F) {A:Around} {ρ:av} {Z:List Addr} {σ:St} {s:Shared} {r:α×List MO} (Rm:Room A fx.k) (R:SR K fx ρ Z σ s)
  (q:ny F G σ=some r) {Q:Value->Shared->Prop}
  (k:∀o v h1 ρ_1 s_1,G o ⟨σ.loc,h1⟩=some r->Ext [] ρ s ρ_1 s_1->IsPart v o->SR K fx ρ_1 Z ⟨σ.loc,h1⟩ s_1->Q v s_1):wpAny (model prog w) A (evalPart e fx.env) Q bn s:=by
 unfold ny at q
 cases e1:F σ with
 | none=>rw [e1] at q; exact al q
 | some x =>
  replace q:=e1▸q
  exact wpAny_mono (h.run A ρ Z σ s _ _ Rm R e1) (λv s_1 p=>p.2.elim λρ_1 p2=>k x.1 v x.2 ρ_1 s_1 q p2.1 p.1 (R.next p2.1 p2.2)) λ_ _ q=>q
noncomputable def sw (lo hi st:Option Int) (a:PV):NF:=λσ=>match rd σ.hp a with
 | some x=>match ek lo hi st x with
  | some d=>some (d,σ.hp)
  | none=>none
 | none=>none
theorem Am {lo hi st:Option Int} {a:PV} {σ:St} {d:PyData} {hp':List MO} {C:Prop} (e:sw lo hi st a σ=some (d,hp')) (k:∀x,rd σ.hp a=some x->ek lo hi st x=some d->σ.hp=hp'->C):C:=by
 unfold sw at e
 cases h1:rd σ.hp a with
 | none=>rw [h1] at e; exact al e
 | some x =>
  rw [h1] at e
  have e:(match ek lo hi st x with | some d=>some (d,σ.hp) | none=>none)=some (d,hp'):=e
  cases h3:ek lo hi st x with
  | none=>rw [h3] at e; exact al e
  | some z =>
   rw [h3] at e
   exact k x h1 (by rw [h3,(cq e).1]) (cq e).2
inductive Sd (lo hi st:Option Int) (x d:PyData):Prop
 | li (l:List PyData):x=.list l->l.length≤lim->st≠some 0->.list (o4 lo hi st l)=d->Sd lo hi st x d
 | si (y:Str):x=.str y->st=none->y.cps.size≤lim->.str ⟨⟨sl lo hi y.cps.toList⟩⟩=d->Sd lo hi st x d
theorem Bp {lo hi st:Option Int} {x d:PyData} (e:ek lo hi st x=some d):Sd lo hi st x d:=by
 cases st with
 | none=>cases x with
  | list l=>exact gn e λh e=>.li l rfl h (λq=>al q) (by rw [u8]; exact b9 e)
  | str y=>exact ay e λh e=>.si y rfl rfl h e
  | _=>exact al e
 | some k=>cases x with
  | list l=>exact gn e λh e=>ay e λh0 e=>.li l rfl h (λq=>h0 (b9 q)) e
  | _=>exact al e
theorem Fq {A:Around} {s:Shared} {e:Expr} {slx:Expr} {vl vu vk va:Value} {lo hi st:Option Int} {x d:PyData} {as:List Addr} (ra:RD s.heap va x as) (hd:ek lo hi st x=some d) (pl:IsPart vl lo) (pu:IsPart vu hi) (pk:IsPart vk st) {i:Addr} (hs:s.heap.IsSliceOf i vl vu vk) :
  wpAny (model prog w) A (subscriptTail e slx va (.ref i)) (NewD s d (λa=>a∈as.tail)) bn s:=by
 cases Bp hd with
 | li l h1 hl h0 h2 =>
  obtain ⟨a,vs,n,as',rfl,has,g1,hln,g6⟩:=(h1▸ra:RD s.heap va (.list l) as).list_
  refine h2▸has.symm▸?_
  exact lc (T:="list") ⟨_,g1,rfl⟩ list_getitem_lookup (un g1 rfl rfl g6 hs pl pu pk h0 (hln.symm▸Nat.le_trans hl (by decide)))
 | si y h1 h0 hl h2 =>
  obtain ⟨t,rfl,_,hx⟩:=(h1▸ra:RD s.heap va (.str y) as).str_
  replace pk:=h0▸pk
  have hk:vk=.none:=by cases pk; rfl
  refine h2▸?_
  exact lc (typeIs_str _ y t) PySem.F.slot_str_getitem.lookup (wpAny_mono (xf hx (hk▸hs) pl pu hl) (λv s' n=>NewD.weak n λ_ h=>h.elim) λ_ _ q=>q)
theorem EvN.slice {e:Expr} {lo hi st:Option Expr} {p pos:Pos} {F:EF} {L U S:PF} (he:Ev prog w K fx e F) (hl:EvP prog w K fx lo L) (hu:EvP prog w K fx hi U) (hs:EvP prog w K fx st S) :
  EvN prog w K fx (.Subscript e (.Slice lo hi st p) pos) (af F λa=>ny L λl=>ny U λu=>ny S λk=>sw l u k a):=.mk λA ρ Z σ s d hp' Rm R q =>
 Subscript_ (he.then Rm R q λa va h1 ρ_1 s_1 e1 x_1 v_1 R_1=>wpAny_Slice (hl.then Rm R_1 e1 λl vl h2 ρ_2 s_2 e2 x_2 pl R_2=>hu.then Rm R_2 e2 λu vu h3 ρ_3 s_3 e3 x_3 pu R_3=>hs.then Rm R_3 e3 λk vk h4 ρ_4 s_4 e4 x_4 pk R_4=>Am e4 λx hx hd hh =>
  have xa:=(x_2.trans x_3).trans x_4
  (ft R_4.hr (v_1.ext xa (λ_ h=>ck h)) hx).elim λas ra =>
  have hk:∀b o,s_4.heap.get? b=some o->(s_4.heap.push { cls:=.type "slice",data:=.fields #[vl,vu,vk] }).get? b=some o:=λb o e=>Heap.get?_push_of_some _ e
  wpAny_mono (Fq (ra.1.keep λa _ o e=>hk a o e) hd pl pu pk (Heap.IsSliceOf.new ..)) (λv s_5 nd=>⟨_,_,_,(x_1.trans xa).trans (Ext.of_keep (X:=[]) (ρ:=ρ_4) (s:=s_4) (t:=s_4.toks) hk),hh▸R_4.hr.keep hk,nd,ra.2⟩) λ_ _ q=>q))
end
section
variable {prog:Program} {w:World} {K:Addr->Option Obj} {fx:Fx} {mg mb:Str->Option Value}
theorem bp (gl:Gl K mg mb) {x:Str} {v:Value} {pos:Pos} {A:Around} {ρ:av} {Z:List Addr} {σ:St} {s:Shared} {Q:Value->Shared->Prop} {E:Value->Shared->Prop} (R:SR K fx ρ Z σ s)
  (hk:fx.sc.names.lookup x=some .globalImplicit) (hv:mg x=some v∨(mg x=none∧mb x=some v)) (hQ:Q v s) (hd:(x==("__debug__":Str))=false):wpAny (model prog w) A (eval (.Name x pos) fx.env) Q E s:=by
 refine wpAny_Name ?_ hd
 have hkind:fx.env.kindOf x=some .globalImplicit:=by unfold Env.kindOf; rw [R.er.sc]; exact hk
 refine (loadName_read R.er.fn hkind).symm▸?_
 have g:=gl.g s.heap R.top
 have b:=gl.b s.heap R.top
 replace g:=R.er.glob.symm▸g
 replace b:=R.er.bi.symm▸b
 rcases hv with h | ⟨h,h'⟩
 ·exact loadGlobal_global g h hQ
 ·exact loadGlobal_builtin g h b h' hQ
end
noncomputable def sy:List PyData->Option Int
 | []=>some 0
 | .int i::r=>(sy r).map (i+·)
 | _=>none
noncomputable def Oy:PyData->Option PyData
 | .list l=>if l.length≤lim then some (.int l.length) else none
 | .tuple l=>if l.length≤lim then some (.int l.length) else none
 | .str x=>if x.cps.size≤lim then some (.int x.cps.size) else none
 | _=>none
noncomputable def chars (l:List Nat):List PyData:=l.map λc=>.str ⟨⟨[c]⟩⟩
theorem D8 {h:Heap} {vs:List Value} {ds:List PyData} {as:List Addr} {n:Int} (x:RDs h vs ds as) (e:sy ds=some n):∃xs:List (Int×Tok),vs=xs.map (λp=>.int p.1 p.2)∧(xs.map (·.1)).sum=n:=by
 revert n
 refine RDs.ind (Q:=λvs ds _=>∀{n:Int},sy ds=some n->∃xs:List (Int×Tok),vs=xs.map (λp=>.int p.1 p.2)∧(xs.map (·.1)).sum=n) (λe=>⟨[],rfl,b9 e⟩) (λ{v vs d ds as bs} x _ ih n e=>?_) x
 cases d with
 | int i =>
  refine cps λ_ KK=>?_
  obtain ⟨m,hm,h2⟩:=Option.map_eq_some_iff.mp (show (sy ds).map (i+·)=some n from e)
  obtain ⟨xs,hv,hs⟩:=ih hm
  obtain ⟨t,hx,_⟩:=x.int_
  refine KK ?_
  exact ⟨(i,t)::xs,by rw [hx,hv]; rfl,by rw [List.map_cons,List.sum_cons,hs]; exact h2⟩
 | _=>exact al e
section
variable {prog:Program} {w:World} {A:Around} {s:Shared}
theorem Nr {d r:PyData} {v:Value} {as:List Addr} {P:Addr->Prop} (x:RD s.heap v d as) (e:Oy d=some r):wpAny (model prog w) A (call (.builtin "len") [v]) (NewD s r P) bn s:=by
 cases d with
 | list l =>
  refine cps λ_ KK=>?_
  obtain ⟨a,vs,n,bs,hv,_,h1,hlen,_⟩:=x.list_
  refine KK ?_
  refine ay e λhl hr=>?_
  refine hv.symm▸hr▸hlen▸?_
  exact PySem.Calls.call_len_list ⟨_,h1,rfl,n,rfl⟩ (by unfold lim at hl; lia) (NewD.val (.int _ _))
 | tuple l =>
  refine cps λ_ KK=>?_
  obtain ⟨a,o,vs,n,bs,hv,_,h1,h2,h3,hlen,_⟩:=x.tuple_
  refine KK ?_
  refine ay e λhl hr=>?_
  refine hv.symm▸hr▸hlen▸?_
  exact PyProof.Rows.len_tuple (items:=vs) ⟨o,h1,h2,n,h3⟩ (by unfold lim at hl; lia) (NewD.val (.int _ _))
 | str y =>
  refine cps λ_ KK=>?_
  obtain ⟨t,hv,_,_⟩:=x.str_
  refine KK ?_
  refine ay e λhl hr=>?_
  refine hv.symm▸hr▸?_
  exact PySem.P.len_str (λh=>absurd (Int.le_trans h (Int.ofNat_le.mpr hl)) (by decide)) (NewD.val (.int _ _))
 | _=>exact al e
theorem NewD.of_keep {d:PyData} {v:Value} {h:Heap} {t:Nat} {P:Addr->Prop} (k:∀b o,s.heap.get? b=some o->h.get? b=some o) (r:RD h v d []):NewD s d P v { s with heap:=h,toks:=t } :=
 ⟨h,t,[],rfl,k,r,(λ_ h=>ck h),(λ_ h=>al h)⟩
theorem Na {l:List PyData} {n:Int} {v:Value} {as:List Addr} {P:Addr->Prop} (hh:A.handled=none) (x:RD s.heap v (.list l) as) (e:sy l=some n):wpAny (model prog w) A (call (.builtin "sum") [v]) (NewD s (.int n) P) bn s:=by
 obtain ⟨a,vs,m,bs,hv,_,h1,_,h6⟩:=x.list_
 obtain ⟨xs,hx,hs⟩:=D8 h6 e
 have hvs:vs=intItems xs.toArray:=by
  apply Array.ext'
  refine hx.symm▸?_
  simp [intItems]
 have hp:preSum (numAt xs.toArray) xs.toArray.size=n:=by
  rw [preSum_eq,List.take_of_length_le (by simp)]
  exact hs
 refine hv.symm▸hp▸?_
 exact PySem.sum_intListG (xs:=xs.toArray) hh ⟨_,h1,rfl,m,hvs.symm▸rfl⟩ λh' tk t' k=>NewD.of_keep k (.int _ _)
theorem Kx {a b:Int} {t u:Tok} {P:Addr->Prop} (hh:A.handled=none):wpAny (model prog w) A (call (.builtin "max") [.int a t,.int b u]) (NewD s (.int (max a b)) P) bn s :=
 max_two_ints hh λh' tk k=>by
  by_cases h:b > a
  ·rw [if_pos h,show max a b=b by lia]; exact NewD.of_keep k (.int _ _)
  ·rw [if_neg h,show max a b=a by lia]; exact NewD.of_keep k (.int _ _)
theorem Ls {a b:Int} {t u:Tok} {P:Addr->Prop} (hh:A.handled=none):wpAny (model prog w) A (call (.builtin "min") [.int a t,.int b u]) (NewD s (.int (min a b)) P) bn s :=
 min_two_ints hh λh' tk k=>by
  by_cases h:b < a
  ·rw [if_pos h,show min a b=b by lia]; exact NewD.of_keep k (.int _ _)
  ·rw [if_neg h,show min a b=a by lia]; exact NewD.of_keep k (.int _ _)
theorem Kz {a b c:Int} {t u x:Tok} {P:Addr->Prop} (hh:A.handled=none):wpAny (model prog w) A (call (.builtin "max") [.int a t,.int b u,.int c x]) (NewD s (.int (max (max a b) c)) P) bn s :=
 max_three_ints hh λh' tk k=>by
  split<;>split
  ·rw [show max (max a b) c=c by lia]; exact NewD.of_keep k (.int _ _)
  ·rw [show max (max a b) c=b by lia]; exact NewD.of_keep k (.int _ _)
  ·rw [show max (max a b) c=c by lia]; exact NewD.of_keep k (.int _ _)
  ·rw [show max (max a b) c=a by lia]; exact NewD.of_keep k (.int _ _)
theorem Nj {b:Bool} {P:Addr->Prop}:wpAny (model prog w) A (call (.type "int") [.bool b]) (NewD s (.int (if b then 1 else 0)) P) bn s:=call_int_bool (NewD.val (.int _ _))
theorem dt {h h':Heap} {a:Addr} (k:∀b o,h.get? b=some o->h'.get? b=some o) (e:h'.get? a=none):h.get? a=none:=by
 cases q:h.get? a with
 | none=>rfl
 | some o=>exact al (e.symm.trans (k a o q))
theorem NewD.tupleAt {h':Heap} {t:Nat} {vs:List Value} {l:List PyData} {as:List Addr} {P:Addr->Prop} (k:∀b o,s.heap.get? b=some o->h'.get? b=some o) (r:RDs h' vs l as) (q:∀a∈as,P a) :
  NewD s (.tuple l) P (.ref h'.objs.size) { s with heap:=h'.push { cls:=.type "tuple",data:=.seq vs.toArray },toks:=t }:=by
 have n:h'.get? h'.objs.size=none:=Heap.get?_none_of_le (Nat.le_refl _)
 exact ⟨_,t,h'.objs.size::as,rfl,λb o e=>Heap.get?_push_of_some _ (k b o e),.tuple (Heap.get?_push_size _ rfl) rfl rfl (r.keep λa _ o e=>Heap.get?_push_of_some _ e),λa ha=>(List.mem_cons.mp ha).elim (λe=>.inl (e▸dt k n)) λha=>.inr (q a ha),
  λa e=>b9 e▸⟨dt k n,λm=>(r.live _ m).elim λo e=>al (n.symm.trans e)⟩⟩
theorem Hc {l:List PyData} {v:Value} {as:List Addr} (x:RD s.heap v (.list l) as) (hl:l.length≤lim):wpAny (model prog w) A (call (.type "tuple") [v]) (NewD s (.tuple l) (λa=>a∈as.tail)) bn s:=by
 obtain ⟨a,vs,m,bs,hv,has,h1,hlen,h6⟩:=x.list_
 refine hv.symm▸has.symm▸?_
 exact call_tuple_list ⟨_,h1,rfl,m,rfl⟩ (λh' k=>NewD.tupleAt (vs:=vs.toList) k (h6.keep (λa _ o e=>k a o e)) λ_ h=>h) (hlen.symm▸Nat.le_trans hl (by decide))
theorem RDs.of_get {h:Heap} {vs:List Value} {ds:List PyData} (hl:vs.length=ds.length) (k:∀(i:Nat) v d,vs[i]?=some v->ds[i]?=some d->RD h v d []):RDs h vs ds []:=by
 induction vs generalizing ds with
 | nil=>cases ds with
  | nil=>exact .nil
  | cons d ds=>cases hl
 | cons v vs ih=>cases ds with
  | nil=>cases hl
  | cons d ds=>exact .cons (k 0 v d rfl rfl) (ih (Nat.succ.inj hl) λi v d hv hd=>k (i+1) v d hv hd)
theorem y2 {x:Str} {t:Tok} {P:Addr->Prop} (hh:A.handled=none) (hx:PyData.strOk x=true) (hl:x.cps.size≤lim):wpAny (model prog w) A (call (.type "list") [.str x t]) (NewD s (.list (chars x.cps.toList)) P) bn s:=by
 refine call_list_str hh x t (λh' tk acc c k hg hi=>?_) (by show _≤2 ^ 24; unfold lim at hl; (exact Nat.le_trans (by assumption) (by decide)))
 have hr:RDs h' acc.toList (chars x.cps.toList) []:=by
  refine RDs.of_get (by rw [Array.length_toList,hi.1,chars,List.length_map,Array.length_toList]) λi v d hv hd=>?_
  obtain ⟨c',u,hc,rfl⟩:=hi.2 i v (by simpa using hv)
  unfold chars at hd
  replace hd:=hc▸(Array.getElem?_toList)▸(List.getElem?_map)▸hd
  cases hd
  refine .str _ _ (i2 hx λy hy=>?_)
  have:y=c':=by simpa using hy
  refine this.symm▸?_
  exact List.mem_of_getElem? ((Array.getElem?_toList).symm▸hc)
 refine ⟨h',tk,s.heap.objs.size::[],rfl,k,.list hg rfl rfl rfl rfl hr,λa ha=>?_,λa ha=>?_⟩
 ·rcases List.mem_cons.mp ha with rfl | ha
  ·exact .inl (Heap.get?_none_of_le (Nat.le_refl _))
  ·exact ck ha
 ·cases ha
  exact ⟨Heap.get?_none_of_le (Nat.le_refl _),List.not_mem_nil⟩
end
inductive B1 where
 | len | sum | int | tuple | list
noncomputable def B1.name:B1->Str
 | .len=>"len" | .sum=>"sum" | .int=>"int" | .tuple=>"tuple" | .list=>"list"
noncomputable def B1.val:B1->Value
 | .len=>.builtin "len" | .sum=>.builtin "sum" | .int=>.type "int" | .tuple=>.type "tuple" | .list=>.type "list"
noncomputable def B1.f:B1->PyData->Option PyData
 | .len=>Oy
 | .sum=>λd=>match d with
  | .list l=>(sy l).map .int
  | _=>none
 | .int=>λd=>match d with
  | .bool b=>some (.int (if b then 1 else 0))
  | _=>none
 | .tuple=>λd=>match d with
  | .list l=>if l.length≤lim then some (.tuple l) else none
  | _=>none
 | .list=>λd=>match d with
  | .str x=>if x.cps.size≤lim then some (.list (chars x.cps.toList)) else none
  | _=>none
theorem Pa {prog:Program} {w:World} {A:Around} {s:Shared} (b:B1) {d r:PyData} {v:Value} {as:List Addr} (hh:A.handled=none) (x:RD s.heap v d as) (e:b.f d=some r) :
  wpAny (model prog w) A (call b.val [v]) (NewD s r (λa=>a∈as.tail)) bn s:=by
 cases b with
 | len=>exact Nr x e
 | sum=>cases d with
  | list l=>exact (Option.map_eq_some_iff.mp (show (sy l).map .int=some r from e)).elim λn q=>q.2▸Na hh x q.1
  | _=>exact al e
 | int=>cases d with
  | bool c=>rw [x.bool_.1,← b9 e]; exact Nj
  | _=>exact al e
 | tuple=>cases d with
  | list l=>exact ay e λhl hr=>hr▸Hc x hl
  | _=>exact al e
 | list=>cases d with
  | str y =>
   refine cps λ_ KK=>?_
   obtain ⟨t,hv,_,q⟩:=x.str_
   refine KK ?_
   exact ay e λhl hr=>hv▸hr▸y2 hh q hl
  | _=>exact al e
section
variable {prog:Program} {w:World} {K:Addr->Option Obj} {fx:Fx} {mg mb:Str->Option Value}
noncomputable def iw (f:PyData->Option PyData) (a:PV):NF:=λσ=>match rd σ.hp a with
 | some x=>match f x with
  | some d=>some (d,σ.hp)
  | none=>none
 | none=>none
theorem ze {f:PyData->Option PyData} {a:PV} {σ:St} {d:PyData} {hp':List MO} {C:Prop} (e:iw f a σ=some (d,hp')) (k:∀x,rd σ.hp a=some x->f x=some d->σ.hp=hp'->C):C:=by
 unfold iw at e
 cases h1:rd σ.hp a with
 | none=>rw [h1] at e; exact al e
 | some x =>
  rw [h1] at e
  have e:(match f x with | some d=>some (d,σ.hp) | none=>none)=some (d,hp'):=e
  cases h3:f x with
  | none=>rw [h3] at e; exact al e
  | some z =>
   rw [h3] at e
   exact k x h1 (by rw [h3,(cq e).1]) (cq e).2
theorem cu {A:Around} {E:Value->Shared->Prop} {s:Shared} {env:Env} {pos:Pos} {f:Value} {e:Expr} {rest:List Expr} {Q:Value->Shared->Prop} (hf:(∃id,f=.builtin id)∨∃T,f=.type T)
  (h:wpAny (model prog w) A (spliced (backTo pos (starEach (e::rest) env))) (λvs s_1=>wpAny (model prog w) A (call f vs) Q E s_1) E s)
  (he:starEach (e::rest) env=(false,eval e env)::starEach rest env) (hplain:(backTo pos (starEach rest env)).any (·.1)=false) :
  wpAny (model prog w) A (callWith pos f [] (backTo pos (starEach (e::rest) env)) []) Q E s:=by
 rw [he] at h ⊢
 rcases hf with ⟨id,rfl⟩ | ⟨T,rfl⟩
 ·exact callWith_builtin (by show (false||(backTo pos (starEach rest env)).any (·.1))=false; rw [hplain]; rfl) (evalArgs_plain h)
 ·exact PySem.callWith_type (by show (false||(backTo pos (starEach rest env)).any (·.1))=false; rw [hplain]; rfl) (evalArgs_plain h)
theorem EvN.call1 (gl:Gl K mg mb) (b:B1) {e:Expr} {pos np:Pos} {F:EF} (he:Ev prog w K fx e F) (hk:fx.sc.names.lookup b.name=some .globalImplicit) (hg:mg b.name=none) (hb:mb b.name=some b.val)
  (hs:∀env,starEach [e] env=[(false,eval e env)]:=by intro _; rfl) :
  EvN prog w K fx (.Call (.Name b.name np) [e] [] pos) (af F (iw b.f)):=.mk λA ρ Z σ s d hp' Rm R q=>by
 refine Call_ (bp gl R hk (.inr ⟨hg,hb⟩) ?_ (by cases b<;>decide))
 refine cu (by cases b<;>first | exact .inl ⟨_,rfl⟩ | exact .inr ⟨_,rfl⟩) ?_ (hs _) rfl
 exact wpAny_items_cons (he.then Rm R q λa va h1 ρ_1 s_1 e1 x_1 v_1 R_1=>wpAny_items_nil (ze e1 λx hx hd hh=>(ft R_1.hr v_1 hx).elim λas ra =>
  wpAny_mono (Pa b Rm.handled ra.1 hd) (λv s_2 n=>⟨_,_,_,x_1,hh▸R_1.hr,n,ra.2⟩) λ_ _ q=>q)) (hs _)
inductive BM where
 | mx | mn
noncomputable def BM.name:BM->Str
 | .mx=>"max" | .mn=>"min"
noncomputable def BM.val:BM->Value
 | .mx=>.builtin "max" | .mn=>.builtin "min"
noncomputable def A7:PyData->Option Int
 | .int a=>some a
 | _=>none
noncomputable def BM.g (b:BM):List (Option Int)->Option Int
 | [x,y]=>x.bind λx=>y.map λy=>match b with
  | .mx=>max x y
  | .mn=>min x y
 | [x,y,z]=>match b with
  | .mx=>x.bind λx=>y.bind λy=>z.map λz=>max (max x y) z
  | .mn=>none
 | _=>none
noncomputable def BM.f (b:BM) (ds:List PyData):Option PyData:=(b.g (ds.map A7)).map .int
theorem RDs.uncons {h:Heap} {vs:List Value} {d:PyData} {ds:List PyData} {as:List Addr} (x:RDs h vs (d::ds) as):∃v r bs cs,vs=v::r∧RD h v d bs∧RDs h r ds cs:=by
 generalize e:d::ds=l at x
 cases x with
 | nil=>exact Qm e
 | cons y r=>cases e; exact ⟨_,_,_,_,rfl,y,r⟩
theorem RDs.unnil {h:Heap} {vs:List Value} {as:List Addr} (x:RDs h vs [] as):vs=[]:=by
 generalize e:([]:List PyData)=l at x
 cases x with
 | nil=>rfl
 | cons y r=>cases e
theorem RD.unint {h:Heap} {v:Value} {i:Int} {as:List Addr} (x:RD h v (.int i) as):∃t,v=.int i t:=by
 cases x; exact ⟨_,rfl⟩
theorem dm {h:Heap} {vs:List Value} {i:Int} {l:List PyData} {as:List Addr} (r:RDs h vs (.int i::l) as):∃t r',vs=.int i t::r'∧∃cs,RDs h r' l cs:=by
 refine cps λ_ KK=>?_
 obtain ⟨v,r',_,cs,e,h1,r1⟩:=r.uncons
 obtain ⟨t,e'⟩:=h1.unint
 refine KK ?_
 exact ⟨t,r',e.symm▸e'.symm▸rfl,cs,r1⟩
inductive K7:BM->List PyData->PyData->Prop
 | mx2 (a b:Int):K7 .mx [.int a,.int b] (.int (max a b))
 | mx3 (a b c:Int):K7 .mx [.int a,.int b,.int c] (.int (max (max a b) c))
 | mn2 (a b:Int):K7 .mn [.int a,.int b] (.int (min a b))
theorem jw {d:PyData} {P:PyData->Prop} {Q:Option Int->Prop} (h:∀a,Q (some a)->P (.int a)) (h2:¬ Q none) (q:Q (A7 d)):P d:=by
 cases d with
 | int a=>exact h a q
 | _=>exact (h2 q).elim
theorem BM.inv {b:BM} {ds:List PyData} {r:PyData} (e:b.f ds=some r):K7 b ds r:=by
 replace e:((b.g (ds.map A7)).map .int:Option PyData)=some r:=e
 cases ds with
 | nil=>exact al e
 | cons x ds=>cases ds with
  | nil=>exact al e
  | cons y ds=>cases ds with
   | nil =>
    refine jw (d:=x) (P:=λx=>K7 b [x,y] r) (Q:=λu=>(b.g [u,A7 y]).map PyData.int=some r) (λa e=>?_) (λe=>al e) e
    refine jw (d:=y) (P:=λy=>K7 b [.int a,y] r) (Q:=λu=>(b.g [some a,u]).map PyData.int=some r) (λc e=>?_) (λe=>al e) e
    rw [← b9 e]
    cases b with
    | mx=>exact .mx2 a c
    | mn=>exact .mn2 a c
   | cons z ds=>cases ds with
    | nil=>cases b with
     | mn=>exact al e
     | mx =>
      refine jw (d:=x) (P:=λx=>K7 .mx [x,y,z] r) (Q:=λu=>(BM.g .mx [u,A7 y,A7 z]).map PyData.int=some r) (λa e=>?_) (λe=>al e) e
      refine jw (d:=y) (P:=λy=>K7 .mx [.int a,y,z] r) (Q:=λu=>(BM.g .mx [some a,u,A7 z]).map PyData.int=some r) (λc e=>?_) (λe=>al e) e
      refine jw (d:=z) (P:=λz=>K7 .mx [.int a,.int c,z] r) (Q:=λu=>(BM.g .mx [some a,some c,u]).map PyData.int=some r) (λd e=>?_) (λe=>al e) e
      rw [← b9 e]
      exact .mx3 a c d
    | cons _ _=>exact al e
theorem O9 {A:Around} {s:Shared} (b:BM) {ds:List PyData} {r:PyData} {vs:List Value} {as:List Addr} (hh:A.handled=none) (x:RDs s.heap vs ds as) (e:b.f ds=some r) :
  wpAny (model prog w) A (call b.val vs) (NewD s r (λ_=>False)) bn s:=by
 have i:=BM.inv e
 clear e
 refine cps λ_ KK=>?_
 cases i with
 | mx2 a b =>
  obtain ⟨t0,r0,e0,_,x0⟩:=dm x
  obtain ⟨t1,r1,e1,_,x1⟩:=dm x0
  exact KK (e0.symm▸e1.symm▸x1.unnil.symm▸Kx hh)
 | mx3 a b c =>
  obtain ⟨t0,r0,e0,_,x0⟩:=dm x
  obtain ⟨t1,r1,e1,_,x1⟩:=dm x0
  obtain ⟨t2,r2,e2,_,x2⟩:=dm x1
  exact KK (e0.symm▸e1.symm▸e2.symm▸x2.unnil.symm▸Kz hh)
 | mn2 a b =>
  obtain ⟨t0,r0,e0,_,x0⟩:=dm x
  obtain ⟨t1,r1,e1,_,x1⟩:=dm x0
  exact KK (e0.symm▸e1.symm▸x1.unnil.symm▸Ls hh)
noncomputable def O5 (b:BM) (G:LF):NF:=λσ=>match G σ with
 | some (ps,hp)=>match fz ps with
  | some ds=>match b.f ds with
   | some d=>some (d,hp)
   | none=>none
  | none=>none
 | none=>none
theorem EvN.mm (gl:Gl K mg mb) (b:BM) {e:Expr} {es:List Expr} {pos np:Pos} {G:LF} (he:EvL prog w K fx (e::es) G) (hk:fx.sc.names.lookup b.name=some .globalImplicit) (hg:mg b.name=none) (hb:mb b.name=some b.val)
  (hs:∀env,starEach (e::es) env=(false,eval e env)::starEach es env:=by intro _; rfl) (hp:∀env,(backTo pos (starEach es env)).any (·.1)=false:=by intro _; rfl) :
  EvN prog w K fx (.Call (.Name b.name np) (e::es) [] pos) (O5 b G):=.mk λA ρ Z σ s d hp' Rm R q=>by
 unfold O5 at q
 split at q
 ·rename_i ps hp1 e1
  split at q
  ·rename_i ds e2
   split at q
   ·rename_i d' hd
    cases q
    refine Call_ (bp gl R hk (.inr ⟨hg,hb⟩) ?_ (by cases b<;>decide))
    refine cu (by cases b<;>exact .inl ⟨_,rfl⟩) (wpAny_mono (he.run pos A ρ Z σ s _ _ Rm R e1) (λvs s_1 p=>?_) λ_ _ q=>q) (hs _) (hp _)
    refine cps λ_ KK=>?_
    obtain ⟨ρ_1,x_1,v_1,H_1⟩:=p
    obtain ⟨as,r,_⟩:=tl v_1 e2
    refine KK ?_
    exact wpAny_mono (O9 b Rm.handled r hd) (λv s_2 n=>⟨_,_,_,x_1,H_1,n,λ_ h=>h.elim⟩) λ_ _ q=>q
   ·exact al q
  ·exact al q
 ·exact al q
end
section
variable {ρ ρ':av} {Z:List Addr} {h h':Heap}
theorem ut (k:∀a o,a∉Z->h.get? a=some o->h'.get? a=some o):Moves ρ ρ Z Z h h':=λa o h1 h2 e=>⟨k a o h2 e,h1,h2⟩
theorem VR.own (k:∀a o,a∉Z->h.get? a=some o->h'.get? a=some o) {p:PV} {v:Value} (r:VR ρ Z h p v):VR ρ Z h' p v:=VR.map (λ_ _ e=>e) (ut k) r
theorem MR.own (k:∀a o,a∉Z->h.get? a=some o->h'.get? a=some o) {r b:Addr} (hb:b∉Z) {mo:MO} (x:MR ρ Z h r b mo):MR ρ Z h' r b mo:=MR.map (λ_ _ e=>e) (ut k) (λo=>k b o hb) x
theorem HR.own {hp:List MO} (H:HR ρ Z hp h) (k:∀a o,a∉Z->h.get? a=some o->h'.get? a=some o) (lv:∀a o,h.get? a=some o->∃o',h'.get? a=some o'):HR ρ Z hp h' :=
 ⟨H.len,H.nodup,H.offZ,λa ha=>let ⟨o,e⟩:=H.liveZ a ha; lv a o e,λi mo e=>by
  obtain ⟨r,b,hr,hm⟩:=H.at_ i mo e
  exact ⟨r,b,hr,hm.own k (H.offZ b (List.mem_map_of_mem (f:=Prod.snd) (List.mem_of_getElem? hr)))⟩⟩
end
section
variable {K:Addr->Option Obj} {fx:Fx} {ρ ρ':av} {Z:List Addr} {σ:St} {s s':Shared} {prog:Program} {w:World} {A:Around}
noncomputable def br (fx:Fx) (x:Str):Prop:=fx.env.kindOf x=some .local∨∃c,fx.env.kindOf x=some .cell∧fx.env.cells.lookup x=some c∧c∈fx.own
theorem SR.own1 {h:Heap} {t:Nat} {a:Addr} {loc':bg} (R:SR K fx ρ Z σ s) (ha:a∈fx.own) (sb:Heap.SameBut a s.heap h) (lv:∃o,h.get? a=some o) (er:EnvR fx ρ Z loc' h) :
  Ext fx.own ρ s ρ { s with heap:=h,toks:=t }∧SR K fx ρ Z ⟨loc',σ.hp⟩ { s with heap:=h,toks:=t }:=by
 have haZ:=R.er.ownZ a ha
 have k:∀b o,b≠a->s.heap.get? b=some o->h.get? b=some o:=λb o hb e=>sb.extBut b o hb e
 have lv':∀b o,s.heap.get? b=some o->∃o',h.get? b=some o':=λb o e=>by
  by_cases q:b=a
  ·exact q▸lv
  ·exact ⟨o,k b o q e⟩
 exact ⟨⟨⟨[],by simp,λ_ h=>ck h⟩,λb o _ hX e=>k b o (λq=>hX (q▸ha)) e,lv',rfl,rfl,λ_ _ e=>e,λh=>h⟩,
  R.hr.own (λb o hb e=>k b o (λq=>hb (q▸haZ)) e) lv',er,λb o e=>k b o (λq=>(R.off b (e.symm▸λq=>O0 q)).2 (q▸haZ)) (R.top b o e),R.off⟩
theorem qm {loc:bg} {i j:Nat} {pv p:PV} (h:(loc.set i (some pv))[j]?=some (some p)):(i=j∧p=pv)∨(i≠j∧loc[j]?=some (some p)):=by
 rw [List.getElem?_set] at h
 by_cases hij:i=j
 ·rw [if_pos hij] at h
  exact gn h λ_ e=>.inl ⟨hij,(b9 (b9 e)).symm⟩
 ·rw [if_neg hij] at h
  exact .inr ⟨hij,h⟩
theorem Bg {env:Env} {m cm:Str->Option Value} {x y:Str} {v u:Value} (hk:env.kindOf x=some .local) (h:(y=x->u=v)∧(y≠x->cf env m cm y=some u)):cf env (λn=>if n=x then some v else m n) cm y=some u:=by
 by_cases q:y=x
 ·refine (h.1 q).symm▸q.symm▸?_
  unfold cf
  refine hk.symm▸?_
  exact if_pos rfl
 ·have e:=h.2 q
  unfold cf at e ⊢
  refine on e (λh1 h2=>?_) λh1 h2=>?_
  ·refine h1.symm▸?_
   exact (if_neg q).trans h2
  ·rcases h1 with h1 | h1<;>rw [h1]<;>exact h2
theorem Dr {env:Env} {m cm:Str->Option Value} {x y:Str} {v u:Value} {c:Addr} (hk:env.kindOf x=some .cell) (hl:env.cells.lookup x=some c) (h:(y=x->u=v)∧(y≠x->cf env m cm y=some u)):cf env m (λn=>if n=x then some v else cm n) y=some u:=by
 by_cases q:y=x
 ·refine (h.1 q).symm▸q.symm▸?_
  unfold cf
  refine hk.symm▸hl.symm▸?_
  exact if_pos rfl
 ·have e:=h.2 q
  unfold cf at e ⊢
  refine on e (λh1 h2=>?_) λh1 h2=>?_
  ·rw [h1]; exact h2
  ·rcases h1 with h1 | h1<;>rw [h1]<;>exact (congrArg (λz=>(env.cells.lookup y).bind λ_=>z) (if_neg q)).trans h2
theorem yo (R:EnvR fx ρ Z σ.loc s.heap) {m cm m' cm':Str->Option Value} {i:Nat} {x:Str} {pv:PV} {v:Value} {h':Heap} (hv:fx.vars.lookup i=some x) (r:VR ρ Z s.heap pv v) (k:∀b o,b∉Z->s.heap.get? b=some o->h'.get? b=some o)
  (hvs:∀i x pv,fx.vars.lookup i=some x->σ.loc[i]?=some (some pv)->∃v,cf fx.env m cm x=some v∧VR ρ Z s.heap pv v) (hs:∀y u,((y=x->u=v)∧(y≠x->cf fx.env m cm y=some u))->cf fx.env m' cm' y=some u) :
  ∀j y p,fx.vars.lookup j=some y->(σ.loc.set i (some pv))[j]?=some (some p)->∃v,cf fx.env m' cm' y=some v∧VR ρ Z h' p v:=by
 intro j y p hj hl
 rcases qm hl with ⟨q1,q2⟩ | ⟨hij,hl⟩
 ·have:x=y:=b9 (hv.symm.trans (q1▸hj))
  exact ⟨v,hs y v ⟨λ_=>rfl,λq=>absurd this.symm q⟩,q2▸r.own k⟩
 ·obtain ⟨u,hu,hr⟩:=hvs j y p hj hl
  exact ⟨u,hs y u ⟨λq=>absurd (R.vinj j i x (q▸hj) hv).symm hij,λ_=>hu⟩,hr.own k⟩
theorem SR.store (R:SR K fx ρ Z σ s) {i:Nat} {x:Str} {pv:PV} {v:Value} (hv:fx.vars.lookup i=some x) (ok:br fx x) (r:VR ρ Z s.heap pv v) {Q:Unit->Shared->Prop}
  (hQ:∀s',Ext fx.own ρ s ρ s'->SR K fx ρ Z ⟨σ.loc.set i (some pv),σ.hp⟩ s'->Q () s'):wpAny (model prog w) A (storeName fx.env x v) Q bn s:=by
 refine cps λ_ KK=>?_
 obtain ⟨m,cm,hn,hc,hvs⟩:=R.er.ex
 refine KK ?_
 rcases ok with hk | ⟨c,hk,hl,hco⟩
 ·refine wpAny_storeName_local hk hn (λh' hn' sb=>?_) (by rw [R.er.fn]; rfl)
  have k:∀b o,b∉Z->s.heap.get? b=some o->h'.get? b=some o:=λb o hb e=>sb.extBut b o (λq=>hb (q▸R.er.ownZ _ R.er.lown)) e
  have hx:=R.own1 (t:=s.toks+1) (loc':=σ.loc.set i (some pv)) R.er.lown sb (Ns.live hn') ⟨⟨_,cm,hn',λn c e=>IsCell.keep (hc n c e) λo ho=>sb.extBut c o (R.er.cell n c e).2 ho,yo R.er hv r k hvs λy u h=>Bg hk h⟩,R.er.fn,R.er.sc,R.er.vinj,R.er.glob,R.er.bi,R.er.lown,R.er.ownZ,R.er.lmut,R.er.cell,R.er.inj⟩
  exact hQ _ hx.1 hx.2
 ·refine wpAny_storeName_cell R.er.fn hk hl (hc x c hl) λh' hc' sb=>?_
  have k:∀b o,b∉Z->s.heap.get? b=some o->h'.get? b=some o:=λb o hb e=>sb.extBut b o (λq=>hb (q▸R.er.ownZ _ hco)) e
  have hx:=R.own1 (t:=s.toks) (loc':=σ.loc.set i (some pv)) hco sb (hc'.elim λo q=>⟨o,q.1⟩) ⟨⟨m,λn=>if n=x then some v else cm n,Ns.keep hn λo e=>sb.extBut _ o (λq=>(R.er.cell x c hl).2 q.symm) e,λn c' e=>?_,yo R.er hv r k hvs λy u h=>Dr hk hl h⟩,R.er.fn,R.er.sc,R.er.vinj,R.er.glob,R.er.bi,R.er.lown,R.er.ownZ,R.er.lmut,R.er.cell,R.er.inj⟩
  ·exact hQ _ hx.1 hx.2
  ·show h'.IsCell c' (if n=x then some v else cm n)
   by_cases q:n=x
   ·have:c'=c:=b9 ((q▸e:fx.env.cells.lookup x=some c').symm.trans hl)
    refine (if_pos q).symm▸this.symm▸?_
    exact hc'
   ·refine (if_neg q).symm▸?_
    exact IsCell.keep (hc n c' e) λo ho=>sb.extBut c' o (λq'=>q (R.er.inj n x c (q'▸e) hl)) ho
end
inductive Fl where
 | next | brk | cont | ret (v:PV)
noncomputable def FlR (ρ:av) (Z:List Addr) (h:Heap):Fl->Flow->Prop
 | .next,f=>f=.next
 | .brk,f=>f=.brk
 | .cont,f=>f=.cont
 | .ret pv,f=>∃v,f=.ret v∧VR ρ Z h pv v
abbrev XF:=St->Option (Fl×St)
noncomputable def PostX (K:Addr->Option Obj) (fx:Fx) (ρ:av) (Z:List Addr) (s:Shared) (fl:Fl) (σ':St) (f:Flow) (s':Shared):Prop :=
 ∃ρ',Ext fx.own ρ s ρ' s'∧SR K fx ρ' Z σ' s'∧FlR ρ' Z s'.heap fl f
structure Ex (prog:Program) (w:World) (K:Addr->Option Obj) (fx:Fx) (st:Stmt) (F:XF):Prop where
 run:∀(A:Around) (ρ:av) (Z:List Addr) (σ:St) (s:Shared) (fl:Fl) (σ':St),Room A fx.k->SR K fx ρ Z σ s->F σ=some (fl,σ') ->
  wpAny (model prog w) A (exec st fx.env) (PostX K fx ρ Z s fl σ') bn s
structure Exs (prog:Program) (w:World) (K:Addr->Option Obj) (fx:Fx) (st:List Stmt) (F:XF):Prop where
 run:∀(A:Around) (ρ:av) (Z:List Addr) (σ:St) (s:Shared) (fl:Fl) (σ':St),Room A fx.k->SR K fx ρ Z σ s->F σ=some (fl,σ') ->
  wpAny (model prog w) A (execs st fx.env) (PostX K fx ρ Z s fl σ') bn s
noncomputable def aq:XF:=λσ=>some (.next,σ)
noncomputable def ah (F G:XF):XF:=λσ=>match F σ with
 | some (.next,σ')=>G σ'
 | r=>r
section
variable {prog:Program} {w:World} {K:Addr->Option Obj} {fx:Fx} {A:Around} {ρ ρ_1 ρ':av} {Z:List Addr} {σ σ':St} {s s_1 s_2 s':Shared}
theorem PostX.trans {fl:Fl} {f:Flow} {X:List Addr} (x:Ext X ρ s ρ_1 s_1) (hX:∀a∈X,a∈fx.own) (p:PostX K fx ρ_1 Z s_1 fl σ' f s'):PostX K fx ρ Z s fl σ' f s' :=
 Exists.elim p λρ' q=>⟨ρ',(x.weak hX).trans q.1,q.2⟩
theorem PostX.eq {fl fl':Fl} {σ_1:St} {f:Flow} (e:some (fl',σ_1)=some (fl,σ')) (p:PostX K fx ρ Z s fl' σ_1 f s'):PostX K fx ρ Z s fl σ' f s':=(cq e).1▸(cq e).2▸p
theorem gx {Y:List Addr}:∀a∈([]:List Addr),a∈Y:=λ_ h=>ck h
theorem Exs.nil:Exs prog w K fx [] aq:=.mk λA ρ Z σ s fl σ' _ R e=>wpAny_execs_nil (PostX.eq e ⟨ρ,Ext.refl _ _ _,R,rfl⟩)
theorem tc {F G:XF} {fl:Fl} {C:Prop} (e:ah F G σ=some (fl,σ')) (k1:∀σ_1,F σ=some (.next,σ_1)->G σ_1=some (fl,σ')->C) (k2:F σ=some (fl,σ')->fl≠.next->C):C:=by
 unfold ah at e
 cases h:F σ with
 | none=>rw [h] at e; exact al e
 | some x =>
  obtain ⟨fl',σ_1⟩:=x
  replace e:=h▸e
  cases fl' with
  | next=>exact k1 σ_1 h e
  | _=>exact k2 (h.trans e) (λq=>nomatch (cq e).1.trans q)
theorem Exs.cons {st:Stmt} {rest:List Stmt} {F G:XF} (h:Ex prog w K fx st F) (k:Exs prog w K fx rest G):Exs prog w K fx (st::rest) (ah F G):=.mk λA ρ Z σ s fl σ' Rm R e =>
 wpAny_execs_cons (tc e (λσ_1 e1 e2=>wpAny_mono (h.run A ρ Z σ s _ _ Rm R e1) (λf s_1 p=>by
  obtain ⟨ρ_1,x_1,R_1,q⟩:=p
  refine (show f=.next from q).symm▸?_
  exact wpAny_mono (k.run A ρ_1 Z σ_1 s_1 _ _ Rm R_1 e2) (λf s_2 p=>p.trans x_1 λ_ h=>h) λ_ _ q=>q) λ_ _ q=>q)
  λe1 hn=>wpAny_mono (h.run A ρ Z σ s _ _ Rm R e1) (λf s_1 p=>by
   cases fl with
   | next=>exact absurd rfl hn
   | ret pv=>obtain ⟨ρ_1,x_1,R_1,v,hf,r⟩:=p; rw [hf]; exact ⟨ρ_1,x_1,R_1,v,rfl,r⟩
   | brk=>obtain ⟨ρ_1,x_1,R_1,q⟩:=p; rw [show f=.brk from q]; exact ⟨ρ_1,x_1,R_1,rfl⟩
   | cont=>obtain ⟨ρ_1,x_1,R_1,q⟩:=p; rw [show f=.cont from q]; exact ⟨ρ_1,x_1,R_1,rfl⟩) λ_ _ q=>q)
noncomputable def c9 (i:Nat):PV->St->Option (Fl×St):=λpv σ=>some (.next,⟨σ.loc.set i (some pv),σ.hp⟩)
noncomputable def au (F:EF) (G:PV->St->Option (Fl×St)):XF:=λσ=>match F σ with
 | some (v,hp)=>G v ⟨σ.loc,hp⟩
 | none=>none
theorem lz {F:EF} {G:PV->St->Option (Fl×St)} {σ:St} {r:Fl×St} (e:au F G σ=some r):∃v hp,F σ=some (v,hp)∧G v ⟨σ.loc,hp⟩=some r:=by
 unfold au at e
 cases h:F σ with
 | none=>rw [h] at e; exact al e
 | some x=>rw [h] at e; exact ⟨x.1,x.2,rfl,e⟩
theorem Ev.thenX {e:Expr} {F:EF} {G:PV->St->Option (Fl×St)} (h:Ev prog w K fx e F) {A:Around} {ρ:av} {Z:List Addr} {σ:St} {s:Shared} {r:Fl×St} (Rm:Room A fx.k) (R:SR K fx ρ Z σ s)
  (q:au F G σ=some r) {Q:Value->Shared->Prop}
  (k:∀a v h1 ρ_1 s_1,G a ⟨σ.loc,h1⟩=some r->Ext [] ρ s ρ_1 s_1->VR ρ_1 Z s_1.heap a v->SR K fx ρ_1 Z ⟨σ.loc,h1⟩ s_1->Q v s_1):wpAny (model prog w) A (eval e fx.env) Q bn s:=by
 obtain ⟨a,h1,e1,e2⟩:=lz q
 refine wpAny_mono (h.run A ρ Z σ s _ _ Rm R e1) (λv s_1 p=>?_) λ_ _ q=>q
 obtain ⟨ρ_1,x_1,v_1,H_1⟩:=p
 exact k a v h1 ρ_1 s_1 e2 x_1 v_1 (R.next x_1 H_1)
theorem Ex.assign {x:Str} {i:Nat} {p p':Pos} {e:Expr} {F:EF} (hv:fx.vars.lookup i=some x) (ok:br fx x) (he:Ev prog w K fx e F) (hs:swapsWith e (some (.Name x p)) p'.line fx.env=pure false) :
  Ex prog w K fx (.Assign [.Name x p] e p') (au F (c9 i)):=.mk λA ρ Z σ s fl σ' Rm R q =>
 wpAny_Assign_Name (he.thenX Rm R q λa v h1 ρ_1 s_1 e1 x_1 v_1 R_1=>R_1.store hv ok v_1 λs_2 x_2 R_2=>PostX.eq e1 ⟨ρ_1,(x_1.weak gx).trans x_2,R_2,rfl⟩) hs
theorem Ex.ret {e:Expr} {p:Pos} {F:EF} (he:Ev prog w K fx e F):Ex prog w K fx (.Return (some e) p) (au F λpv σ=>some (.ret pv,σ)):=.mk λA ρ Z σ s fl σ' Rm R q =>
 wpAny_Return_some (he.thenX Rm R q λa v h1 ρ_1 s_1 e1 x_1 v_1 R_1=>PostX.eq e1 ⟨ρ_1,x_1.weak gx,R_1,v,rfl,v_1⟩)
theorem Ex.brk {p:Pos}:Ex prog w K fx (.Break p) (λσ=>some (.brk,σ)):=.mk λA ρ Z σ s fl σ' Rm R q=>wpAny_Break (PostX.eq q ⟨ρ,Ext.refl _ _ _,R,rfl⟩)
theorem Ex.cont {p:Pos}:Ex prog w K fx (.Continue p) (λσ=>some (.cont,σ)):=.mk λA ρ Z σ s fl σ' Rm R q=>wpAny_Continue (PostX.eq q ⟨ρ,Ext.refl _ _ _,R,rfl⟩)
theorem Ex.expr {e:Expr} {p:Pos} {F:EF} (he:Ev prog w K fx e F) (hi:interactive fx.env=false) (hs:swapsWith e none p.line fx.env=pure false) :
  Ex prog w K fx (.Expr e p) (au F λpv σ=>match pv with
   | .dat .none=>some (.next,σ)
   | _=>none):=.mk λA ρ Z σ s fl σ' Rm R q=>by
 refine wpAny_Expr (he.thenX Rm R q λa v h1 ρ_1 s_1 e1 x_1 v_1 R_1=>?_) hi hs
 cases a with
 | dat d=>cases d with
  | none =>
   obtain ⟨as,r,_⟩:=v_1
   refine r.none_.1.symm▸?_
   exact PostX.eq e1 ⟨ρ_1,x_1.weak gx,R_1,rfl⟩
  | _=>exact al e1
 | _=>exact al e1
noncomputable def gt (F:St->Option (Bool×List MO)) (G H:XF):XF:=λσ=>match F σ with
 | some (b,hp)=>if b then G ⟨σ.loc,hp⟩ else H ⟨σ.loc,hp⟩
 | none=>none
end
structure ExtG (X:List Addr) (G:Nat->Prop) (ρ:av) (s:Shared) (ρ':av) (s':Shared):Prop where
 e:Ext X ρ { s with gens:=#[] } ρ' { s' with gens:=#[] }
 gens:∀(g:Nat) (st:GenState),¬ G g->s.gens[g]?=some st->s'.gens[g]?=some st
 bare:AllBare s.gens->AllBare s'.gens
section
variable {X Y Z:List Addr} {G:Nat->Prop} {ρ ρ' ρ_0 ρ_1 ρ_2:av} {s s' s_0 s_1 s_2:Shared}
theorem Ext.toG (x:Ext X ρ s ρ' s'):ExtG X G ρ s ρ' s':=⟨⟨x.more,x.heap,x.live,x.drawn,x.os,λ_ _ e=>e,λh=>h⟩,λg st _ e=>x.gens g st e,x.bare⟩
theorem ExtG.refl:ExtG X G ρ s ρ s:=(Ext.refl X ρ s).toG
theorem ExtG.trans (x:ExtG X G ρ_0 s_0 ρ_1 s_1) (y:ExtG X G ρ_1 s_1 ρ_2 s_2):ExtG X G ρ_0 s_0 ρ_2 s_2:=⟨x.e.trans y.e,λg st h e=>y.gens g st h (x.gens g st h e),λh=>y.bare (x.bare h)⟩
theorem ExtG.weak (x:ExtG X G ρ s ρ' s') (h:∀a∈X,a∈Y):ExtG Y G ρ s ρ' s':=⟨x.e.weak h,x.gens,x.bare⟩
theorem ExtG.ext (x:ExtG X G ρ s ρ' s') (h:∀a∈X,a∈Y∨s.heap.get? a=none) (hg:∀g st,s.gens[g]?=some st->¬ G g):Ext Y ρ s ρ' s' :=
 let y:=x.e.shrink (Y:=Y) h
 ⟨y.more,y.heap,y.live,y.drawn,y.os,λg st e=>x.gens g st (hg g st e) e,x.bare⟩
end
section
variable {K:Addr->Option Obj} {fx:Fx} {ρ ρ':av} {Z Z' wr:List Addr} {σ:St} {s s':Shared} {hp:List MO}
noncomputable def n7 (fx:Fx) (wr:List Addr):Prop:=fx.env.locals∉wr∧∀n c,fx.env.cells.lookup n=some c->c∉wr
theorem FrameK.ext {X:List Addr} (R:SR K fx ρ Z σ s) (x:Ext X ρ s ρ' s') (off:n7 fx X):FrameK fx s.heap s'.heap:=⟨λo e=>x.heap _ o R.er.lmut off.1 e,λn c e o q=>x.heap c o (R.er.cell n c e).1 (off.2 n c e) q⟩
theorem SR.extX {X:List Addr} {hp':List MO} (R:SR K fx ρ Z σ s) (x:Ext X ρ s ρ' s') (hX:∀a∈X,a∈Z) (off:n7 fx X) (H:HR ρ' Z hp' s'.heap):SR K fx ρ' Z ⟨σ.loc,hp'⟩ s' :=
 R.map (λ_ _ e=>x.old e) (x.moves hX) (FrameK.ext R x off) (λa o e h=>x.notin e h) R.er.ownZ H
theorem SR.gens0 (R:SR K fx ρ Z σ s) {g:Array GenState}:SR K fx ρ Z σ { s with gens:=g }:=⟨R.hr,R.er,R.top,R.off⟩
theorem SR.extG {X:List Addr} {G:Nat->Prop} {hp':List MO} (R:SR K fx ρ Z σ s) (x:ExtG X G ρ s ρ' s') (hX:∀a∈X,a∈Z) (off:n7 fx X) (H:HR ρ' Z hp' s'.heap):SR K fx ρ' Z ⟨σ.loc,hp'⟩ s' :=
 have R1:=(R.gens0 (g:=#[])).extX x.e hX off H
 ⟨R1.hr,R1.er,R1.top,R1.off⟩
theorem SR.offFresh (R:SR K fx ρ Z σ s) (hw:∀a∈wr,s.heap.get? a=none):n7 fx wr:=by
 obtain ⟨m,cm,hn,hc,_⟩:=R.er.ex
 exact ⟨λq=>(Ns.live hn).elim λo e=>al ((hw _ q).symm.trans e),λn c e q=>(hc n c e).elim λo h=>al ((hw _ q).symm.trans h.1)⟩
theorem su {h h':Heap} (hw:∀a∈wr,h.get? a=none) (k:∀b o,h.get? b=some o->h'.get? b=some o):Moves ρ ρ Z (wr++Z) h h':=λa o h1 h2 e=>⟨k a o e,h1,λm=>(List.mem_append.mp m).elim (λm=>al ((hw a m).symm.trans e)) h2⟩
theorem tf {h:Heap} (hZ:∀a∈Z',a∈Z):Moves ρ ρ Z Z' h h:=λa o h1 h2 e=>⟨e,h1,λm=>h2 (hZ a m)⟩
theorem MR.more {h h':Heap} (hw:∀a∈wr,h.get? a=none) (k:∀b o,h.get? b=some o->h'.get? b=some o) {r b:Addr} {mo:MO} (x:MR ρ Z h r b mo):MR ρ (wr++Z) h' r b mo:=MR.map (λ_ _ e=>e) (su hw k) (k b) x
theorem HR.more {h h':Heap} (H:HR ρ Z hp h) (hw:∀a∈wr,h.get? a=none) (k:∀b o,h.get? b=some o->h'.get? b=some o) (lv:∀a∈wr,∃o,h'.get? a=some o):HR ρ (wr++Z) hp h' :=
 ⟨H.len,H.nodup,λb hb m=>(List.mem_append.mp m).elim (λm=>(H.live b hb).elim λo e=>al ((hw b m).symm.trans e)) (H.offZ b hb),
  λa ha=>(List.mem_append.mp ha).elim (lv a) λha=>(H.liveZ a ha).elim λo e=>⟨o,k a o e⟩,λi mo e=>AtR.rec (motive:=λ_=>AtR ρ (wr++Z) h' i mo) (λr b hr hm=>⟨r,b,hr,hm.more hw k⟩) (H.at_ i mo e)⟩
theorem SR.more (R:SR K fx ρ Z σ s) (hw:∀a∈wr,s.heap.get? a=none) (k:∀b o,s.heap.get? b=some o->s'.heap.get? b=some o) (lv:∀a∈wr,∃o,s'.heap.get? a=some o):SR K fx ρ (wr++Z) σ s' :=
 R.map (λ_ _ e=>e) (su hw k) ⟨k _,λ_ c _=>k c⟩ (λ_ _ _ h=>h) (λa ha=>List.mem_append_right _ (R.er.ownZ a ha)) (R.hr.more hw k lv)
theorem MR.weak {h:Heap} (hZ:∀a∈Z',a∈Z) {r b:Addr} {mo:MO} (x:MR ρ Z h r b mo):MR ρ Z' h r b mo:=MR.map (λ_ _ e=>e) (tf hZ) (λ_ e=>e) x
theorem HR.weak {h:Heap} (H:HR ρ Z hp h) (hZ:∀a∈Z',a∈Z):HR ρ Z' hp h :=
 ⟨H.len,H.nodup,λb hb m=>H.offZ b hb (hZ b m),λa ha=>H.liveZ a (hZ a ha),λi mo e=>AtR.rec (motive:=λ_=>AtR ρ Z' h i mo) (λr b hr hm=>⟨r,b,hr,hm.weak hZ⟩) (H.at_ i mo e)⟩
theorem SR.weak (R:SR K fx ρ Z σ s) (hZ:∀a∈Z',a∈Z) (ho:∀a∈fx.own,a∈Z'):SR K fx ρ Z' σ s :=
 R.map (λ_ _ e=>e) (tf hZ) ⟨λ_ e=>e,λ_ _ _ _ e=>e⟩ (λ_ _ _ h=>h) ho (R.hr.weak hZ)
theorem SR.extZ {X Z_2:List Addr} {G:Nat->Prop} {hp':List MO} (R:SR K fx ρ Z σ s) (x:ExtG X G ρ s ρ' s') (hX:∀a∈X,a∈Z_2) (off:n7 fx X) (hZ:∀a∈Z_2,a∈Z∨s.heap.get? a=none) (ho:∀a∈fx.own,a∈Z_2) (H:HR ρ' Z_2 hp' s'.heap):SR K fx ρ' Z_2 ⟨σ.loc,hp'⟩ s':=by
 have e':=x.e
 have nz:∀a o,a∉Z->s.heap.get? a=some o->a∉Z_2:=λa o h e m=>(hZ a m).elim h λn=>al (n.symm.trans e)
 exact R.map (λ_ _ e=>e'.old e) (λa o h1 h2 e=>⟨e'.heap a o h1 (λq=>nz a o h2 e (hX a q)) e,e'.notin (o:=o) e h1,nz a o h2 e⟩) (FrameK.ext (s:={ s with gens:=#[] }) (s':={ s' with gens:=#[] }) (R.gens0 (g:=#[])) e' off) (λa o e h=>e'.notin (o:=o) e h) ho H
theorem SR.extD {X w_2:List Addr} {G:Nat->Prop} {hp':List MO} (R:SR K fx ρ Z σ s) (x:ExtG X G ρ s ρ' s') (hX:∀a∈X,a∈Z) (off:n7 fx X) (hw:∀a∈w_2,s.heap.get? a=none) (H:HR ρ' (w_2++Z) hp' s'.heap):SR K fx ρ' (w_2++Z) ⟨σ.loc,hp'⟩ s' :=
 R.extZ x (λa h=>List.mem_append_right _ (hX a h)) off (λa h=>(List.mem_append.mp h).elim (λh=>.inr (hw a h)) .inl) (λa h=>List.mem_append_right _ (R.er.ownZ a h)) H
theorem HR.drop {h h':Heap} (H:HR ρ (wr++Z) hp h) (hZ:∀a∈wr,a∉Z) (k:∀b o,b∉wr->h.get? b=some o->h'.get? b=some o):HR ρ Z hp h' :=
 ⟨H.len,H.nodup,λb hb m=>H.offZ b hb (List.mem_append_right _ m),λa ha=>(H.liveZ a (List.mem_append_right _ ha)).elim λo e=>⟨o,k a o (λq=>hZ a q ha) e⟩,λi mo e =>
  AtR.rec (motive:=λ_=>AtR ρ Z h' i mo) (λr b hr hm=>⟨r,b,hr,MR.map (λ_ _ e=>e) (λa o h1 h2 e=>⟨k a o (λq=>h2 (List.mem_append_left _ q)) e,h1,λq=>h2 (List.mem_append_right _ q)⟩)
   (λo=>k b o λq=>H.offZ b (List.mem_map_of_mem (f:=Prod.snd) (List.mem_of_getElem? hr)) (List.mem_append_left _ q)) hm⟩) (H.at_ i mo e)⟩
theorem SR.drop {h':Heap} {t:Nat} (R:SR K fx ρ (wr++Z) σ s) (hZ:∀a∈wr,a∉Z) (off:n7 fx wr) (ho:∀a∈fx.own,a∈Z) (k:∀b o,b∉wr->s.heap.get? b=some o->h'.get? b=some o):SR K fx ρ Z σ { s with heap:=h',toks:=t } :=
 R.map (s':={ s with heap:=h',toks:=t }) (λ_ _ e=>e) (λa o h1 h2 e=>⟨k a o (λq=>h2 (List.mem_append_left _ q)) e,h1,λq=>h2 (List.mem_append_right _ q)⟩) ⟨λo=>k _ o off.1,λn c e o=>k c o (off.2 n c e)⟩ (λ_ _ _ h=>h) ho (R.hr.drop hZ k)
theorem Ext.drop {X:List Addr} {h':Heap} {t:Nat} {s_1:Shared} (x:Ext X ρ s ρ' s_1) (hw:∀a∈wr,s.heap.get? a=none) (k:∀b o,b∉wr->s_1.heap.get? b=some o->h'.get? b=some o):Ext X ρ s ρ' { s_1 with heap:=h',toks:=t } :=
 have n:∀b o,s.heap.get? b=some o->b∉wr:=λb o e q=>by rw [hw b q] at e; cases e
 ⟨x.more,λb o hb hX e=>k b o (n b o e) (x.heap b o hb hX e),λb o e=>let ⟨o',e'⟩:=x.live b o e; ⟨o',k b o' (n b o e) e'⟩,x.drawn,x.os,x.gens,x.bare⟩
end
inductive IS where
 | rem (l:List PyData)
 | trk (i k:Nat)
abbrev cy:=IS->List MO->Option (Option (PyData×IS)×List MO)
noncomputable def ar:cy
 | .rem [],hp=>some (none,hp)
 | .rem (d::l),hp=>some (some (d,.rem l),hp)
 | .trk i k,hp=>match hp[i]? with
  | some (.lst l)=>match l[k]? with
   | some d=>some (some (d,.trk i (k+1)),hp)
   | none=>some (none,hp)
  | _=>none
inductive Gb (wr:List Addr) (G:Nat->Prop) (ρ:av) (Z:List Addr) (s:Shared) (hp':List MO) (r:Option Value) (s':Shared):Prop
 | mk:r=none->∀(ρ':av) (s_1:Shared) (h':Heap) (tk:Nat),ExtG wr G ρ s ρ' s_1->HR ρ' Z hp' s_1.heap->s'={ s_1 with heap:=h',toks:=tk }->(∀b o,b∉wr->s_1.heap.get? b=some o->h'.get? b=some o)->Gb wr G ρ Z s hp' r s'
inductive Q3 (wr:List Addr) (G:Nat->Prop) (ρ:av) (Z:List Addr) (s:Shared) (hp':List MO) (d:PyData) (v:Value) (J:av->Shared->Prop) (s'':Shared):Prop
 | mk (ρ':av):ExtG wr G ρ s ρ' s''->HR ρ' Z hp' s''.heap->VR ρ' Z s''.heap (.dat d) v->J ρ' s''->Q3 wr G ρ Z s hp' d v J s''
inductive GoD (wr:List Addr) (G:Nat->Prop) (ρ:av) (Z:List Addr) (s:Shared) (hp':List MO) (d:PyData) (v:Value) (J:List Addr->av->Shared->Prop) (s'':Shared):Prop
 | mk (ρ':av) (w_2:List Addr):(∀a∈w_2,s.heap.get? a=none)->ExtG wr G ρ s ρ' s''->HR ρ' (w_2++Z) hp' s''.heap->VR ρ' (w_2++Z) s''.heap (.dat d) v->J w_2 ρ' s''->GoD wr G ρ Z s hp' d v J s''
inductive NextP (prog:Program) (w:World) (A:Around) (tg:Expr) (it:Value) (Q:Value->Shared->Prop) (r:Option Value) (s':Shared):Prop
 | mk (v:Value):r=some v->wpAny (model prog w) A (letOwnedTupleGo tg it v) (λ_=>Q v) bn s'->NextP prog w A tg it Q r s'
structure Iter (prog:Program) (w:World) (A:Around) (it:Value) (tg:Expr) (wr:List Addr) (G:Nat->Prop) (step:cy) (J:IS->av->List Addr->Shared->Prop):Prop where
 ext:∀{l ρ Z s X ρ' s'},J l ρ Z s->Ext X ρ s ρ' s'->(∀a∈X,a∈Z∧a∉wr)->J l ρ' Z s'
 next:∀{l hp d l' hp' ρ Z s},step l hp=some (some (d,l'),hp')->J l ρ Z s->HR ρ Z hp s.heap->(∀a∈wr,a∈Z)->wpAny (model prog w) A (pyNext it) (NextP prog w A tg it λv=>Q3 wr G ρ Z s hp' d v λρ'=>J l' ρ' Z) bn s
 done:∀{l hp hp' ρ Z s},step l hp=some (none,hp')->J l ρ Z s->HR ρ Z hp s.heap->(∀a∈wr,a∈Z)->wpAny (model prog w) A (pyNext it) (Gb wr G ρ Z s hp') bn s
 self:∀{l hp r ρ Z s} {Q:Value->Shared->Prop},step l hp=some r->J l ρ Z s->HR ρ Z hp s.heap->Q it s->wpAny (model prog w) A (pyIter it) Q bn s
 more:∀{l ρ Z Z' s s'},J l ρ Z s->(∀a∈Z',a∈Z∨s.heap.get? a=none)->(∀b o,s.heap.get? b=some o->s'.heap.get? b=some o)->(∀(g:Nat) (st:GenState),s.gens[g]?=some st->s'.gens[g]?=some st)->J l ρ Z' s'
structure B9 (prog:Program) (w:World) (A:Around) (it:Value) (tg:Expr) (G:Nat->Prop) (step:cy) (J:IS->List Addr->av->List Addr->Shared->Prop):Prop where
 ext:∀{l wr ρ Z s X ρ' s'},J l wr ρ Z s->Ext X ρ s ρ' s'->(∀a∈X,a∈Z∧a∉wr)->J l wr ρ' Z s'
 next:∀{l wr hp d l' hp' ρ Z s},step l hp=some (some (d,l'),hp')->J l wr ρ Z s->HR ρ Z hp s.heap->(∀a∈wr,a∈Z)->wpAny (model prog w) A (pyNext it) (NextP prog w A tg it λv=>GoD wr G ρ Z s hp' d v λw_2 ρ'=>J l' (w_2++wr) ρ' (w_2++Z)) bn s
 done:∀{l wr hp hp' ρ Z s},step l hp=some (none,hp')->J l wr ρ Z s->HR ρ Z hp s.heap->(∀a∈wr,a∈Z)->wpAny (model prog w) A (pyNext it) (Gb wr G ρ Z s hp') bn s
 self:∀{l wr hp r ρ Z s} {Q:Value->Shared->Prop},step l hp=some r->J l wr ρ Z s->HR ρ Z hp s.heap->Q it s->wpAny (model prog w) A (pyIter it) Q bn s
 more:∀{l wr ρ Z Z' s s'},J l wr ρ Z s->(∀a∈Z',a∈Z∨s.heap.get? a=none)->(∀b o,s.heap.get? b=some o->s'.heap.get? b=some o)->(∀(g:Nat) (st:GenState),s.gens[g]?=some st->s'.gens[g]?=some st)->J l wr ρ Z' s'
theorem NextP.mono {prog:Program} {w:World} {A:Around} {tg:Expr} {it:Value} {Q Q':Value->Shared->Prop} {r:Option Value} {s':Shared} (n:NextP prog w A tg it Q r s') (k:∀v s,Q v s->Q' v s):NextP prog w A tg it Q' r s':=by
 obtain ⟨v,h,p⟩:=n
 exact ⟨v,h,wpAny_mono p (λ_ s q=>k v s q) λ_ _ q=>q⟩
theorem Iter.toD {prog:Program} {w:World} {A:Around} {it:Value} {tg:Expr} {wr:List Addr} {G:Nat->Prop} {step:cy} {J:IS->av->List Addr->Shared->Prop} (W:Iter prog w A it tg wr G step J) :
  B9 prog w A it tg G step (λl wr' ρ Z s=>wr'=wr∧J l ρ Z s) where
 ext:=λj x hX=>⟨j.1,W.ext j.2 x (j.1▸hX)⟩
 next:=λ{l wr' hp d l' hp' ρ Z s} e j H hw=>by
  obtain ⟨h,j⟩:=j
  subst h
  exact wpAny_mono (W.next e j H hw) (λr s' p=>p.mono λv s'' p=>by
   obtain ⟨ρ',x,H',V,j'⟩:=p
   exact ⟨ρ',[],(λ_ h=>ck h),x,H',V,rfl,j'⟩) λ_ _ q=>q
 done:=λe j H hw=>j.1▸W.done e j.2 H (j.1▸hw)
 self:=λe j H hQ=>W.self e j.2 H hQ
 more:=λj hZ k g=>⟨j.1,W.more j.2 hZ k g⟩
inductive PostI (prog:Program) (w:World) (A:Around) (tg:Expr) (step:cy) (ρ:av) (Z:List Addr) (s:Shared) (is:IS) (hp':List MO) (it:Value) (s':Shared):Prop
 | mk (ρ_1:av) (s_1:Shared) (wr:List Addr) (G:Nat->Prop) (J:IS->List Addr->av->List Addr->Shared->Prop):Ext [] ρ s ρ_1 s_1->HR ρ_1 Z hp' s_1.heap->Ext [] ρ_1 s_1 ρ_1 s'->(∀b o,s_1.heap.get? b=some o->s'.heap.get? b=some o)->(∀a∈wr,s_1.heap.get? a=none) ->
  (∀a∈wr,∃o,s'.heap.get? a=some o)->(∀g,G g->s_1.gens[g]?=none)->J is wr ρ_1 (wr++Z) s'->B9 prog w A it tg G step J->PostI prog w A tg step ρ Z s is hp' it s'
abbrev SF:=St->Option ((IS×Nat)×List MO)
structure EvI (prog:Program) (w:World) (K:Addr->Option Obj) (fx:Fx) (e tg:Expr) (step:cy) (F:SF):Prop where
 run:∀(A:Around) (ρ:av) (Z:List Addr) (σ:St) (s:Shared) (is:IS) (n:Nat) (hp':List MO),Room A fx.k->SR K fx ρ Z σ s->F σ=some ((is,n),hp') ->
  wpAny (model prog w) A (eval e fx.env) (λx s_1=>wpAny (model prog w) A (pyIter x) (PostI prog w A tg step ρ Z s is hp') bn s_1) bn s
structure As (prog:Program) (w:World) (K:Addr->Option Obj) (fx:Fx) (tg:Expr) (T:PyData->bg->Option bg):Prop where
 run:∀(A:Around) (ρ:av) (Z:List Addr) (σ:St) (s:Shared) (d:PyData) (v:Value) (loc':bg),Room A fx.k->SR K fx ρ Z σ s->VR ρ Z s.heap (.dat d) v->T d σ.loc=some loc' ->
  wpAny (model prog w) A (assign tg fx.env v) (λ_ s'=>Ext fx.own ρ s ρ s'∧SR K fx ρ Z ⟨loc',σ.hp⟩ s') bn s
noncomputable def bw (step:cy) (T:PyData->bg->Option bg) (B:XF):Nat->IS->XF
 | 0,_=>λ_=>none
 | n+1,is=>λσ=>match step is σ.hp with
  | none=>none
  | some (none,hp)=>some (.next,⟨σ.loc,hp⟩)
  | some (some (d,is'),hp)=>match T d σ.loc with
   | none=>none
   | some loc=>match B ⟨loc,hp⟩ with
    | some (.next,σ_2)=>bw step T B n is' σ_2
    | some (.cont,σ_2)=>bw step T B n is' σ_2
    | some (.brk,σ_2)=>some (.next,σ_2)
    | some (.ret v,σ_2)=>some (.ret v,σ_2)
    | none=>none
noncomputable def de (F:SF) (G:IS->Nat->XF):XF:=λσ=>match F σ with
 | some ((is,n),hp)=>G is n ⟨σ.loc,hp⟩
 | none=>none
section
variable {prog:Program} {w:World} {K:Addr->Option Obj} {fx:Fx}
theorem Av {F:SF} {G:IS->Nat->XF} {σ:St} {r:Fl×St} (e:de F G σ=some r):∃is n hp,F σ=some ((is,n),hp)∧G is n ⟨σ.loc,hp⟩=some r:=by
 unfold de at e
 cases h:F σ with
 | none=>rw [h] at e; exact al e
 | some x=>rw [h] at e; exact ⟨x.1.1,x.1.2,x.2,rfl,e⟩
inductive Oh (step:cy) (T:PyData->bg->Option bg) (B:XF) (k:Nat) (is:IS) (σ:St) (fl:Fl) (σ':St):Prop
 | done (hp:List MO):step is σ.hp=some (none,hp)->some (Fl.next,⟨σ.loc,hp⟩)=some (fl,σ')->Oh step T B k is σ fl σ'
 | turn (d:PyData) (is':IS) (hp:List MO) (loc:bg) (fl':Fl) (σ_2:St):step is σ.hp=some (some (d,is'),hp)->T d σ.loc=some loc->B ⟨loc,hp⟩=some (fl',σ_2) ->
  ((fl'=.next∨fl'=.cont)∧bw step T B k is' σ_2=some (fl,σ')∨fl'=.brk∧some (Fl.next,σ_2)=some (fl,σ')∨(∃v,fl'=.ret v)∧some (fl',σ_2)=some (fl,σ'))->Oh step T B k is σ fl σ'
theorem Jq {step:cy} {T:PyData->bg->Option bg} {B:XF} {k:Nat} {is:IS} {σ:St} {fl:Fl} {σ':St} (e:bw step T B (k+1) is σ=some (fl,σ')):Oh step T B k is σ fl σ':=by
 rw [bw] at e
 dsimp only at e
 cases h1:step is σ.hp with
 | none=>rw [h1] at e; exact al e
 | some x =>
  obtain ⟨x,hp⟩:=x
  replace e:=h1▸e
  cases x with
  | none=>exact .done hp h1 e
  | some x =>
   obtain ⟨d,is'⟩:=x
   dsimp only at e
   cases h2:T d σ.loc with
   | none=>rw [h2] at e; exact al e
   | some loc =>
    replace e:=h2▸e
    dsimp only at e
    cases h3:B ⟨loc,hp⟩ with
    | none=>rw [h3] at e; exact al e
    | some y =>
     obtain ⟨fl',σ_2⟩:=y
     replace e:=h3▸e
     refine .turn d is' hp loc fl' σ_2 h1 h2 h3 ?_
     cases fl' with
     | next=>exact .inl ⟨.inl rfl,e⟩
     | cont=>exact .inl ⟨.inr rfl,e⟩
     | brk=>exact .inr (.inl ⟨rfl,e⟩)
     | ret v=>exact .inr (.inr ⟨⟨v,rfl⟩,e⟩)
inductive N9 (K:Addr->Option Obj) (fx:Fx) (Z:List Addr) (G:Nat->Prop) (J:IS->List Addr->av->List Addr->Shared->Prop) (F:IS->XF) (fl:Fl) (σ':St) (ρ_1:av) (s_1:Shared) (s':Shared):Prop
 | mk (ρ':av) (σ_0:St) (is':IS) (wr':List Addr):(∀a∈wr',s_1.heap.get? a=none)->ExtG (wr'++fx.own) G ρ_1 s_1 ρ' s'->SR K fx ρ' (wr'++Z) σ_0 s'->J is' wr' ρ' (wr'++Z) s'->F is' σ_0=some (fl,σ')->N9 K fx Z G J F fl σ' ρ_1 s_1 s'
section
variable {A:Around} {ρ ρ' ρ_1 ρ_3:av} {Z wr' W' X:List Addr} {σ_0 σ_2:St} {s s' s_1 s_4 s_5 s_6:Shared} {G:Nat->Prop} {hp:List MO} {d:PyData} {v:Value} {fl:Fl} {f:Flow} {h':Heap} {tk:Nat}
inductive Sw (K:Addr->Option Obj) (fx:Fx) (wr':List Addr) (G:Nat->Prop) (ρ':av) (Z:List Addr) (s':Shared) (σ:St) (d:PyData) (v:Value) (J:List Addr->av->List Addr->Shared->Prop) (s_4:Shared):Prop
 | mk (W':List Addr) (ρ_3:av):(∀a∈wr',a∈W')->(∀a∈W',s'.heap.get? a=none∨a∈wr')->ExtG wr' G ρ' s' ρ_3 s_4->SR K fx ρ_3 (W'++Z) σ s_4->VR ρ_3 (W'++Z) s_4.heap (.dat d) v->J W' ρ_3 (W'++Z) s_4->Sw K fx wr' G ρ' Z s' σ d v J s_4
theorem GoD.facts {J:List Addr->av->List Addr->Shared->Prop} (R':SR K fx ρ' (wr'++Z) σ_0 s') (off':n7 fx wr') (p:GoD wr' G ρ' (wr'++Z) s' hp d v (λw_2 ρ=>J (w_2++wr') ρ (w_2++(wr'++Z))) s_4):Sw K fx wr' G ρ' Z s' ⟨σ_0.loc,hp⟩ d v J s_4:=by
 obtain ⟨ρ_3,w_2,hw_2,x_3,H_3,v_3,J_3⟩:=p
 have R_3:=R'.extD x_3 (λa h=>List.mem_append_left _ h) off' hw_2 H_3
 rw [← List.append_assoc] at R_3 v_3 J_3
 exact ⟨w_2++wr',ρ_3,λa h=>List.mem_append_right _ h,λa h=>(List.mem_append.mp h).imp (hw_2 a) id,x_3,R_3,v_3,J_3⟩
theorem Cy (x_1:Ext [] ρ s ρ_1 s_1) (hg:∀g,G g->s_1.gens[g]?=none) (hu:∀a∈wr',s_1.heap.get? a=none) (x:ExtG (wr'++fx.own) G ρ_1 s_1 ρ' s'):Ext fx.own ρ s ρ' s' :=
 (x_1.weak gx).trans (x.ext (λa h=>(List.mem_append.mp h).elim (λh=>.inr (hu a h)) .inl) λg st e h=>al ((hg g h).symm.trans e))
theorem wn (R:SR K fx ρ_1 Z σ_0 s_1) (hu:∀a∈wr',s_1.heap.get? a=none) {a:Addr} (h:a∈Z):a∉wr':=λm=>(R.hr.liveZ a h).elim λo e=>al ((hu a m).symm.trans e)
theorem K6 {σ_1:St} (R_1:SR K fx ρ_1 Z σ_1 s_1) (x_1:Ext [] ρ s ρ_1 s_1) (hg:∀g,G g->s_1.gens[g]?=none) (hu:∀a∈wr',s_1.heap.get? a=none) (xg:ExtG (wr'++fx.own) G ρ_1 s_1 ρ' s') (R':SR K fx ρ' (wr'++Z) σ_0 s')
  {hp':List MO} (x_3:ExtG wr' G ρ' s' ρ_3 s_4) (H_3:HR ρ_3 (wr'++Z) hp' s_4.heap) (kd:∀b o,b∉wr'->s_4.heap.get? b=some o->h'.get? b=some o):PostX K fx ρ Z s .next ⟨σ_0.loc,hp'⟩ .next { s_4 with heap:=h',toks:=tk }:=by
 have off':=R_1.offFresh hu
 have ownZ:∀a∈fx.own,a∈Z:=R_1.er.ownZ
 have x_4:=xg.trans (x_3.weak (Y:=wr'++fx.own) λa h=>List.mem_append_left _ h)
 have x_5:Ext fx.own ρ_1 s_1 ρ_3 s_4:=x_4.ext (λa h=>(List.mem_append.mp h).elim (λh=>.inr (hu a h)) .inl) λg st e h=>al ((hg g h).symm.trans e)
 exact ⟨ρ_3,(x_1.weak gx).trans (x_5.drop hu kd),(R'.extG x_3 (λa h=>List.mem_append_left _ h) off' H_3).drop (λa h m=>wn R_1 hu m h) off' ownZ kd,rfl⟩
inductive M3 (K:Addr->Option Obj) (fx:Fx) (Z:List Addr) (G:Nat->Prop) (J:List Addr->av->List Addr->Shared->Prop) (σ_2:St) (ρ_1:av) (s_1:Shared) (W':List Addr) (fl:Fl) (f:Flow) (s_6:Shared):Prop
 | mk (ρ_6:av):(∀a∈W',s_1.heap.get? a=none)->ExtG (W'++fx.own) G ρ_1 s_1 ρ_6 s_6->SR K fx ρ_6 (W'++Z) σ_2 s_6->J W' ρ_6 (W'++Z) s_6->FlR ρ_6 (W'++Z) s_6.heap fl f->M3 K fx Z G J σ_2 ρ_1 s_1 W' fl f s_6
theorem Jy {J:List Addr->av->List Addr->Shared->Prop} (hJx:∀{ρ Z s X ρ' s'},J W' ρ Z s->Ext X ρ s ρ' s'->(∀a∈X,a∈Z∧a∉W')->J W' ρ' Z s') {σ_1:St} (R_1:SR K fx ρ_1 Z σ_1 s_1) (hu:∀a∈wr',s_1.heap.get? a=none) (xg:ExtG (wr'++fx.own) G ρ_1 s_1 ρ' s')
  (hsub:∀a∈wr',a∈W') (hnew:∀a∈W',s'.heap.get? a=none∨a∈wr') (x_3:ExtG wr' G ρ' s' ρ_3 s_4) (J_3:J W' ρ_3 (W'++Z) s_4) (x_5:Ext fx.own ρ_3 s_4 ρ_3 s_5) (q:PostX K fx ρ_3 (W'++Z) s_5 fl σ_2 f s_6):M3 K fx Z G J σ_2 ρ_1 s_1 W' fl f s_6:=by
 have hw:∀a∈W',s_1.heap.get? a=none:=λa h=>(hnew a h).elim (λn=>by
  cases q:s_1.heap.get? a with
  | none=>rfl
  | some o=>exact (xg.e.live a o q).elim λo' e=>al (n.symm.trans e)) (hu a)
 have hX:∀a∈fx.own,a∈W'++Z∧a∉W':=λa h=>⟨List.mem_append_right _ (R_1.er.ownZ a h),wn R_1 hw (R_1.er.ownZ a h)⟩
 have oX:∀a∈fx.own,a∈W'++fx.own:=λa h=>List.mem_append_right _ h
 have g_5:ExtG (W'++fx.own) G ρ_1 s_1 ρ_3 s_5:=((xg.weak λa h=>(List.mem_append.mp h).elim (λh=>List.mem_append_left _ (hsub a h)) (oX a)).trans (x_3.weak λa h=>List.mem_append_left _ (hsub a h))).trans (x_5.weak oX).toG
 obtain ⟨ρ_6,x_6,R_6,r⟩:=q
 exact ⟨ρ_6,hw,g_5.trans (x_6.weak oX).toG,R_6,hJx (hJx J_3 x_5 hX) x_6 hX,r⟩
end
theorem Ex.for_ {tg e:Expr} {body:List Stmt} {pos:Pos} {step:cy} {F:SF} {T:PyData->bg->Option bg} {B:XF} (he:EvI prog w K fx e tg step F) (ht:As prog w K fx tg T) (hb:Exs prog w K fx body B)
  (hs:∀x,foldedSetIterable e fx.env x=pure x:=by intro _; rfl):Ex prog w K fx (.For tg e body [] pos) (de F λis n=>bw step T B n is):=.mk λA ρ Z σ s fl σ' Rm R q=>by
 obtain ⟨is,n,hp,e1,e2⟩:=Av q
 refine wpAny_For (wpAny_mono (he.run A ρ Z σ s is n hp Rm R e1) (λx s_1 h_1=>wpAny_mono h_1 (λit s_2 h_2=>?_) λ_ _ q=>q.elim) λ_ _ q=>q.elim) hs
 obtain ⟨ρ_1,s_1',wr,G,J,x_1,H_1,x_2,keep,hw,lv,hg,hJ,W⟩:=h_2
 have R_1:=R.next x_1 H_1
 refine codeAny_forLoop_any (λk s'=>N9 K fx Z G J (bw step T B k) fl σ' ρ_1 s_1' s') ?_ n ⟨ρ_1,_,is,wr,hw,(x_2.weak gx).toG,R_1.more hw keep lv,hJ,e2⟩
 rintro k s' ⟨ρ',σ_0,is',wr',hw',xg,R',J',hF⟩
 have wrZ:∀a∈wr',a∈wr'++Z:=λa h=>List.mem_append_left _ h
 cases k with
 | zero=>exact al hF
 | succ k=>cases Jq hF with
  | done hp hst e =>
   refine wpAny_mono (W.done hst J' R'.hr wrZ) (λr s_3 p=>?_) λ_ _ q=>q.elim
   obtain ⟨rfl,ρ_3,s_4,h',tk,x_3,H_3,rfl,kd⟩:=p
   exact wpAny_execs_nil (PostX.eq e (K6 R_1 x_1 hg hw' xg R' x_3 H_3 kd))
  | turn d is_1 hp loc fl' σ_2 hst hT hB hend =>
   refine wpAny_mono (W.next hst J' R'.hr wrZ) (λr s_3 p=>?_) λ_ _ q=>q.elim
   obtain ⟨v,rfl,p⟩:=p
   refine wpAny_mono p (λ_ s_4 p=>?_) λ_ _ q=>q.elim
   obtain ⟨W',ρ_3,hsub,hnew,x_3,R_3,v_3,J_3⟩:=GoD.facts (J:=J is_1) R' (R_1.offFresh hw') p
   refine wpAny_mono (ht.run A ρ_3 _ _ s_4 d v loc Rm R_3 v_3 hT) (λ_ s_5 p=>wpAny_mono (hb.run A ρ_3 _ _ s_5 fl' σ_2 Rm p.2 hB) (λf s_6 q=>?_) λ_ _ q=>q.elim) λ_ _ q=>q.elim
   obtain ⟨ρ_6,hw_6,g_6,R_6,J_6,hf⟩:=Jy (J:=J is_1) (λj x h=>W.ext j x h) R_1 hw' xg hsub hnew x_3 J_3 p.1 q
   rcases hend with ⟨hn,e⟩ | ⟨rfl,e⟩ | ⟨⟨v,rfl⟩,e⟩
   ·have I:N9 K fx Z G J (bw step T B k) fl σ' ρ_1 s_1' s_6:=⟨ρ_6,σ_2,is_1,W',hw_6,g_6,R_6,J_6,e⟩
    rcases hn with rfl | rfl
    ·rw [show f=.next from hf]; exact ⟨k,Nat.lt_succ_self k,I⟩
    ·rw [show f=.cont from hf]; exact ⟨k,Nat.lt_succ_self k,I⟩
   ·refine (show f=.brk from hf).symm▸?_
    exact PostX.eq e ⟨ρ_6,Cy x_1 hg hw_6 g_6,R_6.weak (λa h=>List.mem_append_right _ h) R_1.er.ownZ,rfl⟩
   ·obtain ⟨u,hf,r⟩:=hf
    refine hf.symm▸?_
    exact PostX.eq e ⟨ρ_6,Cy x_1 hg hw_6 g_6,R_6.weak (λa h=>List.mem_append_right _ h) R_1.er.ownZ,u,rfl,r.weak λa h=>List.mem_append_right _ h⟩
theorem Ll {F:BF} {G H:XF} {σ:St} {r:Fl×St} {C:Prop} (q:gt F G H σ=some r) (k:∀b hp,F σ=some (b,hp)->(if b then G ⟨σ.loc,hp⟩ else H ⟨σ.loc,hp⟩)=some r->C):C:=by
 unfold gt at q
 cases h:F σ with
 | none=>rw [h] at q; exact al q
 | some x=>rw [h] at q; exact k x.1 x.2 h q
theorem Ex.if_ {test:Expr} {body orelse:List Stmt} {pos:Pos} {F:BF} {B C:XF} (ht:Tr prog w K fx test F) (hb:Exs prog w K fx body B) (hc:Exs prog w K fx orelse C):Ex prog w K fx (.If test body orelse pos) (gt F B C):=.mk λA ρ Z σ s fl σ' Rm R q =>
 Ll q λb hp e1 e2=>wpAny_If (wpAny_mono (ht.run A ρ Z σ s b hp Rm R e1) (λb' s_1 p=>by
  refine cps λ_ KK=>?_
  obtain ⟨hb',ρ_1,x_1,H_1⟩:=p
  refine KK ?_
  have R_1:=R.next x_1 H_1
  refine hb'.symm▸?_
  cases b with
  | true=>exact wpAny_mono (hb.run A ρ_1 Z _ s_1 _ _ Rm R_1 e2) (λf s_2 p=>p.trans x_1 gx) λ_ _ q=>q
  | false=>exact wpAny_mono (hc.run A ρ_1 Z _ s_1 _ _ Rm R_1 e2) (λf s_2 p=>p.trans x_1 gx) λ_ _ q=>q) λ_ _ q=>q)
noncomputable def bx (i:Nat):PyData->bg->Option bg:=λd loc=>some (loc.set i (some (.dat d)))
theorem As.name {i:Nat} {x:Str} {p:Pos} (hv:fx.vars.lookup i=some x) (ok:br fx x):As prog w K fx (.Name x p) (bx i):=.mk λA ρ Z σ s d v loc' Rm R r q=>by
 exact wpAny_assign_Name (R.store hv ok r λs' x R'=>⟨x,b9 q▸R'⟩)
end
structure WJ (h_0:Heap) (fp wr fd:List Addr) (ds:List PyData) (n:Nat) (Sx:Nat->Heap->Prop) (l:List PyData) (ρ:av) (Z:List Addr) (s:Shared):Prop where
 at_:∃i,Sx i s.heap∧l=ds.drop i∧i≤n
 data:∀b∈fd,∃o,h_0.get? b=some o∧s.heap.get? b=some o
 offd:∀b∈fd,b∉ax ρ∧b∉Z
 offp:∀b∈fp,b∉ax ρ∧(b∉wr->b∉Z)
noncomputable def WJI (h_0:Heap) (fp wr fd:List Addr) (ds:List PyData) (n:Nat) (Sx:Nat->Heap->Prop):IS->av->List Addr->Shared->Prop
 | .rem l,ρ,Z,s=>WJ h_0 fp wr fd ds n Sx l ρ Z s
 | .trk _ _,_,_,_=>False
section
variable {h_0:Heap} {fp wr fd:List Addr} {ds:List PyData} {n:Nat} {Sx:Nat->Heap->Prop} {l:List PyData} {ρ ρ':av} {Z X:List Addr} {s s':Shared}
theorem WJ.ext (J:WJ h_0 fp wr fd ds n Sx l ρ Z s) (x:Ext X ρ s ρ' s') (hX:∀a∈X,a∈Z∧a∉wr) (hf:∀i h h',Sx i h->(∀b∈fp,∀o,h.get? b=some o->h'.get? b=some o)->Sx i h') (lv:∀i h,Sx i h->∀a∈fp,∃o,h.get? a=some o) :
  WJ h_0 fp wr fd ds n Sx l ρ' Z s' :=
 have ⟨⟨i,hi,hl,hn⟩,hd,od,op⟩:=J
 ⟨⟨i,hf i _ _ hi λb hb o e=>x.heap b o (op b hb).1 (λq=>(op b hb).2 (hX b q).2 (hX b q).1) e,hl,hn⟩,λb hb=>(hd b hb).elim λo e=>⟨o,e.1,x.heap b o (od b hb).1 (λq=>(od b hb).2 (hX b q).1) e.2⟩,
  λb hb=>⟨(hd b hb).elim λo e=>x.notin e.2 (od b hb).1,(od b hb).2⟩,λb hb=>⟨(lv i _ hi b hb).elim λo e=>x.notin e (op b hb).1,(op b hb).2⟩⟩
theorem WJ.more {Z':List Addr} (J:WJ h_0 fp wr fd ds n Sx l ρ Z s) (hZ:∀a∈Z',a∈Z∨s.heap.get? a=none) (k:∀b o,s.heap.get? b=some o->s'.heap.get? b=some o) (hf:∀i h h',Sx i h->(∀b∈fp,∀o,h.get? b=some o->h'.get? b=some o)->Sx i h') (lv:∀i h,Sx i h->∀a∈fp,∃o,h.get? a=some o) :
  WJ h_0 fp wr fd ds n Sx l ρ Z' s' :=
 have ⟨⟨i,hi,hl,hn⟩,hd,od,op⟩:=J
 ⟨⟨i,hf i _ _ hi λb hb o e=>k b o e,hl,hn⟩,λb hb=>(hd b hb).elim λo e=>⟨o,e.1,k b o e.2⟩,λb hb=>⟨(od b hb).1,λq=>(hZ b q).elim (od b hb).2 λq=>(hd b hb).elim λo e=>al (q.symm.trans e.2)⟩,
  λb hb=>⟨(op b hb).1,λhw q=>(hZ b q).elim ((op b hb).2 hw) λq=>(lv i _ hi b hb).elim λo e=>al (q.symm.trans e)⟩⟩
theorem WJI.inv {is:IS} (J:WJI h_0 fp wr fd ds n Sx is ρ Z s):∃l,is=.rem l∧WJ h_0 fp wr fd ds n Sx l ρ Z s:=by
 cases is with
 | rem l=>exact ⟨l,rfl,J⟩
 | trk=>exact J.elim
theorem WJI.ext {is:IS} (J:WJI h_0 fp wr fd ds n Sx is ρ Z s) (x:Ext X ρ s ρ' s') (hX:∀a∈X,a∈Z∧a∉wr) (hf:∀i h h',Sx i h->(∀b∈fp,∀o,h.get? b=some o->h'.get? b=some o)->Sx i h') (lv:∀i h,Sx i h->∀a∈fp,∃o,h.get? a=some o) :
  WJI h_0 fp wr fd ds n Sx is ρ' Z s':=J.inv.elim λ_ q=>q.1▸q.2.ext x hX hf lv
theorem WJI.more {is:IS} {Z':List Addr} (J:WJI h_0 fp wr fd ds n Sx is ρ Z s) (hZ:∀a∈Z',a∈Z∨s.heap.get? a=none) (k:∀b o,s.heap.get? b=some o->s'.heap.get? b=some o) (hf:∀i h h',Sx i h->(∀b∈fp,∀o,h.get? b=some o->h'.get? b=some o)->Sx i h') (lv:∀i h,Sx i h->∀a∈fp,∃o,h.get? a=some o) :
  WJI h_0 fp wr fd ds n Sx is ρ Z' s':=J.inv.elim λ_ q=>q.1▸q.2.more hZ k hf lv
inductive M2 (h_0:Heap) (fp wr fd:List Addr) (ds:List PyData) (n:Nat) (Sx:Nat->Heap->Prop) (ρ:av) (Z:List Addr) (s:Shared) (d:PyData) (is':IS):Prop
 | mk (i:Nat):i < n->Sx i s.heap->ds[i]?=some d->(∀s',Sx (i+1) s'.heap->(∀b∈fd,∃o,h_0.get? b=some o∧s'.heap.get? b=some o)->WJI h_0 fp wr fd ds n Sx is' ρ Z s')->(∀b∈fd,∃o,h_0.get? b=some o∧s.heap.get? b=some o)->(∀b∈fd,b∉ax ρ∧b∉Z)->M2 h_0 fp wr fd ds n Sx ρ Z s d is'
theorem ko {l:List PyData} {hp hp':List MO} {r:Option (PyData×IS)} (e:ar (.rem l) hp=some (r,hp')):hp=hp'∧((l=[]∧r=none)∨∃d l',l=d::l'∧r=some (d,.rem l')):=by
 cases l with
 | nil=>exact ⟨(cq e).2,.inl ⟨rfl,(cq e).1.symm⟩⟩
 | cons d l=>exact ⟨(cq e).2,.inr ⟨d,l,rfl,(cq e).1.symm⟩⟩
theorem WJI.step {is is':IS} {d:PyData} {hp hp':List MO} (hn:ds.length=n) (J:WJI h_0 fp wr fd ds n Sx is ρ Z s) (e:ar is hp=some (some (d,is'),hp')):hp=hp'∧M2 h_0 fp wr fd ds n Sx ρ Z s d is':=by
 refine cps λ_ KK=>?_
 obtain ⟨l,h,⟨i,hi,hl,hin⟩,hdd,od,op⟩:=J.inv
 refine KK ?_
 rw [h] at e
 obtain ⟨hh,⟨_,q⟩ | ⟨d',l',hl',q⟩⟩:=ko e
 ·exact al q.symm
 ·obtain ⟨q1,q2⟩:=cq q
  have hlt:i < ds.length:=by
   rcases Nat.lt_or_ge i ds.length with h | h
   ·exact h
   ·rw [List.drop_eq_nil_of_le h,hl'] at hl; exact Qm hl
  have hl2:=List.cons.inj ((hl'.symm.trans hl).trans (List.drop_eq_getElem_cons hlt))
  exact ⟨hh,i,hn▸hlt,hi,by rw [List.getElem?_eq_getElem hlt,q1,hl2.1],λs' h1 h2=>q2▸⟨⟨i+1,h1,hl2.2,hn▸hlt⟩,h2,od,op⟩,hdd,od⟩
theorem WJI.over {is:IS} {hp hp':List MO} (hn:ds.length=n) (J:WJI h_0 fp wr fd ds n Sx is ρ Z s) (e:ar is hp=some (none,hp')):hp=hp'∧Sx n s.heap:=by
 refine cps λ_ KK=>?_
 obtain ⟨l,h,⟨i,hi,hl,hin⟩,hdd,od,op⟩:=J.inv
 refine KK ?_
 rw [h] at e
 obtain ⟨hh,⟨q,_⟩ | ⟨d',l',hl',q⟩⟩:=ko e
 ·have:ds.length≤i:=List.drop_eq_nil_iff.mp (hl.symm.trans q)
  have:i=n:=Nat.le_antisymm hin (hn▸this)
  exact ⟨hh,this▸hi⟩
 ·exact al q
theorem Ext.of_off {h:Heap} {t:Nat} (k:∀b o,b∉X->s.heap.get? b=some o->h.get? b=some o) (lv:∀b∈X,∃o,h.get? b=some o):Ext X ρ s ρ { s with heap:=h,toks:=t } :=
 ⟨⟨[],by simp,λ_ h=>ck h⟩,λb o _ hb e=>k b o hb e,λb o e=>by
  by_cases q:b∈X
  ·exact lv b q
  ·exact ⟨o,k b o q e⟩,rfl,rfl,λ_ _ e=>e,λh=>h⟩
end
section
variable {prog:Program} {w:World} {A:Around} {tg:Expr}
theorem HR.chg {ρ:av} {Z X:List Addr} {hp:List MO} {s:Shared} {h:Heap} {t:Nat} (H:HR ρ Z hp s.heap) (hX:∀a∈X,a∈Z) (k:∀b o,b∉X->s.heap.get? b=some o->h.get? b=some o) (lv:∀b∈X,∃o,h.get? b=some o):HR ρ Z hp h :=
 H.own (λa o ha e=>k a o (λq=>ha (hX a q)) e) λa o e=>by
  by_cases q:a∈X
  ·exact lv a q
  ·exact ⟨o,k a o q e⟩
theorem sd {ρ:av} {Z wr:List Addr} {G:Nat->Prop} {hp:List MO} {s:Shared} {h':Heap} {tk:Nat} {d:PyData} {v:Value} {J:av->Shared->Prop} (H:HR ρ Z hp s.heap) (hw:∀a∈wr,a∈Z) (hk:∀b o,b∉wr->s.heap.get? b=some o->h'.get? b=some o) (lw:∀b∈wr,∃o,h'.get? b=some o)
  (V:VR ρ Z h' (.dat d) v) (j:J ρ { s with heap:=h',toks:=tk }):Q3 wr G ρ Z s hp d v J { s with heap:=h',toks:=tk }:=⟨ρ,(Ext.of_off hk lw).toG,H.chg (t:=tk) hw hk lw,V,j⟩
theorem x8 {ρ:av} {Z wr fd:List Addr} {h_0 h h':Heap} (hdd:∀b∈fd,∃o,h_0.get? b=some o∧h.get? b=some o) (od:∀b∈fd,b∉ax ρ∧b∉Z) (hw:∀a∈wr,a∈Z) (hk:∀b o,b∉wr->h.get? b=some o->h'.get? b=some o):∀b∈fd,∃o,h_0.get? b=some o∧h'.get? b=some o :=
 λb hb=>(hdd b hb).elim λo e=>⟨o,e.1,hk b o (λq=>(od b hb).2 (hw b q)) e.2⟩
theorem Iter.walks {I:Addr} {fp wr fd:List Addr} {n:Nat} {P:Nat->Value->Prop} {Sx:Nat->Heap->Prop} {h_0:Heap} {ds:List PyData} (W:Walks prog w A I fp wr n P Sx) (hn:ds.length=n)
  (lv:∀i h,Sx i h->∀a∈fp,∃o,h.get? a=some o)
  (hd:∀i v d h,P i v->ds[i]?=some d->(∀b∈fd,∃o,h_0.get? b=some o∧h.get? b=some o)->∃as,RD h v d as∧∀a∈as,a∈fd)
  (hgo:∀i (s:Shared) v (Q:Unit->Shared->Prop),Sx i s.heap->Q () s->wpAny (model prog w) A (letOwnedTupleGo tg (.ref I) v) Q bn s) :
  Iter prog w A (.ref I) tg wr (λ_=>False) ar (WJI h_0 fp wr fd ds n Sx) where
 ext:=λJ x hX=>J.ext x hX W.frame lv
 next:=λ{l hp d l' hp' ρ Z s} e J H hw=>by
  obtain ⟨hh,i,hlt,hi,hdi,hJ,hdd,od⟩:=J.step hn e
  refine W.item i s _ _ hlt hi λv h' tk hP hi' hk=>⟨v,rfl,hgo (i+1) _ v _ hi' ?_⟩
  have hdd':=x8 hdd od hw hk
  obtain ⟨as,ra,qa⟩:=hd i v d h' hP hdi hdd'
  exact sd (hh▸H) hw hk (λb hb=>lv _ _ hi' b (W.sub b hb)) ⟨as,ra,λa ha=>od a (qa a ha)⟩ (hJ _ hi' hdd')
 done:=λ{l hp hp' ρ Z s} e J H hw=>by
  obtain ⟨hh,hi⟩:=J.over hn e
  exact W.done s _ _ hi λh' tk hk=>⟨rfl,ρ,s,h',tk,ExtG.refl,hh▸H,rfl,hk⟩
 self:=λ{l hp r ρ Z s Q} _ J _ hQ=>J.inv.elim λ_ q=>q.2.at_.elim λi h=>W.self i s Q _ h.1 hQ
 more:=λJ hZ k _=>J.more hZ k W.frame lv
theorem Iter.walksT {I:Addr} {fp wr fd:List Addr} {n:Nat} {P:Nat->Array Value->Prop} {Sx:Nat->Heap->Prop} {Mid:Nat->Addr->Heap->Prop} {h_0:Heap} {ds:List PyData} {elts:List Expr} {k:Nat} {pos:Pos}
  (W:WalksT prog w A I fp wr n P Sx Mid) (hn:ds.length=n)
  (lv:∀i h,Sx i h->∀a∈fp,∃o,h.get? a=some o)
  (hd:∀i vs d h,P i vs->ds[i]?=some d->(∀b∈fd,∃o,h_0.get? b=some o∧h.get? b=some o)->∃xs as,d=.tuple xs∧RDs h vs.toList xs as∧∀a∈as,a∈fd) :
  Iter prog w A (.ref I) (.Tuple elts k pos) wr (λ_=>False) ar (WJI h_0 fp wr fd ds n Sx) where
 ext:=λJ x hX=>J.ext x hX W.frame lv
 next:=λ{l hp d l' hp' ρ Z s} e J H hw=>by
  refine cps λ_ KK=>?_
  obtain ⟨hh,i,hlt,hi,hdi,hJ,hdd,od⟩:=J.step hn e
  refine KK ?_
  refine W.item i s _ _ hlt hi λT vs h_1 tk hP hT hIT hm hk=>⟨.ref T,rfl,W.go elts k pos i T _ _ _ hm λh' hi' hk'=>?_⟩
  have hk2:∀b o,b∉wr->s.heap.get? b=some o->h'.get? b=some o:=λb o hb e=>hk' b o hb (hk b o hb e)
  have hdd':=x8 hdd od hw hk2
  refine cps λ_ KK=>?_
  obtain ⟨xs,as,hx,ra,qa⟩:=hd i vs d h' hP hdi hdd'
  obtain ⟨o,ho,hc,m,hdt⟩:=hIT
  refine KK ?_
  exact sd (hh▸H) hw hk2 (λb hb=>lv _ _ hi' b (W.sub b hb)) (hx▸⟨T::as,.tuple (hk' T o (W.apart _ _ _ hm) ho) hc hdt ra,λa ha=>(List.mem_cons.mp ha).elim (λq=>q▸H.fresh (Heap.get?_none_of_le hT)) λha=>od a (qa a ha)⟩) (hJ _ hi' hdd')
 done:=λ{l hp hp' ρ Z s} e J H hw=>by
  obtain ⟨hh,hi⟩:=J.over hn e
  exact W.done s _ _ hi λh' tk hk=>⟨rfl,ρ,s,h',tk,ExtG.refl,hh▸H,rfl,hk⟩
 self:=λ{l hp r ρ Z s Q} _ J _ hQ=>J.inv.elim λ_ q=>q.2.at_.elim λi h=>W.self i s Q _ h.1 hQ
 more:=λJ hZ k _=>J.more hZ k W.frame lv
end
noncomputable def jt (tg:Expr):Prop:=(∃x p,tg=.Name x p)∨∃es k p,tg=.Tuple es k p
section
variable {prog:Program} {w:World} {K:Addr->Option Obj} {fx:Fx} {A:Around} {tg:Expr}
theorem ja {I:Addr} {s:Shared} {o:Obj} {v:Value} {T:String} {Q:Unit->Shared->Prop} (ht:jt tg) (ho:s.heap.get? I=some o) (hc:o.cls=.type T)
  (hn:(["enumerate","zip","dict_itemiterator","dict_reverseitemiterator","odict_iterator","itertools.zip_longest","itertools.pairwise"]:List String).contains T=false) (hQ:Q () s) :
  wpAny (model prog w) A (letOwnedTupleGo tg (.ref I) v) Q bn s:=by
 rcases ht with ⟨x,p,rfl⟩ | ⟨es,k,p,rfl⟩
 ·exact wpAny_pure hQ
 ·skip
  cases v with
  | ref a =>
   refine wpAny_bind (wpAny_load ho ?_)
   refine hc.symm▸?_
   cases o.data with
   | fields vs =>
    show wpAny _ A (if (["enumerate","zip","dict_itemiterator","dict_reverseitemiterator","odict_iterator","itertools.zip_longest","itertools.pairwise"].contains T&&vs[0]?==some (rawInt a))=true then _ else _) Q bn s
    rw [hn,Bool.false_and,if_neg (by decide)]
    exact wpAny_pure hQ
   | _=>exact wpAny_pure hQ
  | _=>exact wpAny_pure hQ
theorem PostI.of_new {ρ ρ_1:av} {Z:List Addr} {s s_1:Shared} {hp':List MO} {h:Heap} {tk:Nat} {I:Addr} {fp wr fd:List Addr} {n:Nat} {Sx:Nat->Heap->Prop} {ds:List PyData}
  (x_1:Ext [] ρ s ρ_1 s_1) (H_1:HR ρ_1 Z hp' s_1.heap) (keep:∀b o,s_1.heap.get? b=some o->h.get? b=some o) (hw:∀a∈wr,s_1.heap.get? a=none) (lv:∀i h,Sx i h->∀a∈fp,∃o,h.get? a=some o) (hwf:∀b∈wr,b∈fp)
  (h0:Sx 0 h) (hd:∀b∈fd,(∃o,s_1.heap.get? b=some o)∧b∉ax ρ_1∧b∉Z)
  (hp:∀b∈fp,s_1.heap.get? b=none∨((∃o,s_1.heap.get? b=some o)∧b∉ax ρ_1∧b∉Z))
  (W:Iter prog w A (.ref I) tg wr (λ_=>False) ar (WJI s_1.heap fp wr fd ds n Sx)) :
  PostI prog w A tg ar ρ Z s (.rem ds) hp' (.ref I) { s_1 with heap:=h,toks:=tk }:=by
 have offw:∀b,(∃o,s_1.heap.get? b=some o)->b∉wr:=λb e q=>e.elim λo e=>al ((hw b q).symm.trans e)
 exact ⟨ρ_1,s_1,wr,λ_=>False,_,x_1,H_1,Ext.of_keep keep,keep,hw,λa ha=>lv 0 h h0 a (hwf a ha),λ_ f=>f.elim,⟨rfl,⟨⟨0,h0,rfl,Nat.zero_le _⟩,λb hb=>(hd b hb).1.elim λo e=>⟨o,e,keep b o e⟩,
  λb hb=>⟨(hd b hb).2.1,λq=>(List.mem_append.mp q).elim (offw b (hd b hb).1) (hd b hb).2.2⟩,
  λb hb=>⟨(hp b hb).elim (λf=>(H_1.fresh f).1) λf=>f.2.1,λhbw q=>(List.mem_append.mp q).elim hbw ((hp b hb).elim (λf=>(H_1.fresh f).2) λf=>f.2.2)⟩⟩⟩,W.toD⟩
theorem RDs.item {h_0 h:Heap} {vs:Array Value} {ds:List PyData} {as:List Addr} (r:RDs h_0 vs.toList ds as) {i:Nat} {v:Value} {d:PyData} (hv:vs[i]?=some v) (hd:ds[i]?=some d)
  (k:∀b∈as,∃o,h_0.get? b=some o∧h.get? b=some o):∃bs,RD h v d bs∧∀a∈bs,a∈as:=by
 refine cps λ_ KK=>?_
 obtain ⟨y,bs,hy,ry,qy⟩:=r.get i d hd
 refine KK ?_
 rw [Array.getElem?_toList] at hy
 exact ⟨bs,b9 (hy.symm.trans hv)▸ry.keep λa ha o e=>(k a (qy a ha)).elim λo' q=>b9 (q.1.symm.trans e)▸q.2,qy⟩
theorem PostI.one {ρ ρ_1:av} {Z:List Addr} {s s_1:Shared} {hp':List MO} {a:Addr} {ds:List PyData} {as:List Addr} {o:Obj} {n:Nat} {P:Nat->Value->Prop} {It:Nat->Heap->Prop} {Sq:Heap->Prop} {T:String} (ht:jt tg)
  (hT:(["enumerate","zip","dict_itemiterator","dict_reverseitemiterator","odict_iterator","itertools.zip_longest","itertools.pairwise"]:List String).contains T=false)
  (x_1:Ext [] ρ s ρ_1 s_1) (H_1:HR ρ_1 Z hp' s_1.heap) (ha:∃o,s_1.heap.get? a=some o) (l1:∀i h,It i h->∃o,h.get? s_1.heap.objs.size=some o∧o.cls=.type T) (l2:∀h,Sq h->∃o,h.get? a=some o) (h0:It 0 (s_1.heap.push o)) (h1:Sq (s_1.heap.push o)) (ho:o.cls≠.none)
  (lv:∀b∈as,∃o,s_1.heap.get? b=some o) (q:∀b∈a::as,b∉ax ρ_1∧b∉Z) (W:Walks prog w A s_1.heap.objs.size [s_1.heap.objs.size,a] [s_1.heap.objs.size] n P (λi h=>It i h∧Sq h)) (hn:ds.length=n)
  (hd:∀i v d h,P i v->ds[i]?=some d->(∀b∈as,∃o,s_1.heap.get? b=some o∧h.get? b=some o)->∃as',RD h v d as'∧∀a∈as',a∈as) :
  PostI prog w A tg ar ρ Z s (.rem ds) hp' (.ref s_1.heap.objs.size) { s_1 with heap:=s_1.heap.push o }:=by
 have fr:s_1.heap.get? s_1.heap.objs.size=none:=Heap.get?_none_of_le (Nat.le_refl _)
 have live:∀i h,It i h∧Sq h->∀b∈[s_1.heap.objs.size,a],∃o,h.get? b=some o:=λi h x=>ip ((l1 i h x.1).elim λo q=>⟨o,q.1⟩) (l2 h x.2)
 exact PostI.of_new (tk:=s_1.toks) (fp:=[s_1.heap.objs.size,a]) (wr:=[s_1.heap.objs.size]) (fd:=as) (n:=n) (Sx:=λi h=>It i h∧Sq h) x_1 H_1 (λb o e=>Heap.get?_push_of_some _ e) (c8 fr) live (c8 (List.mem_cons_self ..)) ⟨h0,h1⟩ (λb hb=>⟨lv b hb,q b (List.mem_cons_of_mem _ hb)⟩)
  (ip (.inl fr) (.inr ⟨ha,q a (List.mem_cons_self ..)⟩)) (Iter.walks W hn live hd λi s v Q h hQ=>(l1 i _ h.1).elim λo q=>ja ht q.1 q.2 hT hQ)
theorem PostI.list {ρ ρ_1:av} {Z:List Addr} {s s_1:Shared} {hp':List MO} {a:Addr} {vs:Array Value} {ds:List PyData} {as:List Addr} (ht:jt tg) (hh:A.handled=none)
  (x_1:Ext [] ρ s ρ_1 s_1) (H_1:HR ρ_1 Z hp' s_1.heap) (hl:s_1.heap.IsList a vs) (r:RDs s_1.heap vs.toList ds as) (q:∀b∈a::as,b∉ax ρ_1∧b∉Z) :
  wpAny (model prog w) A (pyIter (.ref a)) (PostI prog w A tg ar ρ Z s (.rem ds) hp') bn s_1:=by
 have ha:∃o,s_1.heap.get? a=some o:=hl.elim λo q=>⟨o,q.1⟩
 have hne:a≠s_1.heap.objs.size:=ha.elim λo e=>Nat.ne_of_lt (Heap.lt_size e)
 exact wpAny_pyIter_list hl (PostI.one (It:=λi h=>h.IsListIter s_1.heap.objs.size a i) (Sq:=λh=>h.IsList a vs) (T:="list_iterator") ht (by decide) x_1 H_1 ha (λi h x=>x.elim λo q=>⟨o,q.1,q.2.1⟩) (λh x=>x.elim λo q=>⟨o,q.1⟩)
  ⟨_,Heap.get?_push_size _ rfl,rfl,rfl⟩ (hl.push _) (λh=>nomatch h) r.live q (Walks.list hh _ a hne vs) r.length.symm (λi v d h hv hd k=>r.item hv hd k))
theorem PostI.tuple {ρ ρ_1:av} {Z:List Addr} {s s_1:Shared} {hp':List MO} {a:Addr} {vs:Array Value} {ds:List PyData} {as:List Addr} (ht:jt tg) (hh:A.handled=none)
  (x_1:Ext [] ρ s ρ_1 s_1) (H_1:HR ρ_1 Z hp' s_1.heap) (hl:s_1.heap.IsTuple a vs) (r:RDs s_1.heap vs.toList ds as) (q:∀b∈a::as,b∉ax ρ_1∧b∉Z) :
  wpAny (model prog w) A (pyIter (.ref a)) (PostI prog w A tg ar ρ Z s (.rem ds) hp') bn s_1:=by
 have ha:∃o,s_1.heap.get? a=some o:=hl.elim λo q=>⟨o,q.1⟩
 have hne:a≠s_1.heap.objs.size:=ha.elim λo e=>Nat.ne_of_lt (Heap.lt_size e)
 exact wpAny_pyIter_tuple hl (PostI.one (It:=λi h=>h.IsTupleIter s_1.heap.objs.size a i) (Sq:=λh=>h.IsTuple a vs) (T:="tuple_iterator") ht (by decide) x_1 H_1 ha (λi h x=>x.elim λo q=>⟨o,q.1,q.2.1⟩) (λh x=>x.elim λo q=>⟨o,q.1⟩)
  ⟨_,Heap.get?_push_size _ rfl,rfl,rfl⟩ (hl.push _) (λh=>nomatch h) r.live q (Walks.tuple hh _ a hne vs) r.length.symm (λi v d h hv hd k=>r.item hv hd k))
theorem w7 {x:Str} (hx:PyData.strOk x=true) {i:Nat} {v:Value} {d:PyData} {h:Heap} (hv:SignAt x i v) (hd:(chars x.cps.toList)[i]?=some d):∃as,RD h v d as∧∀a∈as,a∈([]:List Addr):=by
 refine cps λ_ KK=>?_
 obtain ⟨c,u,hc,hv⟩:=hv
 refine KK ?_
 unfold chars at hd
 replace hd:=hc▸(Array.getElem?_toList)▸(List.getElem?_map)▸hd
 refine ⟨[],hv▸b9 hd▸.str _ _ (i2 hx λy hy=>?_),λ_ h=>ck h⟩
 refine (List.mem_singleton.mp hy).symm▸?_
 exact List.mem_of_getElem? ((Array.getElem?_toList).symm▸hc)
theorem PostI.str {ρ ρ_1:av} {Z:List Addr} {s s_1:Shared} {hp':List MO} {x:Str} {t:Tok} (ht:jt tg) (hh:A.handled=none) (hx:PyData.strOk x=true)
  (x_1:Ext [] ρ s ρ_1 s_1) (H_1:HR ρ_1 Z hp' s_1.heap):wpAny (model prog w) A (pyIter (.str x t)) (PostI prog w A tg ar ρ Z s (.rem (chars x.cps.toList)) hp') bn s_1:=by
 have main:∀T (hn:(["enumerate","zip","dict_itemiterator","dict_reverseitemiterator","odict_iterator","itertools.zip_longest","itertools.pairwise"]:List String).contains T=false)
   (W:Walks prog w A s_1.heap.objs.size [s_1.heap.objs.size] [s_1.heap.objs.size] x.cps.size (SignAt x) (λi h=>h.IsStrIter s_1.heap.objs.size T x t i)),
   PostI prog w A tg ar ρ Z s (.rem (chars x.cps.toList)) hp' (.ref s_1.heap.objs.size) { s_1 with heap:=s_1.heap.push { cls:=.type T,data:=.fields #[.str x t,.int 0 0] } }:=λT hn W=>by
  have fr:s_1.heap.get? s_1.heap.objs.size=none:=Heap.get?_none_of_le (Nat.le_refl _)
  have live:∀i (h:Heap),h.IsStrIter s_1.heap.objs.size T x t i->∀b∈[s_1.heap.objs.size],∃o,h.get? b=some o:=λi h z=>c8 (z.elim λo q=>⟨o,q.1⟩)
  exact PostI.of_new (fp:=[s_1.heap.objs.size]) (wr:=[s_1.heap.objs.size]) (fd:=[]) (n:=x.cps.size) (Sx:=λi h=>h.IsStrIter s_1.heap.objs.size T x t i) x_1 H_1 (λb o e=>Heap.get?_push_of_some _ e) (c8 fr) live (λb hb=>hb)
   ⟨_,Heap.get?_push_size _ rfl,rfl,rfl⟩ (λb hb=>ck hb) (c8 (.inl fr)) (Iter.walks W (by rw [chars,List.length_map,Array.length_toList]) live (λi v d h hv hd k=>w7 hx hv hd) λi s v Q h hQ=>h.elim λo q=>ja ht q.1 q.2.1 hn hQ)
 cases ha:x.cps.all (· < 128)
 ·exact wpAny_pyIter_wide ha (main _ (by decide) (Walks.strWide hh _ x t))
 ·exact wpAny_pyIter_ascii ha (main _ (by decide) (Walks.strAscii hh _ x t))
theorem o6 (i k:Nat) (hp:List MO):ar (.trk i k) hp=(match hp[i]? with
  | some (.lst l)=>match l[k]? with
   | some d=>some (some (d,.trk i (k+1)),hp)
   | none=>some (none,hp)
  | _=>none):=rfl
noncomputable def TJ (I:Addr):IS->av->List Addr->Shared->Prop
 | .trk i k,ρ,Z,s=>∃r,ρ[i]?=some (r,r)∧s.heap.IsListIter I r k∧I∉ax ρ∧r≠I
 | .rem _,_,_,_=>False
inductive Sl (I:Addr) (is:IS) (ρ:av) (Z:List Addr) (s:Shared):Prop
 | mk (i k:Nat) (r:Addr):is=.trk i k->ρ[i]?=some (r,r)->s.heap.IsListIter I r k->I∉ax ρ->r≠I->Sl I is ρ Z s
theorem TJ.inv {I:Addr} {is:IS} {ρ:av} {Z:List Addr} {s:Shared} (J:TJ I is ρ Z s):Sl I is ρ Z s:=by
 cases is with
 | rem l=>exact False.elim J
 | trk i k=>exact J.elim λr q=>⟨i,k,r,rfl,q.1,q.2.1,q.2.2.1,q.2.2.2⟩
theorem C2 {i k:Nat} {hp hp':List MO} {r:Option (PyData×IS)} {C:Prop} (e:ar (.trk i k) hp=some (r,hp')) (k1:∀l d,hp[i]?=some (.lst l)->l[k]?=some d->r=some (d,.trk i (k+1))->hp=hp'->C) (k2:∀l,hp[i]?=some (.lst l)->l[k]?=none->r=none->hp=hp'->C):C:=by
 rw [o6] at e
 cases h:hp[i]? with
 | none=>rw [h] at e; exact al e
 | some mo =>
  replace e:=h▸e
  cases mo with
  | lst l =>
   have e:(match l[k]? with | some d=>some (some (d,IS.trk i (k+1)),hp) | none=>some (none,hp))=some (r,hp'):=e
   cases h2:l[k]? with
   | none=>rw [h2] at e; exact k2 l h h2 (cq e).1.symm (cq e).2
   | some d=>rw [h2] at e; exact k1 l d h h2 (cq e).1.symm (cq e).2
  | _=>exact al e
theorem Iter.trk (ht:jt tg) (hh:A.handled=none) (I:Addr):Iter prog w A (.ref I) tg [I] (λ_=>False) ar (TJ I) where
 ext:=λ{l ρ Z s X ρ' s'} J x hX=>by
  refine cps λ_ KK=>?_
  obtain ⟨i,k,r,hl,h1,⟨o,e,h2⟩,h3,h4⟩:=J.inv
  refine KK ?_
  exact hl▸⟨r,x.old h1,⟨o,x.heap I o h3 (λq=>(hX I q).2 (List.mem_singleton_self _)) e,h2⟩,x.notin e h3,h4⟩
 next:=λ{l hp d l' hp' ρ Z s} e J H hw=>by
  refine cps λ_ KK=>?_
  obtain ⟨i,k,r,his,h1,hit,h3,h4⟩:=J.inv
  refine KK ?_
  refine C2 (his▸e) (λl d' hl hd hr hh'=>?_) λ_ _ _ hr _=>al hr.symm
  ·have hr1:=(cq hr).1
   have hr2:=(cq hr).2
   refine cps λ_ KK=>?_
   obtain ⟨_,o,vs,n,as,ho,c1,c2,c3,c4,rs,q⟩:=H.lst hl h1
   obtain ⟨y,bs,hy,ry,qy⟩:=rs.get k d' hd
   refine KK ?_
   refine wpAny_pyNext_list_item hit ⟨o,ho,c1,n,c4⟩ (x:=y) (by rw [← Array.getElem?_toList]; exact hy) λh' hit' hs'=>⟨y,rfl,?_⟩
   refine cps λ_ KK=>?_
   obtain ⟨oi,ei,hc,_⟩:=id hit'
   refine KK ?_
   have k':∀b o,b∉[I]->s.heap.get? b=some o->h'.get? b=some o:=λb o hb e=>hs'.extBut b o (λq=>hb (q▸List.mem_singleton_self _)) e
   exact ja (s:={ s with heap:=h' }) ht ei hc (by decide) (sd (tk:=s.toks) (hh'▸H) hw k' (c8 ⟨_,ei⟩) (hr1▸⟨bs,ry.keep λa ha o e=>k' a o (λm=>(q a (qy a ha)).2 (hw a m)) e,λa ha=>q a (qy a ha)⟩) (hr2▸⟨r,h1,hit',h3,h4⟩))
 done:=λ{l hp hp' ρ Z s} e J H hw=>by
  refine cps λ_ KK=>?_
  obtain ⟨i,k,r,his,h1,hit,h3,h4⟩:=J.inv
  refine KK ?_
  refine C2 (his▸e) (λ_ _ _ _ hr _=>al hr) λl hl hd hr hh'=>?_
  ·refine cps λ_ KK=>?_
   obtain ⟨_,o,vs,n,as,ho,c1,c2,c3,c4,rs,q⟩:=H.lst hl h1
   refine KK ?_
   have hlen:=rs.length
   rw [Array.length_toList] at hlen
   exact wpAny_pyNext_list_end hh hit ⟨o,ho,c1,n,c4⟩ (Array.getElem?_eq_none (hlen▸List.getElem?_eq_none_iff.mp hd)) λh' he=>⟨rfl,ρ,s,h',s.toks,ExtG.refl,hh'▸H,rfl,λb o hb e=>he b o (λq=>hb (q▸List.mem_singleton_self _)) e⟩
 self:=λ{l hp r ρ Z s Q} _ J _ hQ=>by
  refine cps λ_ KK=>?_
  obtain ⟨i,k,r,his,h1,hit,_⟩:=J.inv
  refine KK ?_
  exact wpAny_pyIter_listiter hit hQ
 more:=λ{l ρ Z Z' s s'} J hZ k _=>by
  refine cps λ_ KK=>?_
  obtain ⟨i,j,r,hl,h1,⟨o,e,h2⟩,h3,h4⟩:=J.inv
  refine KK ?_
  exact hl▸⟨r,h1,⟨o,k I o e,h2⟩,h3,h4⟩
noncomputable def Dj:PyData->Option (List PyData)
 | .list l=>some l
 | .tuple l=>some l
 | .str x=>some (chars x.cps.toList)
 | _=>none
noncomputable def gb (F:EF):SF:=λσ=>match F σ with
 | some (.dat d,hp)=>match Dj d with
  | some l=>some ((.rem l,l.length+1),hp)
  | none=>none
 | some (.obj i,hp)=>match hp[i]? with
  | some (.lst l)=>some ((.trk i 0,l.length+1),hp)
  | _=>none
 | _=>none
inductive Ok (F:EF) (σ:St) (is:IS) (n:Nat) (hp':List MO):Prop
 | dat (d:PyData) (l:List PyData):F σ=some (.dat d,hp')->Dj d=some l->.rem l=is->l.length+1=n->Ok F σ is n hp'
 | obj (i:Nat) (l:List PyData):F σ=some (.obj i,hp')->hp'[i]?=some (.lst l)->.trk i 0=is->l.length+1=n->Ok F σ is n hp'
theorem G4 {F:EF} {σ:St} {is:IS} {n:Nat} {hp':List MO} (q:gb F σ=some ((is,n),hp')):Ok F σ is n hp':=by
 unfold gb at q
 cases h:F σ with
 | none=>rw [h] at q; exact al q
 | some x =>
  obtain ⟨pv,hp⟩:=x
  replace q:=h▸q
  cases pv with
  | dat d =>
   have q:(match Dj d with | some l=>some ((IS.rem l,l.length+1),hp) | none=>none)=some ((is,n),hp'):=q
   cases h2:Dj d with
   | none=>rw [h2] at q; exact al q
   | some l =>
    replace q:=h2▸q
    obtain ⟨q1,q2⟩:=cq q
    exact .dat d l (q2▸h) h2 (Prod.mk.inj q1).1 (Prod.mk.inj q1).2
  | obj i =>
   have q:(match hp[i]? with | some (.lst l)=>some ((IS.trk i 0,l.length+1),hp) | _=>none)=some ((is,n),hp'):=q
   cases h2:hp[i]? with
   | none=>rw [h2] at q; exact al q
   | some mo =>
    replace q:=h2▸q
    cases mo with
    | lst l =>
     obtain ⟨q1,q2⟩:=cq q
     exact .obj i l (q2▸h) (q2▸h2) (Prod.mk.inj q1).1 (Prod.mk.inj q1).2
    | _=>exact al q
  | strm _=>exact al q
  | objs _ _=>exact al q
theorem PostI.trk {ρ ρ_1:av} {Z:List Addr} {s s_1:Shared} {hp':List MO} {i:Nat} {l:List PyData} {v:Value} (ht:jt tg) (hh:A.handled=none) (x_1:Ext [] ρ s ρ_1 s_1) (V:VR ρ_1 Z s_1.heap (.obj i) v) (H_1:HR ρ_1 Z hp' s_1.heap) (hl:hp'[i]?=some (.lst l)) :
  wpAny (model prog w) A (pyIter v) (PostI prog w A tg ar ρ Z s (.trk i 0) hp') bn s_1:=by
 refine cps λ_ KK=>?_
 obtain ⟨r,b,hr,hv⟩:=V
 obtain ⟨hrb,o,vs,m,as,ho,c1,c2,c3,c4,rs,qa⟩:=H_1.lst hl hr
 refine KK ?_
 rw [hv]
 rw [hrb] at hr ⊢
 have fr:s_1.heap.get? s_1.heap.objs.size=none:=Heap.get?_none_of_le (Nat.le_refl _)
 exact wpAny_pyIter_list ⟨o,ho,c1,m,c4⟩ ⟨ρ_1,s_1,[s_1.heap.objs.size],λ_=>False,_,x_1,H_1,Ext.of_keep (t:=s_1.toks) λb o e=>Heap.get?_push_of_some _ e,λb o e=>Heap.get?_push_of_some _ e,c8 fr,
  c8 ⟨_,Heap.get?_push_size _ rfl⟩,λ_ f=>f.elim,⟨rfl,b,hr,⟨_,Heap.get?_push_size _ rfl,rfl,rfl⟩,(H_1.fresh fr).1,Nat.ne_of_lt (Heap.lt_size ho)⟩,(Iter.trk ht hh _).toD⟩
theorem PostI.dat {ρ ρ_1:av} {Z:List Addr} {s s_1:Shared} {hp':List MO} {d:PyData} {l:List PyData} {v:Value} (ht:jt tg) (hh:A.handled=none) (x_1:Ext [] ρ s ρ_1 s_1) (V:VR ρ_1 Z s_1.heap (.dat d) v) (H_1:HR ρ_1 Z hp' s_1.heap) (hl:Dj d=some l) :
  wpAny (model prog w) A (pyIter v) (PostI prog w A tg ar ρ Z s (.rem l) hp') bn s_1:=by
 refine cps λ_ KK=>?_
 obtain ⟨as,r,qa⟩:=V
 refine KK ?_
 cases d with
 | list m =>
  refine cps λ_ KK=>?_
  obtain ⟨a,vs,n,bs,hv,has,h1,_,rs⟩:=r.list_
  refine KK ?_
  refine hv.symm▸(b9 hl)▸?_
  exact PostI.list ht hh x_1 H_1 ⟨_,h1,rfl,_,rfl⟩ rs (has▸qa)
 | tuple m =>
  refine cps λ_ KK=>?_
  obtain ⟨a,o,vs,n,bs,hv,has,h1,h2,h3,_,rs⟩:=r.tuple_
  refine KK ?_
  refine hv.symm▸(b9 hl)▸?_
  exact PostI.tuple ht hh x_1 H_1 ⟨_,h1,h2,_,h3⟩ rs (has▸qa)
 | str x =>
  refine cps λ_ KK=>?_
  obtain ⟨t,hv,_,hx⟩:=r.str_
  refine KK ?_
  refine hv.symm▸(b9 hl)▸?_
  exact PostI.str ht hh hx x_1 H_1
 | _=>exact al hl
theorem EvI.seq {e:Expr} {F:EF} (ht:jt tg) (he:Ev prog w K fx e F):EvI prog w K fx e tg ar (gb F):=.mk λA ρ Z σ s is n hp' Rm R q=>by
 cases G4 q with
 | dat d l e1 hl h1 _=>exact h1▸wpAny_mono (he.run A ρ Z σ s _ _ Rm R e1) (λv s_1 p=>p.elim λρ_1 p=>PostI.dat ht Rm.handled p.1 p.2.1 p.2.2 hl) λ_ _ q=>q
 | obj i l e1 hl h1 _=>exact h1▸wpAny_mono (he.run A ρ Z σ s _ _ Rm R e1) (λv s_1 p=>p.elim λρ_1 p=>PostI.trk ht Rm.handled p.1 p.2.1 p.2.2 hl) λ_ _ q=>q
end
noncomputable def eo:Nat->List PyData->List PyData
 | _,[]=>[]
 | n,d::l=>.tuple [.int n,d]::eo (n+1) l
theorem gu:∀(n:Nat) (l:List PyData),(eo n l).length=l.length
 | _,[]=>rfl
 | n,d::l=>congrArg (·+1) (gu (n+1) l)
theorem oo:∀(l:List PyData) (n i:Nat) {d:PyData},(eo n l)[i]?=some d->∃x,l[i]?=some x∧d=.tuple [.int ((n+i:Nat):Int),x]
 | [],n,i,d,h=>al h
 | x::l,n,0,d,h=>⟨x,rfl,(b9 h).symm⟩
 | x::l,n,i+1,d,h=>(oo l (n+1) i (d:=d) h).elim λy q=>⟨y,q.1,by rw [q.2,show n+1+i=n+(i+1) by (exact Nat.add_right_comm _ _ _)]⟩
noncomputable def i0:Int->Int->Nat->List PyData
 | _,_,0=>[]
 | a,c,n+1=>.int a::i0 (a+c) c n
theorem cr:∀(n:Nat) (a c:Int),(i0 a c n).length=n
 | 0,_,_=>rfl
 | n+1,a,c=>congrArg (·+1) (cr n (a+c) c)
theorem jz:∀(n:Nat) (a c:Int) (i:Nat) {d:PyData},(i0 a c n)[i]?=some d->d=.int (a+i*c)
 | 0,a,c,i,d,h=>al h
 | n+1,a,c,0,d,h=>by rw [← b9 h]; simp
 | n+1,a,c,i+1,d,h=>by
  rw [jz n (a+c) c i (d:=d) h]
  have e:a+c+(i:Int)*c=a+((i+1:Nat):Int)*c:=by
   rw [show ((i+1:Nat):Int)=(i:Int)+1 by rfl,Int.add_mul]; lia
  rw [e]
section
variable {prog:Program} {w:World} {K:Addr->Option Obj} {fx:Fx} {mg mb:Str->Option Value}
noncomputable def qw (F:EF):SF:=λσ=>match F σ with
 | some (.dat (.list l),hp)=>some ((.rem (eo 0 l),l.length+1),hp)
 | some (.dat (.str x),hp)=>some ((.rem (eo 0 (chars x.cps.toList)),x.cps.size+1),hp)
 | _=>none
inductive I3 (F:EF) (σ:St) (is:IS) (n:Nat) (hp':List MO):Prop
 | li (l:List PyData):F σ=some (.dat (.list l),hp')->.rem (eo 0 l)=is->I3 F σ is n hp'
 | st (x:Str):F σ=some (.dat (.str x),hp')->.rem (eo 0 (chars x.cps.toList))=is->I3 F σ is n hp'
theorem xz {F:EF} {σ:St} {is:IS} {n:Nat} {hp':List MO} (q:qw F σ=some ((is,n),hp')):I3 F σ is n hp':=by
 unfold qw at q
 cases h:F σ with
 | none=>rw [h] at q; exact al q
 | some x =>
  obtain ⟨pv,hp⟩:=x
  rw [h] at q
  cases pv with
  | dat d=>cases d with
   | list l=>exact .li l ((cq q).2▸h) (Prod.mk.inj (cq q).1).1
   | str x=>exact .st x ((cq q).2▸h) (Prod.mk.inj (cq q).1).1
   | _=>exact al q
  | _=>exact al q
theorem uu {h:Heap} {l:List PyData} {i:Nat} {d:PyData} {t:Tok} {x:Value} {fd:List Addr} (hd:(eo 0 l)[i]?=some d) (k:∀y,l[i]?=some y->∃bs,RD h x y bs∧∀a∈bs,a∈fd) :
  ∃xs as,d=.tuple xs∧RDs h [.int i t,x] xs as∧∀a∈as,a∈fd:=by
 refine cps λ_ KK=>?_
 obtain ⟨y,hy,e⟩:=oo l 0 i hd
 obtain ⟨bs,rb,qb⟩:=k y hy
 refine KK ?_
 rw [Nat.zero_add] at e
 exact ⟨_,[]++(bs++[]),e,.cons (.int _ _) (.cons rb .nil),λb hb=>qb b (by rwa [List.append_nil,List.nil_append] at hb)⟩
section
variable {A:Around} {ρ ρ_1:av} {Z:List Addr} {s s_1:Shared} {hp':List MO} {es:List Expr} {k:Nat} {p:Pos}
theorem xm (n:Nat) (h:s_1.heap.objs.size≤n):s_1.heap.get? n=none:=Heap.get?_none_of_le h
theorem Ef {v:Value} {l:List PyData} (hh:A.handled=none) (x_1:Ext [] ρ s ρ_1 s_1) (V:VR ρ_1 Z s_1.heap (.dat (.list l)) v) (H_1:HR ρ_1 Z hp' s_1.heap) :
  wpAny (model prog w) A (call (.type "enumerate") [v]) (λv s_2=>wpAny (model prog w) A (pyIter v) (PostI prog w A (.Tuple es k p) ar ρ Z s (.rem (eo 0 l)) hp') bn s_2) bn s_1:=by
 refine cps λ_ KK=>?_
 obtain ⟨as,r,qa⟩:=V
 obtain ⟨a,vs,m,as',hv,has,ho,hlen,rs⟩:=r.list_
 refine KK ?_
 refine hv.symm▸?_
 replace qa:=has▸qa
 refine call_enumerate_list ⟨_,ho,rfl,m,rfl⟩ λh he hit hz keep=>wpAny_pyIter_enum (s:={ s_1 with heap:=h }) he ?_
 have hlt:=Heap.lt_size ho
 have ea:a≠s_1.heap.objs.size+1:=Nat.ne_of_lt (Nat.lt_succ_of_lt hlt)
 have ei:a≠s_1.heap.objs.size:=Nat.ne_of_lt hlt
 have n0:=xm (s_1:=s_1) _ (Nat.le_refl _)
 have n1:=xm (s_1:=s_1) _ (Nat.le_succ _)
 have live:∀(i:Nat) (h:Heap),(∃old,IsEnum h (s_1.heap.objs.size+1) s_1.heap.objs.size i old)∧h.IsListIter s_1.heap.objs.size a i∧h.IsList a vs->∀b∈[s_1.heap.objs.size+1,s_1.heap.objs.size,a],∃o,h.get? b=some o :=
  λi h x=>ri (x.1.elim λ_ q=>⟨_,q⟩) (ip (x.2.1.elim λo q=>⟨o,q.1⟩) (x.2.2.elim λo q=>⟨o,q.1⟩))
 exact PostI.of_new (fp:=[s_1.heap.objs.size+1,s_1.heap.objs.size,a]) (wr:=[s_1.heap.objs.size+1,s_1.heap.objs.size]) (fd:=as') (n:=vs.size)
  (Sx:=λi h=>(∃old,IsEnum h (s_1.heap.objs.size+1) s_1.heap.objs.size i old)∧h.IsListIter s_1.heap.objs.size a i∧h.IsList a vs)
  x_1 H_1 keep (ip n1 n0) live (ip (List.mem_cons_self ..) (List.mem_cons_of_mem _ (List.mem_cons_self ..))) ⟨⟨_,he⟩,hit,⟨_,keep _ _ ho,rfl,m,rfl⟩⟩ (λb hb=>⟨rs.live b hb,qa b (List.mem_cons_of_mem _ hb)⟩)
  (ri (.inl n1) (ip (.inl n0) (.inr ⟨⟨_,ho⟩,qa a (List.mem_cons_self ..)⟩)))
  (Iter.walksT (WalksT.enumerate hh _ _ a (Nat.succ_ne_self _) ea ei vs) (by rw [gu,hlen]) live (λi xs d h hv hd kd=>by
   refine cps λ_ KK=>?_
   obtain ⟨t,x,hx,e⟩:=hv
   refine KK ?_
   refine e.symm▸?_
   exact uu hd λy hy=>rs.item hx hy kd))
theorem I7 {v:Value} {x:Str} (hh:A.handled=none) (x_1:Ext [] ρ s ρ_1 s_1) (V:VR ρ_1 Z s_1.heap (.dat (.str x)) v) (H_1:HR ρ_1 Z hp' s_1.heap) :
  wpAny (model prog w) A (call (.type "enumerate") [v]) (λv s_2=>wpAny (model prog w) A (pyIter v) (PostI prog w A (.Tuple es k p) ar ρ Z s (.rem (eo 0 (chars x.cps.toList))) hp') bn s_2) bn s_1:=by
 refine cps λ_ KK=>?_
 obtain ⟨as,r,qa⟩:=V
 obtain ⟨t,hv,_,hx⟩:=r.str_
 refine KK ?_
 refine hv.symm▸?_
 refine call_enumerate_str λh he hit hz keep=>wpAny_pyIter_enum (s:={ s_1 with heap:=h }) he ?_
 have n0:=xm (s_1:=s_1) _ (Nat.le_refl _)
 have n1:=xm (s_1:=s_1) _ (Nat.le_succ _)
 have main:∀T,h.IsStrIter s_1.heap.objs.size T x t 0->Draws prog w A.in1 s_1.heap.objs.size [s_1.heap.objs.size] x.cps.size (λi v=>∃c u,x.cps[i]?=some c∧v=.str ⟨#[c]⟩ u) (λi h=>h.IsStrIter s_1.heap.objs.size T x t i) ->
   PostI prog w A (.Tuple es k p) ar ρ Z s (.rem (eo 0 (chars x.cps.toList))) hp' (.ref (s_1.heap.objs.size+1)) { s_1 with heap:=h }:=λT hit D=>by
  have live:∀(i:Nat) (h:Heap),(∃old,IsEnum h (s_1.heap.objs.size+1) s_1.heap.objs.size i old)∧h.IsStrIter s_1.heap.objs.size T x t i->∀b∈[s_1.heap.objs.size+1,s_1.heap.objs.size],∃o,h.get? b=some o :=
   λi h x=>ip (x.1.elim λ_ q=>⟨_,q⟩) (x.2.elim λo q=>⟨o,q.1⟩)
  exact PostI.of_new (fp:=[s_1.heap.objs.size+1,s_1.heap.objs.size]) (wr:=[s_1.heap.objs.size+1,s_1.heap.objs.size]) (fd:=[]) (n:=x.cps.size)
   (Sx:=λi h=>(∃old,IsEnum h (s_1.heap.objs.size+1) s_1.heap.objs.size i old)∧h.IsStrIter s_1.heap.objs.size T x t i)
   x_1 H_1 keep (ip n1 n0) live (λb hb=>hb) ⟨⟨_,he⟩,hit⟩ (λb hb=>ck hb) (ip (.inl n1) (.inl n0))
   (Iter.walksT (WalksT.enumerateD D _ (Nat.succ_ne_self _) (by simp) (by simp)) (by rw [gu,chars,List.length_map,Array.length_toList]) live (λi xs d h hv hd kd=>by
    refine cps λ_ KK=>?_
    obtain ⟨t,y,hy',e⟩:=hv
    refine KK ?_
    refine e.symm▸?_
    exact uu hd λy hy=>w7 hx hy' hy))
 cases ha:x.cps.all (· < 128)
 ·exact main _ (by simpa [strIterType,ha] using hit) (Draws.strWide (A:=A.in1) hh _ x t)
 ·exact main _ (by simpa [strIterType,ha] using hit) (Draws.strAscii (A:=A.in1) hh _ x t)
end
theorem EvI.enum (gl:Gl K mg mb) {e:Expr} {es:List Expr} {k:Nat} {p pos np:Pos} {F:EF} (he:Ev prog w K fx e F) (hk:fx.sc.names.lookup ("enumerate":Str)=some .globalImplicit) (hg:mg "enumerate"=none) (hb:mb "enumerate"=some (.type "enumerate"))
  (hs:∀env,starEach [e] env=[(false,eval e env)]:=by intro _; rfl):EvI prog w K fx (.Call (.Name "enumerate" np) [e] [] pos) (.Tuple es k p) ar (qw F):=.mk λA ρ Z σ s is n hp' Rm R q=>by
 refine Call_ (bp gl R hk (.inr ⟨hg,hb⟩) (cu (.inr ⟨_,rfl⟩) (wpAny_items_cons ?_ (hs _)) (hs _) rfl) (by decide))
 cases xz q with
 | li l e1 h1=>exact h1▸wpAny_mono (he.run A ρ Z σ s _ _ Rm R e1) (λv s_1 p=>wpAny_items_nil (p.elim λρ_1 p=>Ef Rm.handled p.1 p.2.1 p.2.2)) λ_ _ q=>q
 | st x e1 h1=>exact h1▸wpAny_mono (he.run A ρ Z σ s _ _ Rm R e1) (λv s_1 p=>wpAny_items_nil (p.elim λρ_1 p=>I7 Rm.handled p.1 p.2.1 p.2.2)) λ_ _ q=>q
end
section
variable {prog:Program} {w:World} {K:Addr->Option Obj} {fx:Fx} {mg mb:Str->Option Value} {tg:Expr}
theorem VRs.inv {ρ:av} {Z:List Addr} {h:Heap} {ps:List PV} {vs:List Value} (x:VRs ρ Z h ps vs):(∀p r,ps=p::r->∃v w,vs=v::w∧VR ρ Z h p v∧VRs ρ Z h r w)∧(ps=[]->vs=[]) :=
 VRs.rec (motive:=λps vs _=>(∀p r,ps=p::r->∃v w,vs=v::w∧VR ρ Z h p v∧VRs ρ Z h r w)∧(ps=[]->vs=[])) ⟨λ_ _ h=>(Rp h),λ_=>rfl⟩
  (λa b _=>⟨λp r e=>⟨_,_,rfl,(List.cons.inj e).1▸a,(List.cons.inj e).2▸b⟩,λh=>(Qm h)⟩) x
theorem VRs.uncons {ρ:av} {Z:List Addr} {h:Heap} {p:PV} {ps:List PV} {vs:List Value} (x:VRs ρ Z h (p::ps) vs):∃v r,vs=v::r∧VR ρ Z h p v∧VRs ρ Z h ps r:=x.inv.1 p ps rfl
theorem VRs.unnil {ρ:av} {Z:List Addr} {h:Heap} {vs:List Value} (x:VRs ρ Z h [] vs):vs=[]:=x.inv.2 rfl
noncomputable def L6:List PyData->Option (Int×Int×Int)
 | [.int b]=>some (0,b,1)
 | [.int a,.int b]=>some (a,b,1)
 | _=>none
noncomputable def ey (G:LF):SF:=λσ=>match G σ with
 | some (ps,hp)=>match fz ps with
  | some ds=>match L6 ds with
   | some (a,b,c)=>if c≠0∧Builtin.Range.small a b c=true∧c.natAbs < 2 ^ 60 then some ((.rem (i0 a c (Builtin.Range.rangeSize a b c).toNat),(Builtin.Range.rangeSize a b c).toNat+1),hp) else none
   | none=>none
  | none=>none
 | none=>none
theorem Cp (a b:Int):Builtin.Range.rangeSize a b 1=if a < b then b - a else 0:=by
 unfold Builtin.Range.rangeSize
 rw [if_pos (by decide),Int.ediv_one,Int.sub_add_cancel]
theorem ol (a b:Int):0≤Builtin.Range.rangeSize a b 1:=by
 rw [Cp]
 by_cases h:a < b
 ·rw [if_pos h]; exact Int.sub_nonneg_of_le (Int.le_of_lt h)
 ·rw [if_neg h]; exact Int.le_refl 0
theorem PostI.range {A:Around} {ρ ρ_1:av} {Z:List Addr} {s s_1:Shared} {hp':List MO} {r:Addr} {a b c:Int} {t u v:Tok} (ht:jt tg) (hh:A.handled=none)
  (x_1:Ext [] ρ s ρ_1 s_1) (H_1:HR ρ_1 Z hp' s_1.heap) (hr:IsRange s_1.heap r a b c t u v) (hsm:Builtin.Range.small a b c=true) (h1:c=1) :
  wpAny (model prog w) A (pyIter (.ref r)) (PostI prog w A tg ar ρ Z s (.rem (i0 a c (Builtin.Range.rangeSize a b c).toNat)) hp') bn s_1:=by
 have hn:(((Builtin.Range.rangeSize a b c).toNat:Nat):Int)=Builtin.Range.rangeSize a b c:=h1▸Int.toNat_of_nonneg (ol a b)
 have fr:s_1.heap.get? s_1.heap.objs.size=none:=Heap.get?_none_of_le (Nat.le_refl _)
 have live:∀(i:Nat) (h:Heap),IsRangeIter h s_1.heap.objs.size (a+(i:Nat)*c) (((Builtin.Range.rangeSize a b c).toNat:Int) - (i:Nat)) c->∀b∈[s_1.heap.objs.size],∃o,h.get? b=some o:=λi h e=>c8 ⟨_,e⟩
 refine wpAny_pyIter_range hr hsm (PostI.of_new (fp:=[s_1.heap.objs.size]) (wr:=[s_1.heap.objs.size]) (fd:=[]) (n:=(Builtin.Range.rangeSize a b c).toNat) (Sx:=λi h'=>IsRangeIter h' s_1.heap.objs.size (a+(i:Nat)*c) (((Builtin.Range.rangeSize a b c).toNat:Int) - (i:Nat)) c)
  x_1 H_1 (λb o e=>Heap.get?_push_of_some _ e) (c8 fr) live (λb hb=>hb) ?_ (λb hb=>ck hb) (c8 (.inl fr))
  (Iter.walks (Walks.range hh _ a c _) (cr _ _ _) live (λi v d h hv hd k=>hv.elim λt e=>⟨[],e.symm▸(jz _ _ _ i hd).symm▸.int _ _,λ_ h=>ck h⟩) λi s v Q h hQ=>ja ht h rfl (by decide) hQ))
 have:=Heap.get?_push_size s_1.heap (o:={ cls:=.type "range_iterator",data:=.fields #[rawInt a,rawInt (Builtin.Range.rangeSize a b c),rawInt c] }) rfl
 simpa [hn] using this
theorem B0 {G:LF} {σ:St} {is:IS} {n:Nat} {hp':List MO} {C:Prop} (q:ey G σ=some ((is,n),hp')) (k:∀ps ds a b c,G σ=some (ps,hp')->fz ps=some ds->L6 ds=some (a,b,c)->c≠0∧Builtin.Range.small a b c=true∧c.natAbs < 2 ^ 60->.rem (i0 a c (Builtin.Range.rangeSize a b c).toNat)=is->C):C:=by
 unfold ey at q
 cases h:G σ with
 | none=>rw [h] at q; exact al q
 | some x =>
  obtain ⟨ps,hp⟩:=x
  replace q:=h▸q
  dsimp only at q
  cases h2:fz ps with
  | none=>rw [h2] at q; exact al q
  | some ds =>
   replace q:=h2▸q
   dsimp only at q
   cases h3:L6 ds with
   | none=>rw [h3] at q; exact al q
   | some y =>
    obtain ⟨a,b,c⟩:=y
    replace q:=h3▸q
    exact ay q λhc e=>k ps ds a b c (((Prod.mk.inj e).2)▸h) h2 h3 hc (Prod.mk.inj (Prod.mk.inj e).1).1
inductive RngI (ds:List PyData) (a b c:Int):Prop
 | one:ds=[.int b]->a=0->c=1->RngI ds a b c
 | two:ds=[.int a,.int b]->c=1->RngI ds a b c
theorem zc {ds:List PyData} {a b c:Int} (e:L6 ds=some (a,b,c)):RngI ds a b c:=by
 cases ds with
 | nil=>exact al e
 | cons d ds=>cases d with
  | int x=>cases ds with
   | nil=>exact (Prod.mk.inj (b9 e)).2 |> λh=>.one (((Prod.mk.inj h).1).symm▸rfl) (Prod.mk.inj (b9 e)).1.symm (Prod.mk.inj h).2.symm
   | cons d ds=>cases d with
    | int y=>cases ds with
     | nil=>exact (Prod.mk.inj (b9 e)).2 |> λh=>.two (((Prod.mk.inj (b9 e)).1).symm▸((Prod.mk.inj h).1).symm▸rfl) (Prod.mk.inj h).2.symm
     | cons _ _=>exact al e
    | _=>exact al e
  | _=>exact al e
theorem ug {A:Around} {s_1:Shared} {ds:List PyData} {vs:List Value} {as:List Addr} {a b c:Int} {Q:Value->Shared->Prop} (r:RDs s_1.heap vs ds as) (e:RngI ds a b c)
  (k:∀t u v tk,Q (.ref s_1.heap.objs.size) { s_1 with heap:=s_1.heap.push { cls:=.type "range",data:=.fields #[.int a t,.int b u,.int c v] },toks:=tk }):wpAny (model prog w) A (call (.type "range") vs) Q bn s_1:=by
 cases e with
 | one h ha h1 =>
  replace r:=h▸r
  refine cps λ_ KK=>?_
  obtain ⟨t1,r1,e1,_,x1⟩:=dm r
  refine KK ?_
  refine e1.symm▸x1.unnil.symm▸?_
  subst ha h1
  exact call_range_1 (k _ _ _ _)
 | two h h1 =>
  replace r:=h▸r
  refine cps λ_ KK=>?_
  obtain ⟨t1,r1,e1,_,x1⟩:=dm r
  obtain ⟨t2,r2,e2,_,x2⟩:=dm x1
  refine KK ?_
  refine e1.symm▸e2.symm▸x2.unnil.symm▸?_
  subst h1
  exact call_range_2 (k _ _ _ _)
theorem RngI.one' {ds:List PyData} {a b c:Int} (e:RngI ds a b c):c=1:=by
 cases e with
 | one _ _ h=>exact h
 | two _ h=>exact h
theorem EvI.range (gl:Gl K mg mb) (ht:jt tg) {e:Expr} {es:List Expr} {pos np:Pos} {G:LF} (he:EvL prog w K fx (e::es) G) (hk:fx.sc.names.lookup ("range":Str)=some .globalImplicit) (hg:mg "range"=none) (hb:mb "range"=some (.type "range"))
  (hs:∀env,starEach (e::es) env=(false,eval e env)::starEach es env:=by intro _; rfl) (hp:∀env,(backTo pos (starEach es env)).any (·.1)=false:=by intro _; rfl) :
  EvI prog w K fx (.Call (.Name "range" np) (e::es) [] pos) tg ar (ey G):=.mk λA ρ Z σ s is n hp' Rm R q =>
 B0 q λps ds a b c e1 e2 e3 hc h1=>h1▸Call_ (bp gl R hk (.inr ⟨hg,hb⟩) (cu (.inr ⟨_,rfl⟩) (wpAny_mono (he.run pos A ρ Z σ s _ _ Rm R e1) (λvs s_1 P=>P.elim λρ_1 P=>(tl P.2.1 e2).elim λas r =>
  ug r.1 (zc e3) λt u v tk=>PostI.range (s_1:={ s_1 with heap:=s_1.heap.push { cls:=.type "range",data:=.fields #[.int a t,.int b u,.int c v] },toks:=tk }) ht Rm.handled (P.1.trans (Ext.of_keep λb o e=>Heap.get?_push_of_some _ e)) (P.2.2.keep λb o e=>Heap.get?_push_of_some _ e) (IsRange.new _ _ _ _ _ _ _) hc.2.1 (zc e3).one') λ_ _ q=>q) (hs _) (hp _)) (by decide))
noncomputable def ig (i j:Nat):PyData->bg->Option bg
 | .tuple [a,b],loc=>some ((loc.set i (some (.dat a))).set j (some (.dat b)))
 | _,_=>none
noncomputable def Ha (i j k:Nat):PyData->bg->Option bg
 | .tuple [a,b,c],loc=>some (((loc.set i (some (.dat a))).set j (some (.dat b))).set k (some (.dat c)))
 | _,_=>none
theorem VR.keep {ρ:av} {Z:List Addr} {h h':Heap} (k:∀a o,h.get? a=some o->h'.get? a=some o) {p:PV} {v:Value} (r:VR ρ Z h p v):VR ρ Z h' p v:=r.own λa o _ e=>k a o e
theorem ExtBut.keepAll {h h':Heap} (x:Heap.ExtBut h.objs.size h h') (b:Addr) (o:Obj) (e:h.get? b=some o):h'.get? b=some o :=
 x b o (Nat.ne_of_lt (Heap.lt_size e)) e
theorem SR.keep {ρ:av} {Z:List Addr} {σ:St} {s:Shared} {h:Heap} {t:Nat} (R:SR K fx ρ Z σ s) (k:∀b o,s.heap.get? b=some o->h.get? b=some o):SR K fx ρ Z σ { s with heap:=h,toks:=t } :=
 R.next (s':={ s with heap:=h,toks:=t }) (Ext.of_keep k) (R.hr.keep k)
theorem RDs.uncons2 {h:Heap} {vs:List Value} {d:PyData} {ds:List PyData} {as:List Addr} (x:RDs h vs (d::ds) as):∃v r bs cs,vs=v::r∧RD h v d bs∧RDs h r ds cs∧as=bs++cs :=
 RDs.ind (Q:=λvs l as=>∀d ds,l=d::ds->∃v r bs cs,vs=v::r∧RD h v d bs∧RDs h r ds cs∧as=bs++cs) (λ_ _ h=>(Rp h)) (λy r _ d ds e=>⟨_,_,_,_,rfl,(List.cons.inj e).1▸y,(List.cons.inj e).2▸r,rfl⟩) x d ds rfl
theorem D2 {i j:Nat} {d:PyData} {loc loc':bg} (q:ig i j d loc=some loc'):∃a b,d=.tuple [a,b]∧(loc.set i (some (.dat a))).set j (some (.dat b))=loc':=by
 cases d with
 | tuple l=>match l,q with
  | [a,b],q=>exact ⟨a,b,rfl,b9 q⟩
  | [],q=>exact al q
  | [_],q=>exact al q
  | _::_::_::_,q=>exact al q
 | _=>exact al q
theorem As.tup2 {i j:Nat} {x y:Str} {px py p:Pos} {m:Nat} (hi:fx.vars.lookup i=some x) (oi:br fx x) (hj:fx.vars.lookup j=some y) (oj:br fx y):As prog w K fx (.Tuple [.Name x px,.Name y py] m p) (ig i j):=.mk λA ρ Z σ s d v loc' Rm R r q=>by
 refine cps λ_ KK=>?_
 obtain ⟨a,b,hd,hl⟩:=D2 q
 obtain ⟨as,r,qa⟩:=r
 replace r:=hd▸r
 obtain ⟨ad,o,vs,n,as',hv,has,ho,h1,h4,hlen,rs⟩:=r.tuple_
 obtain ⟨v0,r0,b0,c0,e0,ra0,s0,f0⟩:=rs.uncons2
 obtain ⟨v1,r1,b1,c1,e1,ra1,s1,f1⟩:=s0.uncons2
 refine KK ?_
 have evs:vs.toList=[v0,v1]:=e0.symm▸e1.symm▸s1.unnil.symm▸rfl
 replace qa:=f1▸f0▸has▸qa
 have w0:VR ρ Z s.heap (.dat a) v0:=⟨b0,ra0,λc hc=>qa c (List.mem_cons_of_mem _ (List.mem_append_left _ hc))⟩
 have w1:VR ρ Z s.heap (.dat b) v1:=⟨b1,ra1,λc hc=>qa c (List.mem_cons_of_mem _ (List.mem_append_right _ (List.mem_append_left _ hc)))⟩
 refine hv.symm▸hl▸?_
 refine wpAny_assign_Tuple Rm.handled ⟨o,ho,h1,n,h4⟩ (by rw [hlen]; rfl) rfl λh' he=>?_
 refine evs.symm▸?_
 have k0:=ExtBut.keepAll he
 exact wpAny_assignInOrder_more (wpAny_assign_Name ((R.keep (t:=s.toks) k0).store hi oi (w0.keep k0) λs0' x0' R0'=>wpAny_assignInOrder_more (wpAny_assign_Name (R0'.store hj oj (VR.ext x0' R.er.ownZ (w1.keep k0)) λs1' x1' R1' =>
  wpAny_assignInOrder_none ⟨((Ext.of_keep (t:=s.toks) k0).trans x0').trans x1',R1'⟩))))
theorem Df {i j k:Nat} {d:PyData} {loc loc':bg} (q:Ha i j k d loc=some loc'):∃a b c,d=.tuple [a,b,c]∧((loc.set i (some (.dat a))).set j (some (.dat b))).set k (some (.dat c))=loc':=by
 cases d with
 | tuple l=>cases l with
  | nil=>exact al q
  | cons a l=>cases l with
   | nil=>exact al q
   | cons b l=>cases l with
    | nil=>exact al q
    | cons c l=>cases l with
     | nil=>exact ⟨a,b,c,rfl,b9 q⟩
     | cons _ _=>exact al q
 | _=>exact al q
theorem As.tup3 {i j k:Nat} {x y z:Str} {px py pz p:Pos} {m:Nat} (hi:fx.vars.lookup i=some x) (oi:br fx x) (hj:fx.vars.lookup j=some y) (oj:br fx y) (hk:fx.vars.lookup k=some z) (ok:br fx z):As prog w K fx (.Tuple [.Name x px,.Name y py,.Name z pz] m p) (Ha i j k):=.mk λA ρ Z σ s d v loc' Rm R r q=>by
 refine cps λ_ KK=>?_
 obtain ⟨a,b,c,hd,hl⟩:=Df q
 obtain ⟨as,r,qa⟩:=r
 replace r:=hd▸r
 obtain ⟨ad,o,vs,n,as',hv,has,ho,h1,h4,hlen,rs⟩:=r.tuple_
 obtain ⟨v0,r0,b0,c0,e0,ra0,s0,f0⟩:=rs.uncons2
 obtain ⟨v1,r1,b1,c1,e1,ra1,s1,f1⟩:=s0.uncons2
 obtain ⟨v2,r2,b2,c2,e2,ra2,s2,f2⟩:=s1.uncons2
 refine KK ?_
 have evs:vs.toList=[v0,v1,v2]:=e0.symm▸e1.symm▸e2.symm▸s2.unnil.symm▸rfl
 replace qa:=f2▸f1▸f0▸has▸qa
 have w0:VR ρ Z s.heap (.dat a) v0:=⟨b0,ra0,λc hc=>qa c (List.mem_cons_of_mem _ (List.mem_append_left _ hc))⟩
 have w1:VR ρ Z s.heap (.dat b) v1:=⟨b1,ra1,λc hc=>qa c (List.mem_cons_of_mem _ (List.mem_append_right _ (List.mem_append_left _ hc)))⟩
 have w2:VR ρ Z s.heap (.dat c) v2:=⟨b2,ra2,λc hc=>qa c (List.mem_cons_of_mem _ (List.mem_append_right _ (List.mem_append_right _ (List.mem_append_left _ hc))))⟩
 refine hv.symm▸hl▸?_
 refine wpAny_assign_Tuple Rm.handled ⟨o,ho,h1,n,h4⟩ (by rw [hlen]; rfl) rfl λh' he=>?_
 refine evs.symm▸?_
 have k0:=ExtBut.keepAll he
 exact wpAny_assignInOrder_more (wpAny_assign_Name ((R.keep (t:=s.toks) k0).store hi oi (w0.keep k0) λs0' x0' R0'=>wpAny_assignInOrder_more (wpAny_assign_Name (R0'.store hj oj (VR.ext x0' R.er.ownZ (w1.keep k0)) λs1' x1' R1' =>
  wpAny_assignInOrder_more (wpAny_assign_Name (R1'.store hk ok (VR.ext x1' R.er.ownZ (VR.ext x0' R.er.ownZ (w2.keep k0))) λs2' x2' R2' =>
  wpAny_assignInOrder_none ⟨(((Ext.of_keep (t:=s.toks) k0).trans x0').trans x1').trans x2',R2'⟩))))))
end
noncomputable def i9 (e elt:Expr) (gens:List Comprehension) (d:Nat) (acc:Value) (env:Env):Sem Unit :=
 match gens[d+1]? with
 | some g'=>do
  let x ← eval g'.iter env
  standAt g'.iter.pos
  let x ← foldedSetIterable g'.iter env x
  let it ← holding [x] (pyIter x)
  let _ ← runOwn (.compStart e (d+1) it acc env) env
  pure ()
 | none=>do
  let x ← eval elt env
  let _ ← call (.builtin "list.append") [acc,x]
  pure ()
theorem zh (elt:Expr) (gens:List Comprehension) (scope:Scope) (pos:Pos) (d:Nat) (it acc:Value) (env:Env) {target iter:Expr} {ifs:List Expr} (hg:gens[d]?=some ⟨target,iter,ifs,0⟩) (ha:∀g'∈gens,g'.is_async=0) :
  compTurn (.ListComp elt gens scope pos) d it acc env=(do
   standAt iter.pos
   match ← pyNext it with
   | none=>pure (.done .next)
   | some v =>
    letOwnedTupleGo target it v
    assign target env v
    let mut ok:=true
    for c in ifs do
     if ok then ok ← isTrue c env (eval c env)
    if ok then
     i9 (.ListComp elt gens scope pos) elt gens d acc env
    again (.compLoop (.ListComp elt gens scope pos) d it acc env)):=by
 unfold compTurn i9
 simp only [hg]
 cases q:gens[d+1]? with
 | none=>rfl
 | some g' =>
  have:=ha g' (List.mem_of_getElem? q)
  simp only [this,bne_self_eq_false,Bool.false_eq_true,if_false,bind_assoc,pure_bind]
  rfl
section
variable {prog:Program} {w:World} {A:Around} {R:Result->Shared->Prop} {s:Shared}
theorem ka {elt target iter:Expr} {gens:List Comprehension} {ifs:List Expr} {scope:Scope} {pos:Pos} {d:Nat} {it acc:Value} {env:Env} (hg:gens[d]?=some ⟨target,iter,ifs,0⟩) (ha:∀g'∈gens,g'.is_async=0) (I:Nat->Shared->Prop)
  (turn:∀n s,I n s->wpAny (model prog w) A (pyNext it) (λr s_1=>match r with
   | none=>R (.ok .next) s_1
   | some v=>wpAny (model prog w) A (letOwnedTupleGo target it v) (λ_ s_1'=>wpAny (model prog w) A (assign target env v) (λ_ s_2 =>
     wpAny (model prog w) A (forIn ifs true λc r=>if r=true then do let ok ← isTrue c env (eval c env); pure (ForInStep.yield ok) else pure (ForInStep.yield r)) (λok s_3 =>
      if ok=true then wpAny (model prog w) A (i9 (.ListComp elt gens scope pos) elt gens d acc env) (λ_ s_5=>∃m,m < n∧I m s_5) bn s_3
      else ∃m,m < n∧I m s_3) bn s_2) bn s_1') bn s_1) bn s)
  (n:Nat) (h:I n s) :
  codeAny (model prog w) A (.compLoop (.ListComp elt gens scope pos) d it acc env) R s:=by
 refine codeAny_loop rfl I (λn s hI=>?_) n h
 show wpAny _ A ((compTurn (.ListComp elt gens scope pos) d it acc env).onRaise (λx=>do noteFrame x env; theTreesLotGoes x)) _ _ s
 refine wpAny_noted ?_
 refine (zh _ _ _ _ _ _ _ _ hg ha).symm▸?_
 refine wpAny_bind (wpAny_standAt (wpAny_bind (wpAny_mono (turn n s hI) (λr s_1 h_1=>?_) λ_ _ h'=>h'.elim)))
 cases r with
 | none=>exact wpAny_pure h_1
 | some v =>
  refine wpAny_bind (wpAny_mono h_1 (λ_ s_1' h_1'=>?_) λ_ _ h'=>h'.elim)
  refine wpAny_bind (wpAny_mono h_1' (λ_ s_2 h_2=>wpAny_bind (wpAny_mono h_2 (λok s_3 h_3=>?_) λ_ _ h'=>h'.elim)) λ_ _ h'=>h'.elim)
  cases ok with
  | false=>exact wpAny_pure ⟨rfl,h_3⟩
  | true=>exact wpAny_bind (wpAny_mono h_3 (λ_ s_5 h_5=>wpAny_pure ⟨rfl,h_5⟩) λ_ _ h'=>h'.elim)
theorem eu {elt:Expr} {gens:List Comprehension} {scope:Scope} {pos:Pos} {d:Nat} {it acc:Value} {env:Env} {g:Comprehension} (hg:gens[d]?=some g) (ha:g.is_async=0)
  (h0:codeAny (model prog w) A (.compLoop (.ListComp elt gens scope pos) d it acc env) R s)
  (h:wpAny (model prog w) A (pyIter it) (λit' s'=>it'=it∧s'=s) bn s) :
  codeAny (model prog w) A (.compStart (.ListComp elt gens scope pos) d it acc env) R s:=by
 refine codeAny_of_tree ?_
 show wpAny _ _ ((compStart (.ListComp elt gens scope pos) d it acc env).onRaise (λx=>do noteFrame x env; standAt theWindowsPlace)) _ _ s
 refine wpAny_notedAt ?_
 unfold compStart
 have e:clausesOf (.ListComp elt gens scope pos)=gens:=rfl
 refine e.symm▸hg.symm▸?_
 simp only [Option.elim_some,ha,bne_self_eq_false,Bool.false_eq_true,if_false]
 refine wpAny_bind (wpAny_askSetting (wpAny_ite ?_))
 split
 ·exact wpAny_bind (wpAny_pure (wpAny_pure (And.intro rfl h0)))
 ·refine wpAny_bind (wpAny_rule ?_)
  refine wpAny_bind (wpAny_standAt (wpAny_bind (wpAny_mono h (λit' s' h'=>?_) λ_ _ x=>x.elim)))
  obtain ⟨rfl,rfl⟩:=h'
  exact wpAny_pure (And.intro rfl h0)
end
abbrev CF:=St->Option (List PyData×St)
structure Acc (D:Addr) (ds:List PyData) (ρ:av) (Z:List Addr) (h:Heap):Prop where
 ex:∃vs as,h.PlainList D vs∧RDs h vs.toList ds as∧∀a∈as,a∉ax ρ∧a∉Z
 inZ:D∈Z
section
variable {K:Addr->Option Obj} {fx:Fx} {D:Addr} {ds:List PyData} {ρ ρ':av} {Z Z' X wr:List Addr} {s s':Shared} {hp:List MO} {h h':Heap}
theorem Acc.map (a:Acc D ds ρ Z h) (k:Moves ρ ρ' Z Z' h h') (kD:∀o,h.get? D=some o->h'.get? D=some o) (hD:D∈Z'):Acc D ds ρ' Z' h':=by
 obtain ⟨⟨vs,as,hl,r,q⟩,_⟩:=a
 have f:=k.foot r.live q
 exact ⟨⟨vs,as,hl.at λo e=>kD o e,r.keep f.1,f.2⟩,hD⟩
theorem Acc.ext (a:Acc D ds ρ Z s.heap) (x:Ext X ρ s ρ' s') (hX:∀b∈X,b∈Z∧b≠D) (hD:D∉ax ρ):Acc D ds ρ' Z s'.heap :=
 a.map (x.moves λb h=>(hX b h).1) (λo e=>x.heap D o hD (λm=>(hX D m).2 rfl) e) a.inZ
theorem Acc.extG {G:Nat->Prop} (a:Acc D ds ρ Z s.heap) (x:ExtG X G ρ s ρ' s') (hX:∀b∈X,b∈Z∧b≠D) (hD:D∉ax ρ):Acc D ds ρ' Z s'.heap:=Acc.ext (s:={ s with gens:=#[] }) (s':={ s' with gens:=#[] }) a x.e hX hD
theorem Acc.drop (a:Acc D ds ρ (wr++Z) h) (hD:D∉wr) (k:∀b o,b∉wr->h.get? b=some o->h'.get? b=some o):Acc D ds ρ Z h' :=
 a.map (λb o h1 h2 e=>⟨k b o (λq=>h2 (List.mem_append_left _ q)) e,h1,λq=>h2 (List.mem_append_right _ q)⟩) (λo=>k D o hD) ((List.mem_append.mp a.inZ).resolve_left hD)
theorem Acc.more (a:Acc D ds ρ Z h) (hw:∀b∈Z',b∈Z∨h.get? b=none) (hD:D∈Z') (k:∀b o,h.get? b=some o->h'.get? b=some o):Acc D ds ρ Z' h' :=
 a.map (λb o h1 h2 e=>⟨k b o e,h1,λm=>(hw b m).elim h2 λn=>al (n.symm.trans e)⟩) (k D) hD
end
noncomputable def Mk (K:Addr->Option Obj) (fx:Fx) (D:Addr) (ρ:av) (Z:List Addr) (s:Shared) (ds:List PyData) (σ':St) (s':Shared):Prop :=
 ∃ρ',Ext (D::fx.own) ρ s ρ' s'∧SR K fx ρ' Z σ' s'∧Acc D ds ρ' Z s'.heap
structure CIn (prog:Program) (w:World) (K:Addr->Option Obj) (fx:Fx) (D:Addr) (e elt:Expr) (gens:List Comprehension) (d:Nat) (F:CF):Prop where
 run:∀(A:Around) (ρ:av) (Z:List Addr) (σ:St) (s:Shared) (done ds:List PyData) (σ':St),Room A fx.k->SR K fx ρ Z σ s->Acc D done ρ Z s.heap->(done++ds).length≤lim->F σ=some (ds,σ') ->
  wpAny (model prog w) A (i9 e elt gens d (.ref D) fx.env) (λ_ s'=>Mk K fx D ρ Z s (done++ds) σ' s') bn s
structure TrAll (prog:Program) (w:World) (K:Addr->Option Obj) (fx:Fx) (ifs:List Expr) (F:BF):Prop where
 run:∀(A:Around) (ρ:av) (Z:List Addr) (σ:St) (s:Shared) (b:Bool) (hp':List MO),Room A fx.k->SR K fx ρ Z σ s->F σ=some (b,hp') ->
  wpAny (model prog w) A (forIn ifs true λc r=>if r=true then do let ok ← isTrue c fx.env (eval c fx.env); pure (ForInStep.yield ok) else pure (ForInStep.yield r)) (λb' s'=>b'=b∧∃ρ',Ext [] ρ s ρ' s'∧HR ρ' Z hp' s'.heap) bn s
noncomputable def dj (F:EF):CF:=λσ=>match F σ with
 | some (.dat d,hp)=>some ([d],⟨σ.loc,hp⟩)
 | _=>none
noncomputable def dp (step:cy) (T:PyData->bg->Option bg) (tests:BF) (inner:CF):Nat->IS->CF
 | 0,_=>λ_=>none
 | n+1,is=>λσ=>match step is σ.hp with
  | none=>none
  | some (none,hp)=>some ([],⟨σ.loc,hp⟩)
  | some (some (d,is'),hp)=>match T d σ.loc with
   | none=>none
   | some loc=>match tests ⟨loc,hp⟩ with
    | none=>none
    | some (false,hp)=>dp step T tests inner n is' ⟨loc,hp⟩
    | some (true,hp)=>match inner ⟨loc,hp⟩ with
     | none=>none
     | some (ds,σ_2)=>match dp step T tests inner n is' σ_2 with
      | none=>none
      | some (r,σ_3)=>some (ds++r,σ_3)
noncomputable def u0 (F:SF) (L:Nat->IS->CF):CF:=λσ=>match F σ with
 | some ((is,n),hp)=>L n is ⟨σ.loc,hp⟩
 | none=>none
section
variable {prog:Program} {w:World} {K:Addr->Option Obj} {fx:Fx} {D:Addr}
theorem TrAll.nil:TrAll prog w K fx [] (λσ=>some (true,σ.hp)):=.mk λA ρ Z σ s b hp' Rm R q=>wpAny_tests_nil (TrP.ret (Ext.refl _ _ _) R.hr q)
theorem TrAll.one {c:Expr} {F:BF} (h:Tr prog w K fx c F):TrAll prog w K fx [c] F:=.mk λA ρ Z σ s b hp' Rm R q=>wpAny_tests_one (h.run A ρ Z σ s b hp' Rm R q)
theorem C9 {F:EF} {σ σ':St} {ds:List PyData} {C:Prop} (q:dj F σ=some (ds,σ')) (k:∀d hp,F σ=some (.dat d,hp)->[d]=ds->⟨σ.loc,hp⟩=σ'->C):C:=by
 unfold dj at q
 cases h:F σ with
 | none=>rw [h] at q; exact al q
 | some x =>
  obtain ⟨pv,hp⟩:=x
  rw [h] at q
  cases pv with
  | dat d=>exact k d hp h (cq q).1 (cq q).2
  | _=>exact al q
theorem F3 {ρ:av} {Z:List Addr} {σ:St} {s:Shared} {done:List PyData} {d:PyData} {v:Value} {A:Around} {Q:Unit->Shared->Prop} (R:SR K fx ρ Z σ s) (ac:Acc D done ρ Z s.heap) (V:VR ρ Z s.heap (.dat d) v) (hD:n7 fx [D]) (hlen:(done++[d]).length≤lim)
  (k:∀s',Ext [D] ρ s ρ s'->SR K fx ρ Z σ s'->Acc D (done++[d]) ρ Z s'.heap->Q () s'):wpAny (model prog w) A (call (.builtin "list.append") [.ref D,v] >>= λ_=>pure ()) Q bn s:=by
 refine cps λ_ KK=>?_
 obtain ⟨⟨vs,as,hl,r,qa⟩,hz⟩:=ac
 obtain ⟨bs,rv,qv⟩:=V
 refine KK ?_
 have hsz:vs.size≤sizeLine:=by
  have e1:=r.length
  rw [Array.length_toList] at e1
  rw [List.length_append] at hlen
  rw [e1]
  exact Nat.le_trans (Nat.le_trans (Nat.le_add_right _ _) hlen) (by decide)
 refine wpAny_bind (wpAny_list_append_plain hl (λh' hl' sb=>wpAny_pure ?_) hsz)
 have k':∀b o,b∉[D]->s.heap.get? b=some o->h'.get? b=some o:=λb o hb e=>sb.extBut b o (λm=>hb (m▸List.mem_singleton_self _)) e
 have lv:∀b∈[D],∃o,h'.get? b=some o:=c8 (hl'.elim λn e=>⟨_,e⟩)
 have hX:∀a∈[D],a∈Z:=c8 hz
 have x_2:Ext [D] ρ s ρ { s with heap:=h' }:=Ext.of_off (t:=s.toks) k' lv
 have kk:∀a,a∉Z->∀o,s.heap.get? a=some o->h'.get? a=some o:=λa ha o e=>k' a o (λm=>ha (hX a m)) e
 exact k _ x_2 (R.extX x_2 hX hD (R.hr.chg (t:=s.toks) hX k' lv)) ⟨⟨vs.push v,as++(bs++[]),hl',by
  rw [Array.toList_push]
  exact (r.keep λa ha o e=>kk a (qa a ha).2 o e).append (.cons (rv.keep λa ha o e=>kk a (qv a ha).2 o e) .nil),λa ha=>(List.mem_append.mp ha).elim (qa a) λha=>qv a (by rwa [List.append_nil] at ha)⟩,hz⟩
theorem CIn.emit {e elt:Expr} {gens:List Comprehension} {d:Nat} {F:EF} (hg:gens[d+1]?=none) (he:Ev prog w K fx elt F) (hD:n7 fx [D]) (hDo:D∉fx.own):CIn prog w K fx D e elt gens d (dj F):=.mk λA ρ Z σ s done ds σ' Rm R ac hlen q =>
 C9 q λx hp e1 hds hσ=>by
  unfold i9
  refine hg.symm▸?_
  refine wpAny_bind (wpAny_mono (he.run A ρ Z σ s _ _ Rm R e1) (λv s_1 p=>p.elim λρ_1 p=>?_) λ_ _ q=>q)
  exact F3 (R.next p.1 p.2.2) (ac.ext p.1 (λ_ h=>ck h) λm=>R.hr.offZ D m ac.inZ) p.2.1 hD (hds▸hlen) λs' x R' ac'=>⟨ρ_1,(p.1.weak gx).trans (x.weak (c8 (List.mem_cons_self ..))),hσ▸R',hds▸ac'⟩
inductive H7 (step:cy) (T:PyData->bg->Option bg) (tests:BF) (inner:CF) (k:Nat) (is:IS) (σ:St) (ds:List PyData) (σ':St):Prop
 | done (hp:List MO):step is σ.hp=some (none,hp)->[]=ds->⟨σ.loc,hp⟩=σ'->H7 step T tests inner k is σ ds σ'
 | turn (d:PyData) (is':IS) (hp:List MO) (loc:bg) (b:Bool) (hp_2:List MO):step is σ.hp=some (some (d,is'),hp)->T d σ.loc=some loc->tests ⟨loc,hp⟩=some (b,hp_2) ->
  (b=false∧dp step T tests inner k is' ⟨loc,hp_2⟩=some (ds,σ')∨b=true∧∃ds_1 σ_2 r,inner ⟨loc,hp_2⟩=some (ds_1,σ_2)∧dp step T tests inner k is' σ_2=some (r,σ')∧ds_1++r=ds)->H7 step T tests inner k is σ ds σ'
theorem vf {step:cy} {T:PyData->bg->Option bg} {tests:BF} {inner:CF} {k:Nat} {is:IS} {σ:St} {ds:List PyData} {σ':St} (e:dp step T tests inner (k+1) is σ=some (ds,σ')):H7 step T tests inner k is σ ds σ':=by
 rw [dp] at e
 dsimp only at e
 cases h1:step is σ.hp with
 | none=>rw [h1] at e; exact al e
 | some x =>
  obtain ⟨x,hp⟩:=x
  replace e:=h1▸e
  cases x with
  | none=>exact .done hp h1 (cq e).1 (cq e).2
  | some x =>
   obtain ⟨d,is'⟩:=x
   dsimp only at e
   cases h2:T d σ.loc with
   | none=>rw [h2] at e; exact al e
   | some loc =>
    replace e:=h2▸e
    dsimp only at e
    cases h3:tests ⟨loc,hp⟩ with
    | none=>rw [h3] at e; exact al e
    | some y =>
     obtain ⟨b,hp_2⟩:=y
     replace e:=h3▸e
     refine .turn d is' hp loc b hp_2 h1 h2 h3 ?_
     cases b with
     | false=>exact .inl ⟨rfl,e⟩
     | true =>
      dsimp only at e
      cases h4:inner ⟨loc,hp_2⟩ with
      | none=>rw [h4] at e; exact al e
      | some z =>
       replace e:=h4▸e
       dsimp only at e
       cases h5:dp step T tests inner k is' z.2 with
       | none=>rw [h5] at e; exact al e
       | some u=>rw [h5] at e; exact .inr ⟨rfl,z.1,z.2,u.1,rfl,h5.symm▸((cq e).2)▸rfl,(cq e).1⟩
inductive Cn (K:Addr->Option Obj) (fx:Fx) (D:Addr) (wr:List Addr) (G:Nat->Prop) (ρ:av) (Z:List Addr) (s:Shared) (ds:List PyData) (σ':St) (r:Result) (s':Shared):Prop
 | mk:r=.ok .next->∀(ρ':av) (s_1:Shared) (h':Heap) (tk:Nat) (wr':List Addr),(∀a∈wr',a∈wr∨s.heap.get? a=none)->(∀a∈wr',a∉Z)->n7 fx wr'->ExtG (wr'++D::fx.own) G ρ s ρ' s_1->SR K fx ρ' (wr'++Z) σ' s_1->Acc D ds ρ' (wr'++Z) s_1.heap->s'={ s_1 with heap:=h',toks:=tk } ->
  (∀b o,b∉wr'->s_1.heap.get? b=some o->h'.get? b=some o)->Cn K fx D wr G ρ Z s ds σ' r s'
inductive M4 (K:Addr->Option Obj) (fx:Fx) (D:Addr) (wr:List Addr) (G:Nat->Prop) (J:IS->List Addr->av->List Addr->Shared->Prop) (ρ:av) (Z:List Addr) (s:Shared) (all:List PyData) (F:IS->CF) (σ':St) (s':Shared):Prop
 | mk (ρ':av) (σ_0:St) (is':IS) (done' r:List PyData) (wr':List Addr):(∀a∈wr',a∈wr∨s.heap.get? a=none)->(∀a∈wr',a∉Z)->n7 fx wr'->ExtG (wr'++D::fx.own) G ρ s ρ' s'->SR K fx ρ' (wr'++Z) σ_0 s'->J is' wr' ρ' (wr'++Z) s'->Acc D done' ρ' (wr'++Z) s'.heap->done'++r=all->F is' σ_0=some (r,σ') ->
  M4 K fx D wr G J ρ Z s all F σ' s'
inductive Mr (K:Addr->Option Obj) (fx:Fx) (D:Addr) (wr:List Addr) (G:Nat->Prop) (J:List Addr->av->List Addr->Shared->Prop) (ρ:av) (Z:List Addr) (s:Shared) (done:List PyData) (W':List Addr) (ρ_3:av) (s_5:Shared):Prop
 | mk:(∀a∈W',a∈wr∨s.heap.get? a=none)->(∀a∈W',a∉Z)->n7 fx W'->ExtG (W'++D::fx.own) G ρ s ρ_3 s_5->J W' ρ_3 (W'++Z) s_5->Acc D done ρ_3 (W'++Z) s_5.heap->D∉ax ρ_3->Mr K fx D wr G J ρ Z s done W' ρ_3 s_5
theorem Dq {wr wr' W' Z:List Addr} {ρ ρ' ρ_3:av} {s s' s_4 s_5:Shared} {σ_0 σ_4:St} {G:Nat->Prop} {J:List Addr->av->List Addr->Shared->Prop} {done:List PyData} (hJx:∀{ρ Z s X ρ' s'},J W' ρ Z s->Ext X ρ s ρ' s'->(∀a∈X,a∈Z∧a∉W')->J W' ρ' Z s') (hDo:D∉fx.own) (ownZ:∀a∈fx.own,a∈Z) (hDZ:D∈Z)
  (hfr:∀a∈wr',a∈wr∨s.heap.get? a=none) (hnz:∀a∈wr',a∉Z) (off':n7 fx wr') (xg:ExtG (wr'++D::fx.own) G ρ s ρ' s') (R':SR K fx ρ' (wr'++Z) σ_0 s') (ac':Acc D done ρ' (wr'++Z) s'.heap)
  (hsub:∀a∈wr',a∈W') (hnew:∀a∈W',s'.heap.get? a=none∨a∈wr') (x_3:ExtG wr' G ρ' s' ρ_3 s_4) (R_3:SR K fx ρ_3 (W'++Z) σ_4 s_4) (J_3:J W' ρ_3 (W'++Z) s_4) (x_5:Ext fx.own ρ_3 s_4 ρ_3 s_5):Mr K fx D wr G J ρ Z s done W' ρ_3 s_5:=by
 have hDm:D∉ax ρ':=λm=>R'.hr.offZ D m (List.mem_append_right _ hDZ)
 have hDm_3:D∉ax ρ_3:=λm=>R_3.hr.offZ D m (List.mem_append_right _ hDZ)
 have e_3:=x_3.e
 have ac_3:Acc D done ρ_3 (W'++Z) s_4.heap:=ac'.map (λa o h1 h2 e=>⟨e_3.heap a o h1 (λq=>h2 (List.mem_append_left _ q)) e,e_3.notin (o:=o) e h1,λm=>(List.mem_append.mp m).elim (λm=>(hnew a m).elim (λn=>al (n.symm.trans e)) λq=>h2 (List.mem_append_left _ q)) λm=>h2 (List.mem_append_right _ m)⟩)
  (λo e=>e_3.heap D o hDm (λq=>hnz D q hDZ) e) (List.mem_append_right _ hDZ)
 have hnz':∀a∈W',a∉Z:=λa h m=>(hnew a h).elim (λn=>(R'.hr.liveZ a (List.mem_append_right _ m)).elim λo e=>al (n.symm.trans e)) λq=>hnz a q m
 have hfr':∀a∈W',a∈wr∨s.heap.get? a=none:=λa h=>(hnew a h).elim (λn=>.inr (by
  cases q:s.heap.get? a with
  | none=>rfl
  | some o=>exact (xg.e.live a o q).elim λo' e=>al (n.symm.trans e))) (hfr a)
 refine cps λ_ KK=>?_
 obtain ⟨m,cm,hn,hc,_⟩:=R'.er.ex
 refine KK ?_
 have off_3:n7 fx W':=⟨λq=>(hnew _ q).elim (λn=>(Ns.live hn).elim λo e=>al (n.symm.trans e)) off'.1,λn c e q=>(hnew _ q).elim (λn'=>(hc n c e).elim λo h=>al (n'.symm.trans h.1)) (off'.2 n c e)⟩
 have oX:∀a∈fx.own,a∈W'++D::fx.own:=λa h=>List.mem_append_right _ (List.mem_cons_of_mem _ h)
 have hXo:∀a∈fx.own,a∈W'++Z∧a∉W':=λa h=>⟨List.mem_append_right _ (ownZ a h),λm=>hnz' a m (ownZ a h)⟩
 have g_5:ExtG (W'++D::fx.own) G ρ s ρ_3 s_5:=((xg.weak λa h=>(List.mem_append.mp h).elim (λh=>List.mem_append_left _ (hsub a h)) λh=>List.mem_append_right _ h).trans (x_3.weak λa h=>List.mem_append_left _ (hsub a h))).trans (x_5.weak oX).toG
 exact ⟨hfr',hnz',off_3,g_5,hJx J_3 x_5 hXo,ac_3.ext x_5 (λa h=>⟨List.mem_append_right _ (ownZ a h),λq=>hDo (q▸h)⟩) hDm_3,hDm_3⟩
theorem Cb {elt target iter:Expr} {gens:List Comprehension} {ifs:List Expr} {scope:Scope} {pos:Pos} {d:Nat} {it:Value} {wr:List Addr} {G:Nat->Prop} {step:cy} {J:IS->List Addr->av->List Addr->Shared->Prop} {T:PyData->bg->Option bg} {tests:BF} {inner:CF} {A:Around}
  (hg:gens[d]?=some ⟨target,iter,ifs,0⟩) (ha:∀g'∈gens,g'.is_async=0) (W:B9 prog w A it target G step J) (ht:As prog w K fx target T) (htests:TrAll prog w K fx ifs tests)
  (hin:CIn prog w K fx D (.ListComp elt gens scope pos) elt gens d inner) (Rm:Room A fx.k) (off:n7 fx wr) (hDo:D∉fx.own)
  {ρ:av} {Z:List Addr} {σ σ':St} {s:Shared} {is:IS} {n:Nat} {done ds:List PyData} (R:SR K fx ρ (wr++Z) σ s) (hJ:J is wr ρ (wr++Z) s) (hwZ:∀a∈wr,a∉Z) (ownZ:∀a∈fx.own,a∈Z) (hDZ:D∈Z) (ac:Acc D done ρ (wr++Z) s.heap) (hlen:(done++ds).length≤lim)
  (hF:dp step T tests inner n is σ=some (ds,σ')) :
  codeAny (model prog w) A (.compLoop (.ListComp elt gens scope pos) d it (.ref D) fx.env) (Cn K fx D wr G ρ Z s (done++ds) σ') s:=by
 refine ka hg ha (λk s'=>M4 K fx D wr G J ρ Z s (done++ds) (dp step T tests inner k) σ' s') ?_ n ⟨ρ,σ,is,done,ds,wr,λa h=>.inl h,hwZ,off,ExtG.refl,R,hJ,ac,rfl,hF⟩
 rintro k s' ⟨ρ',σ_0,is',done',r,wr',hfr,hnz,off',xg,R',J',ac',hdr,hF⟩
 have wrZ:∀a∈wr',a∈wr'++Z:=λa h=>List.mem_append_left _ h
 cases k with
 | zero=>exact al hF
 | succ k=>cases vf hF with
  | done hp hst h1 h2 =>
   refine wpAny_mono (W.done hst J' R'.hr wrZ) (λr s_3 p=>?_) λ_ _ q=>q.elim
   obtain ⟨rfl,ρ_3,s_4,h',tk,x_3,H_3,rfl,kd⟩:=p
   rw [← h1,List.append_nil] at hdr
   exact ⟨rfl,ρ_3,s_4,h',tk,wr',hfr,hnz,off',xg.trans (x_3.weak λa h=>List.mem_append_left _ h),h2▸R'.extG x_3 wrZ off' H_3,hdr▸ac'.extG x_3 (λa h=>⟨wrZ a h,λq=>hnz a h (q▸hDZ)⟩) λm=>R'.hr.offZ D m (List.mem_append_right _ hDZ),rfl,kd⟩
  | turn d_1 is_1 hp loc b hp_2 hst hT ht2 hend =>
   refine wpAny_mono (W.next hst J' R'.hr wrZ) (λr_0 s_3 p=>?_) λ_ _ q=>q.elim
   obtain ⟨v,rfl,p⟩:=p
   refine wpAny_mono p (λ_ s_4 p=>?_) λ_ _ q=>q.elim
   obtain ⟨W',ρ_3,hsub,hnew,x_3,R_3,v_3,J_3⟩:=GoD.facts (J:=J is_1) R' off' p
   refine wpAny_mono (ht.run A ρ_3 _ _ s_4 d_1 v loc Rm R_3 v_3 hT) (λ_ s_5 p=>?_) λ_ _ q=>q.elim
   obtain ⟨hfr',hnz',off_3,g_5,J_5,ac_5,hDm_3⟩:=Dq (J:=J is_1) (λj x h=>W.ext j x h) hDo ownZ hDZ hfr hnz off' xg R' ac' hsub hnew x_3 R_3 J_3 p.1
   refine wpAny_mono (htests.run A ρ_3 _ _ s_5 _ _ Rm p.2 ht2) (λb' s_6 q=>?_) λ_ _ q=>q.elim
   obtain ⟨hb,ρ_6,x_6,H_6⟩:=q
   have R_6:=p.2.next x_6 H_6
   have J_6:=W.ext J_5 x_6 (λ_ h=>ck h)
   have ac_6:=ac_5.ext x_6 (λ_ h=>ck h) hDm_3
   have g_6:=g_5.trans ((x_6.weak gx).toG)
   refine hb.symm▸?_
   rcases hend with ⟨rfl,e⟩ | ⟨rfl,ds_1,σ_2,r_2,hi,hl,hdd⟩
   ·exact ⟨k,Nat.lt_succ_self k,ρ_6,_,is_1,done',r,W',hfr',hnz',off_3,g_6,R_6,J_6,ac_6,hdr,e⟩
   ·have hall:(done'++ds_1)++r_2=done++ds:=by rw [List.append_assoc,hdd]; exact hdr
    have hlen_2:(done'++ds_1).length≤lim:=Nat.le_trans (hall▸(List.length_append (as:=done'++ds_1)).symm▸Nat.le_add_right _ _) hlen
    have hXd:∀a∈D::fx.own,a∈W'++Z∧a∉W':=ri ⟨List.mem_append_right _ hDZ,λm=>hnz' D m hDZ⟩ λa h=>⟨List.mem_append_right _ (ownZ a h),λm=>hnz' a m (ownZ a h)⟩
    exact wpAny_mono (hin.run A ρ_6 _ _ s_6 done' ds_1 σ_2 Rm R_6 ac_6 hlen_2 hi) (λ_ s_7 p=>p.elim λρ_7 p=>⟨k,Nat.lt_succ_self k,ρ_7,σ_2,is_1,done'++ds_1,r_2,W',hfr',hnz',off_3,g_6.trans ((p.1.weak λa h=>List.mem_append_right _ h).toG),p.2.1,W.ext J_6 p.1 hXd,p.2.2,hall,hl⟩) λ_ _ q=>q.elim
theorem uc {step:cy} {T:PyData->bg->Option bg} {tests:BF} {inner:CF} {n:Nat} {is:IS} {σ:St} {r:List PyData×St} (q:dp step T tests inner n is σ=some r):∃x,step is σ.hp=some x:=by
 cases n with
 | zero=>exact al q
 | succ n=>cases vf (ds:=r.1) (σ':=r.2) q with
  | done hp h=>exact ⟨_,h⟩
  | turn d is' hp loc b hp_2 h=>exact ⟨_,h⟩
theorem E8 {S:SF} {L:Nat->IS->CF} {σ:St} {r:List PyData×St} (q:u0 S L σ=some r):∃is n hp,S σ=some ((is,n),hp)∧L n is ⟨σ.loc,hp⟩=some r:=by
 unfold u0 at q
 cases h:S σ with
 | none=>rw [h] at q; exact al q
 | some x=>rw [h] at q; exact ⟨x.1.1,x.1.2,x.2,rfl,q⟩
theorem z0 {wr:List Addr} {G:Nat->Prop} {ρ ρ_1:av} {Z:List Addr} {s s_1 s_2 s':Shared} {ds:List PyData} {σ_1 σ':St} {r:Result} (x_1:Ext [] ρ s ρ_1 s_1) (R_1:SR K fx ρ_1 Z σ_1 s_1) (x_2:Ext [] ρ_1 s_1 ρ_1 s_2) (keep:∀b o,s_1.heap.get? b=some o->s_2.heap.get? b=some o) (hw:∀a∈wr,s_1.heap.get? a=none)
  (hg:∀g,G g->s_1.gens[g]?=none) (hDZ:D∈Z) (p:Cn K fx D wr G ρ_1 Z s_2 ds σ' r s'):r=.ok .next∧Mk K fx D ρ Z s ds σ' s':=by
 obtain ⟨rfl,ρ_3,s_3,h',tk,wr',hfr,hnz,off',xg,R_3,ac_3,rfl,kd⟩:=p
 have hw':∀a∈wr',s_1.heap.get? a=none:=λa h=>(hfr a h).elim (hw a) λh=>dt keep h
 have x_3:Ext (D::fx.own) ρ_1 s_1 ρ_3 s_3:=((x_2.weak gx).toG.trans xg).ext (λa h=>(List.mem_append.mp h).elim (λh=>.inr (hw' a h)) .inl) λg st e h=>al ((hg g h).symm.trans e)
 exact ⟨rfl,ρ_3,(x_1.weak gx).trans (x_3.drop hw' kd),R_3.drop hnz off' R_1.er.ownZ kd,ac_3.drop (λm=>hnz D m hDZ) kd⟩
theorem CIn.nest {elt target iter:Expr} {gens:List Comprehension} {ifs:List Expr} {scope:Scope} {pos:Pos} {d:Nat} {step:cy} {S:SF} {T:PyData->bg->Option bg} {tests:BF} {inner:CF}
  (hg:gens[d+1]?=some ⟨target,iter,ifs,0⟩) (ha:∀g'∈gens,g'.is_async=0) (hi:EvI prog w K fx iter target step S) (ht:As prog w K fx target T) (htests:TrAll prog w K fx ifs tests)
  (hin:CIn prog w K fx D (.ListComp elt gens scope pos) elt gens (d+1) inner) (hDo:D∉fx.own) (hs:∀env x,foldedSetIterable iter env x=pure x:=by intro _ _; rfl) :
  CIn prog w K fx D (.ListComp elt gens scope pos) elt gens d (u0 S (dp step T tests inner)):=.mk λA ρ Z σ s done ds σ' Rm R ac hlen q=>by
 refine cps λ_ KK=>?_
 obtain ⟨is,n,hp,e1,q⟩:=E8 q
 refine KK ?_
 unfold i9
 refine hg.symm▸?_
 dsimp only
 refine wpAny_bind (wpAny_mono (hi.run A ρ Z σ s is n hp Rm R e1) (λx s_1 h_1=>?_) λ_ _ q=>q.elim)
 refine wpAny_bind (wpAny_standAt (wpAny_bind (wpAny_of_eq (hs _ x) (wpAny_bind (wpAny_holding (wpAny_mono h_1 (λit s_2 h_2=>?_) λ_ _ q=>q.elim))))))
 refine cps λ_ KK=>?_
 obtain ⟨ρ_1,s_1',wr,G,J,x_1,H_1,x_2,keep,hw,lv,hgn,hJ,W⟩:=h_2
 refine KK ?_
 have R_1:=R.next x_1 H_1
 have R_2:=R_1.more (s':=s_2) hw keep lv
 have ac_2:=(ac.ext x_1 (λ_ h=>ck h) λm=>R.hr.offZ D m ac.inZ).more (Z':=wr++Z) (h':=s_2.heap) (λb hb=>(List.mem_append.mp hb).elim (λm=>.inr (hw b m)) .inl) (List.mem_append_right _ ac.inZ) keep
 have main:=Cb (done:=done) (ds:=ds) (n:=n) hg ha W ht htests hin Rm (R_1.offFresh hw) hDo R_2 hJ (λa h m=>wn R_1 hw m h) R.er.ownZ ac.inZ ac_2 hlen q
 exact wpAny_bind (wpAny_runOwn (h:=none) ((uc q).elim λ_ hstep=>eu hg rfl (codeAny_mono main λr s' p=>(z0 x_1 R_1 x_2 keep hw hgn ac.inZ p).1▸wpAny_pure (z0 x_1 R_1 x_2 keep hw hgn ac.inZ p).2) (W.self hstep hJ R_2.hr ⟨rfl,rfl⟩)))
end
noncomputable def Ac (env:Env):List (Str×NameKind)->List (Str×Addr)->List (Str×Addr)
 | [],cs=>cs
 | (n,k)::r,cs=>if k==.free then (match env.cells.lookup n with
  | some c=>Ac env r ((n,c)::cs)
  | none=>Ac env r cs) else Ac env r cs
theorem q9 (env:Env):∀(l:List (Str×NameKind)) (cs:List (Str×Addr)),(∀p∈cs,env.cells.lookup p.1=some p.2)->∀p∈Ac env l cs,env.cells.lookup p.1=some p.2
 | [],cs,h,p,hp=>h p hp
 | (n,k)::r,cs,h,p,hp=>by
  unfold Ac at hp
  split at hp
  ·split at hp
   ·rename_i c hc
    exact q9 env r _ (λq hq=>by rcases List.mem_cons.mp hq with rfl | hq; exact hc; exact h q hq) p hp
   ·exact q9 env r cs h p hp
  ·exact q9 env r cs h p hp
theorem da {env:Env} {l:List (Str×NameKind)} {n:Str} {c:Addr} (h:(Ac env l []).lookup n=some c):env.cells.lookup n=some c :=
 q9 env l [] (λ_ h=>ck h) (n,c) (mem_of_lookup h)
theorem g9 {env:Env} {scope:Scope} (h:scope.names.all (λx=>x.2 != .free||(env.cells.lookup x.1).isSome)=true):closureFor scope env=pure (Ac env scope.names []):=by
 have main:∀(l:List (Str×NameKind)) (cs:List (Str×Addr)),l.all (λx=>x.2 != .free||(env.cells.lookup x.1).isSome)=true ->
   (forIn l cs λx r=>do
    let cs:=r
    match x with
    | (name,kind)=>if (kind==NameKind.free)=true then do let c ← cellOf env name; pure (ForInStep.yield ((name,c)::cs)) else pure (ForInStep.yield cs):Sem (List (Str×Addr)))=pure (Ac env l cs):=by
  intro l
  induction l with
  | nil=>intro cs _; rfl
  | cons x l ih =>
   intro cs hall
   obtain ⟨n,k⟩:=x
   rw [List.all_cons,Bool.and_eq_true] at hall
   rw [List.forIn_cons]
   unfold Ac
   by_cases hk:(k==NameKind.free)=true
   ·simp only [hk,if_true]
    have:k=.free:=by simpa using hk
    subst this
    have hs:(env.cells.lookup n).isSome=true:=by simpa using hall.1
    cases hc:env.cells.lookup n with
    | none=>rw [hc] at hs; cases hs
    | some c =>
     unfold cellOf
     simp only [hc,pure_bind]
     exact ih _ hall.2
   ·simp only [hk,if_false,pure_bind,Bool.false_eq_true]
    exact ih _ hall.2
 have:=main scope.names [] h
 simp only [closureFor]
 rw [show (forIn scope.names ([]:List (Str×Addr)) _:Sem (List (Str×Addr)))=_ from this]
 rfl
noncomputable def ms (fx:Fx) (scope:Scope) (vs:List (Nat×Str)) (L:Addr):Fx:=⟨compEnvC scope (Ac fx.env scope.names []) L fx.env,relabel scope fx.env,vs,[L],fx.k⟩
noncomputable def Qr:Option NameKind->Bool
 | some .cell=>true
 | some .free=>true
 | _=>false
noncomputable def ij (fx:Fx) (scope:Scope) (ts:List Nat) (vs:List (Nat×Str)):Bool :=
 scope.names.all (λx=>x.2 != .free||(fx.env.cells.lookup x.1).isSome) &&
 (scope.names.all (λx=>x.2 != .cell) &&
 (scope.names.all (λx=>x.2 != .local||scope.names.lookup x.1==some .local) &&
 (scope.kind==.function &&
 (vs.all (λp=>vs.all λq=>p.2 != q.2||p.1==q.1) &&
 vs.all (λp=>ts.contains p.1||(fx.vars.lookup p.1==some p.2&&(Qr ((relabel scope fx.env).names.lookup p.2)&&(Qr (fx.sc.names.lookup p.2)&&((Ac fx.env scope.names []).lookup p.2).isSome))))))))
noncomputable def jb:List Nat->bg->bg
 | [],l=>l
 | i::r,l=>jb r (l.set i none)
theorem vt:∀(ts:List Nat) (l:bg) (i:Nat) (pv:PV),(jb ts l)[i]?=some (some pv)->i∉ts∧l[i]?=some (some pv)
 | [],l,i,pv,h=>⟨List.not_mem_nil,h⟩
 | t::r,l,i,pv,h=>by
  obtain ⟨h1,h2⟩:=vt r _ i pv h
  rw [List.getElem?_set] at h2
  by_cases q:t=i
  ·rw [if_pos q] at h2
   exact gn h2 λ_ e=>al (b9 e)
  ·rw [if_neg q] at h2
   exact ⟨λm=>(List.mem_cons.mp m).elim (λe=>q e.symm) h1,h2⟩
theorem b5 {α β:Type} [BEq α] [LawfulBEq α]:∀{l:List (α×β)} {a:α} {b:β},l.lookup a=some b->(a,b)∈l
 | (k,v)::r,a,b,h=>by
  rw [List.lookup_cons] at h
  cases hb:a==k with
  | true=>rw [hb] at h; cases h; rw [eq_of_beq hb]; exact List.mem_cons_self
  | false=>rw [hb] at h; exact List.mem_cons_of_mem _ (b5 h)
section
variable {prog:Program} {w:World} {K:Addr->Option Obj} {fx:Fx} {ρ:av} {Z:List Addr} {loc:bg} {s:Shared} {scope:Scope} {ts:List Nat} {vs:List (Nat×Str)} {L:Addr}
theorem yd {env:Env} {m cm:Str->Option Value} {x:Str} {c:Addr} (h:Qr (env.kindOf x)=true) (hl:env.cells.lookup x=some c):cf env m cm x=cm x:=by
 unfold cf
 cases q:env.kindOf x with
 | none=>rw [q] at h; cases h
 | some k=>cases k<;>first | (rw [q] at h; cases h; done) | (simp only [hl]; rfl)
theorem EnvR.comp (R:EnvR fx ρ Z loc s.heap) (chk:ij fx scope ts vs=true) (hn:s.heap.Ns L (λ_=>none)) (hLZ:L∈Z) (hLm:L∉ax ρ) (hLc:∀n c,fx.env.cells.lookup n=some c->c≠L):EnvR (ms fx scope vs L) ρ Z (jb ts loc) s.heap:=by
 unfold ij at chk
 simp only [Bool.and_eq_true] at chk
 refine cps λ_ KK=>?_
 obtain ⟨c1,c2,c3,c4,c5,c6⟩:=chk
 obtain ⟨m,cm,hm,hc,hv⟩:=R.ex
 refine KK ?_
 refine ⟨⟨λ_=>none,cm,hn,λn c e=>hc n c (da e),λi x pv hi hl=>?_⟩,eq_of_beq c4,rfl,λi j x hi hj=>?_,R.glob,R.bi,List.mem_singleton_self _,λa ha=>by rw [List.mem_singleton.mp ha]; exact hLZ,hLm,
  λn c e=>⟨(R.cell n c (da e)).1,hLc n c (da e)⟩,λn n' c e e'=>R.inj n n' c (da e) (da e')⟩
 ·obtain ⟨hts,hl⟩:=vt ts loc i pv hl
  have hm':=b5 hi
  have:=List.all_eq_true.mp c6 _ hm'
  rw [Bool.or_eq_true] at this
  rcases this with h | h
  ·exact absurd (by simpa using h) hts
  ·simp only [Bool.and_eq_true] at h
   refine cps λ_ KK=>?_
   obtain ⟨h1,h2,h3,h4⟩:=h
   have h1:fx.vars.lookup i=some x:=by simpa using h1
   obtain ⟨v,hs,hr⟩:=hv i x pv h1 hl
   refine KK ?_
   cases hcl:(Ac fx.env scope.names []).lookup x with
   | none=>rw [hcl] at h4; cases h4
   | some c =>
    have hc':=da hcl
    have h3':Qr (fx.env.kindOf x)=true:=by unfold Env.kindOf; rw [R.sc]; exact h3
    rw [yd h3' hc'] at hs
    refine ⟨v,?_,hr⟩
    rw [yd (env:=(ms fx scope vs L).env) h2 hcl]
    exact hs
 ·have:=List.all_eq_true.mp (List.all_eq_true.mp c5 _ (b5 hi)) _ (b5 hj)
  simpa using this
end
noncomputable def du (S:SF) (step:cy) (T:PyData->bg->Option bg) (tests:BF) (inner:CF) (ts:List Nat):EF:=λσ=>match S σ with
 | some ((is,n),hp)=>match dp step T tests inner n is ⟨jb ts σ.loc,hp⟩ with
  | some (ds,σ')=>if ds.length≤lim then some (.dat (.list ds),σ'.hp) else none
  | none=>none
 | none=>none
section
variable {prog:Program} {w:World} {K:Addr->Option Obj} {fx:Fx}
inductive CompEnd (K:Addr->Option Obj) (fx:Fx) (ρ:av) (Z:List Addr) (loc:bg) (s:Shared) (ds:List PyData) (hp':List MO) (D L:Addr) (s':Shared):Prop
 | mk (ρ':av):Ext [] ρ s ρ' s'->SR K fx ρ' ([L,D]++Z) ⟨loc,hp'⟩ s'->Acc D ds ρ' ([L,D]++Z) s'.heap->s.heap.get? D=none->s.heap.get? L=none->D≠L->(∃m,s'.heap.Ns L m)->L∉fx.own->n7 fx [L]->n7 fx [L,D]->D∉ax ρ'->CompEnd K fx ρ Z loc s ds hp' D L s'
structure Mu (K:Addr->Option Obj) (fx:Fx) (scope:Scope) (ts:List Nat) (vs:List (Nat×Str)) (wr:List Addr) (J:List Addr->av->List Addr->Shared->Prop) (ρ:av) (Z:List Addr) (σ:St) (D L:Addr) (s_4:Shared):Prop where
 R_4:SR K fx ρ (wr++([L,D]++Z)) σ s_4
 Rc:SR K (ms fx scope vs L) ρ (wr++([L,D]++Z)) ⟨jb ts σ.loc,σ.hp⟩ s_4
 ac:Acc D [] ρ (wr++([L,D]++Z)) s_4.heap
 J_4:J wr ρ (wr++([L,D]++Z)) s_4
 offwc:n7 (ms fx scope vs L) wr
 offDc:n7 (ms fx scope vs L) [D]
 hDo:D∉(ms fx scope vs L).own
 wrnZ:∀a∈wr,a∉[L,D]++Z
 offLD:n7 fx [L,D]
section
variable {scope:Scope} {ts:List Nat} {vs:List (Nat×Str)} {wr Z:List Addr} {ρ ρ_1:av} {σ σ_1 σ':St} {s s_1 s_2 s_4 s':Shared} {D L:Addr} {h_1:Heap} {t_1:Nat} {G:Nat->Prop} {ds:List PyData} {r:Result}
theorem Aq {J:List Addr->av->List Addr->Shared->Prop} (chk:ij fx scope ts vs=true) (R_1:SR K fx ρ_1 Z σ_1 s_1) (hw:∀a∈wr,s_1.heap.get? a=none) (R_2:SR K fx ρ_1 (wr++Z) σ s_2) (lv:∀a∈wr,∃o,s_2.heap.get? a=some o) (hJ:J wr ρ_1 (wr++Z) s_2)
  (hJm:∀{ρ Z Z' s s'},J wr ρ Z s->(∀a∈Z',a∈Z∨s.heap.get? a=none)->(∀b o,s.heap.get? b=some o->s'.heap.get? b=some o)->(∀(g:Nat) (st:GenState),s.gens[g]?=some st->s'.gens[g]?=some st)->J wr ρ Z' s')
  (hDC:D≠L) (old:∀b o,s_2.heap.get? b=some o->h_1.get? b=some o) (hacc:h_1.PlainList D #[]) (hns:h_1.Ns L (λ_=>none)) (freshD:s_2.heap.get? D=none) (freshL:s_2.heap.get? L=none) :
  Mu K fx scope ts vs wr J ρ_1 Z σ D L { s_2 with heap:=h_1,toks:=t_1 }:=by
 have hwn:∀a∈[L,D],s_2.heap.get? a=none:=ip freshL freshD
 have R_4':SR K fx ρ_1 ([L,D]++(wr++Z)) σ { s_2 with heap:=h_1,toks:=t_1 }:=R_2.more hwn old (ip (Ns.live hns) (hacc.elim λn e=>⟨_,e⟩))
 have perm:∀a∈wr++([L,D]++Z),a∈[L,D]++(wr++Z):=λa h=>(List.mem_append.mp h).elim (λh=>List.mem_append_right _ (List.mem_append_left _ h)) λh=>(List.mem_append.mp h).elim (λh=>List.mem_append_left _ h) λh=>List.mem_append_right _ (List.mem_append_right _ h)
 have R_4:SR K fx ρ_1 (wr++([L,D]++Z)) σ { s_2 with heap:=h_1,toks:=t_1 }:=R_4'.weak perm λa h=>List.mem_append_right _ (List.mem_append_right _ (R_1.er.ownZ a h))
 have memL:L∈wr++([L,D]++Z):=List.mem_append_right _ (List.mem_append_left _ (.head _))
 have memD:D∈wr++([L,D]++Z):=List.mem_append_right _ (List.mem_append_left _ (.tail _ (.head _)))
 have offLD:=R_2.offFresh hwn
 have wLD:∀a∈wr,a≠L∧a≠D:=λa h=>(lv a h).elim λo e=>⟨λq=>al (freshL.symm.trans (q▸e)),λq=>al (freshD.symm.trans (q▸e))⟩
 have offw:=R_1.offFresh hw
 refine ⟨R_4,⟨R_4.hr,R_4.er.comp chk hns memL (R_2.hr.fresh freshL).1 λn c e q=>offLD.2 n c e (q▸.head _),R_4.top,R_4.off⟩,⟨⟨#[],[],hacc,.nil,λ_ h=>ck h⟩,memD⟩,hJm hJ (λa h=>?_) old (λ_ _ e=>e),⟨λm=>(wLD L m).1 rfl,λn c e m=>offw.2 n c (da e) m⟩,
  ⟨λm=>hDC (List.mem_singleton.mp m).symm,λn c e m=>offLD.2 n c (da e) (List.mem_singleton.mp m▸.tail _ (.head _))⟩,λm=>hDC (List.mem_singleton.mp m),λa h m=>?_,offLD⟩
 ·exact (List.mem_append.mp h).elim (λh=>.inl (List.mem_append_left _ h)) λh=>(List.mem_append.mp h).elim (λh=>.inr (hwn a h)) λh=>.inl (List.mem_append_right _ h)
 ·exact (List.mem_append.mp m).elim (λm=>(ip (P:=λb=>a=b->False) (wLD a h).1 (wLD a h).2) a m rfl) λm=>wn R_1 hw m h
theorem Gr {J:List Addr->av->List Addr->Shared->Prop} {loc:bg} {hp:List MO} (S:Mu K fx scope ts vs wr J ρ_1 Z ⟨loc,hp⟩ D L s_4) (x_1:Ext [] ρ s ρ_1 s_1) (R_1:SR K fx ρ_1 Z σ_1 s_1) (x_2:Ext [] ρ_1 s_1 ρ_1 s_2) (keep:∀b o,s_1.heap.get? b=some o->s_2.heap.get? b=some o) (x_4:Ext [] ρ_1 s_2 ρ_1 s_4) (old:∀b o,s_2.heap.get? b=some o->s_4.heap.get? b=some o)
  (hw:∀a∈wr,s_1.heap.get? a=none) (hg:∀g,G g->s_1.gens[g]?=none) (hDC:D≠L) (freshD:s_2.heap.get? D=none) (freshL:s_2.heap.get? L=none) (p:Cn K (ms fx scope vs L) D wr G ρ_1 ([L,D]++Z) s_4 ds σ' r s'):r=.ok .next∧CompEnd K fx ρ Z loc s ds σ'.hp D L s':=by
 obtain ⟨rfl,ρ_3,s_3,h',tk,wr',hfr,hnz,off',xg,R_3,ac_3,rfl,kd⟩:=p
 have hw':∀a∈wr',s_1.heap.get? a=none:=λa h=>(hfr a h).elim (hw a) λh=>dt keep (dt old h)
 have fD:=dt keep freshD
 have fL:=dt keep freshL
 have memD':D∈wr'++([L,D]++Z):=List.mem_append_right _ (List.mem_append_left _ (.tail _ (.head _)))
 have mLD:∀a∈D::(ms fx scope vs L).own,a∈[L,D]:=ri (.tail _ (.head _)) (c8 (.head _))
 have x_3:Ext [] ρ_1 s_1 ρ_3 s_3:=((x_2.trans x_4).weak (Y:=wr'++D::(ms fx scope vs L).own) gx |>.toG.trans xg).ext (λa h=>.inr ((List.mem_append.mp h).elim (hw' a) λh=>ri (P:=λa=>s_1.heap.get? a=none) fD (c8 fL) a (show a∈[D,L] from h))) λg st e h=>al ((hg g h).symm.trans e)
 have offw':n7 fx wr':=R_1.offFresh hw'
 have offX:n7 fx (wr'++D::(ms fx scope vs L).own):=⟨λm=>(List.mem_append.mp m).elim offw'.1 λm=>S.offLD.1 (mLD _ m),λn c e m=>(List.mem_append.mp m).elim (offw'.2 n c e) λm=>S.offLD.2 n c e (mLD _ m)⟩
 have Ro:SR K fx ρ_3 (wr'++([L,D]++Z)) ⟨loc,σ'.hp⟩ s_3:=S.R_4.extZ xg (λa h=>(List.mem_append.mp h).elim (λh=>List.mem_append_left _ h) λh=>List.mem_append_right _ (List.mem_append_left _ (mLD a h))) offX
  (λa h=>(List.mem_append.mp h).elim (λh=>(hfr a h).imp_left λh=>List.mem_append_left _ h) λh=>.inl (List.mem_append_right _ h)) (λa h=>List.mem_append_right _ (List.mem_append_right _ (R_1.er.ownZ a h))) R_3.hr
 obtain ⟨m,_,hn,_⟩:=R_3.er.ex
 have back:∀{a},s_1.heap.get? a=none->s.heap.get? a=none:=λ{a} n=>by
  cases q:s.heap.get? a with
  | none=>rfl
  | some o=>exact (x_1.live a o q).elim λo1 e=>al (n.symm.trans e)
 exact ⟨rfl,ρ_3,x_1.trans (x_3.drop hw' kd),Ro.drop hnz offw' (λa h=>List.mem_append_right _ (R_1.er.ownZ a h)) kd,ac_3.drop (λm=>hnz D m (List.mem_append_left _ (.tail _ (.head _)))) kd,back fD,back fL,hDC,
  ⟨m,Ns.keep (a:=L) hn λo e=>kd L o (λm=>hnz L m (List.mem_append_left _ (.head _))) e⟩,λm=>(R_1.hr.liveZ L (R_1.er.ownZ L m)).elim λo e=>al (fL.symm.trans e),⟨λm=>S.offLD.1 (List.mem_singleton.mp m▸.head _),λn c e m=>S.offLD.2 n c e (List.mem_singleton.mp m▸.head _)⟩,S.offLD,λm=>R_3.hr.offZ D m memD'⟩
end
theorem Ek {S:SF} {step:cy} {T:PyData->bg->Option bg} {tests:BF} {inner:CF} {ts:List Nat} {σ:St} {pv:PV} {hp':List MO} {C:Prop} (q:du S step T tests inner ts σ=some (pv,hp'))
  (k:∀is n hp ds σ',S σ=some ((is,n),hp)->dp step T tests inner n is ⟨jb ts σ.loc,hp⟩=some (ds,σ')->ds.length≤lim->.dat (.list ds)=pv->σ'.hp=hp'->C):C:=by
 unfold du at q
 cases h:S σ with
 | none=>rw [h] at q; exact al q
 | some x =>
  replace q:=h▸q
  dsimp only at q
  cases h2:dp step T tests inner x.1.2 x.1.1 ⟨jb ts σ.loc,x.2⟩ with
  | none=>rw [h2] at q; exact al q
  | some y =>
   replace q:=h2▸q
   exact ay q λhl e=>k x.1.1 x.1.2 x.2 y.1 y.2 h h2 hl (Prod.mk.inj e).1 (Prod.mk.inj e).2
theorem Ip {h h_1:Heap} {o o':Obj} (ho:o={ cls:=.type "list",dict:=none,data:=.seq ([]:List Value).toArray }) (sb:Heap.SameBut (h.push o).objs.size ((h.push o).push o') h_1) :
  h.objs.size≠(h.push o).objs.size∧(∀b o,h.get? b=some o->h_1.get? b=some o)∧h_1.PlainList h.objs.size #[]∧h.get? h.objs.size=none∧h.get? (h.push o).objs.size=none:=by
 subst ho
 have hC:(h.push { cls:=.type "list",dict:=none,data:=.seq ([]:List Value).toArray }).objs.size=h.objs.size+1:=Heap.size_push ..
 have hDC:h.objs.size≠(h.push { cls:=.type "list",dict:=none,data:=.seq ([]:List Value).toArray }).objs.size:=by rw [hC]; exact Nat.ne_of_lt (Nat.lt_succ_self _)
 refine ⟨hDC,λb o e=>sb.extBut b o (by rw [hC]; exact Nat.ne_of_lt (Nat.lt_succ_of_lt (Heap.lt_size e))) (Heap.get?_push_of_some _ (Heap.get?_push_of_some _ e)),⟨_,sb.extBut _ _ hDC (Heap.get?_push_of_some _ (Heap.get?_push_size _ rfl))⟩,Heap.get?_none_of_le (Nat.le_refl _),Heap.get?_none_of_le (by rw [hC]; exact Nat.le_succ _)⟩
theorem oz {elt target iter:Expr} {rest:List Comprehension} {ifs:List Expr} {scope:Scope} {pos:Pos} {step:cy} {S:SF} {T:PyData->bg->Option bg} {tests:BF} {inner:CF} {ts:List Nat} {vs:List (Nat×Str)} {A:Around}
  {use:Option (Value->Sem Unit)} {Q:Value->Shared->Prop} {na:Sem Value} (hna:na=newList [])
  (ha:∀g'∈(⟨target,iter,ifs,0⟩:Comprehension)::rest,g'.is_async=0) (chk:ij fx scope ts vs=true) (hi:EvI prog w K fx iter target step S) (ht:∀L,As prog w K (ms fx scope vs L) target T) (htests:∀L,TrAll prog w K (ms fx scope vs L) ifs tests)
  (hin:∀L D,n7 (ms fx scope vs L) [D]->D∉(ms fx scope vs L).own->CIn prog w K (ms fx scope vs L) D (.ListComp elt (⟨target,iter,ifs,0⟩::rest) scope pos) elt (⟨target,iter,ifs,0⟩::rest) 0 inner)
  (hs:∀env x,foldedSetIterable iter env x=pure x)
  {ρ:av} {Z:List Addr} {σ:St} {s:Shared} {pv:PV} {hp':List MO} (Rm:Room A fx.k) (R:SR K fx ρ Z σ s) (q:du S step T tests inner ts σ=some (pv,hp'))
  (fin:∀ds D L s',pv=.dat (.list ds)->CompEnd K fx ρ Z σ.loc s ds hp' D L s'->compPost (model prog w) A bn use Q (.ref D) L (.ok .next) s') :
  wpAny (model prog w) A (comprehension (.ListComp elt (⟨target,iter,ifs,0⟩::rest) scope pos) scope fx.env (firstIterPos (⟨target,iter,ifs,0⟩::rest) pos) na false (eval iter fx.env) use) Q bn s:=by
 refine hna.symm▸?_
 refine Ek q λis n hp ds σ' e1 e2 hlen hpv hhp=>?_
 have chk':=chk
 unfold ij at chk'
 simp only [Bool.and_eq_true] at chk'
 refine cps λ_ KK=>?_
 obtain ⟨c1,c2,c3,c4,c5,c6⟩:=chk'
 refine KK ?_
 have hcell:∀y∈scope.names,y.2≠.cell:=λy hy=>by simpa using List.all_eq_true.mp c2 y hy
 have hkind:scope.kind=.function:=eq_of_beq c4
 have hnames:∀y∈scope.names,y.2=.local->scope.names.lookup y.1=some .local:=λy hy e=>by
  have:=List.all_eq_true.mp c3 y hy
  simpa [e] using this
 refine wpAny_comprehension_free (use:=use) (cl:=Ac fx.env scope.names []) rfl (hs _) (g9 c1) hkind hnames ?_
 refine wpAny_mono (hi.run A ρ Z σ s is n hp Rm R e1) (λx s_1 h_1=>wpAny_mono h_1 (λit s_2 h_2=>?_) λ_ _ q=>q) λ_ _ q=>q
 refine cps λ_ KK=>?_
 obtain ⟨ρ_1,s_1',wr,G,J,x_1,H_1,x_2,keep,hw,lv,hgn,hJ,W⟩:=h_2
 refine KK ?_
 have R_1:=R.next x_1 H_1
 refine wpAny_newObj_type (wpAny_newFunctionEnv hcell (by intro y hy; simp at hy) (λh_1 hns_1 hsb_1=>?_) hkind)
 refine cps λ_ KK=>?_
 obtain ⟨hDC,old,hacc,freshD,freshL⟩:=Ip rfl hsb_1
 refine KK ?_
 have CS:=Aq (J:=J is) (t_1:=s_2.toks+([]:List (Str×Value)).length) chk R_1 hw (R_1.more hw keep lv) lv hJ (λj a b c=>W.more j a b c) hDC old hacc hns_1 freshD freshL
 have main:=Cb (elt:=elt) (gens:=⟨target,iter,ifs,0⟩::rest) (scope:=scope) (pos:=pos) (d:=0) (iter:=iter) (done:=[]) (ds:=ds) (n:=n) rfl ha W (ht _) (htests _) (hin _ _ CS.offDc CS.hDo) Rm CS.offwc CS.hDo CS.Rc CS.J_4 CS.wrnZ (c8 (List.mem_append_left _ (.head _))) (List.mem_append_left _ (.tail _ (.head _))) CS.ac hlen e2
 exact (uc e2).elim λ_ hstep=>eu rfl rfl (codeAny_mono main λr s' p =>
  have e:=Gr CS x_1 R_1 x_2 keep (Ext.of_keep old) old hw hgn hDC freshD freshL p
  e.1▸fin ds _ _ _ hpv.symm (hhp▸e.2)) (W.self hstep CS.J_4 CS.Rc.hr ⟨rfl,rfl⟩)
theorem CompEnd.off {ρ:av} {Z:List Addr} {s s':Shared} {loc:bg} {σ:St} {ds:List PyData} {hp':List MO} {D L:Addr} (R:SR K fx ρ Z σ s) (C:CompEnd K fx ρ Z loc s ds hp' D L s'):∀a∈[L,D],a∉Z:=by
 obtain ⟨ρ',x,R',ac,fD,fL,_⟩:=C
 exact ip (λm=>(R.hr.liveZ L m).elim λo e=>al (fL.symm.trans e)) λm=>(R.hr.liveZ D m).elim λo e=>al (fD.symm.trans e)
theorem CompEnd.post {ρ:av} {Z:List Addr} {s s':Shared} {loc:bg} {σ:St} {ds:List PyData} {hp':List MO} {D L:Addr} {h':Heap} {t:Nat} (R:SR K fx ρ Z σ s) (C:CompEnd K fx ρ Z loc s ds hp' D L s') (k:∀b o,b≠L->s'.heap.get? b=some o->h'.get? b=some o):Post ρ Z s (.dat (.list ds)) hp' (.ref D) { s' with heap:=h',toks:=t }:=by
 have nZ:=C.off R
 refine cps λ_ KK=>?_
 obtain ⟨ρ',x,R',ac,fD,fL,hDL,_,hLo,offL,offLD,hDm⟩:=C
 obtain ⟨⟨us,as,⟨n,hl⟩,r,qa⟩,hz⟩:=ac
 refine KK ?_
 exact ⟨ρ',x.drop (wr:=[L]) (t:=t) (c8 fL) λb o hb e=>k b o (λq=>hb (q▸.head _)) e,⟨D::as,.list (k D _ hDL hl) rfl rfl rfl rfl (r.keep λb hb o e=>k b o (λm=>(qa b hb).2 (List.mem_append_left _ (m▸.head _))) e),
  ri ⟨hDm,nZ D (.tail _ (.head _))⟩ λa ha=>⟨(qa a ha).1,λm=>(qa a ha).2 (List.mem_append_right _ m)⟩⟩,R'.hr.drop nZ λb o hb e=>k b o (λq=>hb (q▸.head _)) e⟩
theorem Ev.comp {elt target iter:Expr} {rest:List Comprehension} {ifs:List Expr} {scope:Scope} {pos:Pos} {step:cy} {S:SF} {T:PyData->bg->Option bg} {tests:BF} {inner:CF} (ts:List Nat) (vs:List (Nat×Str))
  (chk:ij fx scope ts vs=true) (hi:EvI prog w K fx iter target step S) (ht:∀L,As prog w K (ms fx scope vs L) target T) (htests:∀L,TrAll prog w K (ms fx scope vs L) ifs tests)
  (hin:∀L D,n7 (ms fx scope vs L) [D]->D∉(ms fx scope vs L).own->CIn prog w K (ms fx scope vs L) D (.ListComp elt (⟨target,iter,ifs,0⟩::rest) scope pos) elt (⟨target,iter,ifs,0⟩::rest) 0 inner)
  (ha:((⟨target,iter,ifs,0⟩:Comprehension)::rest).all (λg=>g.is_async==0)=true:=by rfl) (hs:∀env x,foldedSetIterable iter env x=pure x:=by intro _ _; rfl) :
  Ev prog w K fx (.ListComp elt (⟨target,iter,ifs,0⟩::rest) scope pos) (du S step T tests inner ts):=.mk λA ρ Z σ s pv hp' Rm R q=>by
 rw [eval_ListComp]
 refine oz rfl (λg hg=>by simpa using List.all_eq_true.mp ha g hg) chk hi ht htests hin hs Rm R q λds D L s' e C=>?_
 obtain ⟨m,hn⟩:∃m,s'.heap.Ns L m:=by obtain ⟨_,_,_,_,_,_,_,h,_⟩:=C; exact h
 exact ⟨m,hn,λh' sb=>e▸C.post (t:=s'.toks) R λb o hb e=>sb.extBut b o hb e⟩
theorem CompEnd.stored {A:Around} {ρ:av} {Z:List Addr} {s s':Shared} {σ:St} {ds:List PyData} {hp:List MO} {D L:Addr} {i:Nat} {x:Str} {p:Pos} {Q:Unit->Shared->Prop} (hv:fx.vars.lookup i=some x) (ok:br fx x) (R:SR K fx ρ Z σ s) (C:CompEnd K fx ρ Z σ.loc s ds hp D L s')
  (k:∀s_2 m_2,s_2.heap.Ns L m_2->(∀h',(∀b o,b≠L->s_2.heap.get? b=some o->h'.get? b=some o)->PostX K fx ρ Z s .next ⟨σ.loc.set i (some (.dat (.list ds))),hp⟩ .next { s_2 with heap:=h' })->Q () s_2):wpAny (model prog w) A (PySem.assign (.Name x p) fx.env (.ref D)) Q bn s':=by
 have nZ:=C.off R
 refine cps λ_ KK=>?_
 obtain ⟨ρ',x_1,R',ac,fD,fL,hDL,⟨m,hn⟩,hLo,offL,offLD,hDm⟩:=C
 have sub:∀a∈[L]++Z,a∈[L,D]++Z:=λa h=>(List.mem_append.mp h).elim (λh=>List.mem_append_left _ (List.mem_singleton.mp h▸.head _)) λh=>List.mem_append_right _ h
 have R_1:SR K fx ρ' ([L]++Z) ⟨σ.loc,hp⟩ s':=R'.weak sub λa h=>List.mem_append_right _ (R.er.ownZ a h)
 obtain ⟨⟨us,as,⟨n,hl⟩,r,qa⟩,hz⟩:=ac
 refine KK ?_
 have V:VR ρ' ([L]++Z) s'.heap (.dat (.list ds)) (.ref D):=⟨D::as,.list hl rfl rfl rfl rfl r,ri ⟨hDm,λm=>(List.mem_append.mp m).elim (λm=>hDL (List.mem_singleton.mp m)) (nZ D (.tail _ (.head _)))⟩ λa ha=>⟨(qa a ha).1,λm=>(qa a ha).2 (sub a m)⟩⟩
 exact wpAny_assign_Name (R_1.store hv ok V λs_2 x_2 R_2=>k s_2 m (Ns.keep (a:=L) hn λo e=>x_2.heap L o (λq=>R_1.hr.offZ L q (List.mem_append_left _ (.head _))) hLo e) λh' kk =>
  have kw:∀b o,b∉[L]->s_2.heap.get? b=some o->h'.get? b=some o:=λb o hb e=>kk b o (λq=>hb (q▸.head _)) e
  ⟨ρ',((x_1.weak gx).trans x_2).drop (t:=s_2.toks) (wr:=[L]) (c8 fL) kw,R_2.drop (t:=s_2.toks) (wr:=[L]) (c8 (nZ L (.head _))) offL R.er.ownZ kw,rfl⟩)
theorem Ex.assignComp {x:Str} {i:Nat} {p p':Pos} {elt target iter:Expr} {rest:List Comprehension} {ifs:List Expr} {scope:Scope} {pos:Pos} {step:cy} {S:SF} {T:PyData->bg->Option bg} {tests:BF} {inner:CF} (ts:List Nat) (vs:List (Nat×Str))
  (hv:fx.vars.lookup i=some x) (ok:br fx x) (hsw:swapsWith (.ListComp elt (⟨target,iter,ifs,0⟩::rest) scope pos) (some (.Name x p)) p'.line fx.env=pure true)
  (chk:ij fx scope ts vs=true) (hi:EvI prog w K fx iter target step S) (ht:∀L,As prog w K (ms fx scope vs L) target T) (htests:∀L,TrAll prog w K (ms fx scope vs L) ifs tests)
  (hin:∀L D,n7 (ms fx scope vs L) [D]->D∉(ms fx scope vs L).own->CIn prog w K (ms fx scope vs L) D (.ListComp elt (⟨target,iter,ifs,0⟩::rest) scope pos) elt (⟨target,iter,ifs,0⟩::rest) 0 inner)
  (ha:((⟨target,iter,ifs,0⟩:Comprehension)::rest).all (λg=>g.is_async==0)=true:=by rfl) (hs:∀env x,foldedSetIterable iter env x=pure x:=by intro _ _; rfl) :
  Ex prog w K fx (.Assign [.Name x p] (.ListComp elt (⟨target,iter,ifs,0⟩::rest) scope pos) p') (au (du S step T tests inner ts) (c9 i)):=.mk λA ρ Z σ s fl σ' Rm R q=>by
 refine cps λ_ KK=>?_
 obtain ⟨pv,hp,e1,e2⟩:=lz q
 refine KK ?_
 refine (exec_Assign_Name_used _ _ _ _ hsw).symm▸?_
 refine wpAny_bind (wpAny_standAt (wpAny_bind ?_))
 skip
 refine wpAny_bind (wpAny_mono (oz (Q:=λ_ s'=>PostX K fx ρ Z s .next ⟨σ.loc.set i (some pv),hp⟩ .next s') (use:=some (PySem.assign (.Name x p) fx.env)) rfl (λg hg=>by simpa using List.all_eq_true.mp ha g hg) chk hi ht htests hin hs Rm R e1 λds D L s' e C=>?_) (λ_ s' hq=>wpAny_pure (wpAny_pure (PostX.eq e2 hq))) λ_ _ e=>e)
 skip
 exact C.stored hv ok R λs_2 m_2 hn_2 k=>⟨m_2,hn_2,λh' sb=>e▸k h' λb o hb e=>sb.extBut b o hb e⟩
end
end Mine
end
section
open PySem PySem.Calls PySem.W PyProof.Rows open Builtin Builtin.Str Builtin.Int
namespace Mine
noncomputable def MC (env:Env) (o:Expr) (name:Str) (apos:Pos) (args:List Expr) (pos:Pos):Prop :=
 ∃pl:Sem Bool,eval (.Call (.Attribute o name apos) args [] pos) env=(do
   let ov ← eval o env
   standAt apos.atName
   let (f,first) ← holding [ov] (getMethod ov name pl)
   callWith pos f first (backTo pos (starEach args env)) [])
section
variable {prog:Program} {w:World} {K:Addr->Option Obj} {fx:Fx} {A:Around} {s:Shared}
noncomputable def mv:List PyData->Option (List Str)
 | []=>some []
 | .str x::r=>(mv r).map (x::·)
 | _=>none
theorem A1 {h:Heap} {vs:List Value} {ds:List PyData} {as:List Addr} {ss:List Str} (x:RDs h vs ds as) (e:mv ds=some ss):∃ps:List (Str×Tok),vs=strValues ps∧ps.map (·.1)=ss:=by
 revert ss
 refine RDs.ind (Q:=λvs ds _=>∀{ss:List Str},mv ds=some ss->∃ps:List (Str×Tok),vs=strValues ps∧ps.map (·.1)=ss) (λe=>⟨[],rfl,b9 e⟩) (λ{v vs d ds as bs} x _ ih ss e=>?_) x
 cases d with
 | str y =>
  refine cps λ_ KK=>?_
  obtain ⟨m,hm,h2⟩:=Option.map_eq_some_iff.mp (show (mv ds).map (y::·)=some ss from e)
  obtain ⟨ps,hv,hs⟩:=ih hm
  obtain ⟨t,hx,_⟩:=x.str_
  refine KK ?_
  exact ⟨(y,t)::ps,by rw [hx,hv]; rfl,by rw [List.map_cons,hs]; exact h2⟩
 | _=>exact al e
inductive M1 where
 | join | split | count | index
noncomputable def M1.name:M1->Str
 | .join=>"join" | .split=>"split" | .count=>"count" | .index=>"index"
noncomputable def M1.id:M1->String
 | .join=>"str.join" | .split=>"str.split" | .count=>"str.count" | .index=>"str.index"
noncomputable def n5 (x:Str) (l:List PyData):Option PyData:=match mv l with
 | some ss=>if ss.foldl (·+·.length+x.length) 0≤lim∧PyData.strOk (glued x ss)=true∧(glued x ss).cps.size≤lim then some (.str (glued x ss)) else none
 | none=>none
noncomputable def o0 (x y:Str):Option PyData :=
 if x.length≤lim∧(y.length==0)=false then
  if (decide (x.length < y.length)||decide (strKind x < strKind y)) then some (.list [.str x])
  else if (occurrences x y 0 x.length (x.length+1)).isEmpty then some (.list [.str x])
  else if (partsBetween x (occurrences x y 0 x.length (x.length+1)) y.length).length≤lim∧(partsBetween x (occurrences x y 0 x.length (x.length+1)) y.length).all PyData.strOk=true then
   some (.list ((partsBetween x (occurrences x y 0 x.length (x.length+1)) y.length).map .str)) else none
 else none
noncomputable def Hi (x y:Str):Option PyData:=match occurrences x y 0 x.length 1 with
 | i::_=>some (.int i)
 | []=>none
noncomputable def M1.f:M1->PyData->PyData->Option PyData
 | .join,.str x,.list l=>n5 x l
 | .split,.str x,.str y=>o0 x y
 | .count,.str x,.str y=>some (.int (Txt.count x y))
 | .index,.str x,.str y=>Hi x y
 | _,_,_=>none
theorem RDs.strsFrom {h:Heap}:∀(l:List Str) (t:Nat),l.all PyData.strOk=true->RDs h (strsFrom t l) (l.map .str) []
 | [],_,_=>.nil
 | x::r,t,q=>by
  rw [List.all_cons,Bool.and_eq_true] at q
  exact .cons (.str x t q.1) (RDs.strsFrom r (t+1) q.2)
theorem NewD.newList {l:List Value} {ds:List PyData} {t:Nat} {P:Addr->Prop} (r:RDs s.heap l ds []):NewD s (.list ds) P (.ref s.heap.objs.size) { s with toks:=t,heap:=s.heap.push { cls:=.type "list",data:=.seq l.toArray } }:=by
 have k:∀b o,s.heap.get? b=some o->(s.heap.push { cls:=.type "list",data:=.seq l.toArray }).get? b=some o:=λb o e=>Heap.get?_push_of_some _ e
 have n:s.heap.get? s.heap.objs.size=none:=Heap.get?_none_of_le (Nat.le_refl _)
 exact ⟨_,t,s.heap.objs.size::[],rfl,k,.list (Heap.get?_push_size _ rfl) rfl rfl rfl rfl (r.keep λa ha o e=>k a o e),c8 (.inl n),λa ha=>b9 ha▸⟨n,List.not_mem_nil⟩⟩
theorem Dy {x:Str} {l:List PyData} {r:PyData} {C:Prop} (q:n5 x l=some r) (k:∀ss,mv l=some ss->ss.foldl (·+·.length+x.length) 0≤lim∧PyData.strOk (glued x ss)=true∧(glued x ss).cps.size≤lim->.str (glued x ss)=r->C):C:=by
 unfold n5 at q
 cases h:mv l with
 | none=>rw [h] at q; exact al q
 | some ss=>rw [h] at q; exact ay q (k ss h)
theorem kh:lim≤sizeLine:=by show 1048576≤2 ^ 24; decide
theorem Lv {x:Str} {l:List PyData} {r:PyData} {v u:Value} {as bs:List Addr} {P:Addr->Prop} (ra:RD s.heap v (.str x) as) (rb:RD s.heap u (.list l) bs) (q:n5 x l=some r):wpAny (model prog w) A (call (.builtin "str.join") [v,u]) (NewD s r P) bn s:=by
 refine cps λ_ KK=>?_
 obtain ⟨t,e1,_,hx⟩:=ra.str_
 obtain ⟨a,vs,n,bs',e2,_,ho,_,rs⟩:=rb.list_
 refine KK ?_
 refine e1.symm▸e2.symm▸?_
 refine Dy q λss hss hl hr=>?_
 refine cps λ_ KK=>?_
 obtain ⟨ps,hps,hm⟩:=A1 rs hss
 refine KK ?_
 have hvs:vs=(strValues ps).toArray:=hps▸rfl
 refine hr▸?_
 rw [← hm] at hl ⊢
 refine call_meets F.slot_str_join (typeIs_str _ _ _) F.entry_str_join (F.args_str_join_2 _ _) (meets_str_join_list x t a ps ?_) ⟨⟨_,ho,rfl,n,hvs▸rfl⟩,?_⟩
 ·have:(ps.map (·.1)).toArray.foldl (·+·.length+x.length) 0=(ps.map (·.1)).foldl (·+·.length+x.length) 0:=by simp
  refine this.symm▸?_
  exact decide_eq_false (Nat.not_lt.mpr (Nat.le_trans hl.1 kh))
 ·match ps,hl with
  | [],hl=>exact ⟨Nat.le_trans hl.2.2 kh,NewD.val (.str _ _ hl.2.1)⟩
  | [p],hl=>exact NewD.val (.str _ _ hl.2.1)
  | p::p'::r,hl=>exact ⟨Nat.le_trans hl.2.2 kh,NewD.val (.str _ _ hl.2.1)⟩
inductive wv (x y:Str) (r:PyData):Prop
 | few:(decide (x.length < y.length)||decide (strKind x < strKind y))=true->.list [.str x]=r->wv x y r
 | no:(decide (x.length < y.length)||decide (strKind x < strKind y))=false->(y.length==0)=false->(occurrences x y 0 x.length (x.length+1)).isEmpty=true->.list [.str x]=r->wv x y r
 | yes:(decide (x.length < y.length)||decide (strKind x < strKind y))=false->(y.length==0)=false->x.length≤lim->(occurrences x y 0 x.length (x.length+1)).isEmpty=false->(partsBetween x (occurrences x y 0 x.length (x.length+1)) y.length).length≤lim∧(partsBetween x (occurrences x y 0 x.length (x.length+1)) y.length).all PyData.strOk=true ->
  .list ((partsBetween x (occurrences x y 0 x.length (x.length+1)) y.length).map .str)=r->wv x y r
theorem Az {x y:Str} {r:PyData} (q:o0 x y=some r):wv x y r:=by
 refine gn q λhl q=>?_
 cases h1:(decide (x.length < y.length)||decide (strKind x < strKind y)) with
 | true=>exact .few h1 (b9 ((if_pos h1).symm.trans q))
 | false =>
  have q:=(if_neg (h1.symm▸Bool.false_ne_true)).symm.trans q
  cases h2:(occurrences x y 0 x.length (x.length+1)).isEmpty with
  | true=>exact .no h1 hl.2 h2 (b9 ((if_pos h2).symm.trans q))
  | false =>
   have q:=(if_neg (h2.symm▸Bool.false_ne_true)).symm.trans q
   exact ay q λh3 e=>.yes h1 hl.2 hl.1 h2 h3 e
theorem Ih {x y:Str} {r:PyData} {v u:Value} {as bs:List Addr} {P:Addr->Prop} (ra:RD s.heap v (.str x) as) (rb:RD s.heap u (.str y) bs) (q:o0 x y=some r):wpAny (model prog w) A (call (.builtin "str.split") [v,u]) (NewD s r P) bn s:=by
 refine cps λ_ KK=>?_
 obtain ⟨t,e1,_,hx⟩:=ra.str_
 obtain ⟨u,e2,_,_⟩:=rb.str_
 refine KK ?_
 refine e1.symm▸e2.symm▸?_
 cases Az q with
 | few h1 e=>exact e▸call_meets F.slot_str_split (typeIs_str _ _ _) F.entry_str_split (F.args_str_split_2 _ _) (meets_str_split_cannot_occur x y t u h1) (NewD.newList (.cons (.str _ _ hx) .nil))
 | no h1 h0 h2 e=>exact e▸call_meets F.slot_str_split (typeIs_str _ _ _) F.entry_str_split (F.args_str_split_2 _ _) (meets_str_split_not_found x y t u h1 h0 h2) (NewD.newList (.cons (.str _ _ hx) .nil))
 | yes h1 h0 hl h2 h3 e=>exact e▸call_meets F.slot_str_split (typeIs_str _ _ _) F.entry_str_split (F.args_str_split_2 _ _) (meets_str_split_sep x y t u h1 h0 h2 (Nat.le_trans hl kh) (Nat.le_trans h3.1 kh)) (NewD.newList (RDs.strsFrom _ _ h3.2))
theorem Py (m:M1) {d e r:PyData} {v u:Value} {as bs:List Addr} {P:Addr->Prop} (x:RD s.heap v d as) (y:RD s.heap u e bs) (q:m.f d e=some r):wpAny (model prog w) A (call (.builtin m.id) [v,u]) (NewD s r P) bn s:=by
 cases d with
 | str z=>cases m with
  | join=>cases e with
   | list l=>exact Lv x y q
   | _=>exact al q
  | split=>cases e with
   | str z'=>exact Ih x y q
   | _=>exact al q
  | count=>cases e with
   | str z' =>
    refine cps λ_ KK=>?_
    obtain ⟨t,e1,_,hx⟩:=x.str_
    obtain ⟨u,e2,_,_⟩:=y.str_
    refine KK ?_
    refine e1.symm▸e2.symm▸(b9 q)▸?_
    exact call_gives F.slot_str_count (typeIs_str _ _ _) F.entry_str_count (F.args_str_count_2 _ _) (gives_str_count z z' t u) (NewD.val (.int _ _))
   | _=>exact al q
  | index=>cases e with
   | str z' =>
    refine cps λ_ KK=>?_
    obtain ⟨t,e1,_,hx⟩:=x.str_
    obtain ⟨u,e2,_,_⟩:=y.str_
    refine KK ?_
    refine e1.symm▸e2.symm▸?_
    have q:(match occurrences z z' 0 z.length 1 with | i::_=>some (PyData.int i) | []=>none)=some r:=q
    cases ho:occurrences z z' 0 z.length 1 with
    | nil=>rw [ho] at q; exact al q
    | cons i rest =>
     replace q:=ho▸q
     refine (b9 q)▸?_
     exact call_gives F.slot_str_index (typeIs_str _ _ _) F.entry_str_index (F.args_str_index_2 _ _) (gives_str_index z z' t u i rest ho) (NewD.val (.int _ _))
   | _=>exact al q
 | _=>cases m<;>exact al q
noncomputable def jl:PyData->Bool
 | .str _=>true
 | _=>false
theorem A9 {d:PyData} (q:jl d=true):∃x,d=.str x:=by
 cases d with
 | str x=>exact ⟨x,rfl⟩
 | _=>exact absurd q Bool.false_ne_true
theorem J8 (m:M1) {d:PyData} {v:Value} {as:List Addr} {pl:Sem Bool} {Q:Value×List Value->Shared->Prop} (x:RD s.heap v d as) (q:jl d=true) (h:Q (.builtin m.id,[v]) s):wpAny (model prog w) A (getMethod v m.name pl) Q bn s:=by
 obtain ⟨y,hd⟩:=A9 q
 obtain ⟨t,e,_,_⟩:=(hd▸x:RD s.heap v (.str y) as).str_
 rw [e] at h ⊢
 cases m with
 | join=>exact GM.join h
 | split=>exact GM.split h
 | count=>exact GM.count h
 | index=>exact GM.index h
noncomputable def meth1 (m:M1) (Fo Fe:EF):NF:=af Fo λa=>match a with
 | .dat d=>if jl d then af Fe λb=>dw m.f (.dat d) b else λ_=>none
 | _=>λ_=>none
theorem Dl {m:M1} {Fe:EF} {a:PV} {σ:St} {r:PyData×List MO} {C:Prop} (q:(match a with | .dat d=>if jl d then af Fe λb=>dw m.f (.dat d) b else λ_=>none | _=>λ_=>none:NF) σ=some r)
  (k:∀d,a=.dat d->jl d=true->af Fe (λb=>dw m.f (.dat d) b) σ=some r->C):C:=by
 cases a with
 | dat d =>
  have q:(if jl d then af Fe λb=>dw m.f (.dat d) b else λ_=>none:NF) σ=some r:=q
  cases h:jl d with
  | true=>rw [if_pos h] at q; exact k d rfl h q
  | false=>rw [if_neg (h.symm▸Bool.false_ne_true)] at q; exact al q
 | _=>exact al q
theorem EvN.meth1 (m:M1) {o e:Expr} {apos pos:Pos} {Fo Fe:EF} (ho:Ev prog w K fx o Fo) (he:Ev prog w K fx e Fe) (mc:MC fx.env o m.name apos [e] pos) (hs:∀env,starEach [e] env=[(false,eval e env)]:=by intro _; rfl) :
  EvN prog w K fx (.Call (.Attribute o m.name apos) [e] [] pos) (Mine.meth1 m Fo Fe):=.mk λA ρ Z σ s d hp' Rm R q=>by
 obtain ⟨pl,mc⟩:=mc
 refine MethodCall_ (ho.then Rm R q λa va h1 ρ_1 s_1 e1 x_1 v_1 R_1=>Dl e1 λd_0 ha hd e1=>?_) mc
 replace v_1:=ha▸v_1
 obtain ⟨as,ra,qa⟩:=id v_1
 exact J8 m ra hd (callWith_method1 (wpAny_items_cons (he.then Rm R_1 e1 λb vb h2 ρ_2 s_2 e2 x_2 v_2 R_2=>wpAny_items_nil (rq e2 λx y hx hy hd' hh =>
  (VR.ext (Z:=Z) x_2 (λ_ h=>ck h) v_1).elim λas' ra'=>(ft R_2.hr v_2 hy).elim λbs rb =>
  wpAny_mono (Py m (b9 hx▸ra'.1) rb.1 hd') (λv s_3 n=>⟨_,_,λ_=>False,x_1.trans x_2,hh▸R_2.hr,n,λc hc=>hc.elim⟩) λ_ _ q=>q)) (hs _)) (hs _) rfl)
end
theorem RDs.erase {h:Heap} {vs:List Value} {ds:List PyData} {as:List Addr} (r:RDs h vs ds as):∀k,∃bs,RDs h (vs.eraseIdx k) (ds.eraseIdx k) bs∧∀a∈bs,a∈as :=
 RDs.ind (Q:=λvs ds as=>∀k,∃bs,RDs h (vs.eraseIdx k) (ds.eraseIdx k) bs∧∀a∈bs,a∈as) (λk=>⟨[],.nil,λ_ h=>h⟩)
  (λ{v vs d ds as bs} x r ih k=>match k with
   | 0=>⟨bs,r,λa ha=>List.mem_append_right _ ha⟩
   | k+1=>(ih k).elim λcs q=>⟨as++cs,.cons x q.1,λa ha=>(List.mem_append.mp ha).elim (λha=>List.mem_append_left _ ha) λha=>List.mem_append_right _ (q.2 a ha)⟩) r
section
variable {prog:Program} {w:World} {K:Addr->Option Obj} {fx:Fx} {A:Around}
theorem Post.setList {ρ:av} {Z:List Addr} {s:Shared} {hp:List MO} {i:Nat} {r:Addr} {h':Heap} {vs:Array Value} {n:Nat} {ds:List PyData} {as:List Addr} {pv:PV} {v:Value} (H:HR ρ Z hp s.heap) (hi:ρ[i]?=some (r,r)) (sb:Heap.SameBut r s.heap h')
  (e:h'.get? r=some { cls:=.type "list",dict:=none,data:=.seq vs n,slots:=#[] }) (rs:RDs s.heap vs.toList ds as) (q:∀a∈as,a∉ax ρ∧a∉Z) (V:VR ρ Z h' pv v):Post ρ Z s pv (hp.set i (.lst ds)) v { s with heap:=h' }:=by
 have hr:r∈ax ρ:=List.mem_map_of_mem (f:=Prod.snd) (List.mem_of_getElem? hi)
 have k:∀a o,a≠r->s.heap.get? a=some o->h'.get? a=some o:=λa o ha e=>sb.extBut a o ha e
 refine ⟨ρ,⟨⟨[],by simp,λ_ h=>ck h⟩,λb o hb _ e=>k b o (λq=>hb (q▸hr)) e,λb o' e'=>?_,rfl,rfl,λ_ _ e=>e,λh=>h⟩,V,H.set hi k ⟨rfl,_,vs,n,as,e,rfl,rfl,rfl,rfl,rs.keep λa ha o e=>k a o (λm=>(q a ha).1 (m▸hr)) e,q⟩⟩
 by_cases hb:b=r
 ·exact ⟨_,hb▸e⟩
 ·exact ⟨o',k b o' hb e'⟩
theorem jf (f:Array Value->Array Value) (vs:Array Value) (n:Nat):∃n',Obj.mapSeq f { cls:=.type "list",dict:=none,data:=.seq vs n,slots:=#[] }={ cls:=.type "list",dict:=none,data:=.seq (f vs) n',slots:=#[] }:=⟨_,rfl⟩
theorem ix {l:Addr} {o:Obj} {s:Shared} {name:Str} {id:String} {pl:Sem Bool} {Q:Value×List Value->Shared->Prop} (slot:Slot "list" name id) (ty:typeOf (.builtin id)=pure (.type "method_descriptor")) (ho:s.heap.get? l=some o) (hc:o.cls=.type "list") (hd:o.dict=none)
  (h:Q (.builtin id,[.ref l]) s):wpAny (model prog w) A (getMethod (.ref l) name pl) Q bn s :=
 getMethod_builtin ⟨o,ho,hc⟩ PySem.F.plainAttrs_list slot ty (λa e=>by cases e; exact ⟨o,ho,hd⟩) h
theorem HR.list {ρ:av} {Z:List Addr} {h:Heap} {hp:List MO} (H:HR ρ Z hp h) {i:Nat} {l:List PyData} (hl:hp[i]?=some (.lst l)) {r b:Addr} (hr:ρ[i]?=some (r,b)) :
  r=b∧∃vs n as,h.get? r=some { cls:=.type "list",dict:=none,data:=.seq vs n,slots:=#[] }∧RDs h vs.toList l as∧∀a∈as,a∉ax ρ∧a∉Z:=by
 obtain ⟨e,o,vs,n,as,ho,h1,h2,h3,h4,rs,q⟩:=H.lst hl hr
 exact ⟨e,vs,n,as,e▸ye h1 h2 h3 h4▸ho,rs,q⟩
theorem P8 {β:Type} {o:Option MO} {f:List PyData->Option β} {r:β} {C:Prop} (e:(match o with | some (.lst l)=>f l | _=>none)=some r) (k:∀l,o=some (.lst l)->f l=some r->C):C:=by
 cases o with
 | none=>exact al e
 | some mo=>cases mo with
  | lst l=>exact k l rfl e
  | _=>exact al e
noncomputable def Dn (i:Nat):PV->St->Option (PV×List MO):=λb σ=>match b with
 | .dat d=>match σ.hp[i]? with
  | some (.lst l)=>if l.length≤lim then some (.dat .none,σ.hp.set i (.lst (l++[d]))) else none
  | _=>none
 | _=>none
noncomputable def yt (hp:List MO) (i:Nat):Bool:=match hp[i]? with
 | some (.lst _)=>true
 | _=>false
theorem F9 {hp:List MO} {i:Nat} (h:yt hp i=true):∃l,hp[i]?=some (.lst l):=by
 unfold yt at h
 cases e:hp[i]? with
 | none=>rw [e] at h; exact absurd h Bool.false_ne_true
 | some mo =>
  replace h:=e▸h
  cases mo with
  | lst l=>exact ⟨l,rfl⟩
  | _=>exact absurd h Bool.false_ne_true
theorem Ht {i:Nat} {b:PV} {σ:St} {pv:PV} {hp':List MO} {C:Prop} (e:Dn i b σ=some (pv,hp')) (k:∀d l,b=.dat d->σ.hp[i]?=some (.lst l)->l.length≤lim->.dat .none=pv->σ.hp.set i (.lst (l++[d]))=hp'->C):C:=by
 cases b with
 | dat d=>exact P8 e λl hl e=>ay e λhlen e=>k d l rfl hl hlen (Prod.mk.inj e).1 (Prod.mk.inj e).2
 | _=>exact al e
noncomputable def dh (Fo Fe:EF):EF:=af Fo λa σ=>match a with
 | .obj i=>if yt σ.hp i then af Fe (Dn i) σ else none
 | _=>none
theorem zu {ρ ρ_2:av} {Z:List Addr} {s s_2:Shared} {loc:bg} {hp:List MO} {i:Nat} {r:Addr} {l:List PyData} {d:PyData} {v:Value} (R_2:SR K fx ρ_2 Z ⟨loc,hp⟩ s_2) (x:Ext [] ρ s ρ_2 s_2) (hl:hp[i]?=some (.lst l)) (hr_2:ρ_2[i]?=some (r,r)) (hlen:l.length≤lim) (V:VR ρ_2 Z s_2.heap (.dat d) v) :
  wpAny (model prog w) A (call (.builtin "list.append") [.ref r,v]) (Post ρ Z s (.dat .none) (hp.set i (.lst (l++[d])))) bn s_2:=by
 refine cps λ_ KK=>?_
 obtain ⟨_,vs,n,as,ho,rs,qa⟩:=R_2.hr.list hl hr_2
 obtain ⟨bs,rb,qb⟩:=V
 refine KK ?_
 have e3:=rs.length
 replace e3:=Array.length_toList▸e3
 exact wpAny_list_append_plain (hsz:=e3.symm▸Nat.le_trans hlen (by decide)) ⟨n,ho⟩ λh' hl' sb=>hl'.elim λn' hl'=>Post.trans x (Post.setList (as:=as++(bs++[])) R_2.hr hr_2 sb hl' (Array.toList_push.symm▸rs.append (.cons rb .nil))
  (λa ha=>(List.mem_append.mp ha).elim (qa a) λha=>qb a (by rwa [List.append_nil] at ha)) ⟨[],.none,λ_ h=>ck h⟩)
theorem Ev.append {o e:Expr} {apos pos:Pos} {Fo Fe:EF} (ho:Ev prog w K fx o Fo) (he:Ev prog w K fx e Fe) (mc:MC fx.env o "append" apos [e] pos) (hs:∀env,starEach [e] env=[(false,eval e env)]:=by intro _; rfl) :
  Ev prog w K fx (.Call (.Attribute o "append" apos) [e] [] pos) (dh Fo Fe):=.mk λA ρ Z σ s pv hp' Rm R q=>by
 obtain ⟨pl,mc⟩:=mc
 refine MethodCall_ (ho.then Rm R q λa va h1 ρ_1 s_1 e1 x_1 v_1 R_1=>?_) mc
 cases a with
 | obj i =>
  exact gn e1 λhi e1=>by
   refine cps λ_ KK=>?_
   obtain ⟨l0,hl0⟩:=F9 hi
   obtain ⟨r,b,hr,hv⟩:=v_1
   obtain ⟨hrb,vs0,n0,as0,ho0,_,_⟩:=R_1.hr.list hl0 hr
   refine KK ?_
   replace hr:=hrb.symm▸hr
   refine hv.symm▸?_
   exact ix PySem.F.slot_list_append PySem.F.type_list_append ho0 rfl rfl (callWith_method1 (wpAny_items_cons (he.then Rm R_1 e1 λb vb h2 ρ_2 s_2 e2 x_2 v_2 R_2=>wpAny_items_nil (Ht e2 λd l hd hl hlen hpv hhp =>
    hpv▸hhp▸zu R_2 (x_1.trans x_2) hl (x_2.old hr) hlen (hd▸v_2))) (hs _)) (hs _) rfl)
 | _=>exact al e1
noncomputable def il (i k:Nat) (l:List PyData) (hp:List MO):Option (PV×List MO):=if l.length≤lim then match l[k]? with
 | some d=>some (.dat d,hp.set i (.lst (l.eraseIdx k)))
 | none=>none else none
noncomputable def md (Fo:EF) (first:Bool):EF:=af Fo λa σ=>match a with
 | .obj i=>match σ.hp[i]? with
  | some (.lst l)=>il i (if first then 0 else l.length - 1) l σ.hp
  | _=>none
 | _=>none
theorem En {i k:Nat} {l:List PyData} {hp:List MO} {pv:PV} {hp':List MO} {C:Prop} (e:il i k l hp=some (pv,hp')) (c:∀d,l.length≤lim->l[k]?=some d->.dat d=pv->hp.set i (.lst (l.eraseIdx k))=hp'->C):C:=by
 refine gn e λhl e=>?_
 have e:(match l[k]? with | some d=>some (PV.dat d,hp.set i (.lst (l.eraseIdx k))) | none=>none)=some (pv,hp'):=e
 cases h:l[k]? with
 | none=>rw [h] at e; exact al e
 | some d=>rw [h] at e; exact c d hl h (cq e).1 (cq e).2
theorem Ax (vs:Array Value) (k:Nat):(vs.eraseIdxIfInBounds k).toList=vs.toList.eraseIdx k:=by
 rw [Array.eraseIdxIfInBounds]
 by_cases h:k < vs.size
 ·rw [dif_pos h,Array.toList_eraseIdx]
 ·rw [dif_neg h,List.eraseIdx_of_length_le (by rw [Array.length_toList]; exact Nat.le_of_not_lt h)]
theorem Post.pop {ρ:av} {Z:List Addr} {s:Shared} {hp hp':List MO} {i k:Nat} {r:Addr} {vs:Array Value} {n:Nat} {l:List PyData} {as:List Addr} {pv:PV} (H:HR ρ Z hp s.heap) (hi:ρ[i]?=some (r,r))
  (ho:s.heap.get? r=some { cls:=.type "list",dict:=none,data:=.seq vs n,slots:=#[] }) (rs:RDs s.heap vs.toList l as) (q:∀a∈as,a∉ax ρ∧a∉Z) (e:il i k l hp=some (pv,hp')) :
  ∃y,vs[k]?=some y∧Post ρ Z s pv hp' y { s with heap:=s.heap.update r (Obj.mapSeq λxs=>xs.eraseIdxIfInBounds k) }:=En e λd _ hd hpv hhp=>by
 refine cps λ_ KK=>?_
 obtain ⟨y,bs,hy,ry,qy⟩:=rs.get k d hd
 rw [Array.getElem?_toList] at hy
 obtain ⟨n',hm⟩:=jf (λxs=>xs.eraseIdxIfInBounds k) vs n
 have hr:r∈ax ρ:=List.mem_map_of_mem (f:=Prod.snd) (List.mem_of_getElem? hi)
 have sb:Heap.SameBut r s.heap (s.heap.update r (Obj.mapSeq λxs=>xs.eraseIdxIfInBounds k)):=Heap.SameBut.update ..
 have e':(s.heap.update r (Obj.mapSeq λxs=>xs.eraseIdxIfInBounds k)).get? r=some { cls:=.type "list",dict:=none,data:=.seq (vs.eraseIdxIfInBounds k) n',slots:=#[] }:=by
  rw [Heap.get?_update_self _ ho (by rw [hm]; rfl),hm]
 obtain ⟨cs,rc,qc⟩:=rs.erase k
 refine KK ?_
 exact ⟨y,hy,hpv▸hhp▸Post.setList H hi sb e' (by rw [Ax]; exact rc) (λa ha=>q a (qc a ha)) ⟨bs,ry.keep λa ha o e=>sb.extBut a o (λm=>(q a (qy a ha)).1 (m▸hr)) e,λa ha=>q a (qy a ha)⟩⟩
theorem vv {i k:Nat} {l:List PyData} {hp:List MO} {r:PV×List MO} (e:il i k l hp=some r):l.length≤lim:=gn e λh _=>h
theorem yr {o:Expr} {apos pos:Pos} {args:List Expr} {Fo:EF} {first:Bool} (ho:Ev prog w K fx o Fo) (mc:MC fx.env o "pop" apos args pos) {ρ:av} {Z:List Addr} {σ:St} {s:Shared} {pv:PV} {hp':List MO} (Rm:Room A fx.k) (R:SR K fx ρ Z σ s) (q:md Fo first σ=some (pv,hp')) {Q:Value->Shared->Prop}
  (k:∀r vs n l (s_1:Shared) y i h1 as,s_1.heap.get? r=some { cls:=.type "list",dict:=none,data:=.seq vs n,slots:=#[] }->l.length≤lim->vs.size=l.length->vs[if first then 0 else l.length - 1]?=some y->il i (if first then 0 else l.length - 1) l h1=some (pv,hp')->RDs s_1.heap vs.toList l as ->
   Post ρ Z s pv hp' y { s_1 with heap:=s_1.heap.update r (Obj.mapSeq λxs=>xs.eraseIdxIfInBounds (if first then 0 else l.length - 1)) }->wpAny (model prog w) A (callWith pos (.builtin "list.pop") [.ref r] (backTo pos (starEach args fx.env)) []) Q bn s_1):wpAny (model prog w) A (eval (.Call (.Attribute o "pop" apos) args [] pos) fx.env) Q bn s:=by
 obtain ⟨pl,mc⟩:=mc
 refine MethodCall_ (ho.then Rm R q λa va h1 ρ_1 s_1 e1 x_1 v_1 R_1=>?_) mc
 cases a with
 | obj i =>
  exact P8 e1 λl hl e1=>by
   refine cps λ_ KK=>?_
   obtain ⟨r,b,hr,hv⟩:=v_1
   obtain ⟨hrb,vs,n,as,ho,rs,qa⟩:=R_1.hr.list hl hr
   have e3:=rs.length
   replace e3:=Array.length_toList▸e3
   replace hr:=hrb.symm▸hr
   obtain ⟨y,hy,P⟩:=Post.pop R_1.hr hr ho rs qa e1
   refine KK ?_
   refine hv.symm▸?_
   exact ix PySem.F.slot_list_pop PySem.F.type_list_pop ho rfl rfl (k r vs n l s_1 y i h1 as ho (vv e1) e3 hy e1 rs (Post.trans x_1 P))
 | _=>exact al e1
theorem Post.toks {ρ:av} {Z:List Addr} {s s':Shared} {pv:PV} {hp':List MO} {v:Value} {t:Nat} (p:Post ρ Z s pv hp' v s'):Post ρ Z s pv hp' v { s' with toks:=t } :=
 Exists.elim p λρ' p=>⟨ρ',p.1.trans (Ext.of_keep (h:=s'.heap) λ_ _ e=>e),p.2⟩
theorem Ev.pop0 {o:Expr} {apos pos cp:Pos} {kk:Nat} {Fo:EF} (ho:Ev prog w K fx o Fo) (mc:MC fx.env o "pop" apos [.Constant (.int 0) kk cp] pos) :
  Ev prog w K fx (.Call (.Attribute o "pop" apos) [.Constant (.int 0) kk cp] [] pos) (md Fo true):=.mk λA ρ Z σ s pv hp' Rm R q =>
 yr ho mc Rm R q λr vs n l s_1 y i h1 as ho hl e3 hy e1 rs P=>by
  have hpos:0 < vs.size:=(Array.getElem?_eq_some_iff.mp hy).1
  exact callWith_method1 (wpAny_items_cons (wpAny_Constant_int (wpAny_items_nil (call_meets PySem.F.slot_list_pop ⟨_,ho,rfl⟩ PySem.F.entry_list_pop (PySem.F.args_list_pop_2 _ _) (PySem.MeetsSeq.list_pop_at r vs n 0 s_1.toks 0 y (by decide) (by unfold seqIndex?; simp [hpos]) hy (e3.symm▸Nat.le_trans hl (by decide))) ⟨ho,P.toks⟩))) rfl) rfl rfl
theorem Ev.pop {o:Expr} {apos pos:Pos} {Fo:EF} (ho:Ev prog w K fx o Fo) (mc:MC fx.env o "pop" apos [] pos) :
  Ev prog w K fx (.Call (.Attribute o "pop" apos) [] [] pos) (md Fo false):=.mk λA ρ Z σ s pv hp' Rm R q =>
 yr ho mc Rm R q λr vs n l s_1 y i h1 as ho hl e3 hy e1 rs P =>
  callWith_method0 (call_meets PySem.F.slot_list_pop ⟨_,ho,rfl⟩ PySem.F.entry_list_pop (PySem.F.args_list_pop_1 _) (PySem.MeetsSeq.list_pop_last r vs n y (e3.symm▸hy) (e3.symm▸Nat.le_trans hl (by decide))) ⟨ho,e3.symm▸P⟩)
end
end Mine
end
section
open PySem PySem.Calls PySem.W PyProof.Rows
namespace Mine
noncomputable def FinP (fx:Fx) (ρ:av) (Z:List Addr) (s:Shared) (fl:Fl) (σ':St) (f:Flow) (s':Shared):Prop:=∃ρ',Ext fx.own ρ s ρ' s'∧HR ρ' Z σ'.hp s'.heap∧FlR ρ' Z s'.heap fl f
structure ExsFin (prog:Program) (w:World) (K:Addr->Option Obj) (fx:Fx) (st:List Stmt) (F:XF):Prop where
 run:∀(A:Around) (ρ:av) (Z:List Addr) (σ:St) (s:Shared) (fl:Fl) (σ':St),Room A fx.k->SR K fx ρ (fx.own++Z) σ s->(∀a∈fx.own,a∉Z)->F σ=some (fl,σ') ->
  wpAny (model prog w) A (execs st fx.env) (FinP fx ρ Z s fl σ') bn s
theorem FlR.weak {ρ:av} {Z Z':List Addr} {h:Heap} (hZ:∀a∈Z',a∈Z) {fl:Fl} {f:Flow} (x:FlR ρ Z h fl f):FlR ρ Z' h fl f:=by
 cases fl with
 | ret pv=>exact x.elim λv q=>⟨v,q.1,q.2.weak hZ⟩
 | _=>exact x
theorem PostX.fin {K:Addr->Option Obj} {fx:Fx} {ρ:av} {Z:List Addr} {s s':Shared} {fl:Fl} {σ':St} {f:Flow} (p:PostX K fx ρ (fx.own++Z) s fl σ' f s'):FinP fx ρ Z s fl σ' f s' :=
 p.elim λρ' q=>⟨ρ',q.1,q.2.1.hr.weak λa h=>List.mem_append_right _ h,q.2.2.weak λa h=>List.mem_append_right _ h⟩
theorem FinP.trans {fx:Fx} {ρ ρ_1:av} {Z X:List Addr} {s s_1 s':Shared} {fl:Fl} {σ':St} {f:Flow} (x:Ext X ρ s ρ_1 s_1) (hX:∀a∈X,a∈fx.own) (p:FinP fx ρ_1 Z s_1 fl σ' f s'):FinP fx ρ Z s fl σ' f s':=p.elim λρ' q=>⟨ρ',(x.weak hX).trans q.1,q.2⟩
theorem Exs.fin {prog:Program} {w:World} {K:Addr->Option Obj} {fx:Fx} {st:List Stmt} {F:XF} (h:Exs prog w K fx st F):ExsFin prog w K fx st F:=.mk λA ρ Z σ s fl σ' Rm R _ q =>
 wpAny_mono (h.run A ρ _ σ s fl σ' Rm R q) (λf s' p=>p.fin) λ_ _ q=>q
theorem ExsFin.cons {prog:Program} {w:World} {K:Addr->Option Obj} {fx:Fx} {st:Stmt} {rest:List Stmt} {F G:XF} (h:Ex prog w K fx st F) (k:ExsFin prog w K fx rest G):ExsFin prog w K fx (st::rest) (ah F G):=.mk λA ρ Z σ s fl σ' Rm R ho e =>
 wpAny_execs_cons (tc e (λσ_1 e1 e2=>wpAny_mono (h.run A ρ _ σ s _ _ Rm R e1) (λf s_1 p=>by
  refine cps λ_ KK=>?_
  obtain ⟨ρ_1,x_1,R_1,q⟩:=p
  refine KK ?_
  refine (show f=.next from q).symm▸?_
  exact wpAny_mono (k.run A ρ_1 Z σ_1 s_1 _ _ Rm R_1 ho e2) (λf s_2 p=>p.trans x_1 λ_ h=>h) λ_ _ q=>q) λ_ _ q=>q)
  λe1 hn=>wpAny_mono (h.run A ρ _ σ s _ _ Rm R e1) (λf s_1 p=>by
   have p:=p.fin
   cases fl with
   | next=>exact absurd rfl hn
   | ret pv=>obtain ⟨ρ_1,x_1,R_1,v,hf,r⟩:=p; rw [hf]; exact ⟨ρ_1,x_1,R_1,v,rfl,r⟩
   | brk=>obtain ⟨ρ_1,x_1,R_1,q⟩:=p; rw [show f=.brk from q]; exact ⟨ρ_1,x_1,R_1,rfl⟩
   | cont=>obtain ⟨ρ_1,x_1,R_1,q⟩:=p; rw [show f=.cont from q]; exact ⟨ρ_1,x_1,R_1,rfl⟩) λ_ _ q=>q)
noncomputable def CallP (ρ:av) (Z:List Addr) (s:Shared) (pv:PV) (hp':List MO) (r:Result) (s':Shared):Prop:=match r with | .ok (.ret v)=>Post ρ Z s pv hp' v s' | .ok _=>False | .error e=>bn e s'
structure FnC (prog:Program) (w:World) (K:Addr->Option Obj) (a:Addr) (k:Nat) (G:FnF):Prop where
 run:∀(A:Around) (ρ:av) (Z:List Addr) (hp:List MO) (s:Shared) (ps:List PV) (vs:List Value) (pv:PV) (hp':List MO),Room A k->HR ρ Z hp s.heap->TopOK K s.heap->l4 K ρ Z->VRs ρ Z s.heap ps vs->G ps hp=some (pv,hp') ->
  codeAny (model prog w) A (.call (.ref a) ⟨vs,[]⟩) (CallP ρ Z s pv hp') s
theorem CallP.elim {ρ:av} {Z:List Addr} {s s':Shared} {pv:PV} {hp':List MO} {r:Result} {C:Prop} (p:CallP ρ Z s pv hp' r s') (k:∀v,r=.ok (.ret v)->Post ρ Z s pv hp' v s'->C):C:=by
 cases r with
 | ok f=>cases f with
  | ret v=>exact k v rfl p
  | _=>exact False.elim p
 | error e=>exact False.elim p
theorem FnC.ok {prog:Program} {w:World} {K:Addr->Option Obj} {a:Addr} {k:Nat} {G:FnF} (h:FnC prog w K a k G):FnOK prog w K a k G:=.mk λA ρ Z hp s ps vs pv hp' Rm H top off V q=>wpAny_call (h.run A ρ Z hp s ps vs pv hp' Rm H top off V q)
noncomputable def PV.closed (n:Nat):PV->Bool
 | .dat _=>true
 | .obj i=>decide (i < n)
 | .strm i=>decide (i < n)
 | .objs _ l=>l.all λi=>decide (i < n)
noncomputable def MO.closed (n:Nat):MO->Bool
 | .lst _=>true
 | .ins _ ats=>ats.all λp=>p.2.closed n
 | .cit i _ _=>decide (i < n)
 | .tab _ _=>true
noncomputable def trunc (n:Nat) (pv:PV) (hp:List MO):Option (PV×List MO):=if pv.closed n&&((hp.take n).all (MO.closed n)&&decide (n≤hp.length)) then some (pv,hp.take n) else none
noncomputable def az (ps:List PV) (n:Nat):bg:=ps.map some++List.replicate n none
noncomputable def kq (np N:Nat) (keep:Bool) (B:XF):FnF:=λps hp=>if ps.length==np then match B ⟨az ps N,hp⟩ with
 | some (.ret pv,σ)=>if keep then some (pv,σ.hp) else trunc hp.length pv σ.hp
 | some (.next,σ)=>if keep then some (.dat .none,σ.hp) else trunc hp.length (.dat .none) σ.hp
 | _=>none else none
section
variable {ρ:av} {Z:List Addr} {h:Heap} {n:Nat}
theorem fh {ρ e:av} {i:Nat} {p:Addr×Addr} (hi:i < ρ.length) (h:(ρ++e)[i]?=some p):ρ[i]?=some p:=by rwa [List.getElem?_append_left hi] at h
theorem b8 {e:av} {b:Addr} (h:b∉ax (ρ++e)):b∉ax ρ:=λq=>h (by rw [bo]; exact List.mem_append_left _ q)
theorem ke {e:av} {as:List Addr} (q:∀a∈as,a∉ax (ρ++e)∧a∉Z):∀a∈as,a∉ax ρ∧a∉Z:=λa ha=>⟨b8 (q a ha).1,(q a ha).2⟩
theorem VR.forget {e:av} {p:PV} {v:Value} (c:p.closed ρ.length=true) (x:VR (ρ++e) Z h p v):VR ρ Z h p v:=by
 cases p with
 | dat d=>exact x.elim λas q=>⟨as,q.1,ke q.2⟩
 | obj i=>exact x.elim λr q=>q.elim λb q=>⟨r,b,fh (of_decide_eq_true c) q.1,q.2⟩
 | strm i=>exact x.elim λr q=>q.elim λb q=>q.elim λa q=>q.elim λfs q=>⟨r,b,a,fs,fh (of_decide_eq_true c) q.1,q.2.1,q.2.2.1,ke q.2.2.2⟩
 | objs lst l =>
  obtain ⟨a,o,vs,n,e,ho,h1,h2,h3,h4,h5,h6⟩:=x
  exact ⟨a,o,vs,n,e,ho,h1,h2,h3,λj i hj=>(h4 j i hj).elim λx q=>q.elim λy q=>⟨x,y,q.1,fh (of_decide_eq_true (List.all_eq_true.mp c i (List.mem_of_getElem? hj))) q.2⟩,b8 h5,h6⟩
theorem MR.forget {e:av} {r b:Addr} {mo:MO} (c:mo.closed ρ.length=true) (x:MR (ρ++e) Z h r b mo):MR ρ Z h r b mo:=by
 cases mo with
 | lst l =>
  obtain ⟨hr,o,vs,n,as,ho,h1,h2,h3,h4,rs,q⟩:=x
  exact ⟨hr,o,vs,n,as,ho,h1,h2,h3,h4,rs,ke q⟩
 | ins C ats =>
  obtain ⟨hr,hz,o,mA,ho,h1,h2,h3,h4,h5,h6,h7⟩:=x
  exact ⟨b8 hr,hz,o,mA,ho,h1,h2,h3,h4,h5,λp hp=>(h6 p hp).elim λv q=>⟨v,q.1,q.2.forget (List.all_eq_true.mp c p hp)⟩,h7⟩
 | cit i f dn =>
  obtain ⟨hr,m,t,x,y,h1,h2,h3,h4,h5⟩:=x
  exact ⟨hr,m,t,x,y,fh (of_decide_eq_true c) h1,b8 h2,h3,h4,h5⟩
 | tab _ _=>exact x
theorem Ext.forget {X:List Addr} {e:av} {s s':Shared} (x:Ext X ρ s (ρ++e) s'):Ext X ρ s ρ s':=⟨⟨[],by simp,λ_ h=>ck h⟩,x.heap,x.live,x.drawn,x.os,x.gens,x.bare⟩
theorem Qv {a b c:Bool} {C:Prop} (h:(a&&(b&&c))=true) (k:a=true->b=true->c=true->C):C:=by
 cases a with
 | false=>exact C1 h
 | true=>cases b with
  | false=>exact C1 h
  | true=>exact k rfl rfl h
theorem C7 {n:Nat} {pv pv':PV} {hp hp':List MO} {C:Prop} (e:Mine.trunc n pv hp=some (pv',hp')) (k:pv.closed n=true->(hp.take n).all (MO.closed n)=true->n≤hp.length->pv=pv'->hp.take n=hp'->C):C :=
 ay e λc e=>Qv c λc1 c2 c3=>k c1 c2 (of_decide_eq_true c3) (Prod.mk.inj e).1 (Prod.mk.inj e).2
theorem Post.cut {s s':Shared} {pv:PV} {hp:List MO} {v:Value} (p:Post ρ Z s pv hp v s') (c1:pv.closed ρ.length=true) (c2:(hp.take ρ.length).all (MO.closed ρ.length)=true) (c3:ρ.length≤hp.length):Post ρ Z s pv (hp.take ρ.length) v s':=by
 refine cps λ_ KK=>?_
 obtain ⟨ρ',x,V,H⟩:=p
 obtain ⟨e,he,_⟩:=x.more
 refine KK ?_
 subst he
 exact ⟨ρ,x.forget,V.forget c1,HR.forget (hp':=hp.drop ρ.length) ((congrArg (λl=>HR (ρ++e) Z l s'.heap) (List.take_append_drop ρ.length hp)).mpr H) (by rw [List.length_take]; exact (Nat.min_eq_left c3).symm) λi mo r b hi hm=>hm.forget (List.all_eq_true.mp c2 mo (List.mem_of_getElem? hi))⟩
theorem Post.trunc {s s':Shared} {pv pv':PV} {hp hp_0 hp':List MO} {v:Value} (H0:ρ.length=hp_0.length) (p:Post ρ Z s pv hp v s') (e:trunc hp_0.length pv hp=some (pv',hp')):Post ρ Z s pv' hp' v s' :=
 C7 e λc1 c2 c3 e1 e2=>by
  refine e1▸e2▸?_
  rw [← H0] at c1 c2 c3 ⊢
  exact p.cut c1 c2 c3
theorem Bd {kind:Str->Option NameKind} {x n:Str} {v:Value} {m:Str->Option Value} (h:n≠x):(if kind n=some .local then λy=>if y=n then some v else m y else m) x=m x:=by
 split
 ·exact if_neg λq=>h q.symm
 ·rfl
theorem pg {kind:Str->Option NameKind} {x:Str}:∀(binds:List (Str×Value)) (m:Str->Option Value),(∀p∈binds,p.1≠x)->bindL kind binds m x=m x
 | [],m,_=>rfl
 | p::r,m,h=>(pg r _ λp hp=>h p (List.mem_cons_of_mem _ hp)).trans (Bd (h p (List.mem_cons_self ..)))
theorem Ad {kind:Str->Option NameKind} {x n:Str} {v:Value} {m:Str->Option Value} (h:n≠x):(if kind n=some .local then m else λy=>if y=n then some v else m y) x=m x:=by
 split
 ·rfl
 ·exact if_neg λq=>h q.symm
theorem pi {kind:Str->Option NameKind} {x:Str}:∀(binds:List (Str×Value)) (m:Str->Option Value),(∀p∈binds,p.1≠x)->bindC kind binds m x=m x
 | [],m,_=>rfl
 | p::r,m,h=>(pi r _ λp hp=>h p (List.mem_cons_of_mem _ hp)).trans (Ad (h p (List.mem_cons_self ..)))
theorem xo {f:List (Str×Value)->(Str->Option Value)->Str->Option Value} {st:Str->Value->(Str->Option Value)->Str->Option Value} (hf:∀n v r m,f ((n,v)::r) m=f r (st n v m)) {x:Str} (h1:∀v m,st x v m x=some v) (ho:∀r m,(∀p∈r,p.1≠x)->f r m x=m x) :
  ∀(names:List Str) (vs:List Value) (m:Str->Option Value) (i:Nat) (v:Value),names.Nodup->names[i]?=some x->vs[i]?=some v->f (names.zip vs) m x=some v
 | [],_,_,i,_,_,h,_=>al h
 | n::ns,[],_,i,_,_,_,h=>al h
 | n::ns,u::us,m,0,v,hn,h,h'=>by
  have e:n=x:=b9 h
  have e':u=v:=b9 h'
  subst e
  show f ((n,u)::ns.zip us) m n=_
  rw [hf,ho _ _ λp hp q=>(List.nodup_cons.mp hn).1 (q▸(List.of_mem_zip (a:=p.1) (b:=p.2) hp).1),h1,e']
 | n::ns,u::us,m,i+1,v,hn,h,h'=>(congrFun (hf n u (ns.zip us) m) x).trans (xo hf h1 ho ns us _ i v (List.nodup_cons.mp hn).2 h h')
theorem F0 {kind:Str->Option NameKind} {x:Str} (hk:kind x=some .local) (names:List Str) (vs:List Value) (m:Str->Option Value) (i:Nat) (v:Value):names.Nodup->names[i]?=some x->vs[i]?=some v->bindL kind (names.zip vs) m x=some v :=
 xo (f:=bindL kind) (st:=λn v m=>if kind n=some .local then λy=>if y=n then some v else m y else m) (λ_ _ _ _=>rfl) (λv m=>by rw [if_pos hk,if_pos rfl]) pg names vs m i v
theorem Hd {kind:Str->Option NameKind} {x:Str} (hk:kind x≠some .local) (names:List Str) (vs:List Value) (m:Str->Option Value) (i:Nat) (v:Value):names.Nodup->names[i]?=some x->vs[i]?=some v->bindC kind (names.zip vs) m x=some v :=
 xo (f:=bindC kind) (st:=λn v m=>if kind n=some .local then m else λy=>if y=n then some v else m y) (λ_ _ _ _=>rfl) (λv m=>by rw [if_neg hk,if_pos rfl]) pi names vs m i v
theorem g8:∀(names:List (Str×NameKind)) (n m:Nat) (acc:List (Str×Addr)) (acc':List (Str×Addr)) (x:Str),((acc.lookup x).isSome=(acc'.lookup x).isSome)->((cellsFrom n names acc).lookup x).isSome=((cellsFrom m names acc').lookup x).isSome
 | [],_,_,_,_,_,h=>h
 | (y,k)::r,n,m,acc,acc',x,h=>by
  unfold cellsFrom
  split
  ·exact g8 r _ _ _ _ x (by
    rw [List.lookup_cons,List.lookup_cons]
    cases x==y
    ·exact h
    ·rfl)
  ·exact g8 r _ _ _ _ x h
end
noncomputable def pw (fd:FuncData) (a:Addr) (vs:List (Nat×Str)) (k:Nat) (L:Addr):Fx:=⟨callEnvC fd L a,fd.scope,vs,L::fd.scope.names.filterMap (λx=>(cellsFrom (L+1) fd.scope.names []).lookup x.1),k⟩
theorem ff:∀(names:List (Str×NameKind)) (n:Nat) (acc:List (Str×Addr)) (x:Str) (c:Addr),(x,c)∈cellsFrom n names acc->(∃k,(x,k)∈names)∨(x,c)∈acc
 | [],_,_,_,_,h=>.inr h
 | (y,k)::r,n,acc,x,c,h=>by
  unfold cellsFrom at h
  split at h
  ·rcases ff r _ _ x c h with ⟨k',q⟩ | q
   ·exact .inl ⟨k',List.mem_cons_of_mem _ q⟩
   ·rcases List.mem_cons.mp q with q | q
    ·cases q; exact .inl ⟨k,List.mem_cons_self ..⟩
    ·exact .inr q
  ·rcases ff r _ _ x c h with ⟨k',q⟩ | q
   ·exact .inl ⟨k',List.mem_cons_of_mem _ q⟩
   ·exact .inr q
theorem iv {fd:FuncData} {a L c:Addr} {vs:List (Nat×Str)} {k:Nat} {x:Str} (hk:fd.scope.names.lookup x=some .cell) (h:(pw fd a vs k L).env.cells.lookup x=some c):br (pw fd a vs k L) x:=by
 refine .inr ⟨c,hk,h,List.mem_cons_of_mem _ ?_⟩
 rcases ff _ _ _ x c (mem_of_lookup h) with ⟨k',q⟩ | q
 ·exact List.mem_filterMap.mpr ⟨(x,k'),q,h⟩
 ·exact ck q
noncomputable def Cz (sc:Scope) (names:List Str) (vs:List (Nat×Str)):Bool :=
 sc.kind==.function&&(!sc.isGenerator&&(!sc.isCoroutine&&(
 names.all (λx=>match sc.names.lookup x with
  | some .local=>true
  | some .cell=>((cellsFrom 0 sc.names []).lookup x).isSome
  | _=>false)&&(decide names.Nodup&&(
 vs.all (λp=>vs.all λq=>p.2 != q.2||p.1==q.1) &&
 vs.all (λp=>decide (names.length≤p.1)||names[p.1]?==some p.2))))))
section
variable {prog:Program} {w:World} {K:Addr->Option Obj} {mg mb:Str->Option Value}
theorem Bf {ps:List PV} {n i:Nat} {pv:PV} (h:(az ps n)[i]?=some (some pv)):ps[i]?=some pv:=by
 unfold az at h
 by_cases hi:i < ps.length
 ·replace h:=(List.getElem?_map)▸(List.getElem?_append_left ((List.length_map ..).symm▸hi))▸h
  cases q:ps[i]? with
  | none=>rw [q] at h; exact al h
  | some p=>rw [q] at h; rw [b9 (b9 h)]
 ·replace h:=(List.getElem?_replicate)▸(List.getElem?_append_right ((List.length_map ..).symm▸Nat.le_of_not_lt hi))▸h
  exact ay h λ_ e=>al e
theorem VRs.get {ρ:av} {Z:List Addr} {h:Heap} {ps:List PV} {vs:List Value} (V:VRs ρ Z h ps vs):∀(i:Nat) (p:PV),ps[i]?=some p->∃v,vs[i]?=some v∧VR ρ Z h p v :=
 VRs.rec (motive:=λps vs _=>∀(i:Nat) (p:PV),ps[i]?=some p->∃v,vs[i]?=some v∧VR ρ Z h p v) (λ_ _ e=>al e) (λx _ ih i p e=>match i,e with
  | 0,e=>⟨_,rfl,b9 e▸x⟩
  | i+1,e=>ih i p e) V
theorem Room.deeper {A:Around} {k:Nat} {env:Env} (h:Room A (k+1)):Room (A.deeper env) k :=
 ⟨h.handled,by have:=h.depth; show A.depth+1+k < 900; lia,by have:=h.units; show A.units+3+40*k < 9000; (exact Sh (by assumption) (by decide))⟩
theorem Rf {a b c d e f g:Bool} {C:Prop} (h:(a&&(!b&&(!c&&(d&&(e&&(f&&g))))))=true) (k:a=true->b=false->c=false->d=true->e=true->f=true->g=true->C):C:=by
 simp only [Bool.and_eq_true,Bool.not_eq_true'] at h
 exact k h.1 h.2.1 h.2.2.1 h.2.2.2.1 h.2.2.2.2.1 h.2.2.2.2.2.1 h.2.2.2.2.2.2
theorem Gv {sc:Scope} {x:Str} (h:(match sc.names.lookup x with
  | some .local=>true
  | some .cell=>((cellsFrom 0 sc.names []).lookup x).isSome
  | _=>false)=true):sc.names.lookup x=some .local∨(sc.names.lookup x=some .cell∧∀L,((cellsFrom L sc.names []).lookup x).isSome=true):=by
 cases e:sc.names.lookup x with
 | none=>rw [e] at h; exact C1 h
 | some k =>
  rw [e] at h
  cases k with
  | «local»=>exact .inl rfl
  | cell=>exact .inr ⟨rfl,λL=>by rw [g8 _ L 0 [] [] x rfl]; exact h⟩
  | _=>exact C1 h
noncomputable def Rh (keep:Bool) (n:Nat) (pv:PV) (hp:List MO):Option (PV×List MO):=if keep then some (pv,hp) else trunc n pv hp
theorem J7 {np N:Nat} {keep:Bool} {B:XF} {ps:List PV} {hp:List MO} {pv:PV} {hp':List MO} {C:Prop} (q:kq np N keep B ps hp=some (pv,hp'))
  (k:∀fl pv_1 σ,ps.length=np->B ⟨az ps N,hp⟩=some (fl,σ)->(fl=.ret pv_1∨(fl=.next∧pv_1=.dat .none))->Rh keep hp.length pv_1 σ.hp=some (pv,hp')->C):C:=by
 unfold kq at q
 refine gn q λhl q=>?_
 cases h:B ⟨az ps N,hp⟩ with
 | none=>rw [h] at q; exact al q
 | some x =>
  obtain ⟨fl,σ⟩:=x
  rw [h] at q
  cases fl with
  | ret pv_1=>exact k _ pv_1 σ (eq_of_beq hl) h (.inl rfl) q
  | next=>exact k _ _ σ (eq_of_beq hl) h (.inr ⟨rfl,rfl⟩) q
  | _=>exact al q
theorem FlR.val {ρ:av} {Z:List Addr} {h:Heap} {fl:Fl} {f:Flow} {pv:PV} (e:fl=.ret pv∨(fl=.next∧pv=.dat .none)) (r:FlR ρ Z h fl f):(∃v,f=.ret v∧VR ρ Z h pv v)∨(f=.next∧VR ρ Z h pv .none):=by
 rcases e with rfl | ⟨rfl,rfl⟩
 ·exact .inl r
 ·exact .inr ⟨r,[],.none,λ_ h=>ck h⟩
theorem FnC.of_bodyF {a:Addr} {o:Obj} {fd:FuncData} {body:List Stmt} {names:List Str} {vars:List (Nat×Str)} {k N:Nat} {B:XF} (keep:Bool) (gl:Gl K mg mb) (ho:K a=some o) (hdata:o.data=.func fd) (hbody:fd.body=.stmts body)
  (hcd:∀h,TopOK K h->h.CodeRec fd.code fd.qualname) (hbind:∀vs:List Value,vs.length=names.length->bindArgs fd ⟨vs,[]⟩=pure (names.zip vs)) (hclo:fd.closure=[]) (hg:fd.globals=mainGlobals) (hbi:fd.builtins=builtinsNs)
  (chk:Cz fd.scope names vars=true) (hb:∀L,ExsFin prog w K (pw fd a vars k L) body B):FnC prog w K a (k+1) (kq names.length N keep B):=.mk λA ρ Z hp s ps vs pv hp' Rm H top off V q=>by
 unfold Cz at chk
 refine Rf chk λc1 c2 c3 c4 c5 c6 c7=>?_
 have hk:fd.scope.kind=.function:=eq_of_beq c1
 refine J7 q λfl pv_1 σ_1 hlen hB hfl q=>?_
 have hvl:vs.length=names.length:=V.length.symm.trans hlen
 have kinds:∀x∈names,fd.scope.names.lookup x=some .local∨(fd.scope.names.lookup x=some .cell∧∀L,((cellsFrom L fd.scope.names []).lookup x).isSome=true):=λx hx=>Gv (List.all_eq_true.mp c4 x hx)
 refine codeAny_call_cells (R:=CallP ρ Z s pv hp') (binds:=names.zip vs) (Nat.lt_of_le_of_lt (Nat.le_add_right _ _) (Nat.lt_trans Rm.depth (by decide))) (top a o ho) hdata (gl.lim _ top) (hcd _ top) hbody (hbind vs hvl) hclo (λx hx=>(kinds _ (List.of_mem_zip (a:=x.1) (b:=x.2) hx).1).imp id λh=>⟨h.1,h.2 _⟩) (λs_1 ic=>?_) c3 c2 hk
 obtain ⟨h_1,tk,rfl,kp⟩:=ic.done
 have own_fresh:∀b∈(pw fd a vars k s.heap.objs.size).own,s.heap.get? b=none:=λb hb=>by
  rcases List.mem_cons.mp hb with rfl | hb
  ·exact Heap.get?_none_of_le (Nat.le_refl _)
  ·obtain ⟨p,hp,hl⟩:=List.mem_filterMap.mp hb
   exact Heap.get?_none_of_le (Nat.le_of_lt (ic.above p.1 b (mem_of_lookup hl)))
 have own_off:∀b∈(pw fd a vars k s.heap.objs.size).own,b∉Z:=λb hb q=>by
  obtain ⟨o,e⟩:=H.liveZ b q
  rw [own_fresh b hb] at e; cases e
 have own_live:∀b∈(pw fd a vars k s.heap.objs.size).own,∃o,h_1.get? b=some o:=λb hb=>by
  rcases List.mem_cons.mp hb with rfl | hb
  ·exact Ns.live ic.toInCall.ns
  ·obtain ⟨p,hp,hl⟩:=List.mem_filterMap.mp hb
   obtain ⟨o,e,_⟩:=ic.cell p.1 b hl
   exact ⟨o,e⟩
 have H_1:=H.more (h':=h_1) own_fresh kp own_live
 have fr:∀b∈(pw fd a vars k s.heap.objs.size).own,b∉ax ρ:=λb hb=>(H.fresh (own_fresh b hb)).1
 have cellOwn:∀n c,(cellsFrom (s.heap.objs.size+1) fd.scope.names []).lookup n=some c->c∈(pw fd a vars k s.heap.objs.size).own:=λn c h=>by
  rcases ff _ _ _ n c (mem_of_lookup h) with ⟨k',q⟩ | q
  ·exact List.mem_cons_of_mem _ (List.mem_filterMap.mpr ⟨(n,k'),q,h⟩)
  ·exact ck q
 have er:EnvR (pw fd a vars k s.heap.objs.size) ρ ((pw fd a vars k s.heap.objs.size).own++Z) (az ps N) h_1:=by
  refine ⟨⟨_,_,ic.toInCall.ns,ic.cell,λi x pv hi hl=>?_⟩,hk,rfl,λi j x hi hj=>?_,hg,hbi,List.mem_cons_self ..,λa h=>List.mem_append_left _ h,fr _ (List.mem_cons_self ..),λn c h=>⟨fr _ (cellOwn n c h),λq=>?_⟩,λn n' c h h'=>name_of_addr ic.apart (mem_of_lookup h) (mem_of_lookup h')⟩
  ·have hp:=Bf hl
   obtain ⟨v,hv,hr⟩:=V.get i pv hp
   have hi':i < names.length:=hlen▸(List.getElem?_eq_some_iff.mp hp).1
   have hn:names[i]?=some x:=by
    rcases (Bool.or_eq_true _ _).mp (List.all_eq_true.mp c7 _ (b5 hi)) with h | h
    ·exact absurd (of_decide_eq_true h) (Nat.not_le.mpr hi')
    ·exact eq_of_beq h
   have hx:x∈names:=List.mem_of_getElem? hn
   refine ⟨v,?_,(VR.fresh (Z':=(pw fd a vars k s.heap.objs.size).own++Z) (λb hb=>(List.mem_append.mp hb).elim (λh=>.inr (own_fresh b h)) .inl) hr).keep kp⟩
   have nd:names.Nodup:=of_decide_eq_true c5
   unfold cf
   rcases kinds x hx with e | ⟨e,hs⟩
   ·have e':(pw fd a vars k s.heap.objs.size).env.kindOf x=some .local:=e
    refine e'.symm▸?_
    exact F0 e' names vs _ i v nd hn hv
   ·have e':(pw fd a vars k s.heap.objs.size).env.kindOf x=some .cell:=e
    refine e'.symm▸?_
    obtain ⟨c,hc⟩:=Option.isSome_iff_exists.mp (hs (s.heap.objs.size+1))
    have hc':(pw fd a vars k s.heap.objs.size).env.cells.lookup x=some c:=hc
    show (List.lookup x (pw fd a vars k s.heap.objs.size).env.cells).bind _=_
    refine hc'.symm▸?_
    have e'':(callEnvC fd s.heap.objs.size a).kindOf x=some .cell:=e
    exact Hd (by rw [e'']; decide) names vs _ i v nd hn hv
  ·have:=List.all_eq_true.mp (List.all_eq_true.mp c6 _ (b5 hi)) _ (b5 hj)
   simpa using this
  ·have:=ic.above n c (mem_of_lookup h)
   replace this:=q▸this
   exact Nat.lt_irrefl _ this
 have offZ:∀b,K b≠none->b∉ax ρ∧b∉(pw fd a vars k s.heap.objs.size).own++Z:=λb hb=>⟨(off b hb).1,λm=>(List.mem_append.mp m).elim (λm=>by
  cases e:K b with
  | none=>exact hb e
  | some o=>have:=top b o e; rw [own_fresh b m] at this; cases this) (off b hb).2⟩
 have R:SR K (pw fd a vars k s.heap.objs.size) ρ ((pw fd a vars k s.heap.objs.size).own++Z) ⟨az ps N,hp⟩ { s with heap:=h_1,toks:=tk }:=⟨H_1,er,λb o e=>kp b o (top b o e),offZ⟩
 have x_1:Ext [] ρ s ρ { s with heap:=h_1,toks:=tk }:=Ext.of_keep kp
 refine wpAny_mono ((hb _).run (A.deeper (callEnvC fd s.heap.objs.size a)) ρ _ _ _ _ _ Rm.deeper R own_off hB) (λf s' p=>?_) λ_ _ q=>q.elim
 obtain ⟨ρ',x',H',r⟩:=p
 have fin:∀v,VR ρ' Z s'.heap pv_1 v->Post ρ Z s pv hp' v s':=λv V'=>by
  have P:Post ρ Z s pv_1 σ_1.hp v s':=⟨ρ',((x_1.weak gx).trans x').shrink λb h=>.inr (own_fresh b h),V',H'⟩
  cases keep with
  | true=>exact (cq q).1▸(cq q).2▸P
  | false=>exact P.trunc H.len q
 rcases r.val hfl with ⟨v,e,V'⟩ | ⟨e,V'⟩
 ·rw [e]; exact fin v V'
 ·rw [e]; exact fin .none V'
end
section
variable {prog:Program} {w:World} {K:Addr->Option Obj} {fx:Fx} {mg mb:Str->Option Value} {A:Around}
noncomputable def cz (G:LF) (H:FnF):EF:=λσ=>match G σ with
 | some (ps,hp)=>H ps hp
 | none=>none
theorem Ez {G:LF} {H:FnF} {σ:St} {r:PV×List MO} {C:Prop} (q:cz G H σ=some r) (k:∀ps hp,G σ=some (ps,hp)->H ps hp=some r->C):C:=by
 unfold cz at q
 cases h:G σ with
 | none=>rw [h] at q; exact al q
 | some x=>rw [h] at q; exact k x.1 x.2 h q
theorem Ev.call (gl:Gl K mg mb) {f:Str} {a:Addr} {o:Obj} {fd:FuncData} {e:Expr} {es:List Expr} {pos np:Pos} {G:LF} {H:FnF} {k:Nat} (he:EvL prog w K fx (e::es) G) (hf:FnOK prog w K a k H) (hK:k≤fx.k) (ho:K a=some o) (hdata:o.data=.func fd)
  (hk:fx.sc.names.lookup f=some .globalImplicit) (hg:mg f=some (.ref a)) (hd:(f==("__debug__":Str))=false:=by decide)
  (hs:∀env,starEach (e::es) env=(false,eval e env)::starEach es env:=by intro _; rfl) (hp:∀env,(backTo pos (starEach es env)).any (·.1)=false:=by intro _; rfl) :
  Ev prog w K fx (.Call (.Name f np) (e::es) [] pos) (cz G H):=.mk λA ρ Z σ s pv hp' Rm R q=>by
 refine Ez q λps hp1 e1 q=>?_
 refine Call_ (bp gl R hk (.inl hg) ?_ hd)
 refine callWith_function (o:=o) (fd:=fd) ?_
 have hh:=he.run pos A ρ Z σ s _ _ Rm R e1
 rw [hs] at hh ⊢
 refine evalArgs_plain (wpAny_mono hh (λvs s_1 p=>?_) λ_ _ q=>q)
 refine cps λ_ KK=>?_
 obtain ⟨ρ_1,x_1,V,H_1⟩:=p
 refine KK ?_
 have R_1:=R.next x_1 H_1
 exact ⟨⟨R_1.top a o ho,hdata⟩,wpAny_mono (hf.run A ρ_1 Z hp1 s_1 ps vs pv hp' (Rm.mono hK) H_1 R_1.top R_1.off V q) (λv s_2 p=>p.trans x_1) λ_ _ q=>q⟩
theorem HR.ins {ρ:av} {Z:List Addr} {h:Heap} {hp:List MO} (H:HR ρ Z hp h) {i:Nat} {C:Addr} {ats:List (Nat×PV)} (hi:hp[i]?=some (.ins C ats)) {r b:Addr} (hr:ρ[i]?=some (r,b)):Rd ρ Z h r b C ats:=by
 refine cps λ_ KK=>?_
 obtain ⟨r',b',hr',hm⟩:=H.at_ i _ hi
 obtain ⟨rfl,rfl⟩:=cq (hr.symm.trans hr')
 refine KK ?_
 exact hm
theorem RD.handed {h:Heap} {v d as} (r:RD h v d as):handedOut v=pure v :=
 (RD.ind (h:=h) (P:=λv _ _=>handedOut v=pure v) (Q:=λ_ _ _=>True) rfl (λ_=>rfl) (λ_ _=>rfl) (λ_ _ _=>rfl) (λ_ _ _ _ _ _=>rfl) (λ_ _ _ _=>rfl) trivial λ_ _=>trivial).1 r
theorem VR.handed {ρ:av} {Z:List Addr} {h:Heap} {p:PV} {v:Value} (x:VR ρ Z h p v):handedOut v=pure v:=by
 cases p with
 | dat d=>exact x.elim λas r=>r.1.handed
 | obj i=>obtain ⟨r,b,_,e⟩:=x; rw [e]; rfl
 | strm i=>obtain ⟨r,b,a,fs,_,e,_⟩:=x; rw [e]; rfl
 | objs _ _=>obtain ⟨a,_,_,_,e⟩:=x; rw [e]; rfl
noncomputable def bh (C:Addr) (j:Nat) (a:PV) (σ:St):Option (PV×List MO):=match a with
 | .obj i=>match σ.hp[i]? with
  | some (.ins C' ats)=>if C'=C then match ats.lookup j with
   | some pv=>some (pv,σ.hp)
   | none=>none else none
  | _=>none
 | _=>none
theorem u5 {α:Type} {a:PV} {hp:List MO} {r:α} {f:Nat->Addr->List (Nat×PV)->Option α} {C:Prop} (q:(match a with
 | .obj i=>match hp[i]? with
  | some (.ins C' ats)=>f i C' ats
  | _=>none
 | _=>none)=some r) (k:∀i C' ats,a=.obj i->hp[i]?=some (.ins C' ats)->f i C' ats=some r->C):C:=by
 cases a with
 | obj i =>
  have q:(match hp[i]? with | some (.ins C' ats)=>f i C' ats | _=>none)=some r:=q
  cases h:hp[i]? with
  | none=>rw [h] at q; exact al q
  | some mo=>cases mo with
   | ins C' ats=>rw [h] at q; exact k i C' ats rfl h q
   | _=>rw [h] at q; exact al q
 | _=>exact al q
theorem Fv {α:Type} {o:Option PV} {hp:α} {r:PV×α} {C:Prop} (q:(match o with
   | some pv=>some (pv,hp)
   | none=>none)=some r) (k:∀pv,o=some pv->(pv,hp)=r->C):C:=by
 cases o with
 | none=>exact al q
 | some pv=>exact k pv rfl (b9 q)
theorem Ai {C:Addr} {j:Nat} {a pv:PV} {σ:St} {hp':List MO} {P:Prop} (q:bh C j a σ=some (pv,hp')) (k:∀i ats,a=.obj i->σ.hp[i]?=some (.ins C ats)->ats.lookup j=some pv->hp'=σ.hp->P):P :=
 u5 q λi C' ats ha hi q=>gn q λhC q=>Fv q λp hl e=>k i ats ha (hC▸hi) (hl.trans (congrArg some (Prod.mk.inj e).1)) (Prod.mk.inj e).2.symm
inductive Pv (K:Addr->Option Obj) (ρ:av) (Z:List Addr) (h:Heap) (C r b:Addr) (ats:List (Nat×PV)) (mN:Str->Option Value):Prop
 | mk (o:Obj) (mA:Str->Option Value) (nm q:Str) (N:Addr) (bs:List Value) (sn:List Str) (sub:List Value) (col:Option Bool) (dd:Option Addr) (k0 k1 k2 k3 k5:Option Value):h.get? r=some o->o.cls=.ref C->(∀c,o.data≠.cls c)->o.dict=some b->b≠r->h.Ns1 b mA ->
  (∀p∈ats,∃v,mA (an p.1)=some v∧VR ρ Z h p.2 v)->(∀x,(∀p∈ats,x≠an p.1)->mA x=none)->r∉ax ρ->r∉Z->b∈ax ρ->h.get? C=some (excClassObj nm q C N bs [.type "object"] true sn sub false col dd k0 k1 k2 k3 k5 "object.__new__")->h.Ns N mN->Pv K ρ Z h C r b ats mN
theorem HR.insR {ρ:av} {Z:List Addr} {h:Heap} {hp:List MO} (H:HR ρ Z hp h) (top:TopOK K h) {C:Addr} {mN:Str->Option Value} (cl:fj K C mN) {i:Nat} {ats:List (Nat×PV)} (hi:hp[i]?=some (.ins C ats)) {r b:Addr} (hr:ρ[i]?=some (r,b)):Pv K ρ Z h C r b ats mN:=by
 refine cps λ_ KK=>?_
 obtain ⟨hrm,hrz,o,mA,ho,h1,h2,h3,h4,h5,h6,h7⟩:=H.ins hi hr
 obtain ⟨nm,qn,N,bs,sn,sub,col,dd,k0,k1,k2,k3,k5,hK,hNs⟩:=cl.ex
 refine KK ?_
 exact ⟨o,mA,nm,qn,N,bs,sn,sub,col,dd,k0,k1,k2,k3,k5,ho,h1,h2,h3,h4,h5,h6,h7,hrm,hrz,List.mem_map_of_mem (f:=Prod.snd) (List.mem_of_getElem? hr),top _ _ hK,hNs h top⟩
theorem sj {C:Addr} {mN:Str->Option Value} (cl:fj K C mN) {j:Nat} (hN:mN (an j)=none) (hB:typeLookup (.type "object") (an j)=pure none) {a pv:PV} {va:Value} {ρ:av} {Z:List Addr} {σ:St} {s:Shared} {hp':List MO} (H:HR ρ Z σ.hp s.heap) (top:TopOK K s.heap)
  (V:VR ρ Z s.heap a va) (q:bh C j a σ=some (pv,hp')):wpAny (model prog w) A (getAttr va (an j) true) (λv s'=>hp'=σ.hp∧VR ρ Z s.heap pv v∧s'={ s with toks:=s.toks+1 }) bn s:=by
 refine Ai q λi ats ha hi hl hhp=>?_
 replace V:=ha▸V
 refine cps λ_ KK=>?_
 obtain ⟨r,b,hr,hva⟩:=V
 obtain ⟨o,mA,nm,qn,N,bs,sn,sub,col,dd,k0,k1,k2,k3,k5,ho,h1,h2,h3,h4,h5,h6,h7,hrm,hrz,hbm,hC,hNs⟩:=H.insR top cl hi hr
 obtain ⟨v,hv,hV⟩:=h6 _ (b5 hl)
 refine KK ?_
 refine hva.symm▸?_
 exact load_attr (g:=s.gens) (d:=s.drawn) (t:=s.toks) (os:=s.os) hC hNs cl.ga hN hB ⟨o,ho,h1,h2,.inr ⟨b,h3,h4,h5⟩⟩ hv hV.handed ⟨hhp,hV,rfl⟩
theorem Ev.attr {C:Addr} {mN:Str->Option Value} (cl:fj K C mN) {j:Nat} {x attr:Str} {np pos:Pos} {Fo:EF} (hx:attr=an j) (hN:mN (an j)=none) (hB:typeLookup (.type "object") (an j)=pure none) (ho:Ev prog w K fx (.Name x np) Fo) :
  Ev prog w K fx (.Attribute (.Name x np) attr pos) (af Fo (bh C j)):=.mk λA ρ Z σ s pv hp' Rm R q=>by
 subst hx
 refine Attribute_name (ho.then Rm R q λa va h1 ρ_1 s_1 e1 x_1 v_1 R_1=>?_)
 refine wpAny_mono (sj cl hN hB R_1.hr R_1.top v_1 e1) (λv s_2 p=>?_) λ_ _ q=>q
 rw [p.1,p.2.2]
 exact Post.trans x_1 (Post.of_toks R_1.hr p.2.1)
noncomputable def ez (ats:List (Nat×PV)) (j:Nat) (pv:PV):List (Nat×PV):=(j,pv)::ats.filter λp=>p.1 != j
noncomputable def z8 (C:Addr) (j:Nat) (a pv:PV) (σ:St):Option St:=match a with
 | .obj i=>match σ.hp[i]? with
  | some (.ins C' ats)=>if C'=C∧j≤9∧ats.length≤lim∧ats.all (λp=>decide (p.1≤9))=true then some ⟨σ.loc,σ.hp.set i (.ins C (ez ats j pv))⟩ else none
  | _=>none
 | _=>none
theorem Ng {i j:Nat} (hi:i≤9) (hj:j≤9) (h:an i=an j):i=j:=by
 have:∀i,i≤9->∀j,j≤9->an i=an j->i=j:=by decide +kernel
 exact this i hi j hj h
theorem Ny {a b:Obj} (h1:a.cls=b.cls) (h2:a.data=b.data) (h3:a.slots=b.slots) (h4:a.dict=b.dict):a=b:=by
 cases a; cases b; simp_all
theorem Ei {C:Addr} {j:Nat} {a pv:PV} {σ σ':St} {P:Prop} (q:z8 C j a pv σ=some σ') (k:∀i ats,a=.obj i->σ.hp[i]?=some (.ins C ats)->j≤9->ats.length≤lim->ats.all (λp=>decide (p.1≤9))=true->⟨σ.loc,σ.hp.set i (.ins C (ez ats j pv))⟩=σ'->P):P :=
 u5 q λi C' ats ha hi q=>ay q λhC e=>k i ats ha (hC.1▸hi) hC.2.1 hC.2.2.1 hC.2.2.2 e
theorem Lm {j:Nat} (hj:j≤9) {ρ:av} {Z:List Addr} {h':Heap} {ats:List (Nat×PV)} {mA:Str->Option Value} {pv:PV} {v:Value} (hall:ats.all (λp=>decide (p.1≤9))=true) (U:VR ρ Z h' pv v)
  (h6:∀p∈ats,∃v,mA (an p.1)=some v∧VR ρ Z h' p.2 v) (h7:∀x,(∀p∈ats,x≠an p.1)->mA x=none) :
  (∀p∈ez ats j pv,∃u,(if an p.1=an j then some v else mA (an p.1))=some u∧VR ρ Z h' p.2 u)∧∀x,(∀p∈ez ats j pv,x≠an p.1)->(if x=an j then some v else mA x)=none:=by
 constructor
 ·intro p hp
  rcases List.mem_cons.mp hp with rfl | hp
  ·exact ⟨v,if_pos rfl,U⟩
  ·have hm:=List.mem_filter.mp hp
   exact (h6 p hm.1).elim λu q=>⟨u,(if_neg λq=>ne_of_beq_false (Bool.not_eq_true' _▸hm.2) (Ng (of_decide_eq_true (List.all_eq_true.mp hall p hm.1)) hj q)).trans q.1,q.2⟩
 ·intro x hx
  have hxj:=hx (j,pv) (List.mem_cons_self ..)
  refine (if_neg hxj).symm▸?_
  refine h7 x λp hp=>?_
  by_cases hpj:p.1=j
  ·rw [hpj]; exact hxj
  ·exact hx p (List.mem_cons_of_mem _ (List.mem_filter.mpr ⟨hp,bne_iff_ne.mpr hpj⟩))
theorem t9 {C:Addr} {mN:Str->Option Value} (cl:fj K C mN) {j:Nat} (hN:mN (an j)=none) (hB:typeLookup (.type "object") (an j)=pure none) {a pv:PV} {va v:Value} {ρ:av} {Z:List Addr} {σ σ':St} {s:Shared} (H:HR ρ Z σ.hp s.heap) (top:TopOK K s.heap) (off:l4 K ρ Z)
  (V:VR ρ Z s.heap a va) (U:VR ρ Z s.heap pv v) (q:z8 C j a pv σ=some σ'):wpAny (model prog w) A (setAttr va (an j) v) (λ_ s'=>σ'.loc=σ.loc∧Ext [] ρ s ρ s'∧HR ρ Z σ'.hp s'.heap) bn s:=by
 refine Ei q λi ats ha hi hj hlen hall hσ=>?_
 rw [← hσ]
 rw [ha] at V
 refine cps λ_ KK=>?_
 obtain ⟨r,b,hr,hva⟩:=V
 refine KK ?_
 rw [hva]
 refine cps λ_ KK=>?_
 obtain ⟨o,mA,nm,qn,N,bs,sn,sub,col,dd,k0,k1,k2,k3,k5,ho,h1,h2,h3,h4,h5,h6,h7,hrm,hrz,hbm,hC,hNs⟩:=H.insR top cl hi hr
 refine KK ?_
 have hrC:r≠C:=λq=>by
  rw [q,hC] at ho
  rw [← b9 ho] at h1
  exact nomatch h1
 refine store_attr (g:=s.gens) (d:=s.drawn) (os:=s.os) (ns:=ats.map λp=>an p.1) PySem.F.store_object hC hNs cl.sa hN hB hrC ⟨o,ho,h1,h2,.inr ⟨b,h3,h4,h5⟩⟩ (λh' tk' I' hk hsame=>?_) (λy hy=>?_) (by rw [List.length_map]; exact Nat.le_trans hlen (by decide))
 ·refine cps λ_ KK=>?_
  obtain ⟨o_1,ho_1,s1,s2,s3,s4⟩:=hsame o ho
  refine KK ?_
  have hoo:o_1=o:=Ny s1 s2 s3 ((s4 b h3).trans h3.symm)
  rw [hoo] at ho_1
  have k:∀a o,a≠b->s.heap.get? a=some o->h'.get? a=some o:=λa o' ha e=>by
   by_cases q:a=r
   ·rw [q] at e ⊢
    exact ho_1.trans (ho.symm.trans e)
   ·exact hk a o' q (λo_0 dx e1 e2=>by rw [b9 (ho.symm.trans e1),e2] at h3; rw [b9 h3]; exact ha) e
  have hns:h'.Ns1 b (λy=>if y=an j then some v else mA y):=by
   refine cps λ_ KK=>?_
   obtain ⟨o_2,ho_2,_,_,hdict⟩:=I'
   refine KK ?_
   rw [← b9 (ho_1.symm.trans ho_2)] at hdict
   rcases hdict with ⟨e,_⟩ | ⟨d',e,_,hn⟩
   ·exact al (e.symm.trans h3)
   ·rw [← b9 (e.symm.trans h3)]; exact hn
  have stepV:∀{p:PV} {u:Value},VR ρ Z s.heap p u->VR ρ Z h' p u:=λx=>VR.map (λ_ _ e=>e) (λa o h1 h2 e=>⟨k a o (λq=>h1 (q▸hbm)) e,h1,h2⟩) x
  have hs:=Lm hj hall (stepV U) (λp hp=>(h6 p hp).elim λu q=>⟨u,q.1,stepV q.2⟩) h7
  refine ⟨rfl,⟨⟨[],(List.append_nil _).symm,λ_ h=>ck h⟩,λa o ha _ e=>k a o (λq=>ha (q▸hbm)) e,λa o' e=>?_,rfl,rfl,λ_ _ e=>e,λh=>h⟩,H.set hr k ⟨hrm,hrz,o,_,ho_1,h1,h2,h3,h4,hns,hs.1,hs.2⟩⟩
  by_cases q:a=b
  ·exact hns.elim λob x=>x.elim λ_ x=>x.elim λ_ x=>⟨ob,q▸x.1⟩
  ·exact ⟨o',k a o' q e⟩
 ·refine Classical.byContradiction λhn=>hy (h7 y λp hp e=>hn ?_)
  rw [e]; exact List.mem_map.mpr ⟨p,hp,rfl⟩
noncomputable def em (Fo Fe:EF) (C:Addr) (j:Nat):XF:=au Fe λpv σ=>au Fo (λa σ=>match z8 C j a pv σ with
 | some σ'=>some (.next,σ')
 | none=>none) σ
theorem St.eta {σ:St} {l:bg} (h:σ.loc=l):σ=⟨l,σ.hp⟩:=h▸rfl
theorem wb {o:Option St} {r:Fl×St} {C:Prop} (q:(match o with
 | some σ'=>some (Fl.next,σ')
 | none=>none)=some r) (k:∀σ',o=some σ'->(.next,σ')=r->C):C:=by
 cases o with
 | none=>exact al q
 | some σ'=>exact k σ' rfl (b9 q)
theorem Ex.setAttr {C:Addr} {mN:Str->Option Value} (cl:fj K C mN) {j:Nat} {attr:Str} {o e:Expr} {p p':Pos} {Fo Fe:EF} (hx:attr=an j) (hN:mN (an j)=none) (hB:typeLookup (.type "object") (an j)=pure none) (ho:Ev prog w K fx o Fo) (he:Ev prog w K fx e Fe) (hs:swapsWith e (some (.Attribute o attr p)) p'.line fx.env=pure false) :
  Ex prog w K fx (.Assign [.Attribute o attr p] e p') (em Fo Fe C j):=.mk λA ρ Z σ s fl σ' Rm R q=>by
 subst hx
 refine plainObj_wpAny_Assign_Attribute (he.thenX Rm R q λpv v h1 ρ_1 s_1 e1 x_1 v_1 R_1=>ho.thenX Rm R_1 e1 λa va h2 ρ_2 s_2 e2 x_2 v_2 R_2=>wb e2 λσ_2 hσ e=>?_) hs
 refine wpAny_mono (t9 cl hN hB R_2.hr R_2.top R_2.off v_2 (v_1.ext x_2 gx) hσ) (λ_ s_3 p=>?_) λ_ _ q=>q
 obtain ⟨hl,x_3,H_3⟩:=p
 have R_3:=R_2.next x_3 H_3
 refine PostX.eq (congrArg some e) ⟨ρ_2,((x_1.trans x_2).trans x_3).weak gx,?_,rfl⟩
 rw [show σ_2=⟨σ.loc,σ_2.hp⟩ from St.eta hl]
 exact R_3
end
section
variable {prog:Program} {w:World} {K:Addr->Option Obj} {fx:Fx} {mg mb:Str->Option Value} {A:Around}
noncomputable def p8:Operator->PyData->PyData->Option PyData
 | .Add,.int a,.int b=>some (.int (a+b))
 | .Sub,.int a,.int b=>some (.int (a - b))
 | .Add,.str x,.str y=>if x.cps.size+y.cps.size≤lim then some (.str ⟨⟨x.cps.toList++y.cps.toList⟩⟩) else none
 | _,_,_=>none
theorem Le (x y:Str):x++y=⟨⟨x.cps.toList++y.cps.toList⟩⟩:=by
 show Str.append x y=_
 unfold Str.append
 congr 1
 rw [← Array.toList_inj,Array.toList_append]
theorem I2 {op:Operator} {a b d:PyData} (e:p8 op a b=some d):(op=.Add∧zg (λx y=>.int (x+y)) (λ_ _=>True) a b d)∨(op=.Sub∧zg (λx y=>.int (x - y)) (λ_ _=>True) a b d)∨(op=.Add∧No (λx y=>.str ⟨⟨x.cps.toList++y.cps.toList⟩⟩) (λx y=>x.cps.size+y.cps.size≤lim) a b d):=by
 cases op with
 | Add=>cases a with
  | int x=>cases b with
   | int y=>exact .inl ⟨rfl,x,y,rfl,rfl,trivial,(b9 e).symm⟩
   | _=>exact al e
  | str x=>cases b with
   | str y=>exact ay e λh q=>.inr (.inr ⟨rfl,x,y,rfl,rfl,h,q.symm⟩)
   | _=>exact al e
  | _=>exact al e
 | Sub=>cases a with
  | int x=>cases b with
   | int y=>exact .inr (.inl ⟨rfl,x,y,rfl,rfl,trivial,(b9 e).symm⟩)
   | _=>exact al e
  | _=>exact al e
 | _=>exact al e
theorem Nf {s:Shared} {op:Operator} {a b d:PyData} {va vb:Value} {as bs:List Addr} {P:Addr->Prop} (ra:RD s.heap va a as) (rb:RD s.heap vb b bs) (e:p8 op a b=some d):wpAny (model prog w) A (inplaceOp op va vb) (NewD s d P) bn s:=by
 rcases I2 e with ⟨ho,x,y,h1,h2,_,h3⟩ | ⟨ho,x,y,h1,h2,_,h3⟩ | ⟨ho,x,y,h1,h2,hl,h3⟩<;>rw [ho,h3]<;>rw [h1] at ra<;>rw [h2] at rb
 ·exact RD.int2 (C:=λva vb=>wpAny (model prog w) A (inplaceOp .Add va vb) (NewD s (.int (x+y)) P) bn s) ra rb λt u=>iadd_int (NewD.val (.int _ _))
 ·exact RD.int2 (C:=λva vb=>wpAny (model prog w) A (inplaceOp .Sub va vb) (NewD s (.int (x - y)) P) bn s) ra rb λt u=>isub_int (NewD.val (.int _ _))
 ·refine cps λ_ KK=>?_
  obtain ⟨t,ha,_,hx⟩:=ra.str_
  obtain ⟨u,hb,_,hy⟩:=rb.str_
  refine KK ?_
  refine ha.symm▸hb.symm▸?_
  refine PyProof.Rows.iadd_str (λt' tk=>?_) (Nat.le_trans hl (by decide))
  rw [Le]
  exact NewD.val (.str _ _ (mu hx hy))
theorem Pk {α:Type} {hp:List MO} {op:Operator} {a b:PV} {f:PyData->Option α} {r:α} {C:Prop} (q:(match rd hp a,rd hp b with
  | some x,some y=>match p8 op x y with
   | some d=>f d
   | none=>none
  | _,_=>none)=some r) (k:∀x y d,rd hp a=some x->rd hp b=some y->p8 op x y=some d->f d=some r->C):C:=by
 cases h1:rd hp a with
 | none=>rw [h1] at q; exact al q
 | some x=>cases h2:rd hp b with
  | none=>rw [h1,h2] at q; exact al q
  | some y =>
   replace q:=h2▸h1▸q
   have q:(match p8 op x y with | some d=>f d | none=>none)=some r:=q
   cases h3:p8 op x y with
   | none=>rw [h3] at q; exact al q
   | some d=>rw [h3] at q; exact k x y d h1 h2 h3 q
theorem SR.iop {ρ:av} {Z:List Addr} {σ:St} {s:Shared} (R:SR K fx ρ Z σ s) {op:Operator} {a b:PV} {x y d:PyData} {va vb:Value} (V:VR ρ Z s.heap a va) (U:VR ρ Z s.heap b vb) (hx:rd σ.hp a=some x) (hy:rd σ.hp b=some y) (e:p8 op x y=some d) {Q:Value->Shared->Prop}
  (k:∀v ρ' s',Ext [] ρ s ρ' s'->VR ρ' Z s'.heap (.dat d) v->SR K fx ρ' Z σ s'->Q v s'):wpAny (model prog w) A (inplaceOp op va vb) Q bn s:=by
 refine cps λ_ KK=>?_
 obtain ⟨as,ra,qa⟩:=ft R.hr V hx
 obtain ⟨bs,rb,qb⟩:=ft R.hr U hy
 refine KK ?_
 exact wpAny_mono (Nf (P:=λ_=>False) ra rb e) (λv s_2 n=>(n.post R.hr (λ_ h=>h.elim)).elim λρ_2 p=>k v ρ_2 s_2 p.1 p.2.1 (R.next p.1 p.2.2)) λ_ _ q=>q
noncomputable def ki (i:Nat) (op:Operator) (Fe:EF):XF:=λσ=>match eg σ.loc i with
 | some a=>au Fe (λb σ=>match rd σ.hp a,rd σ.hp b with
  | some x,some y=>match p8 op x y with
   | some d=>some (.next,⟨σ.loc.set i (some (.dat d)),σ.hp⟩)
   | none=>none
  | _,_=>none) σ
 | none=>none
theorem Jp {i:Nat} {op:Operator} {Fe:EF} {σ:St} {r:Fl×St} {C:Prop} (q:ki i op Fe σ=some r) (k:∀a,eg σ.loc i=some a->au Fe (λb σ=>match rd σ.hp a,rd σ.hp b with
  | some x,some y=>match p8 op x y with
   | some d=>some (.next,⟨σ.loc.set i (some (.dat d)),σ.hp⟩)
   | none=>none
  | _,_=>none) σ=some r->C):C:=by
 unfold ki at q
 cases h:eg σ.loc i with
 | none=>rw [h] at q; exact al q
 | some a=>rw [h] at q; exact k a h q
theorem Ex.aug {x:Str} {i:Nat} {p p':Pos} {op:Operator} {e:Expr} {Fe:EF} (hv:fx.vars.lookup i=some x) (ok:br fx x) (he:Ev prog w K fx e Fe) (hd:(x==("__debug__":Str))=false:=by decide) (hd':(x==("__classdict__":Str))=false:=by decide) :
  Ex prog w K fx (.AugAssign (.Name x p) op e p') (ki i op Fe):=.mk λA ρ Z σ s fl σ' Rm R q=>Jp q λa ha q=>by
 refine wpAny_AugAssign_Name ?_
 refine cps λ_ KK=>?_
 obtain ⟨m,cm,hn,hc,hvs⟩:=R.er.ex
 obtain ⟨va,hs,r⟩:=hvs i x _ hv (qt ha)
 refine KK ?_
 have rest:wpAny (model prog w) A (eval e fx.env) (λv s_2=>wpAny (model prog w) A (inplaceOp op va v) (λr s_3=>wpAny (model prog w) A (storeName fx.env x r) (λ_=>PostX K fx ρ Z s fl σ' .next) bn s_3) bn s_2) bn s :=
  he.thenX Rm R q λb vb h1 ρ_1 s_1 e1 x_1 v_1 R_1=>Pk e1 λdx dy d hx hy hd e2=>R_1.iop (r.ext x_1 gx) v_1 hx hy hd λv ρ_2 s_2 x_2 v_2 R_2 =>
   R_2.store hv ok v_2 λs_3 x_3 R_3=>PostX.eq e2 ⟨ρ_2,((x_1.trans x_2).weak gx).trans x_3,R_3,rfl⟩
 rcases mj hs with ⟨hk,hm⟩ | ⟨hk | hk,c,hl,hm⟩
 ·exact wpAny_loadName_local R.er.fn hk hn hm rest
 ·exact wpAny_loadName_cell R.er.fn hk hl (hm▸hc x c hl) rest
 ·exact wpAny_loadName_free R.er.fn hk hl (hm▸hc x c hl) rest hd'
noncomputable def yi (Fo Fe:EF) (C:Addr) (j:Nat) (op:Operator):XF:=au Fo λa σ=>match bh C j a σ with
 | some (old,hp)=>au Fe (λb σ=>match rd σ.hp old,rd σ.hp b with
  | some x,some y=>match p8 op x y with
   | some d=>match z8 C j a (.dat d) σ with
    | some σ'=>some (.next,σ')
    | none=>none
   | none=>none
  | _,_=>none) ⟨σ.loc,hp⟩
 | none=>none
theorem D7 {γ:Type} {o:Option (PV×List MO)} {f:PV->List MO->Option γ} {r:γ} {C:Prop} (q:(match o with
 | some (x,y)=>f x y
 | none=>none)=some r) (k:∀x y,o=some (x,y)->f x y=some r->C):C:=by
 cases o with
 | none=>exact al q
 | some x=>exact k x.1 x.2 rfl q
theorem Ex.augAttr {C:Addr} {mN:Str->Option Value} (cl:fj K C mN) {j:Nat} {attr:Str} {o e:Expr} {p p':Pos} {op:Operator} {Fo Fe:EF} (hx:attr=an j) (hN:mN (an j)=none) (hB:typeLookup (.type "object") (an j)=pure none) (ho:Ev prog w K fx o Fo) (he:Ev prog w K fx e Fe) :
  Ex prog w K fx (.AugAssign (.Attribute o attr p) op e p') (yi Fo Fe C j op):=.mk λA ρ Z σ s fl σ' Rm R q=>by
 subst hx
 refine wpAny_AugAssign_AttributeAny (ho.thenX Rm R q λa va h1 ρ_1 s_1 e1 x_1 v_1 R_1=>D7 e1 λold hp ha e1=>?_)
 refine wpAny_mono (sj cl hN hB R_1.hr R_1.top v_1 ha) (λvo s_2 p=>?_) λ_ _ q=>q
 obtain ⟨hh,V,hs⟩:=p
 replace e1:=hh▸e1
 refine hs.symm▸?_
 have x_2:Ext [] ρ_1 s_1 ρ_1 { s_1 with toks:=s_1.toks+1 }:=Ext.of_keep (h:=s_1.heap) λ_ _ e=>e
 exact he.thenX Rm (R_1.next x_2 R_1.hr) e1 λb vb h2 ρ_3 s_3 e2 x_3 v_3 R_3=>Pk e2 λdx dy d hx hy hd e2=>wb e2 λσ_2 hσ e2=>R_3.iop (V.ext (x_2.trans x_3) gx) v_3 hx hy hd λv ρ_4 s_4 x_4 v_4 R_4 =>
  wpAny_mono (t9 cl hN hB R_4.hr R_4.top R_4.off (((v_1.ext x_2 gx).ext x_3 gx).ext x_4 gx) v_4 hσ) (λ_ s_5 p=>PostX.eq (congrArg some e2) ⟨ρ_4,((((x_1.trans x_2).trans x_3).trans x_4).trans p.2.1).weak gx,(St.eta p.1)▸R_4.next p.2.1 p.2.2,rfl⟩) λ_ _ q=>q
noncomputable def ct (C:Addr) (name:Str) (i:Nat) (hp:List MO):Bool:=match hp[i]? with
 | some (.ins C' ats)=>decide (C'=C)&&ats.all (λp=>decide (name≠an p.1))
 | _=>false
theorem z5 {C:Addr} {name:Str} {i:Nat} {hp:List MO} (h:ct C name i hp=true):∃ats,hp[i]?=some (.ins C ats)∧∀p∈ats,name≠an p.1:=by
 unfold ct at h
 cases e:hp[i]? with
 | none=>rw [e] at h; exact C1 h
 | some mo=>cases mo with
  | ins C' ats =>
   rw [e] at h
   have h:=(Bool.and_eq_true _ _).mp h
   exact ⟨ats,congrArg (λc=>some (MO.ins c ats)) (of_decide_eq_true h.1),λp hp=>of_decide_eq_true (List.all_eq_true.mp h.2 p hp)⟩
  | _=>rw [e] at h; exact C1 h
theorem ly {C:Addr} {mN:Str->Option Value} (cl:fj K C mN) {name:Str} {f:Addr} {of:Obj} {y:Option Value} (hf:mN name=some (.ref f)) (hof:K f=some of) (hfc:of.cls=.type "function") (hB:typeLookup (.type "object") name=pure y)
  {pl:Sem Bool} {i:Nat} {ρ:av} {Z:List Addr} {hp:List MO} {s:Shared} {va:Value} {Q:Value×List Value->Shared->Prop} (H:HR ρ Z hp s.heap) (top:TopOK K s.heap) (V:VR ρ Z s.heap (.obj i) va) (hi:ct C name i hp=true) (hQ:Q (.ref f,[va]) s) :
  wpAny (model prog w) A (getMethod va name pl) Q bn s:=by
 obtain ⟨ats,hi,hne⟩:=z5 hi
 obtain ⟨r,b,hr,hva⟩:=V
 rw [hva] at hQ ⊢
 obtain ⟨o,mA,nm,qn,N,bs,sn,sub,col,dd,k0,k1,k2,k3,k5,ho,h1,h2,h3,h4,h5,h6,h7,hrm,hrz,hbm,hC,hNs⟩:=H.insR top cl hi hr
 exact method_of (g:=s.gens) (d:=s.drawn) (t:=s.toks) (os:=s.os) hC hNs cl.ga cl.gh hf (top _ _ hof) hfc hB ⟨o,ho,h1,h2,.inr ⟨b,h3,h4,h5⟩⟩ (h7 name hne) hQ
noncomputable def ti (Fo:EF) (C:Addr) (name:Str) (G:LF) (H:FnF):EF:=af Fo λa σ=>match a with
 | .obj i=>if ct C name i σ.hp then match G σ with
  | some (ps,hp)=>H (.obj i::ps) hp
  | none=>none else none
 | _=>none
theorem mh {γ:Type} {o:Option (List PV×List MO)} {f:List PV->List MO->Option γ} {r:γ} {C:Prop} (q:(match o with
 | some (x,y)=>f x y
 | none=>none)=some r) (k:∀x y,o=some (x,y)->f x y=some r->C):C:=by
 cases o with
 | none=>exact al q
 | some x=>exact k x.1 x.2 rfl q
theorem Dt {C:Addr} {name:Str} {G:LF} {H:FnF} {a:PV} {σ:St} {r:PV×List MO} {P:Prop} (q:(match a with
 | .obj i=>if ct C name i σ.hp then match G σ with
  | some (ps,hp)=>H (.obj i::ps) hp
  | none=>none else none
 | _=>none)=some r) (k:∀i ps hp,a=.obj i->ct C name i σ.hp=true->G σ=some (ps,hp)->H (.obj i::ps) hp=some r->P):P:=by
 cases a with
 | obj i=>exact gn q λhi q=>mh q λps hp e q=>k i ps hp rfl hi e q
 | _=>exact al q
theorem Ev.meth {C:Addr} {mN:Str->Option Value} (cl:fj K C mN) {name:Str} {f:Addr} {of:Obj} {fd:FuncData} {y:Option Value} {o e:Expr} {es:List Expr} {apos pos:Pos} {Fo:EF} {G:LF} {H:FnF} {k:Nat} (hf:mN name=some (.ref f)) (hof:K f=some of) (hfc:of.cls=.type "function") (hdata:of.data=.func fd)
  (hB:typeLookup (.type "object") name=pure y) (ho:Ev prog w K fx o Fo) (he:EvL prog w K fx (e::es) G) (hH:FnOK prog w K f k H) (hK:k≤fx.k) (mc:MC fx.env o name apos (e::es) pos)
  (hs:∀env,starEach (e::es) env=(false,eval e env)::starEach es env:=by intro _; rfl) :
  Ev prog w K fx (.Call (.Attribute o name apos) (e::es) [] pos) (ti Fo C name G H):=.mk λA ρ Z σ s pv hp' Rm R q=>by
 obtain ⟨pl,mc⟩:=mc
 refine MethodCall_ (ho.then Rm R q λa va h1 ρ_1 s_1 e1 x_1 v_1 R_1=>Dt e1 λi ps hp1 ha hi eG e1=>?_) mc
 replace v_1:=ha▸v_1
 refine ly cl hf hof hfc hB R_1.hr R_1.top v_1 hi ?_
 refine callWith_function (o:=of) (fd:=fd) ?_
 have hh:=he.run pos A ρ_1 Z _ s_1 _ _ Rm R_1 eG
 rw [hs] at hh ⊢
 refine evalArgs_plain (wpAny_mono hh (λvs s_2 p=>?_) λ_ _ q=>q)
 refine cps λ_ KK=>?_
 obtain ⟨ρ_2,x_2,V,H_2⟩:=p
 refine KK ?_
 have R_2:=R_1.next x_2 H_2
 exact ⟨⟨R_2.top f of hof,hdata⟩,wpAny_mono (hH.run A ρ_2 Z hp1 s_2 (.obj i::ps) (va::vs) pv hp' (Rm.mono hK) H_2 R_2.top R_2.off (.cons (v_1.ext x_2 gx) V) e1) (λv s_3 p=>p.trans (x_1.trans x_2)) λ_ _ q=>q⟩
noncomputable def jd (Fo:EF) (C:Addr) (name:Str) (H:FnF):EF:=af Fo λa σ=>match a with
 | .obj i=>if ct C name i σ.hp then H [.obj i] σ.hp else none
 | _=>none
theorem Ew {C:Addr} {name:Str} {H:FnF} {a:PV} {hp:List MO} {r:PV×List MO} {P:Prop} (q:(match a with
 | .obj i=>if ct C name i hp then H [.obj i] hp else none
 | _=>none)=some r) (k:∀i,a=.obj i->ct C name i hp=true->H [.obj i] hp=some r->P):P:=by
 cases a with
 | obj i=>exact gn q λhi q=>k i rfl hi q
 | _=>exact al q
theorem Ev.meth0 {C:Addr} {mN:Str->Option Value} (cl:fj K C mN) {name:Str} {f:Addr} {of:Obj} {fd:FuncData} {y:Option Value} {o:Expr} {apos pos:Pos} {Fo:EF} {H:FnF} {k:Nat} (hf:mN name=some (.ref f)) (hof:K f=some of) (hfc:of.cls=.type "function") (hdata:of.data=.func fd)
  (hB:typeLookup (.type "object") name=pure y) (ho:Ev prog w K fx o Fo) (hH:FnOK prog w K f k H) (hK:k≤fx.k) (mc:MC fx.env o name apos [] pos) :
  Ev prog w K fx (.Call (.Attribute o name apos) [] [] pos) (jd Fo C name H):=.mk λA ρ Z σ s pv hp' Rm R q=>by
 obtain ⟨pl,mc⟩:=mc
 refine MethodCall_ (ho.then Rm R q λa va h1 ρ_1 s_1 e1 x_1 v_1 R_1=>Ew e1 λi ha hi e1=>?_) mc
 replace v_1:=ha▸v_1
 refine ly cl hf hof hfc hB R_1.hr R_1.top v_1 hi ?_
 refine callWith_meth0 (o:=of) (fd:=fd) hdata (R_1.top f of hof) ?_
 exact wpAny_mono (hH.run A ρ_1 Z h1 s_1 [.obj i] [va] pv hp' (Rm.mono hK) R_1.hr R_1.top R_1.off (.cons v_1 .nil) e1) (λv s_3 p=>p.trans x_1) λ_ _ q=>q
inductive M5 (h:Heap) (C:Addr):Prop
 | mk (nm q:Str) (N:Addr) (bs:List Value) (sn:List Str) (sub:List Value) (col:Option Bool) (dd:Option Addr) (k0 k1 k2 k3 k5:Option Value) :
  h.get? C=some (excClassObj nm q C N bs [.type "object"] true sn sub false col dd k0 k1 k2 k3 k5 "object.__new__")->M5 h C
theorem ur {env:Env} {pos:Pos} {e:Expr} {rest:List Expr} {s:Shared} {C:Addr} {Q:Value->Shared->Prop}
  (h:wpAny (model prog w) A (spliced (backTo pos (starEach (e::rest) env))) (λvs s_1=>M5 s_1.heap C∧wpAny (model prog w) A (call (.ref C) vs) Q bn s_1) bn s)
  (he:starEach (e::rest) env=(false,eval e env)::starEach rest env) (hplain:(backTo pos (starEach rest env)).any (·.1)=false) :
  wpAny (model prog w) A (callWith pos (.ref C) [] (backTo pos (starEach (e::rest) env)) []) Q bn s:=by
 rw [he] at h ⊢
 have hst:((backTo pos ((false,eval e env)::starEach rest env)).any (λx=>x.fst)||([]:List (Option Str×Sem Value)).any λx=>x.fst.isNone)=false:=by
  show ((false||(backTo pos (starEach rest env)).any (·.1))||false)=false
  rw [hplain]; rfl
 skip
 refine wpAny_bind (wpAny_holding (Calls.evalArgs_plain (wpAny_mono h (λvs s_1 h_1=>?_) λ_ _ x=>x)))
 refine cps λ_ KK=>?_
 obtain ⟨hh,g,d,t,os⟩:=s_1
 obtain ⟨⟨nm,q,N,bs,sn,sub,col,dd,k0,k1,k2,k3,k5,hC⟩,h_2⟩:=h_1
 refine KK ?_
 have f1:=tc_lookup
 have hT:(⟨hh,g,d,t,os⟩:Shared).TypeIs (.ref C) "type":=⟨_,hC,rfl⟩
 refine wpAny_bind (wpAny_standAt ?_)
 skip
 skip
 repeat (any_goals (first | assumption | with_reducible refine wpAny_loadPart_at hC ?_ | with_reducible refine wpAny_load' hC ?_ | wp_step))
 rw [if_pos (by rfl),hst]
 show wpAny _ _ (call (.ref C) vs [] >>= λr=>do holding [r] point; pure r) _ _ _
 exact wpAny_bind (wpAny_mono h_2 (λr s' hr=>wpAny_bind (wpAny_holding (wpAny_point (wpAny_pure hr)))) λ_ _ x=>x)
noncomputable def C6 (C:Addr) (G:LF) (H:FnF):EF:=λσ=>match G σ with
 | some (ps,hp)=>match H (.obj hp.length::ps) (hp++[.ins C []]) with
  | some (.dat .none,hp')=>some (.obj hp.length,hp')
  | _=>none
 | none=>none
theorem Hm {C:Addr} {G:LF} {H:FnF} {σ:St} {pv:PV} {hp':List MO} {P:Prop} (q:C6 C G H σ=some (pv,hp')) (k:∀ps hp,G σ=some (ps,hp)->H (.obj hp.length::ps) (hp++[.ins C []])=some (.dat .none,hp')->pv=.obj hp.length->P):P:=by
 unfold C6 at q
 cases h:G σ with
 | none=>rw [h] at q; exact al q
 | some x =>
  rw [h] at q
  have q:(match H (.obj x.2.length::x.1) (x.2++[.ins C []]) with | some (.dat .none,hp')=>some (PV.obj x.2.length,hp') | _=>none)=some (pv,hp'):=q
  cases h2:H (.obj x.2.length::x.1) (x.2++[.ins C []]) with
  | none=>rw [h2] at q; exact al q
  | some y =>
   obtain ⟨u,hp2⟩:=y
   rw [h2] at q
   cases u with
   | dat d=>cases d with
    | none=>exact k x.1 x.2 h ((cq q).2▸h2) (cq q).1.symm
    | _=>exact al q
   | _=>exact al q
theorem Room.under1 {C:Addr} {vs:List Value} {k:Nat} (h:Room A (k+1)):Room (A.under (.builtin "type.__call__" ⟨.ref C::vs,[]⟩)) k :=
 ⟨h.handled,by have:=h.depth; show A.depth+1+k < 900; lia,by have:=h.units; show A.units+1+40*k < 9000; (exact Sh (by assumption) (by decide))⟩
theorem HR.made {ρ:av} {Z:List Addr} {h h':Heap} {hp:List MO} (H:HR ρ Z hp h) {C x dx:Addr} (M:Heap.MadeObj h h' x dx C):HR (ρ++[(x,dx)]) Z (hp++[.ins C []]) h':=by
 have hxm:=H.fresh M.newX
 refine cps λ_ KK=>?_
 obtain ⟨o,ho,hc,hnc,hdict⟩:=M.inst
 refine KK ?_
 have hod:=M.dict o ho
 have hd:dx≠x∧h'.Ns1 dx (λ_=>none):=by
  rcases hdict with ⟨e,_⟩ | ⟨d',e,h1,h2⟩
  ·exact al (e.symm.trans hod)
  ·rw [← b9 (e.symm.trans hod)]; exact ⟨h1,h2⟩
 refine H.push M.newD M.keeps ⟨λq=>?_,hxm.2,o,_,ho,hc,hnc,hod,hd.1,hd.2,(λ_ h=>ck h),λ_ _=>rfl⟩
 rw [bo,List.mem_append] at q
 exact q.elim hxm.1 λq=>hd.1 (List.mem_singleton.mp q).symm
theorem Ev.new (gl:Gl K mg mb) {C:Addr} {mN:Str->Option Value} (cl:fj K C mN) {cn:Str} {f:Addr} {of:Obj} {e:Expr} {es:List Expr} {pos np:Pos} {G:LF} {H:FnF} {k:Nat} (hi:mN "__init__"=some (.ref f)) (hof:K f=some of) (hfc:of.cls=.type "function")
  (he:EvL prog w K fx (e::es) G) (hH:FnOK prog w K f k H) (hK:k+1≤fx.k) (hk:fx.sc.names.lookup cn=some .globalImplicit) (hg:mg cn=some (.ref C)) (hd:(cn==("__debug__":Str))=false:=by decide)
  (hs:∀env,starEach (e::es) env=(false,eval e env)::starEach es env:=by intro _; rfl) (hp:∀env,(backTo pos (starEach es env)).any (·.1)=false:=by intro _; rfl) :
  Ev prog w K fx (.Call (.Name cn np) (e::es) [] pos) (C6 C G H):=.mk λA ρ Z σ s pv hp' Rm R q=>Hm q λps hp1 eG eH hpv=>by
 refine Call_ (bp gl R hk (.inl hg) ?_ hd)
 refine ur (wpAny_mono (he.run pos A ρ Z σ s _ _ Rm R eG) (λvs s_1 p=>?_) λ_ _ q=>q) (hs _) (hp _)
 refine cps λ_ KK=>?_
 obtain ⟨ρ_1,x_1,V,H_1⟩:=p
 have R_1:=R.next x_1 H_1
 obtain ⟨nm,qn,N,bs,sn,sub,col,dd,k0,k1,k2,k3,k5,hK',hNs⟩:=cl.ex
 refine KK ?_
 refine ⟨⟨nm,qn,N,bs,sn,sub,col,dd,k0,k1,k2,k3,k5,R_1.top _ _ hK'⟩,?_⟩
 refine wpAny_call_obj_init (h:=s_1.heap) (g:=s_1.gens) (d:=s_1.drawn) (t:=s_1.toks) (os:=s_1.os) F.objNew (R_1.top _ _ hK') (hNs _ R_1.top) hi (R_1.top _ _ hof) hfc λh' x dx M=>?_
 have H_2:=H_1.made M
 have x_2:Ext [] ρ_1 s_1 (ρ_1++[(x,dx)]) { s_1 with heap:=h' }:=⟨⟨_,rfl,λp hp=>(List.mem_singleton.mp hp).symm▸M.newD⟩,λb o _ _ e=>M.keeps b o e,λb o e=>⟨o,M.keeps b o e⟩,rfl,rfl,λ_ _ e=>e,λh=>h⟩
 have R_2:=R_1.next x_2 H_2
 have Vx:VR (ρ_1++[(x,dx)]) Z h' (.obj hp1.length) (.ref x):=⟨x,dx,by rw [← H_1.len,List.getElem?_append_right (Nat.le_refl _),Nat.sub_self]; rfl,rfl⟩
 refine wpAny_mono (hH.run _ _ Z _ _ (.obj hp1.length::ps) (.ref x::vs) _ _ (Rm.mono hK).under1 H_2 R_2.top R_2.off (.cons Vx (V.ext x_2 gx)) eH) (λv s_3 p=>?_) λ_ _ q=>q
 refine cps λ_ KK=>?_
 obtain ⟨ρ_3,x_3,⟨as,rv,_⟩,H_3⟩:=p
 refine KK ?_
 exact ⟨rv.none_.1,ρ_3,(x_1.trans x_2).trans x_3,hpv▸Vx.ext x_3 gx,H_3⟩
end
section
variable {prog:Program} {w:World} {K:Addr->Option Obj} {fx:Fx} {mg mb:Str->Option Value} {A:Around}
noncomputable def gk:List (Nat×Str×Pos)->List Expr
 | []=>[]
 | (_,x,p)::r=>.Name x p::gk r
noncomputable def xp:List Nat->List PV->bg->bg
 | i::is,p::ps,loc=>xp is ps (loc.set i (some p))
 | _,_,loc=>loc
inductive OpsOK (prog:Program) (w:World) (A:Around) (fx:Fx):List Nat->List (Value->Sem Unit)->Prop
 | nil:OpsOK prog w A fx [] []
 | cons {i is x op ops}:fx.vars.lookup i=some x->br fx x->(∀(v:Value) (s:Shared) (Q:Unit->Shared->Prop),wpAny (model prog w) A (storeName fx.env x v) Q bn s->wpAny (model prog w) A (op v) Q bn s)->OpsOK prog w A fx is ops->OpsOK prog w A fx (i::is) (op::ops)
theorem pe {is:List Nat} {ops:List (Value->Sem Unit)} (x:OpsOK prog w A fx is ops):∀{ps:List PV} {vs:List Value} {ρ:av} {Z:List Addr} {σ:St} {s:Shared},SR K fx ρ Z σ s->VRs ρ Z s.heap ps vs->is.length=ps.length ->
  wpAny (model prog w) A (assignInOrder ops vs) (λ_ s'=>Ext fx.own ρ s ρ s'∧SR K fx ρ Z ⟨xp is ps σ.loc,σ.hp⟩ s') bn s:=by
 induction x with
 | nil =>
  intro ps vs ρ Z σ s R V hl
  cases V with
  | nil=>exact wpAny_assignInOrder_none ⟨Ext.refl _ _ _,R⟩
  | cons=>exact nomatch hl
 | cons hv ok h r ih =>
  intro ps vs ρ Z σ s R V hl
  cases V with
  | nil=>exact nomatch hl
  | cons v V=>exact wpAny_assignInOrder_more (h _ _ _ (R.store hv ok v λs_1 x_1 R_1=>wpAny_mono (ih R_1 (V.ext x_1 R.er.ownZ) (Nat.succ.inj hl)) (λ_ s_2 q=>⟨x_1.trans q.1,q.2⟩) λ_ _ q=>q))
theorem VRs.append {ρ:av} {Z:List Addr} {h:Heap} {a b:List PV} {c d:List Value} (x:VRs ρ Z h a c) (y:VRs ρ Z h b d):VRs ρ Z h (a++b) (c++d) :=
 VRs.rec (motive:=λa c _=>VRs ρ Z h (a++b) (c++d)) y (λu _ ih=>.cons u ih) x
theorem VRs.rev {ρ:av} {Z:List Addr} {h:Heap} {ps:List PV} {vs:List Value} (V:VRs ρ Z h ps vs):VRs ρ Z h ps.reverse vs.reverse :=
 VRs.rec (motive:=λps vs _=>VRs ρ Z h ps.reverse vs.reverse) .nil (λu _ ih=>by rw [List.reverse_cons,List.reverse_cons]; exact ih.append (.cons u .nil)) V
theorem VRs.keep {ρ:av} {Z:List Addr} {h h':Heap} (k:∀a o,h.get? a=some o->h'.get? a=some o) {ps:List PV} {vs:List Value} (V:VRs ρ Z h ps vs):VRs ρ Z h' ps vs :=
 VRs.rec (motive:=λps vs _=>VRs ρ Z h' ps vs) .nil (λu _ ih=>.cons (u.keep k) ih) V
noncomputable def m7 (prog:Program) (w:World) (A:Around) (fx:Fx):List (Nat×Str×Pos)->Prop
 | []=>True
 | (i,x,_)::r=>fx.vars.lookup i=some x∧br fx x∧m7 prog w A fx r
theorem u7:∀{ts:List (Nat×Str×Pos)},m7 prog w A fx ts->OpsOK prog w A fx (ts.map (·.1)) ((assignEach (gk ts) fx.env).map (·.2))
 | [],_=>.nil
 | (i,x,p)::r,h=>.cons h.1 h.2.1 (λv s Q hq=>wpAny_assign_Name hq) (u7 h.2.2)
theorem u6:∀(ts:List (Nat×Str×Pos)) (env:Env),(assignEach (gk ts) env).findIdx? (·.1)=none
 | [],_=>rfl
 | (i,x,p)::r,env=>by
  show (((false,_)::assignEach (gk r) env).findIdx? (·.1))=none
  rw [List.findIdx?_cons,if_neg Bool.false_ne_true,u6 r env]
  rfl
theorem y8:∀(ts:List (Nat×Str×Pos)) (env:Env),(assignEach (gk ts) env).length=ts.length
 | [],_=>rfl
 | (i,x,p)::r,env=>congrArg (·+1) (y8 r env)
noncomputable def P3 (is:List Nat) (G:LF):XF:=λσ=>match G σ with
 | some (ps,hp)=>if is.length=ps.length∧ps.length≤lim then some (.next,⟨xp is ps σ.loc,hp⟩) else none
 | none=>none
theorem Ex.tup {ts:List (Nat×Str×Pos)} {es:List Expr} {k k':Nat} {p p' pos:Pos} {G:LF} (hn:∀A,m7 prog w A fx ts) (he:EvL prog w K fx es G) (hw:swappedStores [.Tuple (gk ts) k p] (.Tuple es k' p') fx.env=pure none)
  (hs:swapsWithSole [.Tuple (gk ts) k p] (.Tuple es k' p') pos.line fx.env=pure false:=by rfl):Ex prog w K fx (.Assign [.Tuple (gk ts) k p] (.Tuple es k' p') pos) (P3 (ts.map (·.1)) G):=.mk λA ρ Z σ s fl σ' Rm R q=>by
 refine mh q λps hp e1 q=>ay q λhl e=>?_
 refine wpAny_Assign_stores (wpAny_Tuple (wpAny_mono (he.run p' A ρ Z σ s _ _ Rm R e1) (λvs s_1 P=>?_) λ_ _ q=>q)) hs hw
 refine cps λ_ KK=>?_
 obtain ⟨ρ_1,x_1,V,H_1⟩:=P
 refine KK ?_
 have hlen:=V.length
 refine ⟨hlen▸Nat.le_trans hl.2 (by decide),?_⟩
 have R_1:=R.next x_1 H_1
 have k1:∀b o,s_1.heap.get? b=some o->(s_1.heap.push { cls:=.type "tuple",data:=.seq vs.toArray }).get? b=some o:=λb o e=>Heap.get?_push_of_some _ e
 show wpAny _ A (PySem.assign (.Tuple (gk ts) k p) fx.env _) _ _ _
 refine wpAny_assign_Tuple (items:=vs.toArray) Rm.handled ⟨_,Heap.get?_push_size _ rfl,rfl,_,rfl⟩ (by rw [y8,List.size_toArray,← hlen,← hl.1,List.length_map]) (u6 _ _) λh' eb=>?_
 have k2:∀b o,s_1.heap.get? b=some o->h'.get? b=some o:=λb o e=>ExtBut.keepAll eb b o (k1 b o e)
 refine List.toList_toArray.symm▸?_
 exact wpAny_mono (pe (u7 (hn A)) (s:={ s_1 with heap:=h' }) (R_1.keep (t:=s_1.toks) k2) (V.keep k2) hl.1) (λ_ s_3 q=>PostX.eq (congrArg some e) ⟨ρ_1,((x_1.trans (Ext.of_keep (t:=s_1.toks) k2)).weak gx).trans q.1,q.2,rfl⟩) λ_ _ q=>q
theorem OpsOK.append {is js:List Nat} {a b:List (Value->Sem Unit)} (x:OpsOK prog w A fx is a) (y:OpsOK prog w A fx js b):OpsOK prog w A fx (is++js) (a++b) :=
 OpsOK.rec (motive:=λis a _=>OpsOK prog w A fx (is++js) (a++b)) y (λh1 h2 h3 _ ih=>.cons h1 h2 h3 ih) x
theorem Ck:∀{ts:List (Nat×Str×Pos)},m7 prog w A fx ts->OpsOK prog w A fx (ts.map (·.1)).reverse ((ts.map (·.2.1)).reverse.map λn=>bindName fx.env n)
 | [],_=>.nil
 | (i,x,p)::r,h=>by
  rw [List.map_cons,List.map_cons,List.reverse_cons,List.reverse_cons,List.map_append]
  exact (Ck h.2.2).append (.cons h.1 h.2.1 (λv s Q hq=>wpAny_bindName hq) .nil)
noncomputable def tt (is:List Nat) (G:LF):XF:=λσ=>match G σ with
 | some (ps,hp)=>if is.length=ps.length∧ps.length≤lim then some (.next,⟨xp is.reverse ps.reverse σ.loc,hp⟩) else none
 | none=>none
theorem Ex.tupR {ts:List (Nat×Str×Pos)} {es:List Expr} {k k':Nat} {p p' pos:Pos} {G:LF} (hn:∀A,m7 prog w A fx ts) (he:EvL prog w K fx es G) (hw:swappedStores [.Tuple (gk ts) k p] (.Tuple es k' p') fx.env=pure (some (ts.map (·.2.1))))
  (hs:swapsWithSole [.Tuple (gk ts) k p] (.Tuple es k' p') pos.line fx.env=pure false:=by rfl):Ex prog w K fx (.Assign [.Tuple (gk ts) k p] (.Tuple es k' p') pos) (tt (ts.map (·.1)) G):=.mk λA ρ Z σ s fl σ' Rm R q=>by
 refine mh q λps hp e1 q=>ay q λhl e=>?_
 rw [exec_Assign_arm]
 refine wpAny_bind (wpAny_standAt ?_)
 refine hs.symm▸?_
 refine wpAny_bind (wpAny_pure ?_)
 rw [if_neg (by decide)]
 refine wpAny_bind (wpAny_Tuple (wpAny_mono (he.run p' A ρ Z σ s _ _ Rm R e1) (λvs s_1 P=>?_) λ_ _ q=>q))
 refine cps λ_ KK=>?_
 obtain ⟨ρ_1,x_1,V,H_1⟩:=P
 refine KK ?_
 have hlen:=V.length
 refine ⟨hlen▸Nat.le_trans hl.2 (by decide),?_⟩
 have R_1:=R.next x_1 H_1
 have k1:∀b o,s_1.heap.get? b=some o->(s_1.heap.push { cls:=.type "tuple",data:=.seq vs.toArray }).get? b=some o:=λb o e=>Heap.get?_push_of_some _ e
 refine hw.symm▸?_
 refine wpAny_bind (wpAny_pure ?_)
 skip
 skip
 refine wpAny_bind (wpAny_rule (wpAny_bind ?_))
 refine (show (ts.map (·.2.1)).length=vs.toArray.size by rw [List.length_map,List.size_toArray,← hlen,← hl.1,List.length_map]).symm▸?_
 refine wpAny_unpackItems_tuple (items:=vs.toArray) Rm.handled ⟨_,Heap.get?_push_size _ rfl,rfl,_,rfl⟩ λh' eb=>?_
 have k2:∀b o,s_1.heap.get? b=some o->h'.get? b=some o:=λb o e=>ExtBut.keepAll eb b o (k1 b o e)
 refine List.toList_toArray.symm▸?_
 exact wpAny_bind (wpAny_mono (pe (Ck (hn A)) (s:={ s_1 with heap:=h' }) (R_1.keep (t:=s_1.toks) k2) (V.keep k2).rev (List.length_reverse.symm▸List.length_reverse.symm▸hl.1)) (λ_ s_3 q=>wpAny_pure (PostX.eq (congrArg some e) ⟨ρ_1,((x_1.trans (Ext.of_keep (t:=s_1.toks) k2)).weak gx).trans q.1,q.2,rfl⟩)) λ_ _ q=>q)
noncomputable def Nn (F:EF) (T:PyData->bg->Option bg):XF:=au F λpv σ=>match pv with
 | .dat d=>match T d σ.loc with
  | some loc=>some (.next,⟨loc,σ.hp⟩)
  | none=>none
 | _=>none
theorem Fu {T:PyData->bg->Option bg} {pv:PV} {σ:St} {r:Fl×St} {C:Prop} (q:(match pv with
 | .dat d=>match T d σ.loc with
  | some loc=>some (Fl.next,(⟨loc,σ.hp⟩:St))
  | none=>none
 | _=>none)=some r) (k:∀d loc,pv=.dat d->T d σ.loc=some loc->(.next,⟨loc,σ.hp⟩)=r->C):C:=by
 cases pv with
 | dat d =>
  have q:(match T d σ.loc with | some loc=>some (Fl.next,(⟨loc,σ.hp⟩:St)) | none=>none)=some r:=q
  cases h:T d σ.loc with
  | none=>rw [h] at q; exact al q
  | some loc=>rw [h] at q; exact k d loc rfl h (b9 q)
 | _=>exact al q
theorem Ex.assignT {tg e:Expr} {pos:Pos} {F:EF} {T:PyData->bg->Option bg} (ht:As prog w K fx tg T) (he:Ev prog w K fx e F) (hs:swapsWithSole [tg] e pos.line fx.env=pure false) (hw:swappedStores [tg] e fx.env=pure none)
  (hea:(assignEach [tg] fx.env).map (·.2)=[PySem.assign tg fx.env]:=by rfl):Ex prog w K fx (.Assign [tg] e pos) (Nn F T):=.mk λA ρ Z σ s fl σ' Rm R q=>by
 refine wpAny_Assign_stores (he.thenX Rm R q λpv v h1 ρ_1 s_1 e1 x_1 v_1 R_1=>Fu e1 λd loc hp hT e=>?_) hs hw
 refine hea.symm▸?_
 skip
 exact wpAny_mono (ht.run A ρ_1 Z _ s_1 d v loc Rm R_1 (hp▸v_1) hT) (λ_ s_2 p=>PostX.eq (congrArg some e) ⟨ρ_1,(x_1.weak gx).trans p.1,p.2,rfl⟩) λ_ _ q=>q
noncomputable def Od (i j k:Nat) (F:EF):XF:=au F λpv σ=>some (.next,⟨((σ.loc.set i (some pv)).set j (some pv)).set k (some pv),σ.hp⟩)
theorem Ex.chain3 {x y z:Str} {i j k:Nat} {px py pz pos:Pos} {e:Expr} {F:EF} (hi:fx.vars.lookup i=some x) (oi:br fx x) (hj:fx.vars.lookup j=some y) (oj:br fx y) (hk:fx.vars.lookup k=some z) (ok:br fx z) (he:Ev prog w K fx e F) :
  Ex prog w K fx (.Assign [.Name x px,.Name y py,.Name z pz] e pos) (Od i j k F):=.mk λA ρ Z σ s fl σ' Rm R q=>by
 refine wpAny_Assign_three (he.thenX Rm R q λpv v h1 ρ_1 s_1 e1 x_1 v_1 R_1=>?_)
 refine wpAny_assign_Name (R_1.store hi oi v_1 λs_2 x_2 R_2=>?_)
 refine wpAny_assign_Name (R_2.store hj oj (VR.ext x_2 R.er.ownZ v_1) λs_3 x_3 R_3=>?_)
 exact wpAny_assign_Name (R_3.store hk ok (VR.ext x_3 R.er.ownZ (VR.ext x_2 R.er.ownZ v_1)) λs_4 x_4 R_4=>PostX.eq e1 ⟨ρ_1,(((x_1.weak gx).trans x_2).trans x_3).trans x_4,R_4,rfl⟩)
theorem ul {s:Shared} {l:Addr} {items:Array Value} {n:Nat} {k:Int} {j:Nat} {t:Tok} {v:Value} {Q:Unit->Shared->Prop} (ho:s.heap.get? l=some { cls:=.type "list",dict:=none,data:=.seq items n,slots:=#[] })
  (hk:k=(j:Int)) (h0:0≤k) (hfit:k < 2 ^ 63) (hj:j < items.size) (hQ:Q () { s with heap:=s.heap.update l (Obj.mapSeq (·.setIfInBounds j v)) }):wpAny (model prog w) A (setItem (.ref l) (.int k t) v) Q bn s:=by
 have hl:s.heap.IsList l items:=⟨_,ho,rfl,n,rfl⟩
 have hd:(Data.seq items n)=.seq items n:=rfl
 unfold setItem
 try with_reducible refine wpAny_holding ?_
 first | refine wpAny_bind (wpAny_pure ?_) | skip
 refine wpAny_bind (wpAny_sequenceKey hl.typeIs (by decide) ?_)
 refine wpAny_bind (wpAny_callSpecial?_slot (name:=Str.ofString "__setitem__") hl.typeIs slot_list_setitem
  (wpAny_call_entry slot_list_setitem hl.typeIs entry_list_setitem ?_ (args_list_setitem _ _ _)))
 show wpAny _ _ (Builtin.List.listSubscript? (.int k t) >>= _) _ _ s
 refine wpAny_bind (wpAny_listSubscript_int (fitsIndex_of h0 hfit) ?_)
 clear hfit h0
 subst hk
 skip
 refine wpAny_bind (wpAny_bind (wpAny_seqItemAt ho hd (wpAny_pure ?_)))
 refine (Array.getElem?_eq_getElem hj).symm▸?_
 skip
 refine wpAny_bind (wpAny_setSeqItemAt ho hd ?_)
 first
  | exact wpAny_bind (wpAny_pure (wpAny_pure ⟨.none,rfl,wpAny_pure hQ⟩))
  | exact wpAny_pure ⟨.none,rfl,wpAny_pure hQ⟩
theorem RDs.set {h:Heap} {v:Value} {d:PyData} {bs:List Addr} (r:RD h v d bs) {vs:List Value} {ds:List PyData} {as:List Addr} (rs:RDs h vs ds as):∀k,∃cs,RDs h (vs.set k v) (ds.set k d) cs∧∀a∈cs,a∈as∨a∈bs :=
 RDs.ind (Q:=λvs ds as=>∀k,∃cs,RDs h (vs.set k v) (ds.set k d) cs∧∀a∈cs,a∈as∨a∈bs) (λ_=>⟨[],.nil,λ_ h=>ck h⟩)
  (λx rr ih k=>by
   cases k with
   | zero=>exact ⟨_,.cons r rr,λa ha=>(List.mem_append.mp ha).elim .inr λh=>.inl (List.mem_append_right _ h)⟩
   | succ k=>exact (ih k).elim λcs q=>⟨_,.cons x q.1,λa ha=>(List.mem_append.mp ha).elim (λh=>.inl (List.mem_append_left _ h)) λh=>(q.2 a h).imp_left λh=>List.mem_append_right _ h⟩) rs
noncomputable def oe (Fe Fo Fi:EF):XF:=au Fe λe σ=>au Fo (λa σ=>au Fi (λb σ=>match a,b,e with
 | .obj i,.dat (.int k),.dat d=>match σ.hp[i]? with
  | some (.lst l)=>if 0≤k∧k.toNat < l.length∧l.length≤lim then some (.next,⟨σ.loc,σ.hp.set i (.lst (l.set k.toNat d))⟩) else none
  | _=>none
 | _,_,_=>none) σ) σ
theorem Dv {a b e:PV} {σ:St} {r:Fl×St} {C:Prop} (q:(match a,b,e with
 | .obj i,.dat (.int k),.dat d=>match σ.hp[i]? with
  | some (.lst l)=>if 0≤k∧k.toNat < l.length∧l.length≤lim then some (Fl.next,(⟨σ.loc,σ.hp.set i (.lst (l.set k.toNat d))⟩:St)) else none
  | _=>none
 | _,_,_=>none)=some r) (c:∀i k d l,a=.obj i->b=.dat (.int k)->e=.dat d->σ.hp[i]?=some (.lst l)->0≤k->k.toNat < l.length->l.length≤lim->(.next,⟨σ.loc,σ.hp.set i (.lst (l.set k.toNat d))⟩)=r->C):C:=by
 cases a with
 | obj i=>cases b with
  | dat x=>cases x with
   | int k=>cases e with
    | dat d =>
     have q:(match σ.hp[i]? with | some (.lst l)=>if 0≤k∧k.toNat < l.length∧l.length≤lim then some (Fl.next,(⟨σ.loc,σ.hp.set i (.lst (l.set k.toNat d))⟩:St)) else none | _=>none)=some r:=q
     cases h:σ.hp[i]? with
     | none=>rw [h] at q; exact al q
     | some mo=>cases mo with
      | lst l=>rw [h] at q; exact ay q λhk e=>c i k d l rfl rfl rfl h hk.1 hk.2.1 hk.2.2 e
      | _=>rw [h] at q; exact al q
    | _=>exact al q
   | _=>exact al q
  | _=>exact al q
 | _=>exact al q
theorem Ex.setItem {o i e:Expr} {p pos:Pos} {Fe Fo Fi:EF} (he:Ev prog w K fx e Fe) (ho:Ev prog w K fx o Fo) (hi:Ev prog w K fx i Fi) (hs:swapsWith e (some (.Subscript o i p)) pos.line fx.env=pure false) :
  Ex prog w K fx (.Assign [.Subscript o i p] e pos) (oe Fe Fo Fi):=.mk λA ρ Z σ s fl σ' Rm R q=>by
 refine wpAny_Assign_Subscript (he.thenX Rm R q λe ve h1 ρ_1 s_1 e1 x_1 v_1 R_1=>ho.thenX Rm R_1 e1 λa va h2 ρ_2 s_2 e2 x_2 v_2 R_2=>hi.thenX Rm R_2 e2 λb vb h3 ρ_3 s_3 e3 x_3 v_3 R_3=>Dv e3 λi k d l ha hb he hl hk0 hk1 hk2 ee=>?_) hs
 replace v_2:=ha▸v_2
 replace v_3:=hb▸v_3
 replace v_1:=he▸v_1
 refine cps λ_ KK=>?_
 obtain ⟨r,b,hr,hva⟩:=v_2.ext x_3 (gx (Y:=Z))
 obtain ⟨hrb,vs,n,as,ho,rs,qa⟩:=R_3.hr.list hl hr
 obtain ⟨bs,rv,qb⟩:=(v_1.ext x_2 (gx (Y:=Z))).ext x_3 (gx (Y:=Z))
 obtain ⟨_,rk,_⟩:=v_3
 obtain ⟨t,hvb,_⟩:=rk.int_
 refine KK ?_
 refine hva.symm▸hvb.symm▸hrb.symm▸?_
 rw [hrb] at hr ho
 have e4:=rs.length
 replace e4:=Array.length_toList▸e4
 refine ul ho (Int.toNat_of_nonneg hk0).symm hk0 (Int.lt_of_le_of_lt (Int.toNat_le.mp (Nat.le_trans (Nat.le_of_lt hk1) hk2)) (by decide)) (e4▸hk1) ?_
 refine cps λ_ KK=>?_
 obtain ⟨n',hm⟩:=jf (·.setIfInBounds k.toNat ve) vs n
 obtain ⟨cs,rc,qc⟩:=RDs.set rv rs k.toNat
 have e':(s_3.heap.update b (Obj.mapSeq (·.setIfInBounds k.toNat ve))).get? b=some { cls:=.type "list",dict:=none,data:=.seq (vs.setIfInBounds k.toNat ve) n',slots:=#[] }:=by
  rw [Heap.get?_update_self _ ho (by rw [hm]; rfl),hm]
 obtain ⟨ρ_4,x_4,_,H_4⟩:=Post.setList (pv:=.dat .none) (v:=.none) R_3.hr hr (Heap.SameBut.update ..) e' (ds:=l.set k.toNat d) (Array.toList_setIfInBounds.symm▸rc) (λa ha=>(qc a ha).elim (qa a) (qb a)) ⟨[],.none,λ_ h=>ck h⟩
 refine KK ?_
 exact PostX.eq (congrArg some ee) ⟨ρ_4,(((x_1.trans x_2).trans x_3).trans x_4).weak gx,R_3.next x_4 H_4,rfl⟩
end
end Mine
end
section
open PySem PySem.Sre
namespace Mine
theorem De {m:M} (ho:m.outcome=none) (ha:m.answer=none) (hp:m.pc < m.code.size):m.step=m.exec:=by
 unfold M.step
 refine ho.symm▸ha.symm▸?_
 simp only [Option.isSome_none,Bool.false_eq_true,if_false,hp,if_true]
theorem rg {m:M} {c:Nat} (h1:m.code.getD m.pc 0=16) (h2:m.code.getD (m.pc+1) 0=c) (hl:m.pos < m.lim) (hc:m.text.getD m.pos 0=c) :
  ∃sn,m.exec={ m with seen:=sn,pc:=m.pc+2,pos:=m.pos+1 }:=by
 have e:ops[m.code.getD m.pc 0]?=some .LITERAL:=by rw [h1]; rfl
 refine ⟨m.seen.add (m.code.getD m.pc 0),?_⟩
 unfold M.exec M.word
 simp only [Nat.add_zero,e]
 rw [if_neg (Nat.not_le.mpr hl)]
 unfold accepts itemWidth
 simp only [e,h2,hc,beq_self_eq_true]
theorem ot {m:M} {c:Nat} (h1:m.code.getD m.pc 0=16) (h2:m.code.getD (m.pc+1) 0=c) (hc:m.lim≤m.pos∨m.text.getD m.pos 0≠c) :
  ∃sn,m.exec={ m with seen:=sn,answer:=some false }:=by
 have e:ops[m.code.getD m.pc 0]?=some .LITERAL:=by rw [h1]; rfl
 refine ⟨m.seen.add (m.code.getD m.pc 0),?_⟩
 unfold M.exec M.word
 simp only [Nat.add_zero,e]
 by_cases hl:m.pos ≥ m.lim
 ·rw [if_pos hl]; rfl
 ·rw [if_neg hl]
  have hc:m.text.getD m.pos 0≠c:=hc.resolve_left hl
  have hb:(m.text.getD m.pos 0==c)=false:=by simpa using hc
  unfold accepts
  simp only [e,h2,hb]
  rfl
theorem J2 {m:M} {k:Nat} (h1:m.code.getD m.pc 0=15) (h2:m.code.getD (m.pc+1) 0=k) :
  ∃sn,m.exec={ m with seen:=sn,pc:=m.pc+1+k }:=by
 have e:ops[m.code.getD m.pc 0]?=some .JUMP:=by rw [h1]; rfl
 refine ⟨m.seen.add (m.code.getD m.pc 0),?_⟩
 unfold M.exec M.word
 simp only [Nat.add_zero,e]
 simp only [h2]
theorem ud {m:M} (h1:m.code.getD m.pc 0=1) (hw:m.wholeText=false) (hm:m.mustAdvance=false) :
  ∃sn,m.exec={ m with seen:=sn,handed:=m.pos,answer:=some true }:=by
 have e:ops[m.code.getD m.pc 0]?=some .SUCCESS:=by rw [h1]; rfl
 refine ⟨m.seen.add (m.code.getD m.pc 0),?_⟩
 unfold M.exec M.word
 simp only [Nat.add_zero,e]
 simp only [hw,hm,Bool.false_and,Bool.or_false,Bool.and_false,Bool.false_eq_true,if_false]
 rfl
theorem dv {n:Nat} {m:M} (h:m.outcome.isSome=true):m.runFor n=m:=by
 cases n with
 | zero=>rfl
 | succ n=>unfold M.runFor; rw [if_pos h]
theorem ew:∀(a b:Nat) (m:M),m.runFor (a+b)=(m.runFor a).runFor b
 | 0,b,m=>by rw [Nat.zero_add]; rfl
 | a+1,b,m=>by
  refine (show a+1+b=(a+b)+1 by (exact Nat.add_right_comm _ _ _)).symm▸?_
  cases h:m.outcome.isSome with
  | true=>rw [dv h,dv h,dv h]
  | false =>
   show (if m.outcome.isSome=true then m else M.runFor (a+b) m.step)=M.runFor b (if m.outcome.isSome=true then m else M.runFor a m.step)
   refine h.symm▸?_
   simp only [Bool.false_eq_true,if_false]
   exact ew a b m.step
noncomputable def Runs (n:Nat) (m m':M):Prop:=m.runFor n=m'
theorem Runs.one {m m':M} (ho:m.outcome=none) (h:m.step=m'):Runs 1 m m':=by
 unfold Runs M.runFor
 refine ho.symm▸?_
 simp only [Option.isSome_none,Bool.false_eq_true,if_false]
 refine h.symm▸?_
 rfl
theorem Runs.trans {a b:Nat} {m m' m'':M} (h:Runs a m m') (k:Runs b m' m''):Runs (a+b) m m'':=by
 unfold Runs at *
 rw [ew,h,k]
theorem Runs.exec {m m':M} (ho:m.outcome=none) (ha:m.answer=none) (hp:m.pc < m.code.size) (h:m.exec=m'):Runs 1 m m':=Runs.one ho ((De ho ha hp).trans h)
theorem Runs.back {m m':M} {yes:Bool} {f:Sre.Frame} {rest:List Sre.Frame} (ho:m.outcome=none) (ha:m.answer=some yes) (hf:m.frames=f::rest)
  (h:M.resume { m with outcome:=none,answer:=none,frames:=rest,weight:=m.weight - (1+f.kept.marks.size),pc:=f.pc,pos:=f.pos,outermost:=f.outermost } f yes=m'):Runs 1 m m':=by
 refine Runs.one ho ?_
 unfold M.step
 refine ho.symm▸ha.symm▸hf.symm▸?_
 simp only [Option.isSome_none,Bool.false_eq_true,if_false]
 exact h
theorem Runs.out {m:M} {yes:Bool} (ho:m.outcome=none) (ha:m.answer=some yes) (hf:m.frames=[]):Runs 1 m { m with outcome:=some (if yes then .matched else .failed) }:=by
 refine Runs.one ho ?_
 unfold M.step
 refine ho.symm▸ha.symm▸hf.symm▸?_
 simp only [Option.isSome_none,Bool.false_eq_true,if_false]
noncomputable abbrev st (code text:Array Nat) (lim start lastStart:Nat) (sn:Seen) (pc pos handed:Nat) (out:Bool) (frames:List Sre.Frame) (weight:Nat) (ans:Option Bool):M :=
 { code,text,lim,start,lastStart,pc,pos,handed,outermost:=out,marks:=#[],frames,weight,answer:=ans,seen:=sn }
noncomputable abbrev lk (pc pos:Nat) (out:Bool):Sre.Frame:={ wait:=.nextStart,pc,pos,outermost:=out }
noncomputable abbrev w3 (pc pos:Nat) (out:Bool) (k:Sre.Kept):Sre.Frame:={ wait:=.nextBranch,pc,pos,outermost:=out,kept:=k }
section
variable {text:Array Nat} {s ls:Nat}
theorem Ma {start h:Nat} {sn:Seen} {pcB posB pcN posN:Nat} {o1 o2:Bool} {k:Sre.Kept} {pc pos wt:Nat} {o:Bool} :
  ∃m',Runs 3 (st code2 text text.size start ls sn pc pos h o [w3 pcB posB o1 k,lk pcN posN o2] wt (some true)) m'∧m'.outcome=some .matched∧m'.start=start∧m'.handed=h :=
 ⟨_,(Runs.back rfl rfl rfl rfl).trans ((Runs.back rfl rfl rfl rfl).trans (Runs.out rfl rfl rfl)),rfl,rfl,rfl⟩
theorem Km (sn:Seen):∃sn',Runs 1 (st code2 text text.size s ls sn 10 s s true [lk 10 s true] 1 none) (st code2 text text.size s ls sn' 12 s s true [w3 11 s true {},lk 10 s true] 2 none) :=
 ⟨_,Runs.exec rfl rfl (show (10:Nat) < 36 by decide) rfl⟩
theorem qk {pc pos h c:Nat} {sn:Seen} {o:Bool} {fs:List Sre.Frame} {wt start:Nat} (hp:pc < 36) (h1:code2.getD pc 0=16) (h2:code2.getD (pc+1) 0=c) (hl:pos < text.size) (hc:text.getD pos 0=c) :
  ∃sn',Runs 1 (st code2 text text.size start ls sn pc pos h o fs wt none) (st code2 text text.size start ls sn' (pc+2) (pos+1) h o fs wt none):=by
 obtain ⟨sn',e⟩:=rg (m:=st code2 text text.size start ls sn pc pos h o fs wt none) h1 h2 hl hc
 exact ⟨sn',Runs.exec rfl rfl hp e⟩
theorem wk {pc pos h c:Nat} {sn:Seen} {o:Bool} {fs:List Sre.Frame} {wt start:Nat} (hp:pc < 36) (h1:code2.getD pc 0=16) (h2:code2.getD (pc+1) 0=c) (hc:text.size≤pos∨text.getD pos 0≠c) :
  ∃sn',Runs 1 (st code2 text text.size start ls sn pc pos h o fs wt none) (st code2 text text.size start ls sn' pc pos h o fs wt (some false)):=by
 obtain ⟨sn',e⟩:=ot (m:=st code2 text text.size start ls sn pc pos h o fs wt none) h1 h2 hc
 exact ⟨sn',Runs.exec rfl rfl hp e⟩
theorem Rs {pc pos h k:Nat} {sn:Seen} {o:Bool} {fs:List Sre.Frame} {wt start:Nat} (hp:pc < 36) (h1:code2.getD pc 0=15) (h2:code2.getD (pc+1) 0=k) :
  ∃sn',Runs 1 (st code2 text text.size start ls sn pc pos h o fs wt none) (st code2 text text.size start ls sn' (pc+1+k) pos h o fs wt none):=by
 obtain ⟨sn',e⟩:=J2 (m:=st code2 text text.size start ls sn pc pos h o fs wt none) h1 h2
 exact ⟨sn',Runs.exec rfl rfl hp e⟩
theorem Kp {pos h:Nat} {sn:Seen} {o:Bool} {fs:List Sre.Frame} {wt start pc:Nat} (hp:pc < 36) (h1:code2.getD pc 0=1) :
  ∃sn',Runs 1 (st code2 text text.size start ls sn pc pos h o fs wt none) (st code2 text text.size start ls sn' pc pos pos o fs wt (some true)):=by
 obtain ⟨sn',e⟩:=ud (m:=st code2 text text.size start ls sn pc pos h o fs wt none) h1 rfl rfl
 exact ⟨sn',Runs.exec rfl rfl hp e⟩
theorem Au {pc pos h:Nat} {sn:Seen} {o1 o2:Bool} {k:Sre.Kept} {pcB posB pcN posN wt start:Nat} (hp:pc < 36) (h1:code2.getD pc 0=15) (h2:pc+1+code2.getD (pc+1) 0=35) :
  ∃m',Runs 5 (st code2 text text.size start ls sn pc pos h true [w3 pcB posB o1 k,lk pcN posN o2] wt none) m'∧m'.outcome=some .matched∧m'.start=start∧m'.handed=pos:=by
 refine cps λ_ KK=>?_
 obtain ⟨sn1,r1⟩:=Rs (text:=text) (ls:=ls) (pos:=pos) (h:=h) (sn:=sn) (o:=true) (fs:=[w3 pcB posB o1 k,lk pcN posN o2]) (wt:=wt) (start:=start) hp h1 rfl
 rw [h2] at r1
 obtain ⟨sn2,r2⟩:=Kp (text:=text) (ls:=ls) (pos:=pos) (h:=h) (sn:=sn1) (o:=true) (fs:=[w3 pcB posB o1 k,lk pcN posN o2]) (wt:=wt) (start:=start) (pc:=35) (by decide) rfl
 obtain ⟨m',r3,q⟩:=Ma (text:=text) (ls:=ls) (start:=start) (h:=pos) (sn:=sn2) (pcB:=pcB) (posB:=posB) (pcN:=pcN) (posN:=posN) (o1:=o1) (o2:=o2) (k:=k) (pc:=35) (pos:=pos) (wt:=wt) (o:=true)
 refine KK ?_
 exact ⟨m',r1.trans (r2.trans r3),q⟩
theorem Pt {sn:Seen} {pc pos h:Nat} {o:Bool}:∃sn',Runs 1 (st code2 text text.size s ls sn pc pos h o [w3 11 s true {},lk 10 s true] 2 (some false)) (st code2 text text.size s ls sn' 19 s s true [w3 18 s true {},lk 10 s true] 2 none) :=
 ⟨_,Runs.back rfl rfl rfl rfl⟩
theorem Rr {sn:Seen} {pc pos h:Nat} {o:Bool}:∃sn',Runs 1 (st code2 text text.size s ls sn pc pos h o [w3 18 s true {},lk 10 s true] 2 (some false)) (st code2 text text.size s ls sn' 24 s s true [w3 23 s true {},lk 10 s true] 2 none) :=
 ⟨_,Runs.back rfl rfl rfl rfl⟩
noncomputable abbrev Ri (pc pos:Nat) (out:Bool) (k:Sre.Kept):Sre.Frame:={ wait:=.lookNot,pc,pos,outermost:=out,kept:=k }
theorem Sc {sn:Seen} {pos h:Nat} {fs:List Sre.Frame} {start:Nat}:∃sn',Runs 1 (st code2 text text.size start ls sn 26 pos h true fs 2 none) (st code2 text text.size start ls sn' 29 pos pos false (Ri 26 pos true {}::fs) 3 none) :=
 ⟨_,Runs.exec rfl rfl (show (26:Nat) < 36 by decide) rfl⟩
theorem Nh {sn:Seen} {pc pos p h:Nat} {o:Bool} {fs:List Sre.Frame} {start:Nat}:∃sn',Runs 1 (st code2 text text.size start ls sn pc p h o (Ri 26 pos true {}::fs) 3 (some false)) (st code2 text text.size start ls sn' 32 pos h true fs 2 none) :=
 ⟨_,Runs.back rfl rfl rfl rfl⟩
theorem Ph {sn:Seen} (hl:s < text.size) (hc:text.getD s 0=10∨text.getD s 0=13) :
  ∃n m',n≤16∧Runs n (st code2 text text.size s ls sn 10 s s true [lk 10 s true] 1 none) m'∧m'.outcome=some .matched∧m'.start=s ∧
   m'.handed=(if text.getD s 0=13∧s+1 < text.size∧text.getD (s+1) 0=10 then s+2 else s+1):=by
 obtain ⟨sn1,r1⟩:=Km (text:=text) (s:=s) (ls:=ls) sn
 by_cases h13:text.getD s 0=13
 ·obtain ⟨sn2,r2⟩:=qk (text:=text) (ls:=ls) (pc:=12) (h:=s) (sn:=sn1) (o:=true) (fs:=[w3 11 s true {},lk 10 s true]) (wt:=2) (start:=s) (by decide) rfl rfl hl h13
  by_cases h10:s+1 < text.size∧text.getD (s+1) 0=10
  ·refine cps λ_ KK=>?_
   obtain ⟨sn3,r3⟩:=qk (text:=text) (ls:=ls) (pc:=14) (h:=s) (sn:=sn2) (o:=true) (fs:=[w3 11 s true {},lk 10 s true]) (wt:=2) (start:=s) (by decide) rfl rfl h10.1 h10.2
   obtain ⟨m',r4,q1,q2,q3⟩:=Au (text:=text) (ls:=ls) (pc:=16) (pos:=s+2) (h:=s) (sn:=sn3) (o1:=true) (o2:=true) (k:={}) (pcB:=11) (posB:=s) (pcN:=10) (posN:=s) (wt:=2) (start:=s) (by decide) rfl rfl
   refine KK ?_
   exact ⟨_,m',by decide,r1.trans (r2.trans (r3.trans r4)),q1,q2,by rw [if_pos ⟨h13,h10⟩]; exact q3⟩
  ·have hn:text.size≤s+1∨text.getD (s+1) 0≠10:=by
    by_cases h:s+1 < text.size
    ·exact .inr λq=>h10 ⟨h,q⟩
    ·exact .inl (by (exact Nat.le_of_not_lt (by assumption)))
   refine cps λ_ KK=>?_
   obtain ⟨sn3,r3⟩:=wk (text:=text) (ls:=ls) (pc:=14) (h:=s) (sn:=sn2) (o:=true) (fs:=[w3 11 s true {},lk 10 s true]) (wt:=2) (start:=s) (by decide) rfl rfl hn
   obtain ⟨sn4,r4⟩:=Pt (text:=text) (s:=s) (ls:=ls) (sn:=sn3) (pc:=14) (pos:=s+1) (h:=s) (o:=true)
   obtain ⟨sn5,r5⟩:=wk (text:=text) (ls:=ls) (pc:=19) (pos:=s) (h:=s) (sn:=sn4) (o:=true) (fs:=[w3 18 s true {},lk 10 s true]) (wt:=2) (start:=s) (by decide) rfl rfl (.inr (by rw [h13]; decide))
   obtain ⟨sn6,r6⟩:=Rr (text:=text) (s:=s) (ls:=ls) (sn:=sn5) (pc:=19) (pos:=s) (h:=s) (o:=true)
   obtain ⟨sn7,r7⟩:=qk (text:=text) (ls:=ls) (pc:=24) (h:=s) (sn:=sn6) (o:=true) (fs:=[w3 23 s true {},lk 10 s true]) (wt:=2) (start:=s) (by decide) rfl rfl hl h13
   obtain ⟨sn8,r8⟩:=Sc (text:=text) (ls:=ls) (sn:=sn7) (pos:=s+1) (h:=s) (fs:=[w3 23 s true {},lk 10 s true]) (start:=s)
   obtain ⟨sn9,r9⟩:=wk (text:=text) (ls:=ls) (pc:=29) (pos:=s+1) (h:=s+1) (sn:=sn8) (o:=false) (fs:=Ri 26 (s+1) true {}::[w3 23 s true {},lk 10 s true]) (wt:=3) (start:=s) (by decide) rfl rfl hn
   obtain ⟨sn10,r10⟩:=Nh (text:=text) (ls:=ls) (sn:=sn9) (pc:=29) (pos:=s+1) (p:=s+1) (h:=s+1) (o:=false) (fs:=[w3 23 s true {},lk 10 s true]) (start:=s)
   obtain ⟨m',r11,q1,q2,q3⟩:=Au (text:=text) (ls:=ls) (pc:=32) (pos:=s+1) (h:=s+1) (sn:=sn10) (o1:=true) (o2:=true) (k:={}) (pcB:=23) (posB:=s) (pcN:=10) (posN:=s) (wt:=2) (start:=s) (by decide) rfl rfl
   refine KK ?_
   exact ⟨_,m',by decide,r1.trans (r2.trans (r3.trans (r4.trans (r5.trans (r6.trans (r7.trans (r8.trans (r9.trans (r10.trans r11))))))))),q1,q2,by rw [if_neg (λq=>h10 q.2)]; exact q3⟩
 ·have h10:text.getD s 0=10:=hc.resolve_right h13
  refine cps λ_ KK=>?_
  obtain ⟨sn2,r2⟩:=wk (text:=text) (ls:=ls) (pc:=12) (pos:=s) (h:=s) (sn:=sn1) (o:=true) (fs:=[w3 11 s true {},lk 10 s true]) (wt:=2) (start:=s) (by decide) rfl rfl (.inr h13)
  obtain ⟨sn3,r3⟩:=Pt (text:=text) (s:=s) (ls:=ls) (sn:=sn2) (pc:=12) (pos:=s) (h:=s) (o:=true)
  obtain ⟨sn4,r4⟩:=qk (text:=text) (ls:=ls) (pc:=19) (h:=s) (sn:=sn3) (o:=true) (fs:=[w3 18 s true {},lk 10 s true]) (wt:=2) (start:=s) (by decide) rfl rfl hl h10
  obtain ⟨m',r5,q1,q2,q3⟩:=Au (text:=text) (ls:=ls) (pc:=21) (pos:=s+1) (h:=s) (sn:=sn4) (o1:=true) (o2:=true) (k:={}) (pcB:=18) (posB:=s) (pcN:=10) (posN:=s) (wt:=2) (start:=s) (by decide) rfl rfl
  refine KK ?_
  exact ⟨_,m',by decide,r1.trans (r2.trans (r3.trans (r4.trans r5))),q1,q2,by rw [if_neg (λq=>h13 q.1)]; exact q3⟩
noncomputable def zt:List Nat->Nat->Option (Nat×Nat)
 | [],_=>none
 | [c],s=>if c==10||c==13 then some (s,s+1) else none
 | c::c'::r,s=>if c==10||c==13 then some (s,if c==13&&c'==10 then s+2 else s+1) else zt (c'::r) (s+1)
theorem Oi (c:Nat) (sn:Seen):∃sn',inSet code2 c code2.size 5 true sn=.ok (c==10||c==13,sn'):=by
 by_cases h1:c=10
 ·subst h1
  exact ⟨_,rfl⟩
 ·by_cases h2:c=13
  ·subst h2
   exact ⟨_,rfl⟩
  ·have e1:(c==10)=false:=by simpa using h1
   have e2:(c==13)=false:=by simpa using h2
   refine ⟨((sn.add 16).add 16).add 0,?_⟩
   show (if (c==10)=true then _ else (if (c==13)=true then _ else _))=_
   refine e1.symm▸e2.symm▸?_
   rfl
theorem i4 {text:Array Nat} {s c:Nat} {r:List Nat} (h:text.toList.drop s=c::r):s < text.size∧text.getD s 0=c∧text.toList.drop (s+1)=r:=by
 have hs:s < text.toList.length:=by
  rcases Nat.lt_or_ge s text.toList.length with q | q
  ·exact q
  ·rw [List.drop_eq_nil_of_le q] at h; cases h
 rw [List.drop_eq_getElem_cons hs] at h
 injection h with h1 h2
 have hs':s < text.size:=by simpa using hs
 exact ⟨hs',by rw [← h1]; simp [Array.getD,hs'],h2⟩
theorem vn {m:M} (hc:m.code=code2) (ht:m.text=text) (hl:m.lim=text.size):∀(l:List Nat) (s fuel:Nat) (sn:Seen),text.toList.drop s=l->l.length < fuel->∃sn',M.admitted m fuel s sn=.ok ((zt l s).map (·.1),sn')
 | [],s,fuel+1,sn,hd,_=>by
  have hs:text.size≤s:=by
   have:=List.drop_eq_nil_iff.mp hd
   simpa using this
  refine ⟨sn,?_⟩
  unfold M.admitted
  rw [if_pos (by rw [hl]; exact hs)]
  rfl
 | c::r,s,fuel+1,sn,hd,hf=>by
  obtain ⟨h1,h2,h3⟩:=i4 hd
  obtain ⟨sn1,e1⟩:=Oi c sn
  unfold M.admitted
  rw [if_neg (by rw [hl]; exact Nat.not_le.mpr h1),hc,ht,h2,e1]
  cases hb:(c==10||c==13) with
  | true =>
   refine ⟨sn1,?_⟩
   cases r with
   | nil=>simp [zt,hb]
   | cons c' r=>simp [zt,hb]
  | false =>
   obtain ⟨sn2,e2⟩:=vn hc ht hl r (s+1) fuel sn1 h3 (by simp only [List.length_cons] at hf; (exact Nat.le_of_lt_succ (by assumption)))
   refine ⟨sn2,?_⟩
   dsimp only
   rw [e2]
   cases r with
   | nil=>simp [zt,hb]
   | cons c' r=>simp [zt,hb]
theorem Mb {text:Array Nat} {s:Nat} (h:text.toList.drop s=[]):text.size≤s:=List.drop_eq_nil_iff.mp h
theorem crlf_b {c c':Nat}:(c==13&&c'==10)=true↔c=13∧c'=10:=by rw [Bool.and_eq_true,beq_iff_eq,beq_iff_eq]
theorem Qc {c:Nat} (h:(c==10||c==13)=true):c=10∨c=13:=by rwa [Bool.or_eq_true,beq_iff_eq,beq_iff_eq] at h
inductive N5 (text:Array Nat) (b e:Nat):Prop
 | mk:b < text.size->(text.getD b 0=10∨text.getD b 0=13)->e=(if text.getD b 0=13∧b+1 < text.size∧text.getD (b+1) 0=10 then b+2 else b+1)->N5 text b e
theorem Ln {α:Type} {c d:Prop} [Decidable c] [Decidable d] (h:c↔d) (x y:α):(if c then x else y)=if d then x else y:=by
 by_cases q:c
 ·exact (if_pos q).symm▸(if_pos (h.mp q)).symm▸rfl
 ·exact (if_neg q).symm▸(if_neg λp=>q (h.mpr p)).symm▸rfl
theorem Aw {α:Type} {c:Prop} [Decidable c] {x:α} {o:Option α} {y:α} {C:Prop} (e:(if c then some x else o)=some y) (k1:c->x=y->C) (k2:¬ c->o=some y->C):C:=by
 by_cases h:c
 ·rw [if_pos h] at e; exact k1 h (b9 e)
 ·rw [if_neg h] at e; exact k2 h e
theorem zq:∀(l:List Nat) (s b e:Nat),text.toList.drop s=l->zt l s=some (b,e)->N5 text b e
 | [],s,b,e,_,h=>al h
 | [c],s,b,e,hd,h=>by
  obtain ⟨h1,h2,h3⟩:=i4 hd
  refine ay (show (if (c==10||c==13)=true then some (s,s+1) else none)=some (b,e) from h) λhc q=>?_
  obtain ⟨rfl,rfl⟩:=Prod.mk.inj q
  exact ⟨h1,h2.symm▸Qc hc,(if_neg λq=>Nat.not_le.mpr q.2.1 (Mb h3)).symm⟩
 | c::c'::r,s,b,e,hd,h=>by
  obtain ⟨h1,h2,h3⟩:=i4 hd
  obtain ⟨h4,h5,_⟩:=i4 h3
  refine Aw (show (if (c==10||c==13)=true then some (s,if (c==13&&c'==10)=true then s+2 else s+1) else zt (c'::r) (s+1))=some (b,e) from h) (λhc q=>?_) λ_ h=>zq (c'::r) (s+1) b e h3 h
  obtain ⟨rfl,rfl⟩:=Prod.mk.inj q
  refine ⟨h1,h2.symm▸Qc hc,?_⟩
  refine h2.symm▸h5.symm▸?_
  exact Ln (crlf_b.trans ⟨λq=>⟨q.1,h4,q.2⟩,λq=>⟨q.1,q.2.2⟩⟩) _ _
noncomputable def O1 (o:Option (Nat×Nat)) (m':M):Prop:=match o with
  | some (b,e)=>m'.outcome=some .matched∧m'.start=b∧m'.handed=e
  | none=>m'.outcome=some .failed
noncomputable def Sr (m:M) (o:Option (Nat×Nat)):Prop:=∃n m',n≤16∧Runs n m m'∧O1 o m'
theorem R9 {p:Nat} {o:Option (Nat×Nat)} {sn:Seen} {sn':Seen} (ho:∀b e,o=some (b,e)->N5 text b e) (ea:M.admitted (st code2 text text.size p text.size sn 10 p p true [] 0 none) (text.size+1 - p) p sn=.ok (o.map (·.1),sn')) :
  Sr (M.attemptFrom (st code2 text text.size p text.size sn 10 p p true [] 0 none) p true) o:=by
 unfold M.attemptFrom
 rw [show (st code2 text text.size p text.size sn 10 p p true [] 0 none).hasFirstSet=true from rfl,if_neg (by decide)]
 have ea':M.admitted (st code2 text text.size p text.size sn 10 p p true [] 0 none) ((st code2 text text.size p text.size sn 10 p p true [] 0 none).lim+1 - p) p (st code2 text text.size p text.size sn 10 p p true [] 0 none).seen=_:=ea
 refine ea'.symm▸?_
 cases o with
 | none=>exact ⟨1,_,by decide,Runs.out (yes:=false) rfl rfl rfl,rfl⟩
 | some be =>
  refine cps λ_ KK=>?_
  obtain ⟨h1,h2,h3⟩:=ho _ _ rfl
  obtain ⟨n,m',hle,hr,q1,q2,q3⟩:=Ph (ls:=text.size) (sn:=sn') h1 h2
  refine KK ?_
  exact ⟨n,m',hle,hr,q1,q2,q3.trans h3.symm⟩
theorem Mc {p:Nat} (hp:p≤text.size):Sr (forSearch code2 text 0 p text.size false) (zt (text.toList.drop p) p):=by
 by_cases h0:text.size - p < 1
 ·refine (List.drop_eq_nil_of_le (show text.toList.length≤p from Nat.le_of_sub_eq_zero (Nat.lt_one_iff.mp h0))).symm▸?_
  have e:∃m:M,forSearch code2 text 0 p text.size false=m.say false∧m.outcome=none∧m.frames=[]:=by
   unfold forSearch; exact ⟨_,if_pos (by rw [Bool.or_eq_true]; exact .inr (decide_eq_true h0)),rfl,rfl⟩
  obtain ⟨m,e,h1,h2⟩:=e
  refine e.symm▸?_
  exact ⟨1,_,by decide,Runs.out (yes:=false) h1 rfl h2,rfl⟩
 ·have hF:forSearch code2 text 0 p text.size false=M.attemptFrom (st code2 text text.size p text.size (({}:Seen).add 14) 10 p p true [] 0 none) p true:=by
   unfold forSearch
   rw [if_neg (by simp; exact ⟨hp,by show 1≤_; (exact Nat.le_of_not_lt (by assumption))⟩)]
   rfl
  obtain ⟨sn,ea⟩:=vn (m:=st code2 text text.size p text.size (({}:Seen).add 14) 10 p p true [] 0 none) (text:=text) rfl rfl rfl (text.toList.drop p) p (text.size+1 - p) (({}:Seen).add 14) rfl (List.length_drop.symm▸(Nat.succ_sub hp).symm▸Nat.lt_succ_self _)
  refine hF.symm▸?_
  exact R9 (λb e h=>zq _ p b e rfl h) ea
end
theorem My {m:M} {k:Nat} {b:Bool} (h1:m.code.getD m.pc 0=6) (h2:m.code.getD (m.pc+1) 0=1) (hb:(m.pos==0||m.text.getD (m.pos - 1) 0==10)=b) :
  ∃sn,m.exec=(if b then { m with seen:=sn,pc:=m.pc+2 } else { m with seen:=sn,answer:=some false }):=by
 have e:ops[m.code.getD m.pc 0]?=some .AT:=by rw [h1]; rfl
 refine ⟨(m.seen.add (m.code.getD m.pc 0)).add (43+1),?_⟩
 unfold M.exec M.word
 simp only [Nat.add_zero,e,h2]
 unfold M.isAt
 simp only [hb]
 cases b<;>rfl
section
variable {text:Array Nat}
noncomputable def A2 (text:Array Nat) (s:Nat):Bool:=s==0||text.getD (s - 1) 0==10
noncomputable def p7:List Nat->Bool->Nat->Option Nat
 | [],_,_=>none
 | c::r,b,s=>if b&&c==46 then some s else p7 r (c==10) (s+1)
theorem Ml {s pc pos h:Nat} {sn:Seen} {o o':Bool} (hs:s < text.size):∃sn',Runs 1 (st d9 text text.size s text.size sn pc pos h o [lk 5 s o'] 1 (some false)) (st d9 text text.size (s+1) text.size sn' 5 (s+1) (s+1) false [lk 5 (s+1) false] 1 none):=by
 refine ⟨sn,Runs.back rfl rfl rfl ?_⟩
 show (if s < text.size then _ else _)=_
 rw [if_pos hs]
 rfl
theorem Mn {s pc pos h:Nat} {sn:Seen} {o o':Bool} (hs:¬ s < text.size):∃m',Runs 2 (st d9 text text.size s text.size sn pc pos h o [lk 5 s o'] 1 (some false)) m'∧m'.outcome=some .failed:=by
 refine ⟨_,(Runs.back (m':=st d9 text text.size s text.size sn 5 s h o' [] 0 (some false)) rfl rfl rfl ?_).trans (Runs.out rfl rfl rfl),rfl⟩
 show (if s < text.size then _ else _)=_
 rw [if_neg hs]
 rfl
theorem Pb:∀(l:List Nat) (s:Nat) (sn:Seen) (o:Bool),text.toList.drop s=l->s≤text.size->∃n m',n≤4*l.length+6∧Runs n (st d9 text text.size s text.size sn 5 s s o [lk 5 s o] 1 none) m'∧(match p7 l (A2 text s) s with
  | some b=>m'.outcome=some .matched∧m'.start=b∧m'.handed=b+1
  | none=>m'.outcome=some .failed):=λl=>by
 induction l with
 | nil =>
  intro s sn o hd hs
  have he:text.size≤s:=by
   have:=List.drop_eq_nil_iff.mp hd
   simpa using this
  obtain ⟨sn1,e1⟩:=My (m:=st d9 text text.size s text.size sn 5 s s o [lk 5 s o] 1 none) (k:=0) (b:=A2 text s) rfl rfl rfl
  have r1:=Runs.exec rfl rfl (show (5:Nat) < 10 by decide) e1
  cases hb:A2 text s with
  | false =>
   replace r1:=hb▸r1
   obtain ⟨m',r2,q⟩:=Mn (text:=text) (s:=s) (pc:=5) (pos:=s) (h:=s) (sn:=sn1) (o:=o) (o':=o) (by lia)
   exact ⟨_,m',by decide,r1.trans r2,q⟩
  | true =>
   replace r1:=hb▸r1
   refine cps λ_ KK=>?_
   obtain ⟨sn2,e2⟩:=ot (m:=st d9 text text.size s text.size sn1 7 s s o [lk 5 s o] 1 none) rfl rfl (.inl he)
   have r2:=Runs.exec rfl rfl (show (7:Nat) < 10 by decide) e2
   obtain ⟨m',r3,q⟩:=Mn (text:=text) (s:=s) (pc:=7) (pos:=s) (h:=s) (sn:=sn2) (o:=o) (o':=o) (by lia)
   refine KK ?_
   exact ⟨_,m',by decide,r1.trans (r2.trans r3),q⟩
 | cons c r ih =>
  intro s sn o hd hs
  refine cps λ_ KK=>?_
  obtain ⟨h1,h2,h3⟩:=i4 hd
  have hbn:A2 text (s+1)=(c==10):=by
   unfold A2
   rw [Nat.add_sub_cancel,h2]
   simp
  obtain ⟨sn1,e1⟩:=My (m:=st d9 text text.size s text.size sn 5 s s o [lk 5 s o] 1 none) (k:=0) (b:=A2 text s) rfl rfl rfl
  refine KK ?_
  have r1:=Runs.exec rfl rfl (show (5:Nat) < 10 by decide) e1
  unfold p7
  cases hb:A2 text s with
  | false =>
   replace r1:=hb▸r1
   refine cps λ_ KK=>?_
   obtain ⟨sn2,r2⟩:=Ml (text:=text) (s:=s) (pc:=5) (pos:=s) (h:=s) (sn:=sn1) (o:=o) (o':=o) h1
   obtain ⟨n,m',hn,r3,q⟩:=ih (s+1) sn2 false h3 h1
   refine KK ?_
   replace q:=hbn▸q
   rw [Bool.false_and,if_neg (by decide)]
   exact ⟨_,m',by simp only [List.length_cons]; lia,r1.trans (r2.trans r3),q⟩
  | true =>
   replace r1:=hb▸r1
   by_cases hc:c=46
   ·obtain ⟨sn2,e2⟩:=rg (m:=st d9 text text.size s text.size sn1 7 s s o [lk 5 s o] 1 none) rfl rfl h1 (h2.trans hc)
    have r2:=Runs.exec rfl rfl (show (7:Nat) < 10 by decide) e2
    obtain ⟨sn3,e3⟩:=ud (m:=st d9 text text.size s text.size sn2 9 (s+1) s o [lk 5 s o] 1 none) rfl rfl rfl
    have r3:=Runs.exec rfl rfl (show (9:Nat) < 10 by decide) e3
    have r4:Runs 2 (st d9 text text.size s text.size sn3 9 (s+1) (s+1) o [lk 5 s o] 1 (some true)) _:=(Runs.back rfl rfl rfl rfl).trans (Runs.out rfl rfl rfl)
    refine hc.symm▸?_
    refine ⟨_,_,?_,r1.trans (r2.trans (r3.trans r4)),?_⟩
    ·simp only [List.length_cons]; (exact Nat.le_add_left _ _)
    ·exact ⟨rfl,rfl,rfl⟩
   ·refine cps λ_ KK=>?_
    obtain ⟨sn2,e2⟩:=ot (m:=st d9 text text.size s text.size sn1 7 s s o [lk 5 s o] 1 none) rfl rfl (.inr (λq=>hc (h2.symm.trans q)))
    have r2:=Runs.exec rfl rfl (show (7:Nat) < 10 by decide) e2
    obtain ⟨sn3,r3⟩:=Ml (text:=text) (s:=s) (pc:=7) (pos:=s) (h:=s) (sn:=sn2) (o:=o) (o':=o) h1
    obtain ⟨n,m',hn,r4,q⟩:=ih (s+1) sn3 false h3 h1
    refine KK ?_
    replace q:=hbn▸q
    have hcb:(c==46)=false:=by simpa using hc
    rw [hcb,Bool.and_false,if_neg (by decide)]
    exact ⟨_,m',by simp only [List.length_cons]; lia,r1.trans (r2.trans (r3.trans r4)),q⟩
theorem La {p:Nat} (hp:p≤text.size):∃n m',n≤4*text.size+6∧Runs n (forSearch d9 text 0 p text.size false) m'∧(match p7 (text.toList.drop p) (A2 text p) p with
  | some b=>m'.outcome=some .matched∧m'.start=b∧m'.handed=b+1
  | none=>m'.outcome=some .failed):=by
 by_cases h0:text.size - p < 1
 ·have hd:text.toList.drop p=[]:=List.drop_eq_nil_of_le (by simp; lia)
  rw [hd]
  refine ⟨1,_,by (exact Nat.succ_pos _),Runs.out (m:=forSearch d9 text 0 p text.size false) (yes:=false) ?_ ?_ ?_,?_⟩
  all_goals (unfold forSearch; rw [if_pos (by simp; right; exact h0)]; rfl)
 ·have hF:forSearch d9 text 0 p text.size false=st d9 text text.size p text.size (({}:Seen).add 14) 5 p p true [lk 5 p true] 1 none:=by
   unfold forSearch
   rw [if_neg (by simp; exact ⟨hp,by show 1≤_; (exact Nat.le_of_not_lt (by assumption))⟩)]
   rfl
  rw [hF]
  refine cps λ_ KK=>?_
  obtain ⟨n,m',hn,r,q⟩:=Pb (text:=text) (text.toList.drop p) p (({}:Seen).add 14) true rfl hp
  refine KK ?_
  refine ⟨n,m',?_,r,q⟩
  rw [List.length_drop,Array.length_toList] at hn
  lia
end
end Mine
end
section
open PySem PySem.Sre PySem.Builtin.Re PySem.Calls
namespace Mine
theorem o8:Slot "re.Pattern" "sub" "re.Pattern.sub" :=
 .of (owner:="re.Pattern") (n:="sub") (by rw [typeLookup_type,builtinLookup_eq_fast]; kernel_rfl) (by decide +kernel) (by decide +kernel) (by decide +kernel)
  (by first | exact .inl (by decide +kernel) | exact .inr (by decide +kernel)) (by rw [isSubtype_type]; kernel_rfl)
theorem y3:typeOf (.builtin "re.Pattern.sub")=pure (.type "method_descriptor"):=by show builtinType _=_; rw [builtinType_eq_fast]; kernel_rfl
theorem uj:PlainAttrs "re.Pattern" :=
 ⟨⟨"object.__getattribute__",by rw [typeLookup_type,builtinLookup_eq_fast]; kernel_rfl,by decide +kernel⟩,by rw [typeLookup_type,builtinLookup_eq_fast]; kernel_rfl⟩
theorem xb:entryFor table "re.Pattern.sub"=some Builtin.«re.Pattern.sub»:=entryFor_of_tree (by kernel_rfl)
theorem up:entryFor table "re.Pattern.sub.loop"=some Builtin.«re.Pattern.sub.loop»:=entryFor_of_tree (by kernel_rfl)
theorem im:plainId "re.Pattern.sub.loop"=true:=by decide +kernel
theorem yz (a b c:Value):argsOk "re.Pattern.sub" ⟨[a,b,c],[]⟩:=by unfold argsOk; kernel_rfl
section
variable {prog:Program} {w:World} {A:Around} {E:Value->Shared->Prop} {s:Shared}
theorem y0 {M_0:Model}:∀(turns n:Nat) (m m':M) (Q:M->Shared->Prop),Runs n m m'->m'.outcome.isSome=true->n < turns->Q m' s->wpAny M_0 A (reDrive turns m) Q E s
 | 0,n,m,m',Q,_,_,h,_=>by lia
 | turns+1,n,m,m',Q,hr,ho,hlt,hQ=>by
  unfold reDrive reTurnSteps
  dsimp only
  cases h4:(m.runFor 4).outcome.isSome with
  | true =>
   rw [if_pos rfl]
   have:m.runFor 4=m':=by
    by_cases hn:n≤4
    ·have e:m.runFor (n+(4 - n))=(m.runFor n).runFor (4 - n):=ew _ _ _
     rw [show n+(4 - n)=4 by (exact Nat.add_sub_of_le (by assumption)),show m.runFor n=m' from hr,dv ho] at e
     exact e
    ·have e:m.runFor (4+(n - 4))=(m.runFor 4).runFor (n - 4):=ew _ _ _
     rw [show 4+(n - 4)=n by omega,show m.runFor n=m' from hr,dv h4] at e
     exact e.symm
   rw [this]
   exact wpAny_pure hQ
  | false =>
   rw [if_neg (by decide)]
   have hn:4 < n:=by
    rcases Nat.lt_or_ge 4 n with q | q
    ·exact q
    ·exfalso
     have e:m.runFor (n+(4 - n))=(m.runFor n).runFor (4 - n):=ew _ _ _
     rw [show n+(4 - n)=4 by (exact Nat.add_sub_of_le (by assumption)),show m.runFor n=m' from hr,dv ho] at e
     rw [e,ho] at h4
     exact Sn h4
   have hr':Runs (n - 4) (m.runFor 4) m':=by
    have e:m.runFor (4+(n - 4))=(m.runFor 4).runFor (n - 4):=ew _ _ _
    rw [show 4+(n - 4)=n by omega,show m.runFor n=m' from hr] at e
    exact e.symm
   exact wpAny_bind (wpAny_rule (y0 turns (n - 4) _ m' Q hr' ho (by omega) hQ))
theorem z4 {M_0:Model} {n:Nat} {m m':M} {Q:Option M->Shared->Prop} (hr:Runs n m m') (hn:n < 2 ^ 64) (ho:m'.outcome=some .matched∨m'.outcome=some .failed) (hQ:Q (if m'.outcome matches some .matched then some m' else none) s):wpAny M_0 A (reRunToEnd m) Q E s:=by
 skip
 refine wpAny_bind (y0 (2 ^ 64) n m m' _ hr (by rcases ho with h | h<;>rw [h]<;>rfl) hn ?_)
 refine wpAny_bind (wpAny_forIn_list _ (λ_ _ s'=>s'=s) _ (λi rest b s' h=>?_) (λb s' h=>?_) _ _ rfl)
 ·subst h
  split
  ·exact wpAny_bind (wpAny_rule (wpAny_pure rfl))
  ·exact wpAny_pure rfl
 ·subst h
  rcases ho with h | h
  ·rw [h] at hQ ⊢
   exact wpAny_pure hQ
  ·rw [h] at hQ ⊢
   exact wpAny_pure hQ
end
end Mine
end
section
open PySem PySem.Sre PySem.Builtin.Re PySem.Calls PyProof.Rows open Builtin Builtin.Str
namespace Mine
theorem Pat.keep {h h':Heap} {pa ca:Addr} {code:Array Nat} (P:Pat h pa ca code) (k:∀o,h.get? pa=some o->h'.get? pa=some o) (k':∀o,h.get? ca=some o->h'.get? ca=some o):Pat h' pa ca code:=by
 refine cps λ_ KK=>?_
 obtain ⟨o,oc,x,t,t1,t2,t3,fl,vs,n,h1,h2,h3,h4,h5,h6,h7⟩:=P.ex
 refine KK ?_
 exact ⟨o,oc,x,t,t1,t2,t3,fl,vs,n,k _ h1,h2,h3,h4,k' _ h5,h6,h7⟩
section
variable {prog:Program} {w:World} {A:Around} {s:Shared}
theorem z3 {M_0:Model} {E:Value->Shared->Prop} {pa ca:Addr} {code:Array Nat} (P:Pat s.heap pa ca code) {x:PySem.Str} {t:Tok} {Q:ReTarget->Shared->Prop}
  (hQ:Q { pattern:=.ref pa,string:=.str x t,code,text:=x.cps,kind:=0,groups:=0,pos:=0,lim:=x.cps.size } s):wpAny M_0 A (reWholeTarget (.ref pa) (.str x t)) Q E s:=by
 refine cps λ_ KK=>?_
 obtain ⟨o,oc,y,t0,t1,t2,t3,fl,vs,n,h1,h2,h3,h4,h5,h6,h7⟩:=P.ex
 refine KK ?_
 skip
 refine wpAny_bind (wpAny_fieldsOf h1 h4 ?_)
 refine wpAny_bind (m:=reTextOf (.str x t)) (wpAny_pure ?_)
 refine wpAny_bind (m:=reNoCollectionInside (.str x t) 0) (wpAny_pure ?_)
 skip
 skip
 refine wpAny_bind (wpAny_bind (wpAny_seqItems h5 h6 (wpAny_pure ?_)))
 refine (show ((some vs:Option (Array Value)).getD #[])=vs from rfl).symm▸h7.symm▸?_
 exact wpAny_pure hQ
noncomputable def cx (nx:Nat->Option (Nat×Nat)) (x:PySem.Str) (r:PySem.Str):Nat->Nat->List PySem.Str
 | 0,_=>[]
 | f+1,p=>match nx p with
  | none=>if p < x.cps.size then [⟨x.cps.extract p x.cps.size⟩] else []
  | some (b,e)=>(if p < b then [⟨x.cps.extract p b⟩] else [])++r::cx nx x r f e
structure Finds (code:Array Nat) (text:Array Nat) (nx:Nat->Option (Nat×Nat)):Prop where
 run:∀p,p≤text.size->∃n m',n < 2 ^ 64∧Runs n (forSearch code text 0 p text.size false) m'∧(match nx p with
  | some (b,e)=>m'.outcome=some .matched∧m'.start=b∧m'.handed=e
  | none=>m'.outcome=some .failed)
 mono:∀p b e,nx p=some (b,e)->p≤b∧b < e∧e≤text.size
theorem ta {D:Addr} {vs:Array Value} {v:Value} {Q:Unit->Shared->Prop} {E:Value->Shared->Prop} {M_0:Model} (hl:s.heap.PlainList D vs) (hsz:vs.size≤sizeLine) (hQ:∀h',h'.PlainList D (vs.push v)->Heap.SameBut D s.heap h'->Q () { s with heap:=h' }) :
  wpAny M_0 A (updateSeq D (·.push v)) Q E s:=by
 obtain ⟨n,ho⟩:=hl
 obtain ⟨n',hm⟩:=jf (·.push v) vs n
 refine wpAny_updateSeq ho rfl (hQ _ ⟨n',?_⟩ (Heap.SameBut.update ..)) (hz:=hsz) (_hz':=by rw [Array.size_push]; (exact Nat.lt_succ_of_le (by assumption)))
 rw [Heap.get?_update_self _ ho (by rw [hm]; rfl),hm]
theorem og (a b:List (PySem.Str×Tok)):strValues (a++b)=strValues a++strValues b:=List.map_append
theorem Iv {D:Addr} {ps:List (PySem.Str×Tok)} {t:Tok} {Q:Value->Shared->Prop} (hl:s.heap.IsList D (strValues ps).toArray) (hlen:tooLong ((ps.map (·.1)).toArray.foldl (·+·.length+Str.empty.length) 0)=false) (hsz:(glued Str.empty (ps.map (·.1))).length≤sizeLine)
  (hQ:∀t' k,Q (.str (glued Str.empty (ps.map (·.1))) t') { s with toks:=k }):wpAny (model prog w) A (call (.builtin "str.join") [.str Str.empty t,.ref D]) Q bn s:=by
 refine call_meets PySem.F.slot_str_join (typeIs_str _ _ _) PySem.F.entry_str_join (PySem.F.args_str_join_2 _ _) (meets_str_join_list Str.empty t D ps hlen) ⟨hl,?_⟩
 match ps,hsz,hQ with
 | [],hsz,hQ=>exact ⟨hsz,hQ _ _⟩
 | [p],hsz,hQ=>exact hQ p.2 s.toks
 | p::p'::r,hsz,hQ=>exact ⟨hsz,hQ _ _⟩
noncomputable def Mv (prog:Program) (w:World) (A:Around) (R:Result->Shared->Prop):Fin->Shared->Prop:=λfin s'=>match fin with | .done f=>R (.ok f) s' | .again c'=>c'.quiet=true∧codeAny (model prog w) A c' R s'
noncomputable def B8 (D:Addr) (h h':Heap):Prop:=∀b o,b≠D->h.get? b=some o->h'.get? b=some o
structure Qa (R:Result->Shared->Prop) (D:Addr) (s:Shared) (L:List PySem.Str):Prop where
 hg:(glued Str.empty L).length≤lim
 ht:tooLong (L.toArray.foldl (·+·.length+Str.empty.length) 0)=false
 hR:∀t' h' tk,B8 D s.heap h'->R (.ok (.ret (.str (glued Str.empty L) t'))) { s with heap:=h',toks:=tk }
theorem Finds.no {code text:Array Nat} {nx:Nat->Option (Nat×Nat)} (F:Finds code text nx) {p:Nat} (hp:p≤text.size) (hn:nx p=none):∃n m',n < 2 ^ 64∧Runs n (forSearch code text 0 p text.size false) m'∧m'.outcome=some .failed:=by
 have:=F.run p hp
 rwa [hn] at this
theorem Finds.yes {code text:Array Nat} {nx:Nat->Option (Nat×Nat)} (F:Finds code text nx) {p b e:Nat} (hp:p≤text.size) (hn:nx p=some (b,e)):∃n m',n < 2 ^ 64∧Runs n (forSearch code text 0 p text.size false) m'∧m'.outcome=some .matched∧m'.start=b∧m'.handed=e:=by
 have:=F.run p hp
 rwa [hn] at this
noncomputable def qe (x:PySem.Str) (p b:Nat):List PySem.Str:=if p < b then [⟨x.cps.extract p b⟩] else []
theorem so {nx:Nat->Option (Nat×Nat)} {x r:PySem.Str} {f p:Nat} (hn:nx p=none):cx nx x r (f+1) p=qe x p x.cps.size:=by show (match nx p with | none=>qe x p x.cps.size | some (b,e)=>qe x p b++r::cx nx x r f e)=_; rw [hn]
theorem pn {nx:Nat->Option (Nat×Nat)} {x r:PySem.Str} {f p b e:Nat} (hn:nx p=some (b,e)):cx nx x r (f+1) p=qe x p b++r::cx nx x r f e:=by show (match nx p with | none=>qe x p x.cps.size | some (b,e)=>qe x p b++r::cx nx x r f e)=_; rw [hn]
theorem Oe {x:PySem.Str} {D:Addr} {R:Result->Shared->Prop} {ps:List (PySem.Str×Tok)} {h':Heap} {tk:Nat} (fi:Qa R D s (ps.map (·.1))) (hl:h'.PlainList D (strValues ps).toArray) (hk:B8 D s.heap h') :
  wpAny (model prog w) A.in1 (do
   let joiner ← reSlice x.cps 0 0 0
   let text ← if ((← seqItems? (.ref D)).getD #[]).isEmpty then pure joiner
    else call (.builtin "str.join") [joiner,.ref D]
   ret text) (Mv prog w A R) (λe s'=>R (.error e) s') { s with heap:=h',toks:=tk }:=by
 refine wpAny_bind (m:=reSlice x.cps 0 0 0) ?_
 have e0:reSlice x.cps 0 0 0=mkStr Str.empty:=by
  unfold reSlice
  refine (show (x.cps.extract 0 0)=#[] by simp).symm▸?_
  rfl
 refine e0.symm▸?_
 refine wpAny_mkStr ?_ (by decide)
 obtain ⟨n',ho⟩:=hl
 refine wpAny_bind (wpAny_seqItems ho rfl ?_)
 refine (show ((some (strValues ps).toArray:Option (Array Value)).getD #[])=(strValues ps).toArray from rfl).symm▸?_
 cases ps with
 | nil=>exact wpAny_pure (fi.hR _ h' _ hk)
 | cons q ps =>
  rw [if_neg (by simp [strValues])]
  exact wpAny_bind (wpAny_mono (Iv (s:={ s with heap:=h',toks:=_ }) ⟨_,ho,rfl,n',rfl⟩ fi.ht (Nat.le_trans fi.hg (by show 1048576≤2 ^ 24; decide)) (Q:=λv s''=>Mv prog w A R (.done (.ret v)) s'') (λt' k=>fi.hR t' h' k hk)) (λv s'' h=>wpAny_pure h) λ_ _ (q:False)=>q.elim)
theorem tv {h:Heap} {D:Addr} {ps:List (PySem.Str×Tok)} {r:PySem.Str} {u:Tok} (hl:h.PlainList D ((strValues ps).toArray.push (.str r u))):h.PlainList D (strValues (ps++[(r,u)])).toArray:=by
 rw [og]
 simpa [strValues] using hl
theorem y1 {ps:List (PySem.Str×Tok)} {n:Nat} (h:ps.length≤n):(strValues ps).toArray.size≤n:=by rw [List.size_toArray]; unfold strValues; rw [List.length_map]; exact h
theorem Ii {x:PySem.Str} {D:Addr} {m:Sem Fin} {Q:Fin->Shared->Prop} {E:Value->Shared->Prop} {ps:List (PySem.Str×Tok)} {p b:Nat} (hl:s.heap.PlainList D (strValues ps).toArray) (hps:ps.length≤sizeLine) (hx:x.cps.size≤lim)
  (k:∀ps' h' tk,ps'.map (·.1)=ps.map (·.1)++qe x p b->ps'.length≤ps.length+1->h'.PlainList D (strValues ps').toArray->B8 D s.heap h'->wpAny (model prog w) A.in1 m Q E { s with heap:=h',toks:=tk }) :
  wpAny (model prog w) A.in1 (if p < b then reSlice x.cps 0 p b >>= λv=>updateSeq D (·.push v) >>= λ_=>m else m) Q E s:=by
 by_cases hlt:p < b
 ·rw [if_pos hlt]
  refine wpAny_bind (m:=reSlice x.cps 0 p b) (wpAny_mkStr ?_ (by show (x.cps.extract p b).size≤2 ^ 24; rw [Array.size_extract]; exact Nat.le_trans (Nat.sub_le _ _) (Nat.le_trans (Nat.min_le_right _ _) (Nat.le_trans hx (by decide)))))
  exact wpAny_bind (ta hl (y1 hps) λh' hl' sb=>k (ps++[(⟨x.cps.extract p b⟩,s.toks)]) h' _ (by rw [List.map_append]; unfold qe; rw [if_pos hlt]; rfl) (by rw [List.length_append]; exact Nat.le_refl _) (tv hl') λb o hb e=>sb.extBut b o hb e)
 ·rw [if_neg hlt]
  exact k ps s.heap s.toks (by unfold qe; rw [if_neg hlt,List.append_nil]) (Nat.le_succ _) hl λ_ _ _ e=>e
noncomputable def yj (pa D:Addr) (x r:PySem.Str) (t u:Tok) (n:Int) (e:Nat) (b:Bool):Sem Fin:=updateSeq D (·.push (.str r u)) >>= λ_=>again (.builtin "re.Pattern.sub.loop" ⟨[.ref pa,.str x t,.str r u,rawInt 0,rawInt 0,rawInt n,rawInt e,rawInt e,.bool b,.ref D,.bool false],[]⟩)
theorem Cu {pa ca D:Addr} {code:Array Nat} {x r:PySem.Str} {t u:Tok} {nx:Nat->Option (Nat×Nat)} {R:Result->Shared->Prop} (F:Finds code x.cps nx) (hpD:pa≠D) (hcD:ca≠D) (hx:x.cps.size≤lim) :
  ∀(f p:Nat) (n:Int) (ps:List (PySem.Str×Tok)) (s:Shared),x.cps.size - p < f->p≤x.cps.size->Pat s.heap pa ca code->s.heap.PlainList D (strValues ps).toArray->ps.length+2*f≤4*lim->Qa R D s (ps.map (·.1)++cx nx x r f p) ->
   codeAny (model prog w) A (.builtin "re.Pattern.sub.loop" ⟨[.ref pa,.str x t,.str r u,rawInt 0,rawInt 0,rawInt n,rawInt p,rawInt p,.bool false,.ref D,.bool false],[]⟩) R s
 | 0,p,n,ps,s,hf,_,_,_,_,_=>absurd hf (Nat.not_lt_zero _)
 | f+1,p,n,ps,s,hf,hp,P,hl,hsz,fi=>by
  have hps:ps.length≤sizeLine:=by show _≤2 ^ 24; exact Nat.le_trans (Nat.le_add_right _ _) (Nat.le_trans hsz (by decide))
  refine codeAny_builtin up ?_
  refine (Around.under_plainId im _).symm▸?_
  skip
  skip
  refine wpAny_bind (z3 P ?_)
  skip
  refine wpAny_bind (m:=reLiteralCannotBeTurned (.str r u)) (wpAny_pure ?_)
  skip
  skip
  rw [Int.toNat_natCast]
  cases hn:nx p with
  | none =>
   refine cps λ_ KK=>?_
   obtain ⟨k,m',hk,hr,hq⟩:=F.no hp hn
   refine KK ?_
   refine wpAny_bind (z4 hr hk (.inr hq) ?_)
   refine hq.symm▸?_
   replace fi:=(so hn)▸fi
   exact Ii hl hps hx λps' h' tk hm _ hl' hk'=>Oe (x:=x) (hm▸fi) hl' hk'
  | some be =>
   refine cps λ_ KK=>?_
   obtain ⟨b,e⟩:=be
   obtain ⟨k,m',hk,hr,q1,q2,q3⟩:=F.yes hp hn
   obtain ⟨m1,m2,m3⟩:=F.mono p _ _ hn
   refine KK ?_
   refine wpAny_bind (z4 hr hk (.inl q1) ?_)
   refine q1.symm▸?_
   replace fi:=(pn hn)▸fi
   show wpAny _ _ (if p < m'.start then reSlice x.cps 0 p m'.start >>= λv=>updateSeq D (·.push v) >>= λ_=>yj pa D x r t u (n+1) m'.handed (m'.handed==m'.start) else yj pa D x r t u (n+1) m'.handed (m'.handed==m'.start)) _ _ _
   refine q2.symm▸q3.symm▸(show (e==b)=false from beq_false_of_ne (Nat.ne_of_gt m2)).symm▸?_
   refine Ii hl hps hx λps' h' tk hm hl2 hl' hk'=>?_
   refine wpAny_bind (ta hl' (y1 (by show _≤2 ^ 24; unfold lim at hsz; lia)) λh'' hl'' sb=>wpAny_pure ⟨plainId_quiet im _,?_⟩)
   have hk'':B8 D s.heap h'':=λb o hb e=>sb.extBut b o hb (hk' b o hb e)
   have e1:(ps'++[(r,u)]).map (·.1)++cx nx x r f e=ps.map (·.1)++(qe x p b++r::cx nx x r f e):=by
    rw [List.map_append,hm,List.append_assoc,List.append_assoc]; rfl
   refine Cu F hpD hcD hx f e (n+1) (ps'++[(r,u)]) { s with heap:=h'',toks:=tk } (by (exact Si (by assumption) (Nat.lt_of_le_of_lt (by assumption) (by assumption)) (by assumption))) m3 (P.keep (λo=>hk'' pa o hpD) (λo=>hk'' ca o hcD)) (tv hl'') (by rw [List.length_append,List.length_singleton]; lia) ?_
   refine e1.symm▸?_
   exact ⟨fi.hg,fi.ht,λt' h_3 tk_3 hk_3=>fi.hR t' h_3 tk_3 λb o hb e=>hk_3 b o hb (hk'' b o hb e)⟩
end
theorem ro:∀(l:List PySem.Str) (a:Array Nat),(l.foldl (λacc p=>acc++Str.empty.cps++p.cps) a).toList=a.toList++(l.map λx=>x.cps.toList).flatten
 | [],a=>(List.append_nil _).symm
 | x::r,a=>by rw [List.foldl_cons,ro r]; simp [Str.empty]
theorem Be (ss:List PySem.Str):(glued Str.empty ss).cps.toList=(ss.map λx=>x.cps.toList).flatten:=by
 cases ss with
 | nil=>rfl
 | cons x r=>exact ro r x.cps
theorem F6 (x:Array Nat) (a b:Nat):(x.extract a b).toList=(x.toList.drop a).take (b - a):=by simp [List.extract]
theorem zv (x:PySem.Str) (p b:Nat):((qe x p b).map λy=>y.cps.toList).flatten=(x.cps.toList.drop p).take (b - p):=by
 unfold qe
 by_cases h:p < b
 ·rw [if_pos h]
  exact (List.append_nil _).trans (F6 _ _ _)
 ·rw [if_neg h,Nat.sub_eq_zero_of_le (Nat.le_of_not_lt h)]
  rfl
theorem j5 {x r:PySem.Str} {nx:Nat->Option (Nat×Nat)} {G:Nat->List Nat} (h0:∀p,nx p=none->G p=x.cps.toList.drop p) (h1:∀p b e,nx p=some (b,e)->p≤b∧b < e∧e≤x.cps.size∧G p=(x.cps.toList.drop p).take (b - p)++(r.cps.toList++G e)) :
  ∀(f p:Nat),x.cps.size - p < f->((cx nx x r f p).map λy=>y.cps.toList).flatten=G p
 | 0,p,h=>absurd h (Nat.not_lt_zero _)
 | f+1,p,h=>by
  cases hn:nx p with
  | none=>rw [so hn,zv,h0 p hn,List.take_of_length_le (List.length_drop.symm▸Array.length_toList.symm▸Nat.le_refl _)]
  | some be =>
   obtain ⟨m1,m2,m3,hG⟩:=h1 p be.1 be.2 hn
   rw [pn (b:=be.1) (e:=be.2) hn,hG,List.map_append,List.flatten_append,List.map_cons,List.flatten_cons,j5 h0 h1 f be.2 (by (exact Si (by assumption) (Nat.lt_of_le_of_lt (by assumption) (by assumption)) (by assumption))),zv]
noncomputable def sub2L:List Nat->List Nat
 | []=>[]
 | [c]=>if c==10||c==13 then [13,10] else [c]
 | c::c'::r=>if c==10||c==13 then 13::10::(if c==13&&c'==10 then sub2L r else sub2L (c'::r)) else c::sub2L (c'::r)
theorem kj {b s:Nat} (h:s+1≤b):b - s=(b - (s+1))+1:=by (exact Qt (by assumption))
theorem Cr {e s n:Nat} (h:e≤s+1+n):e≤s+(n+1):=by lia
theorem Al {α:Type} {c:Prop} [Decidable c] {x:α} {o:Option α} {C:Prop} (e:(if c then some x else o)=none) (k:¬ c->o=none->C):C:=by
 by_cases h:c
 ·rw [if_pos h] at e; exact O0 e
 ·rw [if_neg h] at e; exact k h e
theorem wa:∀(l:List Nat) (s:Nat),zt l s=none->sub2L l=l
 | [],_,_=>rfl
 | [c],s,h=>Al (show (if (c==10||c==13)=true then some (s,s+1) else none)=none from h) λhc _=>if_neg hc
 | c::c'::r,s,h=>Al (show (if (c==10||c==13)=true then some (s,if (c==13&&c'==10)=true then s+2 else s+1) else zt (c'::r) (s+1))=none from h) λhc h=>by
  rw [sub2L.eq_3,if_neg hc,wa (c'::r) (s+1) h]
inductive S7 (S:List Nat->List Nat) (w l:List Nat) (s b e:Nat):Prop
 | mk:s≤b->b < e->e≤s+l.length->S l=l.take (b - s)++(w++sub2L (l.drop (e - s)))->S7 S w l s b e
theorem oq:∀(l:List Nat) (s b e:Nat),zt l s=some (b,e)->S7 sub2L [13,10] l s b e
 | [],_,_,_,h=>al h
 | [c],s,b,e,h=>ay (show (if (c==10||c==13)=true then some (s,s+1) else none)=some (b,e) from h) λhc q=>by
  refine ((Prod.mk.inj q).1)▸((Prod.mk.inj q).2)▸?_
  exact ⟨Nat.le_refl _,Nat.lt_succ_self _,Nat.le_refl _,by rw [Nat.sub_self,Nat.add_sub_cancel_left]; exact if_pos hc⟩
 | c::c'::r,s,b,e,h=>Aw (show (if (c==10||c==13)=true then some (s,if (c==13&&c'==10)=true then s+2 else s+1) else zt (c'::r) (s+1))=some (b,e) from h) (λhc q=>by
  refine ((Prod.mk.inj q).1)▸((Prod.mk.inj q).2)▸?_
  by_cases q:(c==13&&c'==10)=true
  ·refine (if_pos q).symm▸?_
   exact ⟨Nat.le_refl _,Nat.lt_add_of_pos_right (by decide),Nat.add_le_add_left (Nat.le_add_left 2 _) s,by rw [sub2L.eq_3,if_pos hc,if_pos q,Nat.sub_self,Nat.add_sub_cancel_left]; rfl⟩
  ·refine (if_neg q).symm▸?_
   exact ⟨Nat.le_refl _,Nat.lt_succ_self _,Nat.add_le_add_left (Nat.le_add_left 1 _) s,by rw [sub2L.eq_3,if_pos hc,if_neg q,Nat.sub_self,Nat.add_sub_cancel_left]; rfl⟩) λhc h=>by
  obtain ⟨h1,h2,h3,h4⟩:=oq (c'::r) (s+1) b e h
  refine ⟨Nat.le_of_succ_le h1,h2,Cr h3,?_⟩
  rw [sub2L.eq_3,if_neg hc,h4,kj h1,kj (Nat.le_trans h1 (Nat.le_of_lt h2))]
  rfl
theorem Pz {a n:Nat} (h:a≤2*n):a+1≤2*(n+1):=Nat.succ_le_succ (Nat.le_succ_of_le h)
theorem N1 {a n:Nat} (h:a≤2*n):a+1+1≤2*(n+1):=Nat.succ_le_succ (Nat.succ_le_succ h)
theorem m6:∀(l:List Nat),(sub2L l).length≤2*l.length
 | []=>Nat.le_refl _
 | [c]=>by
  by_cases h:(c==10||c==13)=true
  ·rw [show sub2L [c]=[13,10] from if_pos h]; exact Nat.le_refl _
  ·rw [show sub2L [c]=[c] from if_neg h]; exact Nat.le_succ 1
 | c::c'::r=>by
  rw [sub2L.eq_3]
  by_cases h:(c==10||c==13)=true
  ·rw [if_pos h]
   by_cases h2:(c==13&&c'==10)=true
   ·rw [if_pos h2]; exact N1 (Nat.le_succ_of_le (Nat.le_succ_of_le (m6 r)))
   ·rw [if_neg h2]; exact N1 (m6 (c'::r))
  ·rw [if_neg h]; exact Pz (m6 (c'::r))
noncomputable def bk:Bool->List Nat->List Nat
 | _,[]=>[]
 | b,c::r=>if b&&c==46 then 46::46::bk false r else c::bk (c==10) r
theorem vx:∀(l:List Nat) (b:Bool) (s:Nat),p7 l b s=none->bk b l=l
 | [],_,_,_=>rfl
 | c::r,b,s,h=>Al (show (if (b&&c==46)=true then some s else p7 r (c==10) (s+1))=none from h) λhc h=>by
  exact (show bk b (c::r)=c::bk (c==10) r from if_neg hc).symm▸(vx r _ (s+1) h).symm▸rfl
inductive Pj (b:Bool) (l:List Nat) (s k:Nat):Prop
 | mk:s≤k->k+1≤s+l.length->l[k - s]?=some 46->bk b l=l.take (k - s)++([46,46]++bk false (l.drop (k+1 - s)))->Pj b l s k
theorem oy:∀(l:List Nat) (b:Bool) (s k:Nat),p7 l b s=some k->Pj b l s k
 | [],_,_,_,h=>al h
 | c::r,b,s,k,h=>Aw (show (if (b&&c==46)=true then some s else p7 r (c==10) (s+1))=some k from h) (λhc q=>by
  refine q▸?_
  have h46:c=46:=eq_of_beq ((Bool.and_eq_true _ _).mp hc).2
  exact ⟨Nat.le_refl _,Nat.add_le_add_left (Nat.le_add_left 1 _) s,by rw [Nat.sub_self,h46]; rfl,by rw [Nat.sub_self,Nat.add_sub_cancel_left]; exact if_pos hc⟩) λhc h=>by
  obtain ⟨h1,h2,h3,h4⟩:=oy r _ (s+1) k h
  refine ⟨Nat.le_of_succ_le h1,Cr h2,(kj h1).symm▸h3,?_⟩
  refine (show bk b (c::r)=c::bk (c==10) r from if_neg hc).symm▸h4.symm▸(kj h1).symm▸(kj (Nat.le_succ_of_le h1)).symm▸?_
  rfl
theorem te:∀(l:List Nat) (b:Bool),(bk b l).length≤2*l.length
 | [],_=>Nat.le_refl _
 | c::r,b=>by
  by_cases h:(b&&c==46)=true
  ·rw [show bk b (c::r)=46::46::bk false r from if_pos h]; exact N1 (te r false)
  ·rw [show bk b (c::r)=c::bk (c==10) r from if_neg h]; exact Pz (te r _)
noncomputable def Rq (text:Array Nat) (p:Nat):Option (Nat×Nat):=zt (text.toList.drop p) p
noncomputable def Pq (text:Array Nat) (p:Nat):Option (Nat×Nat):=(p7 (text.toList.drop p) (A2 text p) p).map λb=>(b,b+1)
theorem yl {α:Type} {text:Array Nat} {p:Nat} {f:List Nat->Option α} {y:α} (h0:f []=none) (h:f (text.toList.drop p)=some y):p≤text.size:=by
 refine Nat.le_of_not_lt λq=>?_
 rw [List.drop_eq_nil_of_le (show text.toList.length≤p from Nat.le_of_lt q),h0] at h
 exact al h
theorem Il {text:Array Nat} {p e:Nat} (hp:p≤text.size) (h:e≤p+(text.toList.drop p).length):e≤text.size:=by
 rwa [List.length_drop,Array.length_toList,Nat.add_sub_cancel' hp] at h
theorem G7 (text:Array Nat) (hs:text.size≤lim):Finds code2 text (Rq text) where
 run:=λp hp=>(Mc (text:=text) hp).elim λn q=>q.elim λm' q=>⟨n,m',Nat.lt_of_le_of_lt q.1 (by decide),q.2.1,q.2.2⟩
 mono:=λp b e h=>(oq _ p b e h).rec λh1 h2 h3 _=>⟨h1,h2,Il (yl (f:=λl=>zt l p) rfl h) h3⟩
theorem Cs {text:Array Nat} {p b e:Nat} (h:Pq text p=some (b,e)):p7 (text.toList.drop p) (A2 text p) p=some b∧b+1=e:=by
 obtain ⟨k,hk,hke⟩:=Option.map_eq_some_iff.mp h
 exact ⟨hk.trans (congrArg some (Prod.mk.inj hke).1),(Prod.mk.inj hke).1▸(Prod.mk.inj hke).2⟩
theorem Hu (text:Array Nat) (hs:text.size≤lim):Finds d9 text (Pq text) where
 run:=λp hp=>by
  obtain ⟨n,m',hn,hr,hq⟩:=La (text:=text) hp
  refine ⟨n,m',by unfold lim at hs; lia,hr,?_⟩
  unfold Pq
  cases hf:p7 (text.toList.drop p) (A2 text p) p with
  | none=>rw [hf] at hq; exact hq
  | some b=>rw [hf] at hq; exact hq
 mono:=λp b e h=>by
  obtain ⟨hk,he⟩:=Cs h
  obtain ⟨h1,h2,h3,_⟩:=oy _ _ p _ hk
  refine he▸?_
  exact ⟨h1,Nat.lt_succ_self _,Il (yl (f:=λl=>p7 l (A2 text p) p) rfl hk) h2⟩
noncomputable def G2 (text:Array Nat) (p:Nat):List Nat:=sub2L (text.toList.drop p)
noncomputable def G1 (text:Array Nat) (p:Nat):List Nat:=bk (A2 text p) (text.toList.drop p)
theorem O7 (x:PySem.Str) (hs:x.cps.size≤lim):((cx (Rq x.cps) x ⟨⟨[13,10]⟩⟩ (x.cps.size+1) 0).map λy=>y.cps.toList).flatten=sub2L x.cps.toList:=by
 refine j5 (G:=G2 x.cps) (λp h=>wa _ p h) (λp b e h=>?_) (x.cps.size+1) 0 (Nat.lt_succ_self _)
 obtain ⟨m1,m2,m3⟩:=(G7 x.cps hs).mono p b e h
 obtain ⟨_,_,_,h4⟩:=oq _ p b e h
 refine ⟨m1,m2,m3,?_⟩
 unfold G2
 exact h4.symm▸List.drop_drop.symm▸(Nat.add_sub_cancel' (Nat.le_trans m1 (Nat.le_of_lt m2))).symm▸rfl
theorem K3 {x:Array Nat} {b:Nat} (h:x[b]?=some 46):A2 x (b+1)=false:=by
 obtain ⟨hlt,he⟩:=Array.getElem?_eq_some_iff.mp h
 have e:x.getD b 0=46:=he▸dif_pos hlt
 unfold A2
 rw [Nat.add_sub_cancel,e]
 rfl
theorem Ps (x:PySem.Str) (hs:x.cps.size≤lim):((cx (Pq x.cps) x ⟨⟨[46,46]⟩⟩ (x.cps.size+1) 0).map λy=>y.cps.toList).flatten=bk true x.cps.toList:=by
 refine j5 (G:=G1 x.cps) (λp h=>vx _ _ p (Option.map_eq_none_iff.mp h)) (λp b e h=>?_) (x.cps.size+1) 0 (Nat.lt_succ_self _)
 obtain ⟨m1,m2,m3⟩:=(Hu x.cps hs).mono p b e h
 obtain ⟨hk,he⟩:=Cs h
 obtain ⟨_,_,h3,h4⟩:=oy _ _ p _ hk
 refine ⟨m1,m2,m3,?_⟩
 rw [List.getElem?_drop,Nat.add_sub_cancel' m1,Array.getElem?_toList] at h3
 unfold G1
 exact h4.symm▸he.symm▸List.drop_drop.symm▸(Nat.add_sub_cancel' (Nat.le_trans m1 (Nat.le_of_lt m2))).symm▸he▸(K3 h3).symm▸rfl
theorem z7:typeLookup (.type "str") "__call__"=pure none:=by rw [typeLookup_type,builtinLookup_eq_fast]; kernel_rfl
theorem Gi (r x:Value):reNamed "re.Pattern.sub" "sub" ["repl","string","count"] 2 [r,x] []=pure [some r,some x,none]:=by kernel_rfl
structure yy (code:Array Nat) (nx:Array Nat->Nat->Option (Nat×Nat)) (r:PySem.Str) (f:List Nat->List Nat):Prop where
 finds:∀text:Array Nat,text.size≤lim->Finds code text (nx text)
 flat:∀x:PySem.Str,x.cps.size≤lim->((cx (nx x.cps) x r (x.cps.size+1) 0).map λy=>y.cps.toList).flatten=f x.cps.toList
 len:∀l,(f l).length≤2*l.length
 plain:r.cps.contains 92=false
theorem L9:yy code2 Rq ⟨⟨[13,10]⟩⟩ sub2L:=⟨G7,O7,m6,by decide +kernel⟩
theorem Li:yy d9 Pq ⟨⟨[46,46]⟩⟩ (bk true):=⟨Hu,Ps,λl=>te l true,by decide +kernel⟩
theorem Hg (ss:List PySem.Str):ss.toArray.foldl (·+·.length+Str.empty.length) 0=((ss.map λy=>y.cps.toList).flatten).length:=by
 have main:∀(l:List PySem.Str) (n:Nat),l.foldl (λa y=>a+y.length+Str.empty.length) n=n+((l.map λy=>y.cps.toList).flatten).length:=by
  intro l
  induction l with
  | nil=>intro n; simp
  | cons y r ih =>
   intro n
   rw [List.foldl_cons,ih,List.map_cons,List.flatten_cons,List.length_append]
   have:Str.empty.length=0:=rfl
   have h2:y.cps.toList.length=y.length:=by show _=y.cps.size; exact Array.length_toList
   lia
 have:=main ss 0
 simp only [Nat.zero_add] at this
 refine this▸?_
 simp
section
variable {prog:Program} {w:World} {A:Around}
theorem w9 {pa ca:Addr} {code:Array Nat} {nx:Array Nat->Nat->Option (Nat×Nat)} {f:List Nat->List Nat} {r x:PySem.Str} {t u:Tok} (S:yy code nx r f) (hx:4*x.cps.size≤lim) :
  Meets (Builtin.«re.Pattern.sub» ⟨[.ref pa,.str r u,.str x t],[]⟩) (λ_ R s=>Pat s.heap pa ca code∧∀t' h' tk,(∀b o,s.heap.get? b=some o->h'.get? b=some o)->R (.ok (.ret (.str ⟨⟨f x.cps.toList⟩⟩ t'))) { s with heap:=h',toks:=tk }):=by
 intro prog w A R s ⟨P,hR⟩
 have hx1:x.cps.size≤lim:=by lia
 skip
 show wpAny _ _ (reNamed "re.Pattern.sub" "sub" ["repl","string","count"] 2 [.str r u,.str x t] [] >>= _) _ _ _
 rw [Gi]
 refine wpAny_bind (wpAny_pure ?_)
 refine wpAny_bind (m:=(pure 0:Sem Int)) (wpAny_pure ?_)
 refine wpAny_bind (wpAny_specialOf (typeIs_str _ _ _) z7 ?_)
 refine wpAny_bind (m:=asStr? (.str r u)) (wpAny_pure ?_)
 refine wpAny_bind (m:=(pure (!r.cps.contains 92):Sem Bool)) (wpAny_pure ?_)
 refine S.plain.symm▸?_
 refine wpAny_bind (m:=(pure (Value.str r u,(0:Int)):Sem (Value×Int))) (wpAny_pure ?_)
 refine wpAny_bind (wpAny_holding (z3 P ?_))
 refine wpAny_bind (wpAny_newList ?_ (by show 0≤_; (exact Nat.le_add_left _ _)))
 refine wpAny_pure ⟨plainId_quiet im _,?_⟩
 refine cps λ_ KK=>?_
 obtain ⟨o,oc,y,t0,t1,t2,t3,fl,vs,n,h1,h2,h3,h4,h5,h6,h7⟩:=P.ex
 refine KK ?_
 have kp:∀b o,s.heap.get? b=some o->(s.heap.push { cls:=.type "list",data:=.seq ([]:List Value).toArray }).get? b=some o:=λb o e=>Heap.get?_push_of_some _ e
 have hp:pa≠s.heap.objs.size:=Nat.ne_of_lt (Heap.lt_size h1)
 have hc:ca≠s.heap.objs.size:=Nat.ne_of_lt (Heap.lt_size h5)
 have fl:=S.flat x hx1
 have hg:(glued Str.empty (cx (nx x.cps) x r (x.cps.size+1) 0))=⟨⟨f x.cps.toList⟩⟩:=by
  rw [← fl,← Be]
 have hlen:(f x.cps.toList).length≤2*x.cps.size:=by
  have:=S.len x.cps.toList
  rwa [show x.cps.toList.length=x.cps.size from Array.length_toList] at this
 refine Cu (S.finds x.cps hx1) hp hc hx1 (x.cps.size+1) 0 0 [] { s with heap:=s.heap.push { cls:=.type "list",data:=.seq ([]:List Value).toArray } } (by (exact Nat.le_refl _)) (Nat.zero_le _) (P.keep (λo e=>kp _ o e) λo e=>kp _ o e) ⟨0,Heap.get?_push_size _ rfl⟩ (by simp only [List.length_nil]; unfold lim at *; lia) ?_
 rw [List.map_nil,List.nil_append]
 refine ⟨?_,?_,λt' h' tk hk=>?_⟩
 ·refine hg.symm▸?_
  exact Nat.le_trans hlen (Nat.le_trans (Nat.mul_le_mul_right _ (by decide)) hx)
 ·rw [Hg,fl]
  exact decide_eq_false (Nat.not_lt.mpr (Nat.le_trans hlen (Nat.le_trans (Nat.le_trans (Nat.mul_le_mul_right _ (by decide)) hx) (by decide))))
 ·refine hg.symm▸?_
  exact hR t' h' tk λb o e=>hk b o (λq=>Nat.lt_irrefl _ (Heap.lt_size (q▸e))) (kp b o e)
noncomputable def Mx (f:List Nat->List Nat) (x:PySem.Str):Option PyData:=if 4*x.cps.size≤lim∧PyData.strOk (⟨⟨f x.cps.toList⟩⟩:PySem.Str)=true then some (.str ⟨⟨f x.cps.toList⟩⟩) else none
theorem Dh {s:Shared} {pa ca:Addr} {code:Array Nat} {nx:Array Nat->Nat->Option (Nat×Nat)} {f:List Nat->List Nat} {r x:PySem.Str} {t u:Tok} {d:PyData} {P:Addr->Prop} (S:yy code nx r f) (hP:Pat s.heap pa ca code) (e:Mx f x=some d) :
  wpAny (model prog w) A (call (.builtin "re.Pattern.sub") [.ref pa,.str r u,.str x t]) (NewD s d P) bn s:=by
 refine ay e λh e=>?_
 refine cps λ_ KK=>?_
 obtain ⟨o,oc,y,t0,t1,t2,t3,fl,vs,n,h1,h2,h3,h4,h5,h6,h7⟩:=id hP.ex
 refine KK ?_
 exact call_meets o8 ⟨o,h1,h2⟩ xb (yz _ _ _) (w9 S h.1) ⟨hP,λt' h' tk k=>e▸⟨h',tk,[],rfl,k,.str _ _ h.2,(λ_ h=>ck h),(λ_ h=>al h)⟩⟩
end
end Mine
end
section
open PySem PySem.Calls PySem.W PyProof.Rows
namespace Mine
section
variable {prog:Program} {w:World} {K:Addr->Option Obj} {fx:Fx} {mg mb:Str->Option Value} {A:Around}
theorem Ev.globStr (gl:Gl K mg mb) {x y:Str} {t:Tok} {pos:Pos} {l:List Nat} (hk:fx.sc.names.lookup x=some .globalImplicit) (hg:mg x=some (.str y t)) (hy:y=⟨⟨l⟩⟩) (ho:PyData.strOk y=true) (hd:(x==("__debug__":Str))=false:=by decide) :
  Ev prog w K fx (.Name x pos) (λσ=>some (.dat (.str ⟨⟨l⟩⟩),σ.hp)):=.mk λA ρ Z σ s pv hp' _ R e=>by
 cases e
 subst hy
 exact bp gl R hk (.inl hg) (Post.of_toks (t:=s.toks) R.hr ⟨[],.str _ _ ho,λ_ h=>ck h⟩) hd
noncomputable def Hb (r:Str) (f:List Nat->List Nat) (F1 F2:EF):NF:=af F1 λa=>af F2 λb σ=>match a,b with
 | .dat (.str r'),.dat (.str x)=>if r'=r then match Mx f x with
  | some d=>some (d,σ.hp)
  | none=>none else none
 | _,_=>none
theorem I5 {r:Str} {f:List Nat->List Nat} {a b:PV} {σ:St} {d:PyData} {hp':List MO} {C:Prop} (e:(match a,b with
  | .dat (.str r'),.dat (.str x)=>if r'=r then match Mx f x with
   | some d=>some (d,σ.hp)
   | none=>none else none
  | _,_=>none)=some (d,hp')) (k:∀x,a=.dat (.str r)->b=.dat (.str x)->Mx f x=some d->hp'=σ.hp->C):C:=by
 cases a with
 | dat u=>cases u with
  | str r'=>cases b with
   | dat v=>cases v with
    | str x =>
     refine gn (show (if r'=r then (match Mx f x with | some d=>some (d,σ.hp) | none=>none) else none)=some (d,hp') from e) λhr e=>?_
     cases h:Mx f x with
     | none=>rw [h] at e; exact al e
     | some d'=>rw [h] at e; exact k x (hr▸rfl) rfl ((cq e).1▸h) (cq e).2.symm
    | _=>exact al e
   | _=>exact al e
  | _=>exact al e
 | _=>exact al e
theorem EvN.reSub (gl:Gl K mg mb) {g:Str} {pa ca:Addr} {code:Array Nat} {nx:Array Nat->Nat->Option (Nat×Nat)} {f:List Nat->List Nat} {r:Str} {e1 e2:Expr} {np apos pos:Pos} {F1 F2:EF} (S:yy code nx r f) (hP:∀h,TopOK K h->Pat h pa ca code)
  (hk:fx.sc.names.lookup g=some .globalImplicit) (hg:mg g=some (.ref pa)) (h1:Ev prog w K fx e1 F1) (h2:Ev prog w K fx e2 F2) (mc:MC fx.env (.Name g np) "sub" apos [e1,e2] pos) (hd:(g==("__debug__":Str))=false:=by decide)
  (hs:∀env,starEach [e1,e2] env=(false,eval e1 env)::starEach [e2] env:=by intro _; rfl) (hs2:∀env,starEach [e2] env=[(false,eval e2 env)]:=by intro _; rfl) :
  EvN prog w K fx (.Call (.Attribute (.Name g np) "sub" apos) [e1,e2] [] pos) (Hb r f F1 F2):=.mk λA ρ Z σ s d hp' Rm R q=>by
 obtain ⟨pl,mc⟩:=mc
 refine MethodCall_ (bp gl R hk (.inl hg) ?_ hd) mc
 obtain ⟨o,oc,y,t0,t1,t2,t3,fl,vs,n,e1',e2',e3',_⟩:=(hP s.heap R.top).ex
 refine getMethod_builtin ⟨o,e1',e2'⟩ uj o8 y3 (λa e=>by cases e; exact ⟨o,e1',e3'⟩) ?_
 refine callWith_method1 (wpAny_items_cons (h1.then Rm R q λa va hp1 ρ_1 s_1 q1 x_1 v_1 R_1=>wpAny_items_cons (h2.then Rm R_1 q1 λb vb hp2 ρ_2 s_2 q2 x_2 v_2 R_2=>wpAny_items_nil ?_) (hs2 _)) (hs _)) (hs _) (by rw [hs2]; rfl)
 refine I5 q2 λx ha hb hd' hh=>?_
 refine cps λ_ KK=>?_
 obtain ⟨as,ra,_⟩:=VR.ext (Z:=Z) x_2 (gx) (ha▸v_1:VR ρ_1 Z s_1.heap (.dat (.str r)) va)
 obtain ⟨bs,rb,_⟩:=(hb▸v_2:VR ρ_2 Z s_2.heap (.dat (.str x)) vb)
 obtain ⟨t,ea,_⟩:=ra.str_
 obtain ⟨u,eb,_⟩:=rb.str_
 refine KK ?_
 refine ea.symm▸eb.symm▸hh.symm▸?_
 exact wpAny_mono (Dh (P:=λ_=>False) S (hP _ R_2.top) hd') (λv s_3 n=>⟨_,_,_,x_1.trans x_2,R_2.hr,n,λ_ h=>h.elim⟩) λ_ _ q=>q
end
section
variable {prog:Program} {w:World} {A:Around} {E:Value->Shared->Prop} {s:Shared}
theorem pq {a:Addr} {g n:Nat} {gs:GenState} {P:Nat->Shared->Shared->Prop} {Y:Protocol} {Q:Option Value->Shared->Prop} (hh:A.handled=none)
  (hl:s.heap.NoLimit) (hroom:A.depth < recursionLimit)
  (hg:s.heap.IsGen a g) (hgs:s.gens[g]?=some gs)
  (hgo:gs.Goes (model prog w) A.in1 (λn s_0 r s_1=>r=.ok (.ret .none)∧P n s_0 s_1) Y n (.send .none) (s.setGen g .running))
  (hY:∀v s_1 gs',gs'.bare=true->Y (n - 1) (s.setGen g .running) v s_1 (λr' s''=>match n with
    | 0=>False
    | m+1=>gs'.Goes (model prog w) A.in1 (λn s_0 r s_1=>r=.ok (.ret .none)∧P n s_0 s_1) Y m r' s'')->Q (some v) (s_1.setGen g gs'))
  (hP:∀s_1,P n (s.setGen g .running) s_1->∀h',(∀b o,s_1.heap.get? b=some o->h'.get? b=some o)->Q none { s_1.setGen g .finished with heap:=h' }) :
  wpAny (model prog w) A (pyNext (.ref a)) Q E s:=by
 skip
 refine wpAny_bind (wpAny_attempt (wpAny_callSpecial?_slot (name:=Str.ofString "__next__") hg.typeIs slot_gen_next
  (wpAny_call_entry slot_gen_next hg.typeIs entry_gen_next ?_ (args_gen_next _))))
 show wpAny _ A.in1 (Builtin.Generator.genWake (.ref a) (.send .none)) _ _ s
 unfold Builtin.Generator.genWake
 refine wpAny_bind (wpAny_holding (wpAny_genNumber hg (wpAny_bind (wpAny_genState hgs ?_))))
 cases gs with
 | running=>exact hgo.elim
 | finished=>exact hgo.elim
 | _ =>
  refine wpAny_bind (wpAny_roomToWake hl hroom ?_)
  skip
  refine wpAny_resumeQ hgs hgo (λx s_1 hx=>?_) (λv s_1 gs' hb hv=>?_)
  ·obtain ⟨rfl,hp⟩:=hx
   show wpAny _ A.in1 (newExc (.type "StopIteration") [] >>= _) _ _ _
   refine wpAny_bind ?_
   simp only [newExc,newTuple]
   refine wpAny_bind (wpAny_newObj_type ?_ (by size_fits))
   refine wpAny_bind (m:=firstArgMember _ _) (wpAny_of_eq (a:=Value.none) (by first | rfl | (simp only [firstArgMember]; rfl)) ?_)
   refine wpAny_newObj_type ?_ (by size_fits)
   simp only [raiseNew]
   refine wpAny_bind (wpAny_bind (wpAny_handled ?_))
   first | rw [show A.in1.handled=none from hh] | rw [hh]
   refine wpAny_throw ?_
   refine wpAny_bind (wpAny_isInstance (T:="StopIteration") (b:=true) ⟨_,Heap.get?_push_size _ rfl,rfl⟩ isSubtype_stop ?_)
   exact wpAny_pure (hP s_1 hp _ λb o hb=>Heap.get?_push_of_some _ (Heap.get?_push_of_some _ hb))
  ·exact wpAny_pure ⟨v,rfl,wpAny_pure (hY v s_1 gs' hb hv)⟩
end
section
variable {prog:Program} {w:World} {A:Around} {R:GenEnd} {Y:Protocol} {n:Nat} {s_0:Shared} {c:Code} {fs:List PySem.Frame} {s:Shared} {env:Env}
 {K:Flow->Sem Fin} {H:Value->Sem Fin} {gd:Bool->Bool} {lv:List Value->List Value}
theorem Lx {target iter:Expr} {body:List Stmt} {pos:Pos}
  (h:wpAny (model prog w) (A.over c fs) (eval iter env) (λx s_1=>wpAny (model prog w) (A.over c fs) (pyIter x) (λit s_2=>∀p,Seg (model prog w) A R Y n s_0 (.forLoop target it body [] env) ((model prog w).den (.forLoop target it body [] env))
   (.ret (λr=>((match r with | .ok f=>(.pure f:Sem Flow) | .error e=>.raise e).onRaise λ(x:Value)=>do
    if (← field x 1)==Value.none then unsupported "frame.own-activation:exception-without-traceback"
    setFlight x env.frame).wrap K H gd lv) none (gd false) (lv []) c p []::fs) s_2) bn s_1) bn s)
  (hs:∀x,foldedSetIterable iter env x=pure x:=by intro _; rfl) :
  Seg (model prog w) A R Y n s_0 c ((exec (.For target iter body [] pos) env).wrap K H gd lv) fs s:=by
 rw [exec_For]
 refine seg_bind_wrap (wpAny_standAt ?_)
 refine seg_bind_wrap (wpAny_mono h (λx s_1 h_1=>?_) λ_ _ q=>q.elim)
 refine seg_bind_wrap (wpAny_of_eq (hs x) ?_)
 refine seg_bind_wrap (wpAny_standAt ?_)
 refine seg_bind_wrap (wpAny_holding (wpAny_mono h_1 (λit s_2 h_2=>?_) λ_ _ q=>q.elim))
 exact seg_call h_2
theorem po {target:Expr} {it:Value} {body:List Stmt}
  (h:wpAny (model prog w) (A.over (.forLoop target it body [] env) fs) (pyNext it) (λr s_1=>match r with
   | none=>Seg (model prog w) A R Y n s_0 (.forLoop target it body [] env) (.pure (.again (.block [] env))) fs s_1
   | some v=>wpAny (model prog w) (A.over (.forLoop target it body [] env) fs) (letOwnedTupleGo target it v) (λ_ s_2=>wpAny (model prog w) (A.over (.forLoop target it body [] env) fs) (assign target env v) (λ_ s_3 =>
     Seg (model prog w) A R Y n s_0 (.forLoop target it body [] env) ((execs body env).wrap (λf=>match f with
      | .next | .cont=>.pure (.again (.forLoop target it body [] env))
      | .brk=>.pure (.done .next)
      | .ret v=>.pure (.done (.ret v))) (λe=>(do noteFrame e env; theTreesLotGoes e:Sem Unit).wrap (λ_=>.raise e) .raise id id) id id) fs s_3) bn s_2) bn s_1) bn s) :
  Seg (model prog w) A R Y n s_0 (.forLoop target it body [] env) ((model prog w).den (.forLoop target it body [] env)) fs s:=by
 show Seg _ A R Y n s_0 _ ((forTurn target it body [] env).onRaise (λx=>do noteFrame x env; theTreesLotGoes x)) fs s
 skip
 rw [Sem.onRaise_eq_wrap]
 refine seg_bind_wrap (wpAny_standAt ?_)
 refine seg_bind_wrap (wpAny_onRaise (wpAny_mono h (λr s_1 h_1=>?_) λ_ _ q=>q.elim))
 cases r with
 | none=>exact h_1
 | some v =>
  refine seg_bind_wrap (wpAny_mono h_1 (λ_ s_2 h_2=>?_) λ_ _ q=>q.elim)
  refine seg_bind_wrap (wpAny_mono h_2 (λ_ s_3 h_3=>?_) λ_ _ q=>q.elim)
  rw [Sem.bind_eq_wrap',Sem.wrap_wrap]
  rw [Sem.wrap_congr (execs body env) _ _ (K':=λf=>match f with
      | .next | .cont=>.pure (.again (.forLoop target it body [] env))
      | .brk=>.pure (.done .next)
      | .ret v=>.pure (.done (.ret v))) (H':=(λe=>(do noteFrame e env; theTreesLotGoes e:Sem Unit).wrap (λ_=>.raise e) .raise id id))
    (λf=>by cases f<;>rfl)
    (λe=>by first | exact Sem.bind_eq_wrap _ _ | (show (do noteFrame e env; theTreesLotGoes e:Sem Unit).bind (λ_=>.raise e)=_; rw [Sem.bind_eq_wrap]))]
  exact h_3
end
noncomputable def zk:PyData->Bool
 | .none=>true
 | .bool _=>true
 | .int _=>true
 | .str _=>true
 | _=>false
theorem RD.scal {h h':Heap} {v:Value} {d:PyData} {as:List Addr} (r:RD h v d as) (q:zk d=true):RD h' v d []∧as=[]:=by
 cases r with
 | none=>exact ⟨.none,rfl⟩
 | bool b=>exact ⟨.bool b,rfl⟩
 | int i t=>exact ⟨.int i t,rfl⟩
 | str x t hx=>exact ⟨.str x t hx,rfl⟩
 | _=>exact C1 q
noncomputable def ql (loc:bg):Prop:=∀(i:Nat) (pv:PV),loc[i]?=some (some pv)->∃d,pv=PV.dat d∧zk d=true
inductive Ss (K:Addr->Option Obj) (ow:List Addr) (out:List PyData) (n:Nat) (s_0:Shared) (v:Value) (s':Shared) (kap:Resume->Shared->Prop):Prop
 | mk (T:Addr) (d:PyData):v=.ref T->out[out.length - 1 - n]?=some d->RD s'.heap (.ref T) d [T]->s_0.heap.get? T=none->T∉ow->Ext ow [] s_0 [] s'->(∀b∈ow,∃o,s'.heap.get? b=some o) ->
  (∀s'':Shared,(∀b∈ow,∀o,s'.heap.get? b=some o->s''.heap.get? b=some o)->TopOK K s''.heap->kap (.send .none) s'')->Ss K ow out n s_0 v s' kap
abbrev YB (K:Addr->Option Obj) (ow:List Addr) (out:List PyData):Protocol:=Ss K ow out
noncomputable def RB (ow:List Addr):GenEnd:=λn s_0 r s_1=>r=.ok (.ret .none)∧(n=0∧Ext ow [] s_0 [] s_1)
section
variable {prog:Program} {w:World} {K:Addr->Option Obj} {fx:Fx} {A:Around} {R:GenEnd} {Y:Protocol} {n:Nat} {s_0:Shared} {c:Code} {fs:List PySem.Frame} {s:Shared} {ow:List Addr} {loc loc':bg}
 {K':Flow->Sem Fin} {H:Value->Sem Fin} {gd:Bool->Bool} {lv:List Value->List Value}
theorem q4 {ρ:av} {Z:List Addr} {h:Heap} (H:HR ρ Z [] h):ρ=[]:=by
 have:=H.len
 cases ρ with
 | nil=>rfl
 | cons a r=>cases this
theorem SR.wake {s s'':Shared} (R:SR K fx [] ow ⟨loc,[]⟩ s) (hs:ql loc) (hc:fx.env.cells=[]) (k:∀b∈ow,∀o,s.heap.get? b=some o->s''.heap.get? b=some o) (top:TopOK K s''.heap):SR K fx [] ow ⟨loc,[]⟩ s'':=by
 refine cps λ_ KK=>?_
 obtain ⟨m,cm,hn,hcm,hv⟩:=R.er.ex
 refine KK ?_
 refine ⟨⟨rfl,List.nodup_nil,(λb hb=>ck hb),λa ha=>?_,λi mo e=>by simp at e⟩,⟨⟨m,cm,Ns.keep hn λo e=>k _ (R.er.ownZ _ R.er.lown) o e,λn c e=>?_,λi x pv hi hl=>?_⟩,R.er.fn,R.er.sc,R.er.vinj,R.er.glob,R.er.bi,R.er.lown,R.er.ownZ,R.er.lmut,R.er.cell,R.er.inj⟩,top,R.off⟩
 ·obtain ⟨o,e⟩:=R.hr.liveZ a ha
  exact ⟨o,k a ha o e⟩
 ·rw [hc] at e; cases e
 ·refine cps λ_ KK=>?_
  obtain ⟨v,hs',r⟩:=hv i x pv hi hl
  obtain ⟨d,rfl,hd⟩:=hs i pv hl
  obtain ⟨as,r,q⟩:=r
  refine KK ?_
  exact ⟨v,hs',[],(r.scal hd).1,λ_ h=>ck h⟩
theorem Ij {st:Stmt} {F:XF} (h:Ex prog w K fx st F) (Rm:Room (A.over c fs) fx.k) (R0:SR K fx [] ow ⟨loc,[]⟩ s) (q:F ⟨loc,[]⟩=some (.next,⟨loc',[]⟩))
  (k:∀s',Ext fx.own [] s [] s'->SR K fx [] ow ⟨loc',[]⟩ s'->Seg (model prog w) A R Y n s_0 c (K' .next) fs s'):Seg (model prog w) A R Y n s_0 c ((exec st fx.env).wrap K' H gd lv) fs s:=by
 refine seg_wrap (wpAny_mono (h.run _ [] ow _ s _ _ Rm R0 q) (λf s' p=>?_) λ_ _ q=>q.elim)
 obtain ⟨ρ',x,R',rfl⟩:=p
 obtain rfl:=q4 R'.hr
 exact k s' x R'
theorem w6 {test:Expr} {body orelse:List Stmt} {pos:Pos} {F:BF} {b:Bool} (h:Tr prog w K fx test F) (Rm:Room (A.over c fs) fx.k) (R0:SR K fx [] ow ⟨loc,[]⟩ s) (q:F ⟨loc,[]⟩=some (b,[]))
  (k:∀s',Ext [] [] s [] s'->SR K fx [] ow ⟨loc,[]⟩ s'->Seg (model prog w) A R Y n s_0 c ((execs (if b then body else orelse) fx.env).wrap K' H gd lv) fs s') :
  Seg (model prog w) A R Y n s_0 c ((exec (.If test body orelse pos) fx.env).wrap K' H gd lv) fs s:=by
 rw [exec_If]
 refine seg_bind_wrap (wpAny_standAt ?_)
 refine seg_bind_wrap (wpAny_mono (h.run _ [] ow _ s _ _ Rm R0 q) (λb' s' p=>?_) λ_ _ q=>q.elim)
 obtain ⟨rfl,ρ',x,H'⟩:=p
 obtain rfl:=q4 H'
 have:=k s' x (R0.next x H')
 cases b'<;>exact this
theorem ir {es:List Expr} {kk:Nat} {tp yp pos:Pos} {G:LF} {a b:PyData} {out:List PyData} (h:EvL prog w K fx es G) (Rm:Room (A.over c fs) fx.k) (R0:SR K fx [] ow ⟨loc,[]⟩ s) (hs:ql loc) (hcl:fx.env.cells=[]) (q:G ⟨loc,[]⟩=some ([.dat a,.dat b],[]))
  (ha:zk a=true) (hb:zk b=true) (hfs:splitAtGen fs=none) (hgd:gd false=false) (hfg:fs.any Frame.guarded=false) (hout:out[out.length - 1 - n]?=some (.tuple [a,b])) (xs:Ext ow [] s_0 [] s)
  (hco:fx.env.scope.isCoroutine=false) (hi:interactive fx.env=false)
  (k:∀s'',SR K fx [] ow ⟨loc,[]⟩ s''->(∀s',Ext [] [] s [] s'->(∀b∈ow,∀o,s'.heap.get? b=some o->s''.heap.get? b=some o)->True)->(∀b∈ow,∀o,s.heap.get? b=some o->s''.heap.get? b=some o)->Seg (model prog w) A R (YB K ow out) n s'' c (K' .next) fs s'') :
  Seg (model prog w) A R (YB K ow out) (n+1) s_0 c ((exec (.Expr (.Yield (some (.Tuple es kk tp)) yp) pos) fx.env).wrap K' H gd lv) fs s:=by
 refine seg_Expr_Yield hfs hgd hfg ?_ hco hi
 refine wpAny_Tuple (wpAny_mono (h.run tp _ [] ow _ s _ _ Rm R0 q) (λvs s_1 p=>?_) λ_ _ q=>q.elim)
 refine cps λ_ KK=>?_
 obtain ⟨ρ_1,x_1,V,H_1⟩:=p
 obtain rfl:=q4 H_1
 obtain ⟨v1,r1,rfl,⟨as1,ra,_⟩,V⟩:=V.uncons
 obtain ⟨v2,r2,rfl,⟨as2,rb,_⟩,V⟩:=V.uncons
 refine KK ?_
 cases V.unnil
 refine ⟨by show 2≤2 ^ 24; decide,λkap hk=>?_⟩
 have k1:∀b o,s_1.heap.get? b=some o->(s_1.heap.push { cls:=.type "tuple",data:=.seq ([v1,v2]:List Value).toArray }).get? b=some o:=λb o e=>Heap.get?_push_of_some _ e
 have x_2:Ext [] [] s_1 [] { s_1 with heap:=s_1.heap.push { cls:=.type "tuple",data:=.seq ([v1,v2]:List Value).toArray } }:=Ext.of_keep (t:=s_1.toks) k1
 have R_1:=R0.next x_1 H_1
 have R_2:SR K fx [] ow ⟨loc,[]⟩ { s_1 with heap:=s_1.heap.push { cls:=.type "tuple",data:=.seq ([v1,v2]:List Value).toArray } }:=R_1.next x_2 (R_1.hr.keep k1)
 have fT:s_1.heap.get? s_1.heap.objs.size=none:=Heap.get?_none_of_le (Nat.le_refl _)
 have xa:Ext ow [] s_0 [] { s_1 with heap:=s_1.heap.push { cls:=.type "tuple",data:=.seq ([v1,v2]:List Value).toArray } }:=xs.trans ((x_1.trans x_2).weak gx)
 refine ⟨s_1.heap.objs.size,.tuple [a,b],rfl,hout,?_,?_,(R_1.hr.fresh fT).2,xa,R_2.hr.liveZ,λs'' hkeep top=>hk _ _ ?_⟩
 ·have r1:=(ra.scal (h':=s_1.heap.push { cls:=.type "tuple",data:=.seq ([v1,v2]:List Value).toArray }) ha).1
  have r2:=(rb.scal (h':=s_1.heap.push { cls:=.type "tuple",data:=.seq ([v1,v2]:List Value).toArray }) hb).1
  exact .tuple (Heap.get?_push_size _ rfl) rfl rfl (.cons r1 (.cons r2 .nil))
 ·cases e:s_0.heap.get? s_1.heap.objs.size with
  | none=>rfl
  | some o =>
   obtain ⟨o1,e1⟩:=(xs.trans (x_1.weak gx)).live _ o e
   rw [fT] at e1; cases e1
 ·exact k s'' (R_2.wake hs hcl hkeep top) (λ_ _ _=>trivial) λb hb o e=>hkeep b hb o (k1 b o (x_1.heap b o (λh=>ck h) List.not_mem_nil e))
end
noncomputable def jq (P:Nat->Pos):Stmt:=.If (.Name "escape" (P 0)) [.Expr (.Yield (some (.Tuple [.Name "pos" (P 1),.BinOp (.Constant (.str "\\") 0 (P 2)) .Add (.Name "ch" (P 3)) (P 4)] 0 (P 5))) (P 6)) (P 7),.Assign [.Name "escape" (P 8)] (.Constant (.bool false) 0 (P 9)) (P 10)]
 [.If (.Compare (.Name "ch" (P 11)) [.Eq] [.Constant (.str "\\") 0 (P 12)] (P 13)) [.Assign [.Name "escape" (P 14)] (.Constant (.bool true) 0 (P 15)) (P 16)] [.Expr (.Yield (some (.Tuple [.Name "pos" (P 17),.Name "ch" (P 18)] 0 (P 19))) (P 20)) (P 21)] (P 22)] (P 23)
noncomputable def i8 (P:Nat->Pos):Expr:=.Tuple [.Name "pos" (P 24),.Name "ch" (P 25)] 0 (P 26)
noncomputable def Px (P:Nat->Pos):Expr:=.Call (.Name "enumerate" (P 27)) [.Name "addr" (P 28)] [] (P 29)
noncomputable def B2 (P:Nat->Pos):Stmt:=.If (.Name "escape" (P 31)) [.Expr (.Yield (some (.Tuple [.Name "pos" (P 32),.Constant (.str "\\") 0 (P 33)] 0 (P 34))) (P 35)) (P 36)] [] (P 37)
noncomputable def eh (P:Nat->Pos):List Stmt:=[.Assign [.Name "pos" (P 38)] (.Constant (.int 0) 0 (P 39)) (P 40),.Assign [.Name "escape" (P 41)] (.Constant (.bool false) 0 (P 42)) (P 43),.For (i8 P) (Px P) [jq P] [] (P 30),B2 P]
noncomputable def gF:List Nat->Nat->Bool->List PyData
 | [],i,esc=>if esc then [.tuple [.int ((i:Int) - 1),.str ⟨⟨[92]⟩⟩]] else []
 | c::r,i,esc=>if esc then .tuple [.int i,.str ⟨⟨[92,c]⟩⟩]::gF r (i+1) false else if c==92 then gF r (i+1) true else .tuple [.int i,.str ⟨⟨[c]⟩⟩]::gF r (i+1) false
structure GF (prog:Program) (w:World) (K:Addr->Option Obj) (fx:Fx):Prop where
 v0:fx.vars.lookup 0=some "addr"
 v1:fx.vars.lookup 1=some "pos"
 v2:fx.vars.lookup 2=some "escape"
 v3:fx.vars.lookup 3=some "ch"
 s1:br fx "pos"
 s2:br fx "escape"
 s3:br fx "ch"
 k:1≤fx.k
 cells:fx.env.cells=[]
 co:fx.env.scope.isCoroutine=false
 int_:interactive fx.env=false
noncomputable def L4 (a:Str) (p:Int) (e:Bool) (ch:Option PV):bg:=[some (.dat (.str a)),some (.dat (.int p)),some (.dat (.bool e)),ch]
noncomputable def zl:Option PV->Bool
 | none=>true
 | some (.dat d)=>zk d
 | _=>false
theorem wi {a:Str} {p:Int} {e:Bool} {ch:Option PV} (h:zl ch=true):ql (L4 a p e ch):=λi pv hi=>by
 unfold L4 at hi
 match i,hi with
 | 0,hi=>cases hi; exact ⟨_,rfl,rfl⟩
 | 1,hi=>cases hi; exact ⟨_,rfl,rfl⟩
 | 2,hi=>cases hi; exact ⟨_,rfl,rfl⟩
 | 3,hi =>
  have hi:some ch=some (some pv):=hi
  cases hi
  cases pv with
  | dat d=>exact ⟨d,rfl,h⟩
  | _=>exact C1 h
 | i+4,hi=>simp at hi
section
variable {prog:Program} {w:World} {K:Addr->Option Obj} {fx:Fx} {P:Nat->Pos} {A:Around} {n:Nat} {ow:List Addr} {out:List PyData} {a:Str}
theorem B7:PyData.strOk ("\\":Str)=true:=by decide +kernel
theorem I4 (g:GF prog w K fx):EvL prog w K fx [.Name "pos" (P 1),.BinOp (.Constant (.str "\\") 0 (P 2)) .Add (.Name "ch" (P 3)) (P 4)]
  (ak (aa 1) (ak (am (af (λσ=>some (.dat (.str ⟨⟨[92]⟩⟩),σ.hp)) λa=>af (aa 3) λb=>dw (rj .Add) a b)) ba)) :=
 .cons (.name g.v1) (.cons (EvN.bin (Ev.str (by rfl) B7) (.name g.v3)).dat .nil)
theorem Ju (g:GF prog w K fx):EvL prog w K fx [.Name "pos" (P 17),.Name "ch" (P 18)] (ak (aa 1) (ak (aa 3) ba)):=.cons (.name g.v1) (.cons (.name g.v3) .nil)
theorem Go (g:GF prog w K fx):EvL prog w K fx [.Name "pos" (P 32),.Constant (.str "\\") 0 (P 33)] (ak (aa 1) (ak (λσ=>some (.dat (.str ⟨⟨[92]⟩⟩),σ.hp)) ba)):=.cons (.name g.v1) (.cons (Ev.str (by rfl) B7) .nil)
end
section
variable {prog:Program} {w:World} {K:Addr->Option Obj} {fx:Fx} {P:Nat->Pos} {A:Around} {ow:List Addr} {out:List PyData} {a:Str}
noncomputable abbrev y7 (H:Flow->Sem Fin) (Hx:Value->Sem Fin) (env:Env) (c:Code) (p:Pos):List PySem.Frame :=
 [.ret (λr=>((match r with | .ok f=>(.pure f:Sem Flow) | .error e=>.raise e).onRaise λ(x:Value)=>do
    if (← field x 1)==Value.none then unsupported "frame.own-activation:exception-without-traceback"
    setFlight x env.frame).wrap H Hx id id) none (id false) (id []) c p []]
theorem nr (g:GF prog w K fx) {e it:Addr} {Jx:IS->av->List Addr->Shared->Prop} (hA:A.handled=none) {fs:List PySem.Frame} (hfs:splitAtGen fs=none) (hfg:fs.any Frame.guarded=false)
  (Rm:Room (A.over (.forLoop (i8 P) (.ref e) [jq P] [] fx.env) fs) fx.k)
  (W:Iter prog w (A.over (.forLoop (i8 P) (.ref e) [jq P] [] fx.env) fs) (.ref e) (i8 P) [e,it] (λ_=>False) ar Jx) (Wd:∀s,Jx (.rem []) [] ow s->wpAny (model prog w) (A.over (.forLoop (i8 P) (.ref e) [jq P] [] fx.env) fs) (pyNext (.ref e)) (λr s'=>r=none∧∃h',s'={ s with heap:=h' }∧(∀b o,b∉[e,it]->s.heap.get? b=some o->h'.get? b=some o)∧∀b∈[e,it],∃o,h'.get? b=some o) bn s)
  (hwo:∀b∈[e,it],b∈ow) (offw:n7 fx [e,it]) (hown:∀b∈fx.own,b∈ow∧b∉[e,it])
  (Jw:∀is s s'',Jx is [] ow s->(∀b∈ow,∀o,s.heap.get? b=some o->s''.heap.get? b=some o)->Jx is [] ow s'') {R:GenEnd}
  (hend:∀i esc p ch s_0 s pre,out=pre++gF [] i esc->(esc=true->p=(i:Int) - 1)->zl ch=true->SR K fx [] ow ⟨L4 a p esc ch,[]⟩ s->Ext ow [] s_0 [] s ->
   Seg (model prog w) A R (YB K ow out) (gF [] i esc).length s_0 (.forLoop (i8 P) (.ref e) [jq P] [] fx.env) (.pure (.again (.block [] fx.env))) fs s) :
  ∀(l:List Nat) (i:Nat) (esc:Bool) (p:Int) (ch:Option PV) (s_0 s:Shared) (pre:List PyData),(∀c∈l,c < 0x110000)->out=pre++gF l i esc->(esc=true->p=(i:Int) - 1)->zl ch=true->SR K fx [] ow ⟨L4 a p esc ch,[]⟩ s->Jx (.rem (eo i (chars l))) [] ow s->Ext ow [] s_0 [] s ->
   Seg (model prog w) A R (YB K ow out) (gF l i esc).length s_0 (.forLoop (i8 P) (.ref e) [jq P] [] fx.env) ((model prog w).den (.forLoop (i8 P) (.ref e) [jq P] [] fx.env)) fs s
 | [],i,esc,p,ch,s_0,s,pre,hl,ho,hp,hc,R0,J,x0=>by
  refine po (wpAny_mono (Wd s J) (λr s_1 q=>?_) λ_ _ q=>q.elim)
  obtain ⟨rfl,h',rfl,kd,lv⟩:=q
  have xe:Ext [e,it] [] s [] { s with heap:=h' }:=Ext.of_off (t:=s.toks) kd lv
  have R1:SR K fx [] ow ⟨L4 a p esc ch,[]⟩ { s with heap:=h' }:=R0.extX xe hwo offw (R0.hr.chg (t:=s.toks) hwo kd lv)
  exact hend i esc p ch s_0 _ pre ho hp hc R1 (x0.trans (xe.weak hwo))
 | c::r,i,esc,p,ch,s_0,s,pre,hl,ho,hp,hc,R0,J,x0=>by
  refine po (wpAny_mono (W.next (l:=.rem (.tuple [.int i,.str ⟨⟨[c]⟩⟩]::eo (i+1) (chars r))) (hp:=[]) rfl J R0.hr hwo) (λr_1 s_1 q=>?_) λ_ _ q=>q.elim)
  obtain ⟨v,rfl,q⟩:=q
  refine wpAny_mono q (λ_ s_2 q=>?_) λ_ _ q=>q.elim
  obtain ⟨ρ',x,H',V,J'⟩:=q
  obtain rfl:=q4 H'
  have R2:SR K fx [] ow ⟨L4 a p esc ch,[]⟩ s_2:=R0.extG x hwo offw H'
  refine wpAny_mono ((As.tup2 g.v1 g.s1 g.v3 g.s3).run _ [] ow _ s_2 _ v (L4 a i esc (some (.dat (.str ⟨⟨[c]⟩⟩)))) Rm R2 V rfl) (λ_ s_3 q=>?_) λ_ _ q=>q.elim
  obtain ⟨x3,R3⟩:=q
  have J3:=W.ext J' x3 hown
  have x03:Ext ow [] s_0 [] s_3:=by
   have xx:Ext ow [] s [] s_2:=x.ext (λb hb=>.inl (hwo b hb)) λ_ _ _ f=>f
   exact (x0.trans xx).trans (x3.weak λb hb=>(hown b hb).1)
  refine seg_execs_cons ?_
  refine w6 (Tr.val (Ev.name g.v2)) Rm R3 (b:=esc) rfl λs_4 x4 R4=>?_
  have x4':Ext ow [] s_0 [] s_4:=x03.trans (x4.weak gx)
  have J4:=W.ext J3 x4 (λ_ h=>ck h)
  have hidx:∀(y:PyData) (ys:List PyData),out=pre++y::ys->out[out.length - 1 - ys.length]?=some y:=λy ys h=>by
   refine h.symm▸List.length_append.symm▸List.length_cons.symm▸(show pre.length+(ys.length+1) - 1 - ys.length=pre.length from (show pre.length+ys.length - ys.length=pre.length from Nat.add_sub_cancel _ _)).symm▸?_
   simp
  cases esc with
  | true =>
   have hg:gF (c::r) i true=.tuple [.int i,.str ⟨⟨[92,c]⟩⟩]::gF r (i+1) false:=rfl
   rw [hg] at ho ⊢
   refine seg_execs_cons ?_
   refine ir (I4 g) Rm R4 (wi rfl) g.cells (a:=.int i) (b:=.str ⟨⟨[92,c]⟩⟩) rfl rfl rfl hfs rfl hfg (hidx _ _ ho) x4' g.co g.int_ λs_5 R5 _ hk5=>?_
   refine seg_execs_cons ?_
   refine Ij (Ex.assign g.v2 g.s2 Ev.bool rfl) Rm R5 (loc':=L4 a i false (some (.dat (.str ⟨⟨[c]⟩⟩)))) rfl λs_6 x6 R6=>?_
   refine seg_again rfl ?_
   refine nr g hA hfs hfg Rm W Wd hwo offw hown Jw hend r (i+1) false i (some (.dat (.str ⟨⟨[c]⟩⟩))) s_5 s_6 (pre++[.tuple [.int i,.str ⟨⟨[92,c]⟩⟩]]) (λc hc=>hl c (List.mem_cons_of_mem _ hc)) (by rw [ho]; simp) (λh=>C1 h) rfl R6 (W.ext (Jw _ _ _ J4 hk5) x6 hown) (x6.weak λb hb=>(hown b hb).1)
  | false =>
   refine seg_execs_cons ?_
   by_cases h92:c=92
   ·subst h92
    refine w6 (Tr.cmp (.name g.v3) (Ev.str (by rfl) B7) g.k) Rm R4 (b:=true) (by rfl) λs_5 x5 R5=>?_
    refine seg_execs_cons ?_
    refine Ij (Ex.assign g.v2 g.s2 Ev.bool rfl) Rm R5 (loc':=L4 a i true (some (.dat (.str ⟨⟨[92]⟩⟩)))) rfl λs_6 x6 R6=>?_
    refine seg_again rfl ?_
    refine nr g hA hfs hfg Rm W Wd hwo offw hown Jw hend r (i+1) true i (some (.dat (.str ⟨⟨[92]⟩⟩))) s_0 s_6 pre (λc hc=>hl c (List.mem_cons_of_mem _ hc)) ho (λ_=>by lia) rfl R6 (W.ext (W.ext J4 x5 (λ_ h=>ck h)) x6 hown) ((x4'.trans (x5.weak gx)).trans (x6.weak λb hb=>(hown b hb).1))
   ·have hg:gF (c::r) i false=.tuple [.int i,.str ⟨⟨[c]⟩⟩]::gF r (i+1) false:=by
     show (if (c==92)=true then _ else _)=_
     rw [if_neg (by simpa using h92)]
    rw [hg] at ho ⊢
    refine w6 (Tr.cmp (.name g.v3) (Ev.str (by rfl) B7) g.k) Rm R4 (b:=false) ?_ λs_5 x5 R5=>?_
    ·have e1:di .Eq (.str ⟨⟨[c]⟩⟩) (.str ⟨⟨[92]⟩⟩)=some false:=by
      show some (([c]:List Nat)==[92])=some false
      congr 1
      simpa using h92
     show By .Eq (.dat (.str ⟨⟨[c]⟩⟩)) (.dat (.str ⟨⟨[92]⟩⟩)) ⟨_,[]⟩=_
     skip
     show (match di .Eq (.str ⟨⟨[c]⟩⟩) (.str ⟨⟨[92]⟩⟩) with
      | some d=>some (d,[])
      | none=>none)=_
     exact e1.symm▸rfl
    refine seg_execs_cons ?_
    refine ir (Ju g) Rm R5 (wi rfl) g.cells (a:=.int i) (b:=.str ⟨⟨[c]⟩⟩) rfl rfl rfl hfs rfl hfg (hidx _ _ ho) (x4'.trans (x5.weak gx)) g.co g.int_ λs_6 R6 _ hk6=>?_
    refine seg_again rfl ?_
    exact nr g hA hfs hfg Rm W Wd hwo offw hown Jw hend r (i+1) false i (some (.dat (.str ⟨⟨[c]⟩⟩))) s_6 s_6 (pre++[.tuple [.int i,.str ⟨⟨[c]⟩⟩]]) (λc hc=>hl c (List.mem_cons_of_mem _ hc)) (by rw [ho]; simp) (λh=>C1 h) rfl R6 (Jw _ _ _ (W.ext J4 x5 (λ_ h=>ck h)) hk6) (Ext.refl _ _ _)
end
section
variable {prog:Program} {w:World} {A:Around} {E:Value->Shared->Prop} {s:Shared}
theorem n6 {it:Addr} {x:Str} {t:Tok} {i:Nat} {Q:Value->Shared->Prop} (hh:A.handled=none)
  (hit:s.heap.IsStrIter it "str_ascii_iterator" x t i) (hx:x.cps[i]?=none)
  (hE:∀h' e,Heap.ExtBut it s.heap h'->(∃o,h'.get? it=some o)->(∃o,h'.get? e=some o∧o.cls=.type "StopIteration")->E (.ref e) { s with heap:=h' }) :
  wpAny (model prog w) A (Builtin.SmallTypes.nextOf (.ref it)) Q E s:=by
 obtain ⟨o,ho,hc,hd⟩:=id hit
 skip
 refine wpAny_bind (wpAny_callSpecial?_slot (name:=Str.ofString "__next__") hit.typeIs PySem.F.slot_str_ascii_iterator_next
  (wpAny_call_entry PySem.F.slot_str_ascii_iterator_next hit.typeIs PySem.F.entry_str_ascii_iterator_next ?_ (PySem.F.args_str_ascii_iterator_next_1 _)))
 show wpAny _ _ (field (.ref it) 0 >>= _) _ _ s
 refine wpAny_bind (wpAny_field ho hd (x:=.str x t) rfl ?_)
 show wpAny _ _ (field (.ref it) 1 >>= _) _ _ s
 refine wpAny_bind (wpAny_field ho hd (x:=.int i 0) rfl ?_)
 simp only [Int.toNat_natCast,hx]
 refine wpAny_bind (wpAny_rule (wpAny_bind (wpAny_setField ho hd (by simp) (wpAny_bind (wpAny_letGo ?_)))))
 skip
 refine wpAny_bind ?_
 simp only [newExc,newTuple]
 refine wpAny_bind (wpAny_newObj_type ?_ (by size_fits))
 refine wpAny_bind (m:=firstArgMember _ _) (wpAny_of_eq (a:=Value.none) (by first | rfl | (simp only [firstArgMember]; rfl)) ?_)
 refine wpAny_newObj_type ?_ (by size_fits)
 simp only [raiseNew]
 refine wpAny_bind (wpAny_handled ?_)
 first | rw [show A.in1.handled=none from hh] | rw [hh]
 refine wpAny_bind (wpAny_pure (wpAny_throw ?_))
 exact hE _ _ (((Heap.SameBut.update ..).extBut.push _).push _) ⟨_,Heap.get?_push_of_some _ (Heap.get?_push_of_some _ (Heap.get?_update_self _ ho (Obj.isFreed_of_fields (Obj.data_mapFields hd _))))⟩ ⟨_,Heap.get?_push_size _ rfl,rfl⟩
theorem ox {it:Addr} {x:Str} {t:Tok} {i:Nat} {Q:Value->Shared->Prop} (hh:A.handled=none)
  (hit:s.heap.IsStrIter it "str_iterator" x t i) (hx:x.cps[i]?=none)
  (hE:∀h' e,Heap.ExtBut it s.heap h'->(∃o,h'.get? it=some o)->(∃o,h'.get? e=some o∧o.cls=.type "StopIteration")->E (.ref e) { s with heap:=h' }) :
  wpAny (model prog w) A (Builtin.SmallTypes.nextOf (.ref it)) Q E s:=by
 obtain ⟨o,ho,hc,hd⟩:=id hit
 skip
 refine wpAny_bind (wpAny_callSpecial?_slot (name:=Str.ofString "__next__") hit.typeIs PySem.F.slot_str_iterator_next
  (wpAny_call_entry PySem.F.slot_str_iterator_next hit.typeIs PySem.F.entry_str_iterator_next ?_ (PySem.F.args_str_iterator_next_1 _)))
 show wpAny _ _ (field (.ref it) 0 >>= _) _ _ s
 refine wpAny_bind (wpAny_field ho hd (x:=.str x t) rfl ?_)
 show wpAny _ _ (field (.ref it) 1 >>= _) _ _ s
 refine wpAny_bind (wpAny_field ho hd (x:=.int i 0) rfl ?_)
 simp only [Int.toNat_natCast,hx]
 refine wpAny_bind (wpAny_rule (wpAny_bind (wpAny_setField ho hd (by simp) (wpAny_bind (wpAny_letGo ?_)))))
 skip
 refine wpAny_bind ?_
 simp only [newExc,newTuple]
 refine wpAny_bind (wpAny_newObj_type ?_ (by size_fits))
 refine wpAny_bind (m:=firstArgMember _ _) (wpAny_of_eq (a:=Value.none) (by first | rfl | (simp only [firstArgMember]; rfl)) ?_)
 refine wpAny_newObj_type ?_ (by size_fits)
 simp only [raiseNew]
 refine wpAny_bind (wpAny_handled ?_)
 first | rw [show A.in1.handled=none from hh] | rw [hh]
 refine wpAny_bind (wpAny_pure (wpAny_throw ?_))
 exact hE _ _ (((Heap.SameBut.update ..).extBut.push _).push _) ⟨_,Heap.get?_push_of_some _ (Heap.get?_push_of_some _ (Heap.get?_update_self _ ho (Obj.isFreed_of_fields (Obj.data_mapFields hd _))))⟩ ⟨_,Heap.get?_push_size _ rfl,rfl⟩
theorem Eg {e it:Addr} {i:Int} {old:Value} {Q:Option Value->Shared->Prop} (he:IsEnum s.heap e it i old)
  (D:∀(Q:Value->Shared->Prop) (E:Value->Shared->Prop),(∀h' e,Heap.ExtBut it s.heap h'->(∃o,h'.get? it=some o)->(∃o,h'.get? e=some o∧o.cls=.type "StopIteration")->E (.ref e) { s with heap:=h' })->wpAny (model prog w) A.in1 (Builtin.SmallTypes.nextOf (.ref it)) Q E s)
  (hQ:∀h',Heap.ExtBut it s.heap h'->(∃o,h'.get? it=some o)->Q none { s with heap:=h' }):wpAny (model prog w) A (pyNext (.ref e)) Q E s:=by
 have hT:s.TypeIs (.ref e) "enumerate":=⟨_,he,rfl⟩
 skip
 refine wpAny_bind (wpAny_attempt (wpAny_callSpecial?_slot (name:=Str.ofString "__next__") hT PySem.F.slot_enumerate_next
  (wpAny_call_entry PySem.F.slot_enumerate_next hT PySem.F.entry_enumerate_next ?_ (PySem.F.args_enumerate_next_1 _))))
 show wpAny _ _ (field (.ref e) 2 >>= _) _ _ _
 refine wpAny_bind (wpAny_field he rfl (x:=.ref it) rfl ?_)
 refine wpAny_bind (D _ _ λh' x he' hl hx'=>?_)
 obtain ⟨o,ho,hc⟩:=hx'
 refine wpAny_bind (wpAny_isInstance (T:="StopIteration") (b:=true) ⟨o,ho,hc⟩ isSubtype_stop ?_)
 exact wpAny_pure (hQ _ he' hl)
end
section
variable {prog:Program} {w:World} {K:Addr->Option Obj} {fx:Fx} {P:Nat->Pos} {A:Around} {ow:List Addr} {out:List PyData} {a:Str}
noncomputable abbrev Qx (f:Flow):Sem Fin:=.pure (.done (.ret (match f with | .ret v=>v | _=>.none)))
theorem Ka (g:GF prog w K fx) {c:Code} {Hx:Value->Sem Fin} (Rm:Room (A.over c []) fx.k) {i:Nat} {esc:Bool} {p:Int} {ch:Option PV} {s_0 s:Shared} {pre:List PyData}
  (ho:out=pre++gF [] i esc) (hp:esc=true->p=(i:Int) - 1) (hc:zl ch=true) (R0:SR K fx [] ow ⟨L4 a p esc ch,[]⟩ s) (x0:Ext ow [] s_0 [] s) :
  Seg (model prog w) A (RB ow) (YB K ow out) (gF [] i esc).length s_0 c ((execs [B2 P] fx.env).wrap Qx Hx id id) [] s:=by
 refine seg_execs_cons ?_
 refine w6 (Tr.val (Ev.name g.v2)) Rm R0 (b:=esc) rfl λs_1 x1 R1=>?_
 cases esc with
 | true =>
  have hp':=hp rfl
  subst hp'
  have hout:out[out.length - 1 - 0]?=some (.tuple [.int ((i:Int) - 1),.str ⟨⟨[92]⟩⟩]):=by
   rw [ho]
   show (pre++[_])[(pre++[_]).length - 1 - 0]?=_
   rw [List.length_append]
   simp
  refine seg_execs_cons ?_
  refine ir (Go g) Rm R1 (wi hc) g.cells (a:=.int ((i:Int) - 1)) (b:=.str ⟨⟨[92]⟩⟩) rfl rfl rfl rfl rfl rfl hout (x0.trans (x1.weak gx)) g.co g.int_ λs_2 R2 _ hk=>?_
  exact seg_end (.ok (.ret .none)) ⟨rfl,rfl,Ext.refl _ _ _⟩
 | false =>
  exact seg_end (.ok (.ret .none)) ⟨rfl,rfl,x0.trans (x1.weak gx)⟩
theorem Dz {c cl:Code} {H:Flow->Sem Fin} {Hx:Value->Sem Fin} {R:GenEnd} {Y:Protocol} {n:Nat} {s_0 s:Shared} {p:Pos}
  (h:Seg (model prog w) A R Y n s_0 c (H .next) [] s):Seg (model prog w) A R Y n s_0 cl (.pure (.again (.block [] fx.env))) (y7 H Hx fx.env c p) s:=by
 refine seg_again rfl ?_
 exact seg_leaf (.ok .next) h
end
section
variable {K:Addr->Option Obj} {fx:Fx} {ρ ρ':av} {Z:List Addr} {σ:St} {s s':Shared} {prog:Program} {w:World} {A:Around}
theorem SR.storeS (R:SR K fx ρ Z σ s) {i:Nat} {x:Str} {pv:PV} {v:Value} (hv:fx.vars.lookup i=some x) (ok:br fx x) (r:VR ρ Z s.heap pv v) {Q:Unit->Shared->Prop}
  (hQ:∀s',Ext fx.own ρ s ρ s'->SR K fx ρ Z ⟨σ.loc.set i (some pv),σ.hp⟩ s'->s'.heap.objs.size=s.heap.objs.size->Q () s'):wpAny (model prog w) A (storeName fx.env x v) Q bn s:=by
 obtain ⟨m,cm,hn,hc,hvs⟩:=R.er.ex
 have hne:∀j y,j≠i->fx.vars.lookup j=some y->y≠x:=λj y hj e q=>hj (R.er.vinj j i x (q▸e) hv)
 rcases ok with hk | ⟨c,hk,hl,hco⟩
 ·refine wpAny_storeName_local hk hn (λh' hn' sb=>?_) (by rw [R.er.fn]; rfl)
  have k:∀b o,b∉Z->s.heap.get? b=some o->h'.get? b=some o:=λb o hb e=>sb.extBut b o (λq=>hb (q▸R.er.ownZ _ R.er.lown)) e
  have hx:=R.own1 (t:=s.toks+1) (loc':=σ.loc.set i (some pv)) R.er.lown sb (Ns.live hn') ⟨⟨_,cm,hn',λn c e=>?_,λj y p hj hl=>?_⟩,R.er.fn,R.er.sc,R.er.vinj,R.er.glob,R.er.bi,R.er.lown,R.er.ownZ,R.er.lmut,R.er.cell,R.er.inj⟩
  ·exact hQ _ hx.1 hx.2 sb.1
  ·obtain ⟨o,ho,hd⟩:=hc n c e
   exact ⟨o,sb.extBut c o (R.er.cell n c e).2 ho,hd⟩
  ·rcases qm hl with ⟨rfl,rfl⟩ | ⟨hij,hl⟩
   ·replace hj:=hv▸hj
    cases hj
    refine ⟨v,?_,r.own k⟩
    unfold cf
    refine hk.symm▸?_
    simp
   ·obtain ⟨u,hu,hr⟩:=hvs j y p hj hl
    refine ⟨u,?_,hr.own k⟩
    have:y≠x:=hne j y (λq=>hij q.symm) hj
    unfold cf at hu ⊢
    split at hu<;>simp_all
 ·refine wpAny_storeName_cell R.er.fn hk hl (hc x c hl) λh' hc' sb=>?_
  have k:∀b o,b∉Z->s.heap.get? b=some o->h'.get? b=some o:=λb o hb e=>sb.extBut b o (λq=>hb (q▸R.er.ownZ _ hco)) e
  have hx:=R.own1 (t:=s.toks) (loc':=σ.loc.set i (some pv)) hco sb (let ⟨o,e,_⟩:=hc'; ⟨o,e⟩) ⟨⟨m,λn=>if n=x then some v else cm n,Ns.keep hn λo e=>sb.extBut _ o (λq=>(R.er.cell x c hl).2 q.symm) e,λn c' e=>?_,λj y p hj hl'=>?_⟩,R.er.fn,R.er.sc,R.er.vinj,R.er.glob,R.er.bi,R.er.lown,R.er.ownZ,R.er.lmut,R.er.cell,R.er.inj⟩
  ·exact hQ _ hx.1 hx.2 sb.1
  ·by_cases q:n=x
   ·subst q
    replace e:=hl▸e
    cases e
    simpa using hc'
   ·have:c'≠c:=λq'=>q (R.er.inj n x c (q'▸e) hl)
    obtain ⟨o,ho,hd⟩:=hc n c' e
    exact ⟨o,sb.extBut c' o this ho,by simpa [q] using hd⟩
  ·rcases qm hl' with ⟨rfl,rfl⟩ | ⟨hij,hl'⟩
   ·replace hj:=hv▸hj
    cases hj
    refine ⟨v,?_,r.own k⟩
    unfold cf
    refine hk.symm▸?_
    simp [hl]
   ·obtain ⟨u,hu,hr⟩:=hvs j y p hj hl'
    refine ⟨u,?_,hr.own k⟩
    have:y≠x:=hne j y (λq=>hij q.symm) hj
    unfold cf at hu ⊢
    split at hu<;>simp_all
end
theorem G9 {x:Str} (h:PyData.strOk x=true):∀c∈x.cps.toList,c < 0x110000:=by
 unfold PyData.strOk at h
 rw [← Array.all_toList,List.all_eq_true] at h
 exact λc hc=>of_decide_eq_true (h c hc)
section
variable {prog:Program} {w:World} {K:Addr->Option Obj} {fx:Fx} {P:Nat->Pos} {A:Around} {mg mb:Str->Option Value} {a:Str}
theorem Pr {ρ:av} {Z:List Addr} {σ:St} {s:Shared} {i:Nat} {x:Str} {pos:Pos} {pv:PV} (R:SR K fx ρ Z σ s) (hv:fx.vars.lookup i=some x) (hp:eg σ.loc i=some pv) (hd:(x==("__debug__":Str))=false:=by decide) (hd':(x==("__classdict__":Str))=false:=by decide) :
  wpAny (model prog w) A (eval (.Name x pos) fx.env) (λv s'=>s'=s∧VR ρ Z s.heap pv v) bn s:=by
 refine cps λ_ KK=>?_
 obtain ⟨m,cm,hn,hc,hvs⟩:=R.er.ex
 obtain ⟨v,hs,r⟩:=hvs i x _ hv (qt hp)
 refine KK ?_
 refine wpAny_Name ?_ hd
 rcases mj hs with ⟨hk,hm⟩ | ⟨hk | hk,c,hl,hm⟩
 ·exact wpAny_loadName_local R.er.fn hk hn hm ⟨rfl,r⟩
 ·exact wpAny_loadName_cell R.er.fn hk hl (hm▸hc x c hl) ⟨rfl,r⟩
 ·exact wpAny_loadName_free R.er.fn hk hl (hm▸hc x c hl) ⟨rfl,r⟩ hd'
noncomputable abbrev gA (A:Around) (P:Nat->Pos) (B:Addr) (fx:Fx) (H:Flow->Sem Fin) (Hx:Value->Sem Fin) (p:Pos):Around:=A.over (.forLoop (i8 P) (.ref (B+1)) [jq P] [] fx.env) (y7 H Hx fx.env (.func (eh P) fx.env) p)
structure Ms (prog:Program) (w:World) (a:Str) (B:Addr) (t:Tok) (T:String):Prop where
 draws:∀A':Around,A'.handled=none->Draws prog w A' B [B] a.cps.size (λi v=>∃c u,a.cps[i]?=some c∧v=.str ⟨#[c]⟩ u) (λi h=>h.IsStrIter B T a t i)
 ends:∀(A':Around) (s:Shared) (i:Nat) (Q:Value->Shared->Prop) (E:Value->Shared->Prop),A'.handled=none->s.heap.IsStrIter B T a t i->a.cps[i]?=none->(∀h' e,Heap.ExtBut B s.heap h'->(∃o,h'.get? B=some o)->(∃o,h'.get? e=some o∧o.cls=.type "StopIteration")->E (.ref e) { s with heap:=h' })->wpAny (model prog w) A' (Builtin.SmallTypes.nextOf (.ref B)) Q E s
theorem Jz (g:GF prog w K fx) {C:Addr} (hown:fx.own=[C]) (hA:A.handled=none) {p:Pos} {t:Tok} {T:String} {B:Addr} {s2:Shared} {h:Heap} {H:Flow->Sem Fin} {Hx:Value->Sem Fin} {s0:Shared}
  (Rm2:Room (gA A P B fx H Hx p) fx.k) (R2:SR K fx [] [C] ⟨L4 a 0 false none,[]⟩ s2) (hok:PyData.strOk a=true) {old:Value} (he:IsEnum h (B+1) B 0 old) (hit:h.IsStrIter B T a t 0) (keep:∀b o,s2.heap.get? b=some o->h.get? b=some o) (fB:s2.heap.get? B=none) (fB1:s2.heap.get? (B+1)=none)
  (it:Ms prog w a B t T)
  (hend:∀i esc p ch s_0 s pre,gF a.cps.toList 0 false=pre++gF [] i esc->(esc=true->p=(i:Int) - 1)->zl ch=true->SR K fx [] [B+1,B,C] ⟨L4 a p esc ch,[]⟩ s->Ext [B+1,B,C] [] s_0 [] s->Seg (model prog w) A (RB [B+1,B,C]) (YB K [B+1,B,C] (gF a.cps.toList 0 false)) (gF [] i esc).length s_0 (.func (eh P) fx.env) (H .next) [] s)
  (x0:Ext [B+1,B,C] [] s0 [] { s2 with heap:=h }):Seg (model prog w) A (RB [B+1,B,C]) (YB K [B+1,B,C] (gF a.cps.toList 0 false)) (gF a.cps.toList 0 false).length s0 (.forLoop (i8 P) (.ref (B+1)) [jq P] [] fx.env) ((model prog w).den (.forLoop (i8 P) (.ref (B+1)) [jq P] [] fx.env)) (y7 H Hx fx.env (.func (eh P) fx.env) p) { s2 with heap:=h }:=by
 have hh:(gA A P B fx H Hx p).handled=none:=hA
 have hz:a.cps.size=(eo 0 (chars a.cps.toList)).length:=by rw [gu,chars,List.length_map,Array.length_toList]
 have hb1:B+1∈[B+1,B,C]:=List.mem_cons_self ..
 have hb0:B∈[B+1,B,C]:=List.mem_cons_of_mem _ (List.mem_cons_self ..)
 have hx:PyData.strOk a=true:=hok
 have lv:∀(i:Nat) (h:Heap),((∃old,IsEnum h (B+1) B i old)∧h.IsStrIter B T a t i)->∀b∈[B+1,B],∃o,h.get? b=some o:=λi h q=>ip (q.1.elim λ_ e=>⟨_,e⟩) (q.2.elim λo e=>⟨o,e.1⟩)
 have W:=Iter.walksT (A:=gA A P B fx H Hx p) (h_0:=s2.heap) (fd:=[]) (ds:=eo 0 (chars a.cps.toList)) (elts:=[.Name "pos" (P 24),.Name "ch" (P 25)]) (k:=0) (pos:=P 26) (WalksT.enumerateD (A:=gA A P B fx H Hx p) (it.draws (gA A P B fx H Hx p).in1 hh) (B+1) (Nat.succ_ne_self _) (λq=>Nat.succ_ne_self _ (List.mem_singleton.mp q)) (List.mem_singleton_self _)) hz.symm lv (λi xs d h hv hd kd=>by
  refine cps λ_ KK=>?_
  obtain ⟨t',y,hy',rfl⟩:=hv
  obtain ⟨y',hy,rfl⟩:=oo _ 0 i hd
  obtain ⟨bs,rb,qb⟩:=w7 hx (h:=h) hy' hy
  refine KK ?_
  rw [show ((0+i:Nat):Int)=(i:Int) by rw [Nat.zero_add]]
  exact ⟨_,[]++(bs++[]),rfl,.cons (.int _ _) (.cons rb .nil),λb hb=>qb b ((List.append_nil bs)▸hb)⟩)
 have R4:SR K fx [] ([B+1,B]++[C]) ⟨L4 a 0 false none,[]⟩ { s2 with heap:=h }:=R2.more (s':={ s2 with heap:=h }) (ip fB1 fB) keep (ip ⟨_,he⟩ (hit.elim λo q=>⟨o,q.1⟩))
 have nC:C∉[B+1,B]:=λq=>(R2.hr.liveZ C (List.mem_singleton_self _)).elim λo e=>al ((ip (P:=λx=>s2.heap.get? x=none) fB1 fB C q).symm.trans e)
 refine nr g (e:=B+1) (it:=B) hA rfl rfl Rm2 W (λs J=>?_) (ip hb1 hb0) (R2.offFresh (ip fB1 fB)) (hown.symm▸c8 ⟨List.mem_cons_of_mem _ (List.mem_cons_of_mem _ (List.mem_cons_self ..)),nC⟩) (λis s s'' J k=>?_) (λi esc p ch s_0 s pre h1 h2 h3 h4 h5=>Dz (hend i esc p ch s_0 s pre h1 h2 h3 h4 h5)) a.cps.toList 0 false 0 none s0 { s2 with heap:=h } [] (G9 hok) rfl (λh=>C1 h) rfl R4 ⟨⟨0,⟨⟨_,he⟩,hit⟩,rfl,Nat.zero_le _⟩,(λb hb=>ck hb),(λb hb=>ck hb),λb hb=>⟨List.not_mem_nil,λq=>absurd hb q⟩⟩ x0
 ·refine cps λ_ KK=>?_
  obtain ⟨⟨i,⟨⟨old,e1⟩,e2⟩,hl,hin⟩,_⟩:=J
  refine KK ?_
  have hn:a.cps[i]?=none:=Array.getElem?_eq_none (hz▸List.drop_eq_nil_iff.mp hl.symm)
  exact Eg e1 (λQ E k=>it.ends _ _ i Q E hh e2 hn k) λh' he' hl'=>⟨rfl,h',rfl,λb o hb e=>he' b o (λq=>hb (q▸List.mem_cons_of_mem _ (List.mem_cons_self ..))) e,ip ⟨_,he' _ _ (Nat.succ_ne_self _) e1⟩ hl'⟩
 ·cases is with
  | trk=>exact J.elim
  | rem l =>
   refine cps λ_ KK=>?_
   obtain ⟨⟨i,⟨⟨old,e1⟩,o2,e2,e3⟩,hl,hin⟩,hd,od,op⟩:=J
   refine KK ?_
   exact ⟨⟨i,⟨⟨old,k _ hb1 _ e1⟩,o2,k _ hb0 _ e2,e3⟩,hl,hin⟩,(λb hb=>ck hb),od,op⟩
theorem Fh (g:GF prog w K fx) (gl:Gl K mg mb) (hk:fx.sc.names.lookup ("enumerate":Str)=some .globalImplicit) (hg:mg "enumerate"=none) (hb:mb "enumerate"=some (.type "enumerate")) {C:Addr} (hown:fx.own=[C]) (hA:A.handled=none)
  (Rm1:Room (A.over (.func (eh P) fx.env) []) fx.k) (Rm2:∀e p H Hx,Room (A.over (.forLoop (i8 P) (.ref e) [jq P] [] fx.env) (y7 H Hx fx.env (.func (eh P) fx.env) p)) fx.k) {s:Shared}
  (R0:SR K fx [] [C] ⟨[some (.dat (.str a)),none,none,none],[]⟩ s) (hok:PyData.strOk a=true) :
  Seg (model prog w) A (RB [s.heap.objs.size+1,s.heap.objs.size,C]) (YB K [s.heap.objs.size+1,s.heap.objs.size,C] (gF a.cps.toList 0 false)) (gF a.cps.toList 0 false).length s (.func (eh P) fx.env) ((model prog w).den (.func (eh P) fx.env)) [] s:=by
 refine seg_func ?_
 refine seg_execs_cons (seg_wrap (wpAny_Assign_Name (wpAny_Constant_int ?_) rfl))
 have x0:Ext [] [] s [] { s with toks:=s.toks+1 }:=Ext.of_keep (h:=s.heap) λ_ _ e=>e
 have R0':SR K fx [] [C] ⟨[some (.dat (.str a)),none,none,none],[]⟩ { s with toks:=s.toks+1 }:=R0.next x0 R0.hr
 refine wpAny_mono (R0'.storeS g.v1 g.s1 (pv:=.dat (.int 0)) ⟨[],.int _ _,λ_ h=>nomatch h⟩ (Q:=λ_ s'=>Ext fx.own [] { s with toks:=s.toks+1 } [] s'∧SR K fx [] [C] ⟨[some (.dat (.str a)),some (.dat (.int 0)),none,none],[]⟩ s'∧s'.heap.objs.size=s.heap.objs.size) λs' x R z=>⟨x,R,z⟩) (λ_ s1 q=>?_) λ_ _ q=>q.elim
 have x1:=q.1
 have R1:=q.2.1
 refine seg_execs_cons (seg_wrap (wpAny_Assign_Name (wpAny_Constant_bool ?_) rfl))
 refine wpAny_mono (R1.storeS g.v2 g.s2 (pv:=.dat (.bool false)) ⟨[],.bool _,λ_ h=>nomatch h⟩ (Q:=λ_ s'=>Ext fx.own [] s1 [] s'∧SR K fx [] [C] ⟨L4 a 0 false none,[]⟩ s'∧s'.heap.objs.size=s1.heap.objs.size) λs' x R z=>⟨x,R,z⟩) (λ_ s2 q2=>?_) λ_ _ q=>q.elim
 have R2:=q2.2.1
 have hz:s2.heap.objs.size=s.heap.objs.size:=q2.2.2.trans q.2.2
 have x02:Ext fx.own [] s [] s2:=((x0.weak gx).trans x1).trans q2.1
 refine seg_execs_cons (Lx ?_)
 skip
 refine Call_ (bp gl R2 hk (.inr ⟨hg,hb⟩) ?_ (by decide))
 refine cu (.inr ⟨_,rfl⟩) (wpAny_items_cons (wpAny_mono (Pr R2 g.v0 rfl) (λv s3 p=>wpAny_items_nil ?_) λ_ _ q=>q) rfl) rfl rfl
 have es:s3=s2:=p.1
 refine cps λ_ KK=>?_
 obtain ⟨as,ra,_⟩:=p.2
 obtain ⟨t,hv,_,hx⟩:=ra.str_
 refine KK ?_
 refine hv.symm▸es.symm▸?_
 refine call_enumerate_str λh he hit hsz keep=>wpAny_pyIter_enum (s:={ s2 with heap:=h }) he λp=>?_
 rw [hz] at he hit ⊢
 have fB:s2.heap.get? s.heap.objs.size=none:=Heap.get?_none_of_le (Nat.le_of_eq hz)
 have fB1:s2.heap.get? (s.heap.objs.size+1)=none:=Heap.get?_none_of_le (Nat.le_succ_of_le (Nat.le_of_eq hz))
 have xs:Ext [s.heap.objs.size+1,s.heap.objs.size,C] [] s [] { s2 with heap:=h }:=(x02.weak (hown.symm▸c8 (List.mem_cons_of_mem _ (List.mem_cons_of_mem _ (List.mem_cons_self ..))))).trans (Ext.of_keep (t:=s2.toks) keep)
 have it:Ms prog w a s.heap.objs.size t (strIterType a):=by
  unfold strIterType
  cases ha:a.cps.all (· < 128) with
  | false=>exact ⟨λA' h=>Draws.strWide h _ a t,λA' s i Q E h hi hn k=>ox h hi hn k⟩
  | true=>exact ⟨λA' h=>Draws.strAscii h _ a t,λA' s i Q E h hi hn k=>n6 h hi hn k⟩
 exact Jz g hown hA (Rm2 _ _ _ _) R2 hok he hit keep fB fB1 it (λi esc p ch s_0 s pre h1 h2 h3 h4 h5=>Ka g Rm1 h1 h2 h3 h4 h5) xs
end
noncomputable def gvars:List (Nat×Str):=[(0,"addr"),(1,"pos"),(2,"escape"),(3,"ch")]
noncomputable def Oz (fd:FuncData) (a:Addr) (k:Nat) (L:Addr):Fx:=⟨newEnv fd.scope L fd.globals [] (fd.qualname++".<locals>.") (some a) fd.code none fd.builtins,fd.scope,gvars,[L],k⟩
theorem AllBare.set {gens:Array GenState} {g:Nat} {st:GenState} (h:AllBare gens) (hb:st.bare=true):AllBare (gens.setIfInBounds g st):=λy hy=>by
 rcases Array.mem_or_eq_of_mem_setIfInBounds hy with q | rfl
 ·exact h y q
 ·exact hb
theorem nu {s:Shared} {g g':Nat} {st:GenState} (h:g'≠g):(s.setGen g st).gens[g']?=s.gens[g']?:=by
 skip
 exact (Array.getElem?_setIfInBounds_ne (λq=>h q.symm)).symm▸rfl
theorem HR.moreX {ρ:av} {wr Z:List Addr} {hp:List MO} {h h':Heap} (H:HR ρ Z hp h) (hw:∀a∈wr,h.get? a=none) (k:∀a o,a∉Z->h.get? a=some o->h'.get? a=some o) (lv:∀a∈wr++Z,∃o,h'.get? a=some o):HR ρ (wr++Z) hp h' :=
 ⟨H.len,H.nodup,λb hb m=>(List.mem_append.mp m).elim (λm=>by obtain ⟨o,e⟩:=H.live b hb; rw [hw b m] at e; cases e) (H.offZ b hb),lv,λi mo e =>
  let ⟨r,b,hr,hm⟩:=H.at_ i mo e
  have hb:b∉wr++Z:=λm=>(List.mem_append.mp m).elim (λm=>by obtain ⟨o,e⟩:=hm.live; rw [hw b m] at e; cases e) (H.offZ b (List.mem_map_of_mem (f:=Prod.snd) (List.mem_of_getElem? hr)))
  ⟨r,b,hr,(MR.more (h':=h) hw (λ_ _ e=>e) hm).own (λa o ha=>k a o λq=>ha (List.mem_append_right _ q)) hb⟩⟩
section
variable (prog:Program) (w:World) (K:Addr->Option Obj) (A:Around) (P:Nat->Pos) (fx:Fx) (e:Addr) (gi:Nat) (a:Str) (C:Addr)
structure GJ (l:List PyData) (wr:List Addr) (ρ:av) (Z:List Addr) (s:Shared):Prop where
 gen:s.heap.IsGen e gi
 eoff:e∉ax ρ∧e∉Z
 woff:∀b∈wr,b∉ax ρ∧∃o,s.heap.get? b=some o
 top:TopOK K s.heap
 off:l4 K ρ Z
 pre:∃pre,gF a.cps.toList 0 false=pre++l
 st:∃gs,s.gens[gi]?=some gs∧((gs=.fresh (.func (eh P) fx.env)∧wr=[C]∧l=gF a.cps.toList 0 false∧SR K fx [] [C] ⟨[some (.dat (.str a)),none,none,none],[]⟩ s) ∨
  (∀s'':Shared,(∀b∈wr,∀o,s.heap.get? b=some o->s''.heap.get? b=some o)->TopOK K s''.heap->gs.Goes (model prog w) A.in1 (RB wr) (YB K wr (gF a.cps.toList 0 false)) l.length (.send .none) s''))
noncomputable def JG:IS->List Addr->av->List Addr->Shared->Prop
 | .rem l=>GJ prog w K A P fx e gi a C l
 | .trk _ _=>λ_ _ _ _=>False
end
section
variable {prog:Program} {w:World} {K:Addr->Option Obj} {A:Around} {P:Nat->Pos} {fx:Fx} {e:Addr} {gi:Nat} {a:Str} {C:Addr} {l:List PyData} {wr:List Addr} {ρ ρ':av} {Z Z' X:List Addr} {s s':Shared} {mg mb:Str->Option Value}
theorem F4:ql [some (.dat (.str a)),none,none,none]:=λi pv hi=>by
 match i,hi with
 | 0,hi=>cases hi; exact ⟨_,rfl,rfl⟩
 | i+4,hi=>simp at hi
theorem GJ.ext (g:GF prog w K fx) (J:GJ prog w K A P fx e gi a C l wr ρ Z s) (x:Ext X ρ s ρ' s') (hX:∀a∈X,a∈Z∧a∉wr):GJ prog w K A P fx e gi a C l wr ρ' Z s':=by
 obtain ⟨o,nm,qn,ho,hr⟩:=id J.gen
 have kw:∀b∈wr,∀o,s.heap.get? b=some o->s'.heap.get? b=some o:=λb hb o e=>x.heap b o (J.woff b hb).1 (λq=>(hX b q).2 hb) e
 have tp:TopOK K s'.heap:=λb o hb=>x.heap b o (J.off b (hb.symm▸λq=>O0 q)).1 (λq=>(J.off b (hb.symm▸λq=>O0 q)).2 (hX b q).1) (J.top b o hb)
 refine ⟨⟨o,nm,qn,x.heap e o J.eoff.1 (λq=>J.eoff.2 (hX e q).1) ho,hr⟩,⟨x.notin ho J.eoff.1,J.eoff.2⟩,λb hb=>?_,tp,λb hb=>?_,J.pre,?_⟩
 ·obtain ⟨h1,o,h2⟩:=J.woff b hb
  exact ⟨x.notin h2 h1,o,kw b hb o h2⟩
 ·refine ⟨?_,(J.off b hb).2⟩
  cases q:K b with
  | none=>exact absurd q hb
  | some o=>exact x.notin (J.top b o q) (J.off b hb).1
 ·obtain ⟨gs,hgs,h⟩:=J.st
  refine ⟨gs,x.gens gi gs hgs,?_⟩
  rcases h with ⟨rfl,rfl,hl,R⟩ | h
  ·exact .inl ⟨rfl,rfl,hl,R.wake F4 g.cells kw tp⟩
  ·exact .inr λs'' k t=>h s'' (λb hb o e=>k b hb o (kw b hb o e)) t
theorem GJ.more (g:GF prog w K fx) (J:GJ prog w K A P fx e gi a C l wr ρ Z s) (hZ:∀a∈Z',a∈Z∨s.heap.get? a=none) (k:∀b o,s.heap.get? b=some o->s'.heap.get? b=some o) (kg:∀(g:Nat) (st:GenState),s.gens[g]?=some st->s'.gens[g]?=some st):GJ prog w K A P fx e gi a C l wr ρ Z' s':=by
 have tp:TopOK K s'.heap:=λb o hb=>k b o (J.top b o hb)
 refine ⟨J.gen.keeps k,⟨J.eoff.1,λq=>?_⟩,λb hb=>let ⟨h1,o,h2⟩:=J.woff b hb; ⟨h1,o,k b o h2⟩,tp,λb hb=>⟨(J.off b hb).1,λq=>?_⟩,J.pre,?_⟩
 ·rcases hZ e q with q | q
  ·exact J.eoff.2 q
  ·obtain ⟨o,nm,qn,ho,hr⟩:=J.gen; rw [q] at ho; cases ho
 ·rcases hZ b q with q | q
  ·exact (J.off b hb).2 q
  ·cases h:K b with
   | none=>exact absurd h hb
   | some o=>have:=J.top b o h; rw [q] at this; cases this
 ·obtain ⟨gs,hgs,h⟩:=J.st
  refine ⟨gs,kg gi gs hgs,?_⟩
  rcases h with ⟨rfl,rfl,hl,R⟩ | h
  ·exact .inl ⟨rfl,rfl,hl,R.wake F4 g.cells (λb _ o e=>k b o e) tp⟩
  ·exact .inr λs'' k' t=>h s'' (λb hb o e=>k' b hb o (k b o e)) t
theorem Room.gen1 {k:Nat} {body:List Stmt} {env:Env} (h:Room A (k+1)):Room (A.in1.over (.func body env) []) k :=
 ⟨h.handled,by have:=h.depth; show A.depth+0+1+k < 900; lia,by have:=h.units; show A.units+1+0+3+40*k < 9000; lia⟩
theorem Room.gen2 {k:Nat} {e:Addr} {p:Pos} {H:Flow->Sem Fin} {Hx:Value->Sem Fin} {body:List Stmt} {env:Env} (h:Room A (k+1)):Room (A.in1.over (.forLoop (i8 P) (.ref e) [jq P] [] env) (y7 H Hx env (.func body env) p)) k :=
 ⟨h.handled,by have:=h.depth; show A.depth+(1+0)+0+k < 900; lia,by have:=h.units; show A.units+1+(3+0)+0+40*k < 9000; lia⟩
inductive Sj (prog:Program) (w:World) (K:Addr->Option Obj) (A:Around) (gi:Nat) (a:Str) (l:List PyData) (wr:List Addr) (s:Shared):Prop
 | mk (gs:GenState) (w_2:List Addr):s.gens[gi]?=some gs->(∀b∈w_2,s.heap.get? b=none)->gs.Goes (model prog w) A.in1 (RB (w_2++wr)) (YB K (w_2++wr) (gF a.cps.toList 0 false)) l.length (.send .none) (s.setGen gi .running)->Sj prog w K A gi a l wr s
theorem GJ.goes (g:GF prog w K fx) (gl:Gl K mg mb) (hk:fx.sc.names.lookup ("enumerate":Str)=some .globalImplicit) (hg:mg "enumerate"=none) (hb:mb "enumerate"=some (.type "enumerate")) (hown:fx.own=[C]) (Rm:Room A (fx.k+1)) (hok:PyData.strOk a=true)
  (J:GJ prog w K A P fx e gi a C l wr ρ Z s):Sj prog w K A gi a l wr s:=by
 obtain ⟨gs,hgs,h⟩:=J.st
 rcases h with ⟨rfl,rfl,rfl,R⟩ | h
 ·refine ⟨_,[s.heap.objs.size+1,s.heap.objs.size],hgs,λb hb=>?_,rfl,?_⟩
  ·exact ip (P:=λb=>s.heap.get? b=none) (Heap.get?_none_of_le (Nat.le_succ _)) (Heap.get?_none_of_le (Nat.le_refl _)) b hb
  ·have R':SR K fx [] [C] ⟨[some (.dat (.str a)),none,none,none],[]⟩ (s.setGen gi .running):=R.wake F4 g.cells (λ_ _ _ e=>e) J.top
   exact Fh g gl hk hg hb hown (A:=A.in1) Rm.handled Rm.gen1 (λ_ _ _ _=>Rm.gen2) R' hok
 ·exact ⟨gs,[],hgs,(λ_ h=>ck h),h _ (λ_ _ _ e=>e) J.top⟩
end
section
variable {prog:Program} {w:World} {K:Addr->Option Obj} {A:Around} {P:Nat->Pos} {fx:Fx} {e:Addr} {gi:Nat} {a:Str} {C:Addr} {mg mb:Str->Option Value} {tg:Expr}
theorem JG.rem_ {l:IS} {wr:List Addr} {ρ:av} {Z:List Addr} {s:Shared} {Q:IS->Prop} (J:JG prog w K A P fx e gi a C l wr ρ Z s) (k:∀l,GJ prog w K A P fx e gi a C l wr ρ Z s->Q (.rem l)):Q l:=by
 cases l with
 | rem l=>exact k l J
 | trk=>exact J.elim
theorem jj {h:Heap} {w_2 wr:List Addr} (hw_2:∀b∈w_2,h.get? b=none) {b:Addr} {o:Obj} (hb:b∉wr) (e:h.get? b=some o):b∉w_2++wr:=λq=>(List.mem_append.mp q).elim (λq=>al ((hw_2 b q).symm.trans e)) hb
theorem Kv {out pre l:List PyData} {d d':PyData} (hpre:out=pre++d::l) (hd:out[out.length - 1 - ((d::l).length - 1)]?=some d'):d=d':=by
 rw [hpre,List.length_append] at hd
 have hd:(pre++d::l)[pre.length+l.length - l.length]?=some d':=hd
 rw [Nat.add_sub_cancel,List.getElem?_append_right (Nat.le_refl _),Nat.sub_self] at hd
 exact b9 hd
theorem vp {s:Shared} {g:Nat} {st:GenState} (h:g < s.gens.size):(s.setGen g st).gens[g]?=some st:=by
 show (s.gens.setIfInBounds g st)[g]?=_
 rw [Array.getElem?_setIfInBounds_self,if_pos h]
theorem Cd {s s_1:Shared} {st:GenState} {W wr:List Addr} {ρ:av} (x:Ext W [] (s.setGen gi .running) [] s_1) (hb:st.bare=true) (off:∀b o,b∉wr->s.heap.get? b=some o->b∉W):ExtG wr (λx=>x=gi) ρ s ρ (s_1.setGen gi st) :=
 ⟨⟨⟨[],(List.append_nil _).symm,λ_ h=>ck h⟩,λb o _ hb e=>x.heap b o List.not_mem_nil (off b o hb e) e,x.live,x.drawn,x.os,λ_ _ e=>e,λh=>h⟩,λg' st hg' e=>(nu hg').trans (x.gens g' st ((nu hg').trans e)),λh=>AllBare.set (x.bare (AllBare.set h rfl)) hb⟩
theorem Lw (g:GF prog w K fx) (gl:Gl K mg mb) (hk:fx.sc.names.lookup ("enumerate":Str)=some .globalImplicit) (hg:mg "enumerate"=none) (hb:mb "enumerate"=some (.type "enumerate")) (hown:fx.own=[C]) (Rm:Room A (fx.k+1)) (hok:PyData.strOk a=true) (ht:jt tg) :
  B9 prog w A (.ref e) tg (λx=>x=gi) ar (JG prog w K A P fx e gi a C) where
 ext:=λ{l wr ρ Z s X ρ' s'} J x hX=>J.rem_ (Q:=λl=>JG prog w K A P fx e gi a C l wr ρ' Z s') λl J=>GJ.ext g J x hX
 more:=λ{l wr ρ Z Z' s s'} J hZ k kg=>J.rem_ (Q:=λl=>JG prog w K A P fx e gi a C l wr ρ Z' s') λl J=>GJ.more g J hZ k kg
 self:=λ{l wr hp r ρ Z s Q} _ J _ hQ=>J.rem_ (Q:=λ_=>wpAny (model prog w) A (pyIter (.ref e)) Q bn s) λl J=>wpAny_pyIter_gen J.gen hQ
 next:=λ{l wr hp d l' hp' ρ Z s} st J H hw=>by
  revert st
  refine J.rem_ (Q:=λl=>ar l hp=some (some (d,l'),hp')->_) λl J st=>?_
  obtain ⟨hh,⟨_,q⟩ | ⟨d_1,l_1,hl,q⟩⟩:=ko st
  ·exact al q.symm
  have q:=Prod.mk.inj (b9 q)
  replace J:=q.1.symm▸hl▸J
  refine q.2.symm▸?_
  replace H:=hh▸H
  refine cps λ_ KK=>?_
  obtain ⟨gs,w_2,hgs,hw_2,hgo⟩:=GJ.goes g gl hk hg hb hown Rm hok J
  refine KK ?_
  refine pq (P:=λn s_0 s_1=>n=0∧Ext (w_2++wr) [] s_0 [] s_1) Rm.handled (gl.lim _ J.top) (Nat.lt_of_le_of_lt (Nat.le_add_right _ _) (Nat.lt_trans Rm.depth (by decide))) J.gen hgs hgo (λv s_1 gs' hbare hY=>?_) (λs_1 p=>nomatch p.1)
  refine cps λ_ KK=>?_
  obtain ⟨T,d',hv,hd,hr,hf,hTow,x,lv,hkap⟩:=hY
  obtain ⟨o,nm,qn,ho,hcl,hdt,hsl⟩:=id J.gen
  obtain ⟨pre,hpre⟩:=J.pre
  refine KK ?_
  have hdd:d=d':=Kv hpre hd
  replace hr:=hdd.symm▸hr
  have offZ:∀b o,b∉Z->s.heap.get? b=some o->b∉w_2++wr:=λb o hb e=>jj hw_2 (λq=>hb (hw b q)) e
  have xh:∀b o,b∉Z->s.heap.get? b=some o->s_1.heap.get? b=some o:=λb o hb e=>x.heap b o List.not_mem_nil (offZ b o hb e) e
  have kz:∀b o,K b=some o->b∉Z:=λb o hb=>(J.off b λq=>al (q.symm.trans hb)).2
  have hgi:gi < s_1.gens.size:=(Array.getElem?_eq_some_iff.mp (x.gens gi _ (vp (Array.getElem?_eq_some_iff.mp hgs).1))).1
  have H':HR ρ (w_2++Z) hp' (s_1.setGen gi gs').heap:=H.moreX hw_2 xh λb hb=>(List.mem_append.mp hb).elim (λq=>lv b (List.mem_append_left _ q)) λq=>(H.liveZ b q).elim λo e=>x.live b o e
  have J':GJ prog w K A P fx e gi a C l_1 (w_2++wr) ρ (w_2++Z) (s_1.setGen gi gs') :=
   ⟨⟨o,nm,qn,xh e o J.eoff.2 ho,hcl,hdt,hsl⟩,⟨J.eoff.1,jj hw_2 J.eoff.2 ho⟩,λb hb=>⟨(List.mem_append.mp hb).elim (λq=>(H.fresh (hw_2 b q)).1) λq=>(J.woff b q).1,lv b hb⟩,λb o hb=>xh b o (kz b o hb) (J.top b o hb),λb hb=>⟨(J.off b hb).1,λq=>?_⟩,⟨pre++[d],by rw [hpre,List.append_assoc]; rfl⟩,gs',vp hgi,.inr λs'' k t=>hkap s'' k t⟩
  ·exact ⟨.ref T,hv▸rfl,ja ht (s:=s_1.setGen gi gs') (xh e o J.eoff.2 ho) hcl (by decide) ⟨ρ,w_2,hw_2,Cd x hbare λb o=>jj hw_2,H',⟨[T],hr,c8 ⟨(H.fresh hf).1,λq=>(List.mem_append.mp q).elim (λq=>hTow (List.mem_append_left _ q)) (H.fresh hf).2⟩⟩,J'⟩⟩
  ·cases h:K b with
   | none=>exact absurd h hb
   | some o=>exact jj hw_2 (kz b o h) (J.top b o h) q
 done:=λ{l wr hp hp' ρ Z s} st J H hw=>by
  revert st
  refine J.rem_ (Q:=λl=>ar l hp=some (none,hp')->_) λl J st=>?_
  obtain ⟨hh,⟨hl,_⟩ | ⟨_,_,_,q⟩⟩:=ko st
  ·replace J:=hl▸J
   replace H:=hh▸H
   refine cps λ_ KK=>?_
   obtain ⟨gs,w_2,hgs,hw_2,hgo⟩:=GJ.goes g gl hk hg hb hown Rm hok J
   refine KK ?_
   refine pq (P:=λn s_0 s_1=>n=0∧Ext (w_2++wr) [] s_0 [] s_1) Rm.handled (gl.lim _ J.top) (Nat.lt_of_le_of_lt (Nat.le_add_right _ _) (Nat.lt_trans Rm.depth (by decide))) J.gen hgs hgo (λv s_1 gs' hbare hY=>?_) (λs_1 p h' keep=>?_)
   ·refine cps λ_ KK=>?_
    obtain ⟨T,d',hv,hd,hr,hf,hTow,x,lv,hkap⟩:=hY
    refine KK ?_
    exact (hkap s_1 (λ_ _ _ e=>e) λb o hb=>x.heap b o List.not_mem_nil (jj hw_2 (λq=>(J.off b λq=>al (q.symm.trans hb)).2 (hw b q)) (J.top b o hb)) (J.top b o hb)).elim
   ·exact ⟨rfl,ρ,s_1.setGen gi .finished,h',s_1.toks,Cd p.2 rfl λb o=>jj hw_2,H.own (λb o hb e=>p.2.heap b o List.not_mem_nil (jj hw_2 (λq=>hb (hw b q)) e) e) p.2.live,rfl,λb o _ e=>keep b o e⟩
  ·exact al q
end
noncomputable def D5 (G:LF):SF:=λσ=>match G σ with
 | some ([.dat (.str x)],hp)=>some ((.rem (gF x.cps.toList 0 false),(gF x.cps.toList 0 false).length+1),hp)
 | _=>none
structure GenOK (prog:Program) (w:World) (K:Addr->Option Obj) (mg mb:Str->Option Value) (a:Addr) (o:Obj) (fd:FuncData) (P:Nat->Pos) (k:Nat):Prop where
 at_:K a=some o
 data:o.data=.func fd
 body:fd.body=.stmts (eh P)
 code:∀h,TopOK K h->h.CodeRec fd.code fd.qualname
 bind:∀v,bindArgs fd ⟨[v],[]⟩=pure [(("addr":Str),v)]
 glob:fd.globals=mainGlobals
 bi:fd.builtins=builtinsNs
 clo:fd.closure=[]
 gen:fd.scope.isGenerator=true
 co:fd.scope.isCoroutine=false
 kind:fd.scope.kind=.function
 nocell:∀x∈fd.scope.names,x.2≠.cell
 addr:fd.scope.names.lookup ("addr":Str)=some .local
 pos:fd.scope.names.lookup ("pos":Str)=some .local
 escape:fd.scope.names.lookup ("escape":Str)=some .local
 ch:fd.scope.names.lookup ("ch":Str)=some .local
 enum:fd.scope.names.lookup ("enumerate":Str)=some .globalImplicit
 mg:mg "enumerate"=none
 mb:mb "enumerate"=some (.type "enumerate")
 k:1≤k
theorem D9:∀(i j:Nat) (y:Str),gvars.lookup i=some y->gvars.lookup j=some y->i=j:=λi j y hi hj=>by
 have h:gvars.all (λp=>gvars.all λq=>p.2 != q.2||p.1==q.1)=true:=by decide +kernel
 rcases (Bool.or_eq_true _ _).mp (List.all_eq_true.mp (List.all_eq_true.mp h _ (b5 hi)) _ (b5 hj)) with e | e
 ·exact absurd rfl (bne_iff_ne.mp e)
 ·exact eq_of_beq e
section
variable {prog:Program} {w:World} {K:Addr->Option Obj} {fx:Fx} {mg mb:Str->Option Value}
theorem GenOK.gf {a:Addr} {o:Obj} {fd:FuncData} {P:Nat->Pos} {k:Nat} (G:GenOK prog w K mg mb a o fd P k) (L:Addr):GF prog w K (Oz fd a k L) where
 v0:=rfl
 v1:=rfl
 v2:=rfl
 v3:=rfl
 s1:=.inl G.pos
 s2:=.inl G.escape
 s3:=.inl G.ch
 k:=G.k
 cells:=rfl
 co:=G.co
 int_:=by
  skip
  skip
  show (fd.scope.kind==.module&&_)=false
  rw [G.kind]; rfl
theorem Gd {G:LF} {σ:St} {is:IS} {n:Nat} {hp':List MO} {Q:Prop} (q:D5 G σ=some ((is,n),hp')) (k:∀x,G σ=some ([.dat (.str x)],hp')->.rem (gF x.cps.toList 0 false)=is->Q):Q:=by
 unfold D5 at q
 cases h:G σ with
 | none=>rw [h] at q; exact al q
 | some y =>
  obtain ⟨ps,hp⟩:=y
  replace q:=h▸q
  cases ps with
  | nil=>exact al q
  | cons p ps=>cases ps with
   | cons _ _=>cases p with
    | dat d=>cases d<;>exact al q
    | _=>exact al q
   | nil=>cases p with
    | dat d=>cases d with
     | str x=>exact k x ((cq q).2▸h) (Prod.mk.inj (cq q).1).1
     | _=>exact al q
    | _=>exact al q
noncomputable def rz (g:Nat) (fd:FuncData) (t:Nat):Obj:={ cls:=.type "generator",data:=.fields #[.int g 0,.str fd.name t,.str fd.qualname (t+1)] }
theorem Cj {K:Addr->Option Obj} {h:Heap} (top:TopOK K h) {C:Addr} (fC:h.get? C=none) {b:Addr} (hb:K b≠none) (q:b∈[C]):False:=by
 rw [List.mem_singleton.mp q] at hb
 cases h:K C with
 | none=>exact hb h
 | some o=>exact al (fC.symm.trans (top C o h))
theorem Ea {fd:FuncData} {a:Addr} {k C:Addr} {x:Str} {t:Tok} {ρ:av} {Z:List Addr} {h:Heap} (hA:fd.scope.names.lookup ("addr":Str)=some .local) (hok:PyData.strOk x=true) (i:Nat) (y:Str) (pv:PV) (hi:gvars.lookup i=some y) (hl:[some (.dat (.str x)),none,none,none][i]?=some (some pv)) :
  ∃v,cf (Oz fd a k C).env (λy=>[(("addr":Str),Value.str x t)].reverse.lookup y) (λ_=>none) y=some v∧VR ρ Z h pv v:=by
 cases i with
 | zero =>
  refine (b9 (b9 hl))▸(b9 (show some (("addr":Str))=some y from hi))▸?_
  refine ⟨.str x t,?_,[],.str _ _ hok,λ_ h=>ck h⟩
  unfold cf
  refine (show (Oz fd a k C).env.kindOf "addr"=some .local from hA).symm▸?_
  rfl
 | succ i=>cases i with
  | zero=>exact al (b9 hl)
  | succ i=>cases i with
   | zero=>exact al (b9 hl)
   | succ i=>cases i with
    | zero=>exact al (b9 hl)
    | succ i=>exact al hl
theorem Jo {A:Around} {a:Addr} {o:Obj} {fd:FuncData} {P:Nat->Pos} {k:Nat} (gl:Gl K mg mb) (G:GenOK prog w K mg mb a o fd P k) {tg:Expr} (ht:jt tg) {ρ ρ_1:av} {Z:List Addr} {loc:bg} {s s_1:Shared} {hp':List MO} {x:Str} {t:Tok} {C:Addr} {h':Heap} {is:IS}
  (his:.rem (gF x.cps.toList 0 false)=is) (Rm:Room A (k+1)) (x_1:Ext [] ρ s ρ_1 s_1) (R_1:SR K fx ρ_1 Z ⟨loc,hp'⟩ s_1) (hok:PyData.strOk x=true) (fC:s_1.heap.get? C=none) (fC1:s_1.heap.get? (C+1)=none) (kp1:∀b o,s_1.heap.get? b=some o->h'.get? b=some o) (hn:h'.Ns C (λy=>[(("addr":Str),Value.str x t)].reverse.lookup y))
  (hsz:h'.objs.size=C+1) {t1 t2:Nat}:PostI prog w A tg ar ρ Z s is hp' (.ref (C+1)) ⟨h'.push (rz s_1.gens.size fd t1),s_1.gens.push (.fresh (.func (eh P) (Oz fd a k C).env)),s_1.drawn,t2,s_1.os⟩:=by
 have kp:∀b o,s_1.heap.get? b=some o->(h'.push (rz s_1.gens.size fd t1)).get? b=some o:=λb o hb=>Heap.get?_push_of_some _ (kp1 b o hb)
 have H_1:=R_1.hr
 have hnC:(h'.push (rz s_1.gens.size fd t1)).Ns C (λy=>[(("addr":Str),Value.str x t)].reverse.lookup y):=Ns.keep hn λo e=>Heap.get?_push_of_some _ e
 have tp:TopOK K (h'.push (rz s_1.gens.size fd t1)):=λb o hb=>kp b o (R_1.top b o hb)
 have no:=λb hb=>Cj R_1.top fC (b:=b) hb
 refine his▸?_
 refine ⟨ρ_1,s_1,[C],(λx=>x=s_1.gens.size),JG prog w K A P (Oz fd a k C) (C+1) s_1.gens.size x C,x_1,H_1,⟨⟨[],(List.append_nil _).symm,(λ_ h=>ck h)⟩,(λb o _ _ e=>kp b o e),(λb o e=>⟨o,kp b o e⟩),rfl,rfl,(λg st e=>?_),λh=>AllBare.push h rfl⟩,kp,c8 fC,c8 (Ns.live hnC),(λg hg=>hg.symm▸Array.getElem?_eq_none (Nat.le_refl _)),?_,Lw (G.gf C) gl G.enum G.mg G.mb rfl Rm hok ht⟩
 ·skip
  refine (Array.getElem?_push).symm▸(if_neg (Nat.ne_of_lt (Array.getElem?_eq_some_iff.mp e).1)).symm▸?_
  exact e
 ·refine ⟨⟨rz s_1.gens.size fd t1,_,_,hsz▸Heap.get?_push_size _ rfl,rfl,rfl,rfl⟩,⟨(H_1.fresh fC1).1,λq=>(List.mem_append.mp q).elim (λq=>Nat.succ_ne_self _ (List.mem_singleton.mp q)) (H_1.fresh fC1).2⟩,c8 ⟨(H_1.fresh fC).1,Ns.live hnC⟩,tp,λb hb=>⟨(R_1.off b hb).1,λq=>(List.mem_append.mp q).elim (no b hb) (R_1.off b hb).2⟩,⟨[],rfl⟩,_,Array.getElem?_push_size,.inl ⟨rfl,rfl,rfl,?_⟩⟩
  exact ⟨⟨rfl,List.nodup_nil,(λb hb=>ck hb),c8 (Ns.live hnC),λi mo e=>al e⟩,⟨⟨_,λ_=>none,hnC,(λn c e=>al e),Ea G.addr hok⟩,G.kind,rfl,D9,G.glob,G.bi,List.mem_singleton_self _,λb hb=>hb,List.not_mem_nil,(λn c e=>al e),λn n' c e=>al e⟩,tp,λb hb=>⟨List.not_mem_nil,no b hb⟩⟩
theorem EvI.gen (gl:Gl K mg mb) {f:Str} {a:Addr} {o:Obj} {fd:FuncData} {P:Nat->Pos} {k:Nat} {e:Expr} {es:List Expr} {pos np:Pos} {F:LF} (G:GenOK prog w K mg mb a o fd P k) (he:EvL prog w K fx (e::es) F) {tg:Expr} (ht:jt tg) (hK:k+1≤fx.k)
  (hk:fx.sc.names.lookup f=some .globalImplicit) (hg:mg f=some (.ref a)) (hd:(f==("__debug__":Str))=false:=by decide)
  (hs:∀env,starEach (e::es) env=(false,eval e env)::starEach es env:=by intro _; rfl) (hp:∀env,(backTo pos (starEach es env)).any (·.1)=false:=by intro _; rfl) :
  EvI prog w K fx (.Call (.Name f np) (e::es) [] pos) tg ar (D5 F):=.mk λA ρ Z σ s is n hp' Rm R q=>by
 refine Gd q λx e1 his=>?_
 refine Call_ (bp gl R hk (.inl hg) ?_ hd)
 refine callWith_function (o:=o) (fd:=fd) ?_
 have hh:=he.run pos A ρ Z σ s _ _ Rm R e1
 rw [hs] at hh ⊢
 refine evalArgs_plain (wpAny_mono hh (λvs s_1 p=>?_) λ_ _ q=>q)
 refine cps λ_ KK=>?_
 obtain ⟨ρ_1,x_1,V,H_1⟩:=p
 refine KK ?_
 have R_1:=R.next x_1 H_1
 refine ⟨⟨R_1.top a o G.at_,G.data⟩,?_⟩
 refine cps λ_ KK=>?_
 obtain ⟨v,r,hv,Vx,V⟩:=V.uncons
 obtain ⟨as,rx,_⟩:=id Vx
 obtain ⟨t,hx,_,hok⟩:=rx.str_
 refine KK ?_
 refine hv.symm▸V.unnil.symm▸hx.symm▸?_
 refine wpAny_call (codeAny_call_generator (R:=λr s'=>match r with
  | .ok (.ret v)=>wpAny (model prog w) A (pyIter v) (PostI prog w A tg ar ρ Z s is hp') bn s'
  | .ok _=>False
  | .error e=>bn e s') (Nat.lt_of_le_of_lt (Nat.le_add_right _ _) (Nat.lt_trans Rm.depth (by decide))) (R_1.top a o G.at_) G.data G.co G.gen G.body (G.code _ R_1.top) ?_)
 refine (show bindArgs fd { pos:=[]++({ pos:=[Value.str x t] }:Args).pos }=pure [(("addr":Str),.str x t)] from G.bind _).symm▸?_
 refine wpAny_pure ?_
 refine wpAny_newFunctionEnv G.nocell (λy hy=>(List.mem_singleton.mp hy).symm▸G.addr) (λh' hn sb=>?_) G.kind
 have fC:s_1.heap.get? s_1.heap.objs.size=none:=Heap.get?_none_of_le (Nat.le_refl _)
 have kp1:∀b o,s_1.heap.get? b=some o->h'.get? b=some o:=λb o hb=>sb.extBut b o (λq=>al ((q▸fC).symm.trans hb)) (Heap.get?_push_of_some _ hb)
 have hsz:h'.objs.size=s_1.heap.objs.size+1:=by rw [sb.1,Heap.size_push]
 refine ⟨gl.lim _ λb o hb=>kp1 b o (R_1.top b o hb),?_⟩
 refine (show newEnv fd.scope s_1.heap.objs.size fd.globals fd.closure (fd.qualname++".<locals>.") (some a) fd.code none fd.builtins=(Oz fd a k s_1.heap.objs.size).env by rw [G.clo]; rfl).symm▸?_
 skip
 refine hsz.symm▸?_
 exact wpAny_pyIter_gen (g:=s_1.gens.size) ⟨_,_,_,hsz▸Heap.get?_push_size _ rfl,rfl,rfl,rfl⟩ (Jo gl G ht his (Rm.mono hK) x_1 R_1 hok fC (Heap.get?_none_of_le (Nat.le_succ _)) kp1 hn hsz)
end
end Mine
end
section
open PySem PySem.Calls open Sem (wp) open Builtin Builtin.ObjectAttr
namespace Mine
theorem I9:typeLookup (.type "function") "__getattribute__"=pure (some (.builtin "object.__getattribute__")):=by rw [typeLookup_type,builtinLookup_eq_fast]; kernel_rfl
theorem Gq:typeLookup (.type "function") "__setattr__"=pure (some (.builtin "object.__setattr__")):=by rw [typeLookup_type,builtinLookup_eq_fast]; kernel_rfl
theorem um:typeLookup (.type "function") "__getattr__"=pure none:=by rw [typeLookup_type,builtinLookup_eq_fast]; kernel_rfl
theorem mq:typeLookup (.type "function") "read"=pure none:=by rw [typeLookup_type,builtinLookup_eq_fast]; kernel_rfl
theorem N2:mroOf (.type "function")=pure [.type "function",.type "object"]:=by kernel_rfl
theorem fn_slot_ga:Slot "function" "__getattribute__" "object.__getattribute__":=.of (owner:="object") (n:="__getattribute__") (by rw [typeLookup_type,builtinLookup_eq_fast]; kernel_rfl) (by decide +kernel) (by decide +kernel) (by decide +kernel)
  (by first | exact .inl (by decide +kernel) | exact .inr (by decide +kernel)) (by rw [isSubtype_type]; kernel_rfl)
theorem fn_slot_sa:Slot "function" "__setattr__" "object.__setattr__":=.of (owner:="object") (n:="__setattr__") (by rw [typeLookup_type,builtinLookup_eq_fast]; kernel_rfl) (by decide +kernel) (by decide +kernel) (by decide +kernel)
  (by first | exact .inl (by decide +kernel) | exact .inr (by decide +kernel)) (by rw [isSubtype_type]; kernel_rfl)
section
variable {prog:Program} {w:World} {A:Around} {E:Value->Shared->Prop} {h:Heap} {g:Array GenState} {d:Drawn} {t:Nat} {os:OsState} {x dx:Addr} {o:Obj} {fd:FuncData} {m:Str->Option Value} {v:Value}
theorem K4 {tk:Tok} {Q:Fin->Shared->Prop} (hx:h.get? x=some o) (hc:o.cls=.type "function") (hf:o.data=.func fd) (hd:o.dict=some dx) (hn:h.Ns dx m) (hv:m "read"=some v) (hq:Q (.done (.ret v)) ⟨h,g,d,t,os⟩) :
  wpAny (model prog w) A (Builtin.«object.__getattribute__» ⟨[.ref x,.str "read" tk],[]⟩) Q E ⟨h,g,d,t,os⟩:=by
 unfold Builtin.«object.__getattribute__»
 repeat (first | (with_reducible refine wpAny_loadPart_at hx ?_; rw [hc]) | (with_reducible refine wpAny_of_eq mq ?_) | wp_step)
 refine hf.symm▸?_
 unfold instanceDict
 repeat (first | (with_reducible refine wpAny_loadPart_at hx ?_; rw [hc]) | wp_step)
 refine hd.symm▸?_
 repeat (first | (with_reducible refine wpAny_nsGet hn ?_; rw [hv]) | wp_step)
 exact hq
theorem A5 {expr:Bool} {Q:Value->Shared->Prop} (hx:h.get? x=some o) (hc:o.cls=.type "function") (hf:o.data=.func fd) (hd:o.dict=some dx) (hn:h.Ns dx m) (hv:m "read"=some v) (hh:handedOut v=pure v) (hq:Q v ⟨h,g,d,t+1,os⟩) :
  wpAny (model prog w) A (getAttr (.ref x) "read" expr) Q E ⟨h,g,d,t,os⟩:=by
 have hT:(⟨h,g,d,t+1,os⟩:Shared).TypeIs (.ref x) "function":=⟨_,hx,hc⟩
 have f4:=fn_slot_ga.bind (.ref x)
 skip
 repeat (first | (with_reducible refine wpAny_loadPart_at hx ?_; rw [hc]) | (with_reducible refine wpAny_of_eq I9 ?_) | wp_step)
 rw [show (expr&&onTheHeap (Value.builtin "object.__getattribute__"))=false by cases expr<;>rfl,if_neg Bool.false_ne_true]
 skip
 repeat (any_goals (first | assumption | wp_step))
 refine codeAny_call_builtin fn_slot_ga.plain F.entry_object_getattribute (fn_slot_ga.check _ _ _ _ _ _ _ _ hT (F.args_object_getattribute_2 _ _) (K4 hx hc hf hd hn hv ?_))
 show wpAny _ _ (handedOut v) _ _ _
 refine hh.symm▸?_
 exact wpAny_pure hq
theorem w5 {pl:Sem Bool} {Q:Value×List Value->Shared->Prop} (hx:h.get? x=some o) (hc:o.cls=.type "function") (hf:o.data=.func fd) (hd:o.dict=some dx) (hn:h.Ns dx m) (hv:m "read"=some v) (hh:handedOut v=pure v) (hq:Q (v,[]) ⟨h,g,d,t+1,os⟩) :
  wpAny (model prog w) A (getMethod (.ref x) "read" pl) Q E ⟨h,g,d,t,os⟩:=by
 have hT:(⟨h,g,d,t,os⟩:Shared).TypeIs (.ref x) "function":=⟨_,hx,hc⟩
 skip
 refine wpAny_bind (wpAny_specialOf hT fn_slot_ga.lookup ?_)
 show wpAny _ A (if (Manifest.canonical "object.__getattribute__" != "object.__getattribute__")=true then _ else _) Q E _
 refine F.canon_object_ga.symm▸(if_neg Bool.false_ne_true).symm▸?_
 refine wpAny_bind (wpAny_specialOf hT um ?_)
 refine wpAny_bind (wpAny_specialOf hT mq ?_)
 exact wpAny_bind (A5 hx hc hf hd hn hv hh (wpAny_pure hq))
theorem Hh {tk:Tok} {Q:Fin->Shared->Prop} (hx:h.get? x=some o) (hc:o.cls=.type "function") (hf:o.data=.func fd) (hd:o.dict=none)
  (hq:∀h' dx t',h.get? dx=none->h'.Ns dx (λy=>if y="read" then some v else none)->h'.get? x=some { o with dict:=some dx }->(∀b o,b≠x->h.get? b=some o->h'.get? b=some o)->Q (.done (.ret .none)) ⟨h',g,d,t',os⟩) :
  wpAny (model prog w) A (Builtin.«object.__setattr__» ⟨[.ref x,.str "read" tk,v],[]⟩) Q E ⟨h,g,d,t,os⟩:=by
 have hpass:refuseLoop (.ref x) "__setattr__" [.type "function",.type "object"]=pure ():=by kernel_rfl
 skip
 repeat (first | rw [refuse_eq] | (rw [refuseLoop_ref,hpass]) | (with_reducible refine wpAny_loadPart_at hx ?_; rw [hc]) | (with_reducible refine wpAny_of_eq N2 ?_) | (with_reducible refine wpAny_of_eq mq ?_) | wp_step)
 refine hd.symm▸hf.symm▸?_
 skip
 refine (show (!true||!typeHasDict (Value.type "function"))=false by decide +kernel).symm▸(if_neg Bool.false_ne_true).symm▸?_
 have hx_1:(h.push { cls:=.type "dict",data:=.dict #[] }).get? x=some o:=Heap.get?_push_of_some _ hx
 have hxs:x≠h.objs.size:=Nat.ne_of_lt (Heap.lt_size hx)
 refine wpAny_bind (wpAny_alloc' ?_)
 refine wpAny_bind (wpAny_update' hx_1 ?_)
 refine wpAny_pure ?_
 have hgd:((h.push { cls:=.type "dict",data:=.dict #[] }).update x λo=>{ cls:=o.cls,dict:=some h.objs.size,data:=o.data,slots:=o.slots }).get? h.objs.size
   = some { cls:=.type "dict",data:=.dict #[] } :=
  (Heap.get?_update_ne _ _ _ _ hxs.symm).trans (Heap.get?_push_at rfl rfl)
 have hnd:((h.push { cls:=.type "dict",data:=.dict #[] }).update x λo=>{ cls:=o.cls,dict:=some h.objs.size,data:=o.data,slots:=o.slots }).Ns h.objs.size (λ_=>none) :=
  ⟨_,#[],_,hgd,rfl,λe he=>absurd he (by simp),λ_=>rfl⟩
 skip
 skip
 refine wpAny_bind (wpAny_pure (wpAny_bind (wpAny_nsSet1 (Heap.Ns1.of_empty hnd) λh' hn' hs=>?_)))
 refine cps λ_ KK=>?_
 obtain ⟨oD,esD,epD,hoD,hdD,hcD⟩:=hn'.count (Within.cons ("read":Str) v Within.nil)
 refine KK ?_
 refine wpAny_bind (wpAny_lookBehind hoD (hdD.symm▸pastItsLine_dict (Nat.le_trans hcD (by rw [List.length_cons,List.length_nil,sizeLine_eq]; (exact Nat.succ_pos _)))) ?_)
 wp_walk
 have hx':h'.get? x=some { cls:=o.cls,dict:=some h.objs.size,data:=o.data,slots:=o.slots }:=by
  refine (hs.2 x hxs).trans (Heap.get?_update_self _ hx_1 ?_)
  refine cps λ_ KK=>?_
  obtain ⟨oc,od,odt,osl⟩:=o
  refine KK ?_
  simp only at hf
  subst hf
  rfl
 exact hq h' h.objs.size _ (Heap.get?_none_of_le (Nat.le_refl _)) hn'.ns hx' λb ob hbx hb=>(hs.2 b (Nat.ne_of_lt (Heap.lt_size hb))).trans ((Heap.get?_update_ne _ _ _ _ hbx).trans (Heap.get?_push_of_some _ hb))
theorem Ar {Q:Unit->Shared->Prop} (hx:h.get? x=some o) (hc:o.cls=.type "function") (hf:o.data=.func fd) (hd:o.dict=none)
  (hq:∀h' dx t',h.get? dx=none->h'.Ns dx (λy=>if y="read" then some v else none)->h'.get? x=some { o with dict:=some dx }->(∀b o,b≠x->h.get? b=some o->h'.get? b=some o)->Q () ⟨h',g,d,t',os⟩) :
  wpAny (model prog w) A (setAttr (.ref x) "read" v) Q E ⟨h,g,d,t,os⟩:=by
 have hT:(⟨h,g,d,t+1,os⟩:Shared).TypeIs (.ref x) "function":=⟨_,hx,hc⟩
 have f3:=fn_slot_sa.bind (.ref x)
 skip
 repeat (any_goals (first | assumption | (with_reducible refine wpAny_loadPart_at hx ?_; rw [hc]) | (with_reducible refine wpAny_of_eq Gq ?_) | wp_step))
 refine codeAny_call_builtin fn_slot_sa.plain F.entry_object_sa (fn_slot_sa.check _ _ _ _ _ _ _ _ hT (F.store_object.args _ _ _) (Hh hx hc hf hd λh' dx t' e1 e2 e3 e4=>?_))
 repeat (any_goals (first | assumption | wp_step))
 exact hq h' dx _ e1 e2 e3 e4
end
end Mine
end
section
open PySem PySem.Calls PySem.W PyProof.Rows
namespace Mine
noncomputable def S8 (q:Str) (r c cc:Addr) (k:Nat) (L:Addr):Fx:=⟨newEnv readScope L mainGlobals [(("signs":Str),c)] (q++".<locals>.") (some r) (.ref cc) none builtinsNs,readScope,[(0,"signs")],[L],k⟩
noncomputable def ph (i:Nat) (hp:List MO):Option (PV×List MO):=match hp[i]? with
 | some (.lst l)=>if l.isEmpty then some (.dat (.str ⟨⟨[]⟩⟩),hp) else il i 0 l hp
 | _=>none
noncomputable def Jt (Fo:EF):EF:=af Fo λa σ=>match a with
 | .strm i=>ph i σ.hp
 | _=>none
section
variable {prog:Program} {w:World} {K:Addr->Option Obj} {fx:Fx} {mg mb:Str->Option Value}
theorem MC.of_pos {env:Env} {o:Expr} {name:Str} {apos pos:Pos} {args:List Expr} (h:(apos.endLine==pos.line)=true) (hf:methodCallForm (args.length+0) (backTo pos (starEach args env)) []=true) (hb:attributeBase o name env (eval o env)=eval o env):MC env o name apos args pos:=⟨(do return (← importBound o env).getD true),by
 show (do
  let ov ← attributeBase o name env (eval o env)
  standAt apos.atName
  methodCall o name apos pos env ov (args.length+0) (backTo pos (starEach args env)) [])=_
 refine hb.symm▸?_
 unfold methodCall calleeOf methodCallPos
 refine hf.symm▸h.symm▸?_
 rfl⟩
theorem D4 {q:Str} {r c cc L:Addr} {P:Nat->Pos} (hP:((P 2).endLine==(P 4).line)=true):Exs prog w K (S8 q r c cc 1 L) (mt P)
  (ah (au (fv (af (aa 0) B6) λb=>if b then md (aa 0) true else λσ=>some (.dat (.str ⟨⟨[]⟩⟩),σ.hp)) λpv σ=>some (.ret pv,σ)) aq) :=
 .cons (.ret (.ife (.val (.name (i:=0) rfl)) (.pop0 (.name (i:=0) rfl) (MC.of_pos hP rfl rfl)) (.str (by rfl) (by decide +kernel)))) .nil
theorem Dm {i:Nat} {hp:List MO} {r:PV×List MO} {C:Prop} (q:ph i hp=some r) (k:∀l,hp[i]?=some (.lst l)->(if l.isEmpty then some (PV.dat (.str ⟨⟨[]⟩⟩),hp) else il i 0 l hp)=some r->C):C:=by
 unfold ph at q
 cases h:hp[i]? with
 | none=>rw [h] at q; exact al q
 | some mo=>cases mo with
  | lst l=>rw [h] at q; exact k l h q
  | _=>rw [h] at q; exact al q
noncomputable def Mi:XF:=ah (au (fv (af (aa 0) B6) λb=>if b then md (aa 0) true else λσ=>some (.dat (.str ⟨⟨[]⟩⟩),σ.hp)) λpv σ=>some (.ret pv,σ)) aq
theorem Jh {i:Nat} {hp hp':List MO} {pv:PV} (q:ph i hp=some (pv,hp')):Mi ⟨[some (.obj i)],hp⟩=some (.ret pv,⟨[some (.obj i)],hp'⟩):=Dm q λl hl q=>by
 have t:l.length≤lim->(af (aa 0) B6) ⟨[some (.obj i)],hp⟩=some (l.length != 0,hp):=λh=>by
  show B6 (.obj i) ⟨[some (.obj i)],hp⟩=_
  unfold B6 rd
  simp only [hl]
  show (match (if l.length≤lim then some (l.length != 0) else none) with
   | some b=>some (b,hp)
   | none=>none)=_
  rw [if_pos h]
 unfold Mi ah au fv
 cases l with
 | nil =>
  have q:some (PV.dat (.str ⟨⟨[]⟩⟩),hp)=some (pv,hp'):=q
  rw [t (by decide),← (cq q).1,← (cq q).2]; rfl
 | cons d l =>
  have q:il i 0 (d::l) hp=some (pv,hp'):=q
  rw [t (vv q)]
  have h1:md (aa 0) true ⟨[some (.obj i)],hp⟩=some (pv,hp'):=by
   show (match hp[i]? with
    | some (.lst l)=>il i (if true then 0 else l.length - 1) l hp
    | _=>none)=_
   rw [hl]
   exact q
  show (match (match md (aa 0) true ⟨[some (.obj i)],hp⟩ with
   | some (v,hp)=>some (Fl.ret v,(⟨[some (.obj i)],hp⟩:St))
   | none=>none) with
   | some (.next,σ')=>aq σ'
   | r=>r)=_
  exact h1.symm▸rfl
theorem B5 {x n:Str} {c c':Addr} (e:List.lookup n [(x,c)]=some c'):n=x∧c=c':=by
 rw [List.lookup_cons] at e
 cases h:n==x with
 | true=>rw [h] at e; exact ⟨eq_of_beq h,b9 e⟩
 | false=>rw [h] at e; exact al e
theorem Fs {x y:Str} {j:Nat} (h:List.lookup j [((0:Nat),x)]=some y):j=0∧x=y:=by
 cases j with
 | zero=>exact ⟨rfl,b9 h⟩
 | succ j=>exact al h
theorem Kq {ρ:av} {Z:List Addr} {hp:List MO} {s:Shared} {i:Nat} {r c cc g b L:Addr} {v:Value} {qn:Str} {h':Heap} {tk:Nat} (H:HR ρ Z hp s.heap) (top:TopOK K s.heap) (off:l4 K ρ Z) (hi:ρ[i]?=some (g,b)) (hc:s.heap.IsCell c (some (.ref g))) (hcm:c∉ax ρ)
  (fL:s.heap.get? L=none) (hn:h'.Ns L (λy=>[(("size":Str),v)].reverse.lookup y)) (kp:∀b o,s.heap.get? b=some o->h'.get? b=some o):SR K (S8 qn r c cc 1 L) ρ ([L]++Z) ⟨[some (.obj i)],hp⟩ { s with heap:=h',toks:=tk }:=by
 have tp:TopOK K h':=λb o hb=>kp b o (top b o hb)
 refine ⟨H.more (wr:=[L]) (c8 fL) kp (c8 (Ns.live hn)),⟨⟨_,λx=>if x="signs" then some (.ref g) else none,hn,λn c' e=>?_,λj x pv hj hl=>?_⟩,rfl,rfl,λj j' x h1 h2=>(Fs h1).1.trans (Fs h2).1.symm,rfl,rfl,List.mem_singleton_self _,λa ha=>List.mem_append_left _ ha,(H.fresh fL).1,λn c' e=>?_,λn n' c' h1 h2=>(B5 h1).1.trans (B5 h2).1.symm⟩,tp,λa ha=>⟨(off a ha).1,λm=>(List.mem_append.mp m).elim (Cj top fL ha) (off a ha).2⟩⟩
 ·have e:=B5 e
  show h'.IsCell c' (if n=("signs":Str) then some (.ref g) else none)
  refine (if_pos e.1).symm▸e.2▸?_
  exact hc.elim λo q=>⟨o,kp _ _ q.1,q.2⟩
 ·have e:=Fs hj
  replace hl:=e.1▸hl
  refine e.2▸(b9 (b9 hl))▸?_
  exact ⟨.ref g,rfl,g,b,hi,rfl⟩
 ·refine ((B5 e).2)▸?_
  exact ⟨hcm,λq=>hc.elim λo ho=>al (fL.symm.trans ((show c=L from q)▸ho.1))⟩
theorem C5 {fd:FuncData} {p:Pos} {v:Value} (e6:fd.params=⟨[],[⟨"size",none,p⟩],none,[],[],none,[]⟩) (e7:fd.defaults=.none) (e8:fd.kwdefaults=.none):bindArgs fd ⟨[v],[]⟩=pure [(("size":Str),v)]:=by
 obtain ⟨f1,f2,f3,f4,f5,f6,f7,f8,f9⟩:=fd
 simp only at e6 e7 e8
 subst e6 e7 e8
 rfl
theorem Bu:∀x∈readScope.names,x.2≠.cell:=by decide +kernel
theorem Eu (gl:Gl K mg mb) {A:Around} {ρ:av} {Z:List Addr} {hp hp':List MO} {s:Shared} {i:Nat} {r:Addr} {pv:PV} {fd:FuncData} {o_1:Obj} {c cc g b:Addr} {v:Value} (Rm:Room A 2) (H:HR ρ Z hp s.heap) (top:TopOK K s.heap) (off:l4 K ρ Z)
  (hi:ρ[i]?=some (g,b)) (hr:s.heap.get? r=some o_1) (hd:o_1.data=.func fd) (hR:Gp fd c cc) (hc:s.heap.IsCell c (some (.ref g))) (hcc:s.heap.CodeRec (.ref cc) fd.qualname) (hcm:c∉ax ρ) (q:ph i hp=some (pv,hp')) :
  wpAny (model prog w) A (call (.ref r) [v]) (Post ρ Z s pv hp') bn s:=by
 have hRb:=hR
 refine cps λ_ KK=>?_
 obtain ⟨e1,e2,e3,e4,⟨P,e5,e5'⟩,⟨p,e6⟩,e7,e8,e9⟩:=hR
 refine KK ?_
 refine wpAny_call (codeAny_call_function (R:=CallP ρ Z s pv hp') (Nat.lt_of_le_of_lt (Nat.le_add_right _ _) (Nat.lt_trans Rm.depth (by decide))) hr hd (by rw [e4]; rfl) (by rw [e4]; rfl) e5 (e9.symm▸hcc) ?_)
 have hb:bindArgs fd ⟨[v],[]⟩=pure [(("size":Str),v)]:=C5 e6 e7 e8
 refine hb.symm▸e1.symm▸e2.symm▸e3.symm▸e4.symm▸e9.symm▸?_
 refine wpAny_pure (wpAny_newFunctionEnv Bu (λx hx=>by rw [List.mem_singleton.mp hx]; rfl) (λh' hn sb=>?_))
 have fL:s.heap.get? s.heap.objs.size=none:=Heap.get?_none_of_le (Nat.le_refl _)
 have kp:∀b o,s.heap.get? b=some o->h'.get? b=some o:=λb o hb=>sb.extBut b o (λq=>al ((q▸fL).symm.trans hb)) (Heap.get?_push_of_some _ hb)
 refine ⟨gl.lim _ λb o hb=>kp b o (top b o hb),codeAny_func ?_⟩
 have x_1:Ext [] ρ s ρ { s with heap:=h',toks:=s.toks+[(("size":Str),v)].length }:=Ext.of_keep kp
 refine wpAny_mono ((D4 e5').run (A.deeper _) ρ _ _ _ _ _ Rm.deeper (Kq (qn:=fd.qualname) (r:=r) (cc:=cc) H top off hi hc hcm fL hn kp) (Jh q)) (λf s' p=>?_) λ_ _ q=>q.elim
 refine cps λ_ KK=>?_
 obtain ⟨ρ',x',R',v',hf,hv⟩:=p
 refine KK ?_
 refine hf.symm▸?_
 exact ⟨ρ',((x_1.weak gx).trans x').shrink (c8 (.inr fL)),hv.weak λb h=>List.mem_append_right _ h,R'.hr.weak λb h=>List.mem_append_right _ h⟩
theorem Ev.strmRead (gl:Gl K mg mb) {o:Expr} {apos pos cp:Pos} {kk:Nat} {Fo:EF} (ho:Ev prog w K fx o Fo) (mc:MC fx.env o "read" apos [.Constant (.int 1) kk cp] pos) (hK:2≤fx.k) :
  Ev prog w K fx (.Call (.Attribute o "read" apos) [.Constant (.int 1) kk cp] [] pos) (Jt Fo):=.mk λA ρ Z σ s pv hp' Rm R q=>by
 obtain ⟨pl,mc⟩:=mc
 refine MethodCall_ (ho.then Rm R q λa va h1 ρ_1 s_1 e1 x_1 v_1 R_1=>?_) mc
 cases a with
 | strm i =>
  have e1:ph i h1=some (pv,hp'):=e1
  refine cps λ_ KK=>?_
  obtain ⟨g,b,a,fs,hi,rfl,hS,hfs⟩:=v_1
  obtain ⟨o,o_1,d,r,c,cc,fd,rfl,h2,h3,⟨f,h4⟩,h5,h6,h7,h8,h9,hR,hc,hcc⟩:=hS.ex
  obtain ⟨h,gs,dr,t,os⟩:=s_1
  refine KK ?_
  refine w5 h2 h3 h4 h5 h6 (v:=.ref r) (by simp) rfl ?_
  refine callWith_function (o:=o_1) (fd:=fd) ?_
  refine evalArgs_plain (wpAny_items_cons (wpAny_Constant_int (wpAny_items_nil ?_)) rfl)
  refine ⟨⟨h7,h9⟩,?_⟩
  have Rx:HR ρ_1 Z h1 h:=R_1.hr
  refine wpAny_mono (Eu gl (Rm.mono hK) (s:=⟨h,gs,dr,t+1+1,os⟩) Rx R_1.top R_1.off hi h7 h9 hR hc hcc (hfs c (by simp)).1 e1) (λv s_2 p=>?_) λ_ _ q=>q
  have x_2:Ext [] ρ_1 ⟨h,gs,dr,t,os⟩ ρ_1 ⟨h,gs,dr,t+1+1,os⟩:=Ext.of_keep (s:=⟨h,gs,dr,t,os⟩) (h:=h) λ_ _ e=>e
  exact p.trans (x_1.trans x_2)
 | _=>exact al e1
end
end Mine
end
section
open PySem PySem.Calls PySem.W PyProof.Rows open Sem (wp) open Builtin Builtin.ObjectAttr
namespace Mine
theorem Bl:typeLookup (.type "callable_iterator") "__next__"=pure (some (.builtin "callable_iterator.__next__")):=by rw [typeLookup_type,builtinLookup_eq_fast]; kernel_rfl
theorem ci_slot_next:Slot "callable_iterator" "__next__" "callable_iterator.__next__":=.of (owner:="callable_iterator") (n:="__next__") Bl (by decide +kernel) (by decide +kernel) (by decide +kernel)
  (by first | exact .inl (by decide +kernel) | exact .inr (by decide +kernel)) (by rw [isSubtype_type]; kernel_rfl)
theorem A0:typeLookup (.type "callable_iterator") "__iter__"=pure (some (.builtin "callable_iterator.__iter__")):=by rw [typeLookup_type,builtinLookup_eq_fast]; kernel_rfl
theorem nc:Slot "callable_iterator" "__iter__" "callable_iterator.__iter__":=.of (owner:="callable_iterator") (n:="__iter__") A0 (by decide +kernel) (by decide +kernel) (by decide +kernel)
  (by first | exact .inl (by decide +kernel) | exact .inr (by decide +kernel)) (by rw [isSubtype_type]; kernel_rfl)
theorem lx:entryFor table "callable_iterator.__next__"=some Builtin.«callable_iterator.__next__»:=entryFor_of_tree (by kernel_rfl)
theorem ui:entryFor table "callable_iterator.__iter__"=some Builtin.«dict_keyiterator.__iter__»:=entryFor_alias (id':="dict_keyiterator.__iter__") (by kernel_rfl) (by decide +kernel) (by decide +kernel) (by kernel_rfl)
theorem m9 (a:Value):argsOk "callable_iterator.__next__" ⟨[a],[]⟩:=by unfold argsOk; kernel_rfl
theorem wy (a:Value):argsOk "callable_iterator.__iter__" ⟨[a],[]⟩:=by unfold argsOk; kernel_rfl
theorem Fk:entryFor table "iter"=some Builtin.«iter»:=entryFor_of_tree (by kernel_rfl)
theorem Lu (a b:Value):argsOk "iter" ⟨[a,b],[]⟩:=by unfold argsOk; kernel_rfl
theorem Bk:typeLookup (.type "method") "__call__"=pure (some (.builtin "method.__call__")):=by rw [typeLookup_type,builtinLookup_eq_fast]; kernel_rfl
theorem Lk:builtinKind "iter"=none:=by decide +kernel
theorem H4:plainId "iter"=true:=by decide +kernel
section
variable {prog:Program} {w:World} {A:Around} {E:Value->Shared->Prop} {h:Heap} {g:Array GenState} {d:Drawn} {t:Nat} {os:OsState}
variable {nm q:Str} {C N x f:Addr} {bs:List Value} {sn:List Str} {sub:List Value} {ab:Bool} {col:Option Bool} {dd:Option Addr} {k0 k1 k2 k3 k5:Option Value} {newId:String}
 {mN mA:Str->Option Value} {name:Str} {of:Obj} {y:Option Value}
theorem Du:typeLookup (.type "function") "__get__"=pure (some (.builtin "function.__get__")):=by rw [typeLookup_type,builtinLookup_eq_fast]; kernel_rfl
theorem D0:typeLookup (.type "function") "__set__"=pure none:=by rw [typeLookup_type,builtinLookup_eq_fast]; kernel_rfl
theorem Eb:typeLookup (.type "function") "__delete__"=pure none:=by rw [typeLookup_type,builtinLookup_eq_fast]; kernel_rfl
theorem yg {tk:Tok} {Q:Fin->Shared->Prop}
  (hC:h.get? C=some (excClassObj nm q C N bs [.type "object"] true sn sub ab col dd k0 k1 k2 k3 k5 newId)) (hn:h.Ns N mN) (hnh:mN "__getattr__"=none) (hf:mN name=some (.ref f)) (hfo:h.get? f=some of) (hfc:of.cls=.type "function")
  (hB:typeLookup (.type "object") name=pure y) (hcop:(["__module__","__name__","__qualname__","__doc__","__annotations__"]:List Str).contains name=false) (I:h.Inst x C mA) (hv:mA name=none) (hq:Q (.done (.ret (.ref h.objs.size))) ⟨h.push { cls:=.type "method",data:=.fields #[.ref f,.ref x] },g,d,t,os⟩) :
  wpAny (model prog w) A (Builtin.«proto.getattr_hooked» ⟨[.ref x,.str name tk],[]⟩) Q E ⟨h,g,d,t,os⟩:=by
 refine cps λ_ KK=>?_
 obtain ⟨o,hx,hc,hnc,hd⟩:=I
 refine KK ?_
 skip
 repeat (first | (with_reducible refine wpAny_loadPart_at hx ?_; rw [hc]) | (with_reducible refine wpAny_loadPart_at hfo ?_; rw [hfc]) | (with_reducible refine wpAny_typeLookup_exc hC hn F.mro_object hB ?_; rw [hf]) | (with_reducible refine wpAny_of_eq Du ?_) | (with_reducible refine wpAny_of_eq D0 ?_) | (with_reducible refine wpAny_of_eq Eb ?_) | wp_step)
 split
 ·rename_i c hcd
  exact absurd hcd (hnc c)
 have fin:wpAny (model prog w) A (byTheClass (some (.ref f)) (some (.builtin "function.__get__"))) (λa s'=>wpAny (model prog w) A (match a with
   | .value v=>ret v
   | .missing=>typeLookup (.ref C) "__getattr__" >>= missingOrHook (.ref x) (.str name tk) name
   | .bind g a=>typeLookup (.ref C) "__getattr__" >>= bindWithHook g a (.ref x) (.ref C) (.str name tk)) Q E s') E ⟨h,g,d,t,os⟩:=by
  repeat (first | (with_reducible refine wpAny_typeLookup_exc hC hn F.mro_object F.lk_object_getattr ?_; rw [hnh]) | wp_step)
  refine codeAny_call_builtin KF.slot_fn.plain KF.entry_fn (KF.slot_fn.check _ _ _ _ _ _ _ _ ⟨_,hfo,hfc⟩ (KF.args_fn _ _ _) ?_)
  repeat k_node
  exact hq
 skip
 rcases hd with ⟨hdn,hmA⟩ | ⟨dx,hdx,hne,hns⟩
 ·repeat (first | (with_reducible refine wpAny_loadPart_at hx ?_; rw [hc]) | with_reducible refine wpAny_loadPart_at hC ?_ | wp_step)
  refine hdn.symm▸?_
  repeat wp_step
  refine hcop.symm▸(if_neg Bool.false_ne_true).symm▸?_
  exact wpAny_pure fin
 ·repeat (first | (with_reducible refine wpAny_loadPart_at hx ?_; rw [hc]) | with_reducible refine wpAny_loadPart_at hC ?_ | wp_step)
  refine hdx.symm▸?_
  repeat (first | (with_reducible refine wpAny_nsGet hns.ns ?_; rw [hv]) | wp_step)
  refine hcop.symm▸(if_neg Bool.false_ne_true).symm▸?_
  exact wpAny_pure fin
theorem A6 {expr:Bool} {Q:Value->Shared->Prop}
  (hC:h.get? C=some (excClassObj nm q C N bs [.type "object"] true sn sub ab col dd k0 k1 k2 k3 k5 newId)) (hn:h.Ns N mN) (hng:mN "__getattribute__"=none) (hnh:mN "__getattr__"=none) (hf:mN name=some (.ref f)) (hfo:h.get? f=some of) (hfc:of.cls=.type "function")
  (hB:typeLookup (.type "object") name=pure y) (hcop:(["__module__","__name__","__qualname__","__doc__","__annotations__"]:List Str).contains name=false) (I:h.Inst x C mA) (hv:mA name=none) (hq:Q (.ref h.objs.size) ⟨h.push { cls:=.type "method",data:=.fields #[.ref f,.ref x] },g,d,t+1,os⟩) :
  wpAny (model prog w) A (getAttr (.ref x) name expr) Q E ⟨h,g,d,t,os⟩:=by
 refine cps λ_ KK=>?_
 obtain ⟨o,hx,hc,_⟩:=id I
 refine KK ?_
 skip
 repeat (first | (with_reducible refine wpAny_loadPart_at hx ?_; rw [hc]) | (with_reducible refine wpAny_typeLookup_exc hC hn F.mro_object F.lk_object_ga ?_; rw [hng]) | wp_step)
 skip
 refine wpAny_onRaise (wpAny_runValue (codeAny_builtin F.plainObj_entry_getattr_hooked (yg hC hn hnh hf hfo hfc hB hcop I hv ?_)))
 exact wpAny_pure hq
end
section
variable {prog:Program} {w:World} {A:Around} {E:Value->Shared->Prop} {s:Shared} {I m f x:Addr} {t:Tok} {Q:Value->Shared->Prop}
theorem l7 {f:Value} {pos:List Value} (h:wpAny (model prog w) A (call f pos) Q E s):wpAny (model prog w) A (callBorrowed f pos) Q E s:=λΓ p hΓ=>by
 have h1:=h Γ p hΓ
 rw [Sem.wp_cmd_call] at h1
 unfold callBorrowed
 rw [Sem.wp_call]
 refine cast ?_ h1
 congr 1
 funext r s'
 cases r with
 | error e=>rfl
 | ok fl=>cases fl<;>rfl
theorem Cq {α:Type} {Q:α->Shared->Prop} (hh:A.handled=none) (hE:∀h' e,(∀b o,s.heap.get? b=some o->h'.get? b=some o)->(∃o,h'.get? e=some o∧o.cls=.type "StopIteration")->E (.ref e) { s with heap:=h' }) :
  wpAny (model prog w) A.in1 (SmallTypes.stopIteration:Sem α) Q E s:=by
 skip
 refine wpAny_bind ?_
 simp only [newExc,newTuple]
 refine wpAny_bind (wpAny_newObj_type ?_ (by size_fits))
 refine wpAny_bind (m:=firstArgMember _ _) (wpAny_of_eq (a:=Value.none) (by first | rfl | (simp only [firstArgMember]; rfl)) ?_)
 refine wpAny_newObj_type ?_ (by size_fits)
 simp only [raiseNew]
 refine wpAny_bind (wpAny_handled ?_)
 refine (show A.in1.handled=none from hh).symm▸?_
 refine wpAny_bind (wpAny_pure (wpAny_throw ?_))
 exact hE _ _ (λb o hb=>Heap.get?_push_of_some _ (Heap.get?_push_of_some _ hb)) ⟨_,Heap.get?_push_size _ rfl,rfl⟩
theorem ub {o:Obj} {fd:FuncData} {Q:Bool->Shared->Prop} (hm:s.heap.get? m=some (Mine.methObj f x)) (hf:s.heap.get? f=some o) (hfd:o.data=.func fd) (hQ:Q true s):wpAny (model prog w) A (borrowsExactly (.ref m)) Q E s:=by
 skip
 refine wpAny_bind (wpAny_load hm ?_)
 show wpAny _ _ (if (Value.type "method"==Value.type "method")=true then _ else _) _ _ _
 rw [if_pos (by decide)]
 skip
 refine wpAny_bind (wpAny_load hf ?_)
 refine hfd.symm▸?_
 exact wpAny_pure hQ
theorem Bo {y:Str} (hm:s.heap.get? m=some (Mine.methObj f x)) (h:Q (.ref s.heap.objs.size) { s with heap:=s.heap.push { cls:=.type "callable_iterator",data:=.fields #[.ref m,.str y t,.bool false] } }) :
  wpAny (model prog w) A (call (.builtin "iter") [.ref m,.str y t]) Q E s:=by
 have hT:s.TypeIs (.ref m) "method":=⟨_,hm,rfl⟩
 refine Calls.call_function_entry Lk H4 Fk (Lu _ _) ?_
 skip
 refine wpAny_bind (wpAny_of_eq (a:=[.ref m,.str y t]) (by first | rfl | kernel_rfl) ?_)
 skip
 refine wpAny_bind (wpAny_specialOf hT Bk ?_)
 simp only [Option.isNone_some,Bool.false_eq_true,if_false,newFields]
 exact wpAny_bind (wpAny_rule (wpAny_bind (wpAny_newObj_type (wpAny_pure ⟨_,rfl,h⟩) (by size_fits))))
theorem t4 {o:Obj} (ho:s.heap.get? I=some o) (hc:o.cls=.type "callable_iterator") (h:Q (.ref I) s):wpAny (model prog w) A (pyIter (.ref I)) Q E s:=by
 have hT:s.TypeIs (.ref I) "callable_iterator":=⟨_,ho,hc⟩
 refine wpAny_pyIter_slot hT nc (wpAny_call_entry nc hT ui ?_ (wy _))
 skip
 exact wpAny_pure ⟨_,rfl,"callable_iterator",_,hT,ci_slot_next.lookup,h⟩
theorem qg {Q:Option Value->Shared->Prop} (hh:A.handled=none) (ho:s.heap.get? I=some (jk m t true)) (hQ:∀h',(∀b o,s.heap.get? b=some o->h'.get? b=some o)->Q none { s with heap:=h' }):wpAny (model prog w) A (pyNext (.ref I)) Q E s:=by
 have hT:s.TypeIs (.ref I) "callable_iterator":=⟨_,ho,rfl⟩
 skip
 refine wpAny_bind (wpAny_attempt (wpAny_callSpecial?_slot (name:=Str.ofString "__next__") hT ci_slot_next
  (wpAny_call_entry ci_slot_next hT lx ?_ (m9 _))))
 show wpAny _ _ (field (.ref I) 2 >>= _) _ _ _
 refine wpAny_bind (wpAny_field ho rfl (x:=.bool true) rfl ?_)
 rw [if_pos (by rfl)]
 refine wpAny_bind (wpAny_bind (wpAny_rule (wpAny_pure (wpAny_bind ?_))))
 refine Cq hh λh' e k hx=>?_
 obtain ⟨o,ho,hc⟩:=hx
 refine wpAny_bind (wpAny_isInstance (T:="StopIteration") (b:=true) ⟨o,ho,hc⟩ isSubtype_stop ?_)
 exact wpAny_pure (hQ _ k)
theorem uq {Q:Option Value->Shared->Prop} {o:Obj} {fd:FuncData} (hh:A.handled=none) (ho:s.heap.get? I=some (jk m t false)) (hm:s.heap.get? m=some (Mine.methObj f x)) (hf:s.heap.get? f=some o) (hfd:o.data=.func fd)
  (h:codeAny (model prog w) A.in1 (.call (.ref f) ⟨[.ref x],[]⟩) (λr s_1=>∃y u m t f x fd,r=.ok (.ret (.str y u))∧s_1.heap.get? I=some (jk m t false)∧s_1.heap.get? m=some (Mine.methObj f x)∧(∃o,s_1.heap.get? f=some o∧o.data=.func fd) ∧
   (y≠⟨⟨[]⟩⟩->Q (some (.str y u)) s_1)∧(y=⟨⟨[]⟩⟩->∀h',h'.get? I=some (jk m t true)->(∀b o,b≠I->s_1.heap.get? b=some o->h'.get? b=some o)->Q none { s_1 with heap:=h' })) s) :
  wpAny (model prog w) A (pyNext (.ref I)) Q E s:=by
 have hT:s.TypeIs (.ref I) "callable_iterator":=⟨_,ho,rfl⟩
 skip
 refine wpAny_bind (wpAny_attempt (wpAny_callSpecial?_slot (name:=Str.ofString "__next__") hT ci_slot_next
  (wpAny_call_entry ci_slot_next hT lx ?_ (m9 _))))
 show wpAny _ _ (field (.ref I) 2 >>= _) _ _ _
 refine wpAny_bind (wpAny_field ho rfl (x:=.bool false) rfl ?_)
 rw [if_neg (by decide)]
 skip
 refine wpAny_bind (wpAny_field ho rfl (x:=.ref m) rfl ?_)
 refine wpAny_bind (wpAny_attempt ?_)
 skip
 refine wpAny_bind (ub hm hf hfd ?_)
 refine (if_pos rfl).symm▸?_
 refine l7 (wpAny_call (method_call (f:=.ref f) (self:=.ref x) hm ?_))
 refine codeAny_mono h λr s_1 p=>?_
 refine cps λ_ KK=>?_
 obtain ⟨y,u,m,t,f,x,fd,rfl,ho1,hm1,⟨o1,hf1,hfd1⟩,hne,heq⟩:=p
 refine KK ?_
 skip
 refine wpAny_bind (wpAny_field ho1 rfl (x:=.bool false) rfl ?_)
 rw [if_neg (by decide)]
 skip
 refine wpAny_bind (wpAny_field ho1 rfl (x:=.str ⟨⟨[]⟩⟩ t) rfl ?_)
 refine wpAny_bind (wpAny_holding (eqBool_str ?_))
 by_cases hy:y=⟨⟨[]⟩⟩
 ·subst hy
  refine (show (!((⟨⟨[]⟩⟩:Str)==⟨⟨[]⟩⟩))=false by decide).symm▸(if_neg Bool.false_ne_true).symm▸?_
  refine wpAny_bind (wpAny_rule ?_)
  show wpAny _ _ ((do
   slotLetsGo "callable_iterator.__next__" (← field (.ref I) 0) fun | .builtin "callable_iterator.__next__" x=>x.pos.head?==some (.ref I) | _=>false
   setField (.ref I) 0 .none; setField (.ref I) 1 .none; setField (.ref I) 2 (.bool true)) >>= λ_=>SmallTypes.stopIteration) _ _ _
  refine wpAny_bind (wpAny_bind (wpAny_field ho1 rfl (x:=.ref m) rfl (wpAny_bind ?_)))
  skip
  refine wpAny_bind (ub hm1 hf1 hfd1 ?_)
  refine (if_pos rfl).symm▸?_
  refine wpAny_pure ?_
  refine wpAny_bind (wpAny_setField ho1 rfl (by show 0 < 3; decide) ?_)
  have g1:(s_1.heap.update I (Obj.mapFields (·.setIfInBounds 0 .none))).get? I=some { cls:=.type "callable_iterator",data:=.fields #[.none,.str ⟨⟨[]⟩⟩ t,.bool false] }:=Heap.get?_update_self _ ho1 rfl
  refine wpAny_bind (wpAny_setField g1 rfl (by show 1 < 3; decide) ?_)
  have g2:((s_1.heap.update I (Obj.mapFields (·.setIfInBounds 0 .none))).update I (Obj.mapFields (·.setIfInBounds 1 .none))).get? I=some { cls:=.type "callable_iterator",data:=.fields #[.none,.none,.bool false] }:=Heap.get?_update_self _ g1 rfl
  refine wpAny_setField g2 rfl (by show 2 < 3; decide) ?_
  have g3:(((s_1.heap.update I (Obj.mapFields (·.setIfInBounds 0 .none))).update I (Obj.mapFields (·.setIfInBounds 1 .none))).update I (Obj.mapFields (·.setIfInBounds 2 (.bool true)))).get? I=some (jk m t true):=Heap.get?_update_self _ g2 rfl
  refine Cq hh λh' e k hx=>?_
  obtain ⟨o,ho,hc⟩:=hx
  refine wpAny_bind (wpAny_isInstance (T:="StopIteration") (b:=true) ⟨o,ho,hc⟩ isSubtype_stop ?_)
  refine wpAny_pure (heq rfl h' (k _ _ g3) λb o hb e=>k b o ?_)
  refine (Heap.get?_update_ne _ _ _ _ hb).symm▸(Heap.get?_update_ne _ _ _ _ hb).symm▸(Heap.get?_update_ne _ _ _ _ hb).symm▸?_
  exact e
 ·rw [show (!((⟨⟨[]⟩⟩:Str)==y))=true by
   rw [Bool.not_eq_true',beq_eq_false_iff_ne]; exact λq=>hy q.symm,if_pos rfl]
  exact wpAny_pure ⟨_,rfl,wpAny_pure (hne hy)⟩
end
end Mine
end
section
open PySem PySem.Calls PySem.W PyProof.Rows
namespace Mine
noncomputable def jo (f_0:Addr) (H:FnF):cy:=λis hp=>match is with
 | .rem _=>none
 | .trk j k=>match hp[j]? with
  | some (.cit _ _ true)=>some (none,hp)
  | some (.cit i f false)=>if f=f_0 then match H [.obj i] hp with
   | some (.dat (.str ⟨⟨l⟩⟩),hp')=>match hp'[j]? with
    | some (.cit i' f' false)=>if i'=i∧f'=f_0 then match l with
     | []=>some (none,hp'.set j (.cit i f_0 true))
     | c::r=>some (some (.str ⟨⟨c::r⟩⟩,.trk j k),hp') else none
    | _=>none
   | _=>none else none
  | _=>none
noncomputable def CJ (K:Addr->Option Obj) (I:Addr):IS->av->List Addr->Shared->Prop
 | .trk j k,ρ,Z,s=>(∃y,ρ[j]?=some (I,y))∧TopOK K s.heap∧l4 K ρ Z
 | .rem _,_,_,_=>False
section
variable {prog:Program} {w:World} {K:Addr->Option Obj} {fx:Fx} {A:Around} {tg:Expr} {mg mb:Str->Option Value}
theorem TopOK.ext {X:List Addr} {ρ ρ':av} {Z:List Addr} {s s':Shared} (t:TopOK K s.heap) (off:l4 K ρ Z) (x:Ext X ρ s ρ' s') (hX:∀a∈X,a∈Z):TopOK K s'.heap∧l4 K ρ' Z:=by
 have f:∀b o,K b=some o->b∉ax ρ∧b∉Z:=λb o hb=>off b λq=>al (q.symm.trans hb)
 refine ⟨λb o hb=>x.heap b o (f b o hb).1 (λq=>(f b o hb).2 (hX b q)) (t b o hb),λb hb=>⟨?_,(off b hb).2⟩⟩
 cases q:K b with
 | none=>exact absurd q hb
 | some o=>exact x.notin (t b o q) (off b hb).1
inductive StepI (f_0:Addr) (H:FnF) (j k:Nat) (hp:List MO) (r:Option (PyData×IS)) (hp':List MO):Prop
 | over (i:Nat) (f:Addr):hp[j]?=some (.cit i f true)->r=none->hp=hp'->StepI f_0 H j k hp r hp'
 | last (i:Nat) (hp1:List MO):hp[j]?=some (.cit i f_0 false)->H [.obj i] hp=some (.dat (.str ⟨⟨[]⟩⟩),hp1)->hp1[j]?=some (.cit i f_0 false)->r=none->hp1.set j (.cit i f_0 true)=hp'->StepI f_0 H j k hp r hp'
 | go (i:Nat) (l:Str):hp[j]?=some (.cit i f_0 false)->H [.obj i] hp=some (.dat (.str l),hp')->hp'[j]?=some (.cit i f_0 false)->l≠⟨⟨[]⟩⟩->r=some (.str l,.trk j k)->StepI f_0 H j k hp r hp'
theorem E1 {α:Type} {o:Option (PV×List MO)} {F:List Nat->List MO->Option α} {r:α} {C:Prop} (e:(match o with
   | some (.dat (.str ⟨⟨l⟩⟩),hp')=>F l hp'
   | _=>none)=some r) (k:∀l hp',o=some (.dat (.str ⟨⟨l⟩⟩),hp')->F l hp'=some r->C):C:=by
 cases o with
 | none=>exact al e
 | some x =>
  obtain ⟨p,hp'⟩:=x
  cases p with
  | dat d=>cases d with
   | str l=>exact k l.cps.toList hp' rfl e
   | _=>exact al e
  | _=>exact al e
theorem Gx {α:Type} {o:Option MO} {F:Nat->Addr->Option α} {r:α} {C:Prop} (e:(match o with
    | some (.cit i' f' false)=>F i' f'
    | _=>none)=some r) (k:∀i f,o=some (.cit i f false)->F i f=some r->C):C:=by
 cases o with
 | none=>exact al e
 | some mo=>cases mo with
  | cit i f dn=>cases dn with
   | true=>exact al e
   | false=>exact k i f rfl e
  | _=>exact al e
theorem Da {f_0:Addr} {H:FnF} {hp hp':List MO} {j k i:Nat} {f:Addr} {r:Option (PyData×IS)} (hj:hp[j]?=some (.cit i f false)) (e:(if f=f_0 then match H [.obj i] hp with
   | some (.dat (.str ⟨⟨l⟩⟩),hp')=>match hp'[j]? with
    | some (.cit i' f' false)=>if i'=i∧f'=f_0 then match l with
     | []=>some (none,hp'.set j (.cit i f_0 true))
     | c::r=>some (some (.str ⟨⟨c::r⟩⟩,.trk j k),hp') else none
    | _=>none
   | _=>none else none)=some (r,hp')):StepI f_0 H j k hp r hp' :=
 gn e λhf e=>E1 e λl hp1 eH e=>Gx e λi' f' hj' e=>gn e λhif e=>by
  replace hj:=hf▸hj
  replace hj':=hif.2▸hif.1▸hj'
  cases l with
  | nil=>exact .last i hp1 hj eH hj' (cq e).1.symm (cq e).2
  | cons c t=>exact .go i ⟨⟨c::t⟩⟩ hj ((cq e).2▸eH) ((cq e).2▸hj') (λq=>nomatch q) (cq e).1.symm
theorem oa {f_0:Addr} {H:FnF} {hp hp':List MO} {j k:Nat} {r:Option (PyData×IS)} (e:jo f_0 H (.trk j k) hp=some (r,hp')):StepI f_0 H j k hp r hp':=by
 unfold jo at e
 dsimp only at e
 cases hj:hp[j]? with
 | none=>rw [hj] at e; exact al e
 | some mo=>cases mo with
  | cit i f dn=>cases dn with
   | true=>rw [hj] at e; exact .over i f hj (cq e).1.symm (cq e).2
   | false=>rw [hj] at e; exact Da hj e
  | _=>rw [hj] at e; exact al e
theorem StepI.cit {f_0:Addr} {H:FnF} {j k:Nat} {hp hp':List MO} {r:Option (PyData×IS)} (x:StepI f_0 H j k hp r hp'):∃i f dn,hp[j]?=some (.cit i f dn):=by
 cases x with
 | over i f h=>exact ⟨_,_,_,h⟩
 | last i _ h=>exact ⟨_,_,_,h⟩
 | go i _ h=>exact ⟨_,_,_,h⟩
theorem HR.cit {ρ:av} {Z:List Addr} {hp:List MO} {h:Heap} {j i:Nat} {I y f:Addr} {dn:Bool} (H:HR ρ Z hp h) (h1:ρ[j]?=some (I,y)) (hj:hp[j]?=some (.cit i f dn)):Ry ρ Z h I y i f dn:=by
 refine cps λ_ KK=>?_
 obtain ⟨r',b',hr',hm⟩:=H.at_ j _ hj
 obtain ⟨rfl,rfl⟩:=cq (h1.symm.trans hr')
 refine KK ?_
 exact hm
theorem Room.cit {kk:Nat} (Rm:Room A (kk+1)):Room A.in1 kk:=⟨Rm.handled,Nat.lt_trans (Nat.lt_succ_self _) Rm.depth,by have:=Rm.units; show A.units+1+40*kk < 9000; (exact Sh (by assumption) (by decide))⟩
inductive Po (K:Addr->Option Obj) (I y:Addr) (j:Nat) (i:Nat) (f_0:Addr) (ρ:av) (Z:List Addr) (s:Shared) (hp':List MO) (l:Str) (r:Result) (s_1:Shared):Prop
 | mk (v:Value) (ρ':av) (u:Tok) (m':Addr) (t:Tok) (x y':Addr):r=.ok (.ret v)->Ext [] ρ s ρ' s_1->VR ρ' Z s_1.heap (.dat (.str l)) v->HR ρ' Z hp' s_1.heap->v=.str l u->ρ'[j]?=some (I,y)->ρ'[i]?=some (x,y')->m'∉ax ρ'->m'∉Z->s_1.heap.get? m'=some (methObj f_0 x)->s_1.heap.get? I=some (jk m' t false)->TopOK K s_1.heap->l4 K ρ' Z->Po K I y j i f_0 ρ Z s hp' l r s_1
theorem I6 {I y f_0:Addr} {j i:Nat} {ρ:av} {Z:List Addr} {s s_1:Shared} {hp':List MO} {l:Str} {r:Result} (h1:ρ[j]?=some (I,y)) (h2:TopOK K s.heap) (h3:l4 K ρ Z) (hj':hp'[j]?=some (.cit i f_0 false)) (p:CallP ρ Z s (.dat (.str l)) hp' r s_1):Po K I y j i f_0 ρ Z s hp' l r s_1:=by
 match r,p with
 | .ok (.ret v),p =>
  refine cps λ_ KK=>?_
  obtain ⟨ρ',x_1,V,H'⟩:=p
  have h1':=x_1.old h1
  obtain ⟨hIy,m',t',x',y'',k1,k2,k3,k4,k5⟩:=H'.cit h1' hj'
  have T:=h2.ext h3 x_1 gx
  obtain ⟨as,rv,_⟩:=id V
  obtain ⟨u,hv,_⟩:=rv.str_
  refine KK ?_
  exact ⟨v,ρ',u,m',t',x',y'',rfl,x_1,V,H',hv,h1',k1,k2,k3,k4,hIy▸k5,T.1,T.2⟩
theorem Ge {I y:Addr} {j i:Nat} {f_0:Addr} {ρ':av} {Z:List Addr} {hp':List MO} {s_1:Shared} {m':Addr} {t':Tok} {x' y'':Addr} {h':Heap} (H':HR ρ' Z hp' s_1.heap) (hI:I=y) (h1':ρ'[j]?=some (I,y)) (k1:ρ'[i]?=some (x',y'')) (k2:m'∉ax ρ') (k3:m'∉Z) (k4:s_1.heap.get? m'=some (methObj f_0 x'))
  (e1:h'.get? I=some (jk m' t' true)) (e2:∀b o,b≠I->s_1.heap.get? b=some o->h'.get? b=some o):Ext [] ρ' s_1 ρ' { s_1 with heap:=h' }∧HR ρ' Z (hp'.set j (.cit i f_0 true)) h':=by
 have hIm:I∈ax ρ':=hI▸List.mem_map_of_mem (f:=Prod.snd) (List.mem_of_getElem? h1')
 refine ⟨⟨⟨[],(List.append_nil _).symm,λ_ h=>ck h⟩,λb o hb _ e=>e2 b o (λq=>hb (q▸hIm)) e,λb o e=>?_,rfl,rfl,λ_ _ e=>e,λh=>h⟩,H'.set h1' (hI▸e2) ⟨hI,m',t',x',y'',k1,k2,k3,e2 _ _ (λq=>k2 (q▸hIm)) k4,hI▸e1⟩⟩
 by_cases q:b=I
 ·exact ⟨_,q▸e1⟩
 ·exact ⟨o,e2 b o q e⟩
theorem CJ.trk_ {I:Addr} {l:IS} {ρ:av} {Z:List Addr} {s:Shared} {C:IS->Prop} (J:CJ K I l ρ Z s) (k:∀j k y,ρ[j]?=some (I,y)->TopOK K s.heap->l4 K ρ Z->C (.trk j k)):C l:=by
 cases l with
 | rem l=>exact J.elim
 | trk j n=>exact J.1.elim λy h=>k j n y h J.2.1 J.2.2
theorem Iter.cit_step (hh:A.handled=none) {kk:Nat} {f_0:Addr} {of:Obj} {fd:FuncData} {H_0:FnF} (hof:K f_0=some of) (hfd:of.data=.func fd) (hH:FnC prog w K f_0 kk H_0) (Rm:Room A (kk+1)) {I y:Addr} {j i:Nat} {ρ:av} {Z:List Addr} {hp hp':List MO} {s:Shared} {l:Str} {Q:Option Value->Shared->Prop}
  (h1:ρ[j]?=some (I,y)) (h2:TopOK K s.heap) (h3:l4 K ρ Z) (H:HR ρ Z hp s.heap) (hj:hp[j]?=some (.cit i f_0 false)) (eH:H_0 [.obj i] hp=some (.dat (.str l),hp')) (hj':hp'[j]?=some (.cit i f_0 false))
  (go:l≠⟨⟨[]⟩⟩->∀(ρ':av) (s_1:Shared) (u:Tok) (m':Addr) (t':Tok),Ext [] ρ s ρ' s_1->VR ρ' Z s_1.heap (.dat (.str l)) (.str l u)->HR ρ' Z hp' s_1.heap->ρ'[j]?=some (I,y)->s_1.heap.get? I=some (jk m' t' false)->TopOK K s_1.heap->l4 K ρ' Z->Q (some (.str l u)) s_1)
  (fin:l=⟨⟨[]⟩⟩->∀(ρ':av) (s_1:Shared) (h':Heap),Ext [] ρ s ρ' { s_1 with heap:=h' }->HR ρ' Z (hp'.set j (.cit i f_0 true)) h'->Q none { s_1 with heap:=h' }):wpAny (model prog w) A (pyNext (.ref I)) Q bn s:=by
 obtain ⟨hI,m,t,x,y',g1,g2,g3,g4,g5⟩:=H.cit h1 hj
 refine uq hh (hI▸g5) g4 (h2 _ _ hof) hfd (codeAny_mono (hH.run A.in1 ρ Z hp s [.obj i] [.ref x] _ _ Rm.cit H h2 h3 (.cons ⟨x,y',g1,rfl⟩ .nil) eH) λr' s_1 p=>?_)
 obtain ⟨v,ρ',u,m',t',x',y'',hr,x_1,V,H',hv,h1',k1,k2,k3,k4,k5,T1,T2⟩:=I6 h1 h2 h3 hj' p
 rw [hv] at hr V
 exact ⟨l,u,m',t',f_0,x',fd,hr,k5,k4,⟨of,T1 _ _ hof,hfd⟩,λq=>go q ρ' s_1 u m' t' x_1 V H' h1' k5 T1 T2,λq h' e1 e2=>(Ge H' hI h1' k1 k2 k3 k4 e1 e2).elim λx_2 H_2=>fin q ρ' s_1 h' (x_1.trans x_2) H_2⟩
theorem Iter.cit (ht:jt tg) (hh:A.handled=none) {kk:Nat} {f_0:Addr} {of:Obj} {fd:FuncData} {H_0:FnF} (hof:K f_0=some of) (hfd:of.data=.func fd) (hH:FnC prog w K f_0 kk H_0) (Rm:Room A (kk+1)) (I:Addr):Iter prog w A (.ref I) tg [] (λ_=>False) (jo f_0 H_0) (CJ K I) where
 ext:=λ{l ρ Z s X ρ' s'} J x hX=>by
  refine J.trk_ (C:=λl=>CJ K I l ρ' Z s') λj k y h1 h2 h3=>?_
  have:=h2.ext h3 x λa ha=>(hX a ha).1
  exact ⟨⟨y,x.old h1⟩,this.1,this.2⟩
 next:=λ{l hp d l' hp' ρ Z s} e J H hw=>by
  revert e
  refine J.trk_ (C:=λl=>jo f_0 H_0 l hp=some (some (d,l'),hp')->_) λj k y h1 h2 h3 e=>?_
  cases oa e with
  | over _ _ _ h=>exact al h.symm
  | last _ _ _ _ _ h=>exact al h.symm
  | go i l hj eH hj' hl hr =>
   have hr:=Prod.mk.inj (b9 hr)
   refine hr.1.symm▸hr.2.symm▸?_
   exact Iter.cit_step hh hof hfd hH Rm h1 h2 h3 H hj eH hj' (λ_ ρ' s_1 u m' t' x_1 V H' h1' k5 T1 T2=>⟨_,rfl,ja ht k5 rfl (by decide) ⟨ρ',x_1.toG,H',V,⟨_,h1'⟩,T1,T2⟩⟩) λq=>absurd q hl
 done:=λ{l hp hp' ρ Z s} e J H hw=>by
  revert e
  refine J.trk_ (C:=λl=>jo f_0 H_0 l hp=some (none,hp')->_) λj k y h1 h2 h3 e=>?_
  cases oa e with
  | over i f hj _ e' =>
   obtain ⟨hI,m,t,x,y',g1,g2,g3,g4,g5⟩:=H.cit h1 hj
   refine e'▸?_
   exact qg hh (hI▸g5) λh' k=>⟨rfl,ρ,s,h',s.toks,ExtG.refl,H,rfl,λb o _ e=>k b o e⟩
  | last i hp1 hj eH hj' _ e' =>
   refine e'▸?_
   exact Iter.cit_step hh hof hfd hH Rm h1 h2 h3 H hj eH hj' (λq=>absurd rfl q) λ_ ρ' s_1 h' x H_2=>⟨rfl,ρ',{ s_1 with heap:=h' },h',s_1.toks,x.toG,H_2,rfl,λ_ _ _ e=>e⟩
  | go _ _ _ _ _ _ h=>exact al h
 self:=λ{l hp r ρ Z s Q} e J H hQ=>by
  revert e
  refine J.trk_ (C:=λl=>jo f_0 H_0 l hp=some r->_) λj k y h1 h2 h3 e=>?_
  obtain ⟨i,f,d,hj⟩:=(oa (r:=r.1) (hp':=r.2) e).cit
  obtain ⟨hI,m,t,x,y',g1,g2,g3,g4,g5⟩:=H.cit h1 hj
  exact t4 (hI▸g5) rfl hQ
 more:=λ{l ρ Z Z' s s'} J hZ k _=>by
  refine J.trk_ (C:=λl=>CJ K I l ρ Z' s') λj k' y h1 h2 h3=>⟨⟨y,h1⟩,λb o hb=>k b o (h2 b o hb),λb hb=>⟨(h3 b hb).1,λq=>(hZ b q).elim (h3 b hb).2 λq=>?_⟩⟩
  cases e:K b with
  | none=>exact hb e
  | some o=>exact al (q.symm.trans (h2 b o e))
end
noncomputable def z6 (Fo:EF) (C f_0:Addr) (name:Str):EF:=af Fo λa σ=>match a with
 | .obj i=>if ct C name i σ.hp then some (.obj σ.hp.length,σ.hp++[.cit i f_0 false]) else none
 | _=>none
noncomputable def rf (fuel:List MO->Nat) (F:EF):SF:=λσ=>match F σ with
 | some (.obj j,hp)=>match hp[j]? with
  | some (.cit _ _ _)=>some ((.trk j 0,fuel hp),hp)
  | _=>none
 | _=>none
section
variable {ρ:av} {Z X:List Addr} {h h':Heap}
theorem i7 (hX:∀a∈X,a∈ax ρ) {a:Addr} (h:a∉ax ρ∧a∉Z):a∉ax ρ∧a∉X++Z:=⟨h.1,λq=>(List.mem_append.mp q).elim (λq=>h.1 (hX a q)) h.2⟩
theorem VR.grow (hX:∀a∈X,a∈ax ρ):∀{p:PV} {v:Value},VR ρ Z h p v->VR ρ (X++Z) h p v
 | .dat _,_,⟨as,r,q⟩=>⟨as,r,λa ha=>i7 hX (q a ha)⟩
 | .obj _,_,⟨r,b,e,hv⟩=>⟨r,b,e,hv⟩
 | .strm _,_,⟨r,b,a,fs,e,hv,hs,q⟩=>⟨r,b,a,fs,e,hv,hs,λa ha=>i7 hX (q a ha)⟩
 | .objs _ _,_,⟨a,o,vs,n,e,ho,h1,h2,h3,h4,h5,h6⟩=>⟨a,o,vs,n,e,ho,h1,h2,h3,h4,h5,(i7 hX ⟨h5,h6⟩).2⟩
theorem MR.grow (hX:∀a∈X,a∈ax ρ) {r b:Addr}:∀{mo:MO},MR ρ Z h r b mo->MR ρ (X++Z) h r b mo
 | .lst l,⟨hr,o,vs,n,as,ho,h1,h2,h3,h4,rs,q⟩=>⟨hr,o,vs,n,as,ho,h1,h2,h3,h4,rs,λa ha=>i7 hX (q a ha)⟩
 | .ins c ats,⟨hr,hz,o,mA,ho,h1,h2,h3,h4,h5,h6,h7⟩=>⟨hr,(i7 hX ⟨hr,hz⟩).2,o,mA,ho,h1,h2,h3,h4,h5,λp hp=>let ⟨v,e,x⟩:=h6 p hp; ⟨v,e,x.grow hX⟩,h7⟩
 | .cit i f dn,⟨hr,m,t,x,y,h1,h2,h3,h4,h5⟩=>⟨hr,m,t,x,y,h1,h2,(i7 hX ⟨h2,h3⟩).2,h4,h5⟩
 | .tab _ _,h=>h
theorem HR.setZ {hp:List MO} (H:HR ρ Z hp h) {i:Nat} {r b:Addr} {mo:MO} (hi:ρ[i]?=some (r,b)) (k:∀a o,a≠b->a∉Z->h.get? a=some o->h'.get? a=some o) (lv:∀a∈Z,∃o,h'.get? a=some o) (hm:MR ρ Z h' r b mo):HR ρ Z (hp.set i mo) h':=by
 have hbm:b∈ax ρ:=List.mem_map_of_mem (f:=Prod.snd) (List.mem_of_getElem? hi)
 have hX:∀a∈[b],a∈ax ρ:=λa ha=>(List.mem_singleton.mp ha).symm▸hbm
 refine ⟨List.length_set.symm▸H.len,H.nodup,H.offZ,lv,λj mo' e=>?_⟩
 replace e:=(List.getElem?_set)▸e
 split at e
 ·rename_i hij
  subst hij
  split at e
  ·cases e; exact ⟨r,b,hi,hm⟩
  ·exact al e
 ·rename_i hij
  refine cps λ_ KK=>?_
  obtain ⟨r',b',hr',hm'⟩:=H.at_ j mo' e
  refine KK ?_
  have hbm':b'∈ax ρ:=List.mem_map_of_mem (f:=Prod.snd) (List.mem_of_getElem? hr')
  have hne:b'≠b:=λq=>by
   have nd:=H.nodup
   have e1:(ax ρ)[i]?=some b:=by rw [List.getElem?_map,hi]; rfl
   have e2:(ax ρ)[j]?=some b:=by rw [List.getElem?_map,hr',← q]; rfl
   exact hij ((List.getElem?_inj (List.getElem?_eq_some_iff.mp e1).1 nd).mp (e1.trans e2.symm))
  refine ⟨r',b',hr',((hm'.grow hX).own (λa o ha e=>k a o (λq=>ha (by rw [q]; simp)) (λq=>ha (List.mem_append_right _ q)) e) λq=>?_).weak λa h=>List.mem_append_right _ h⟩
  rcases List.mem_append.mp q with q | q
  ·exact hne (List.mem_singleton.mp q)
  ·exact H.offZ b' hbm' q
theorem VR.setZ (hbm:∀a∈X,a∈ax ρ) (k:∀a o,a∉X->a∉Z->h.get? a=some o->h'.get? a=some o) {p:PV} {v:Value} (x:VR ρ Z h p v):VR ρ Z h' p v :=
 ((x.grow hbm).own λa o ha e=>k a o (λq=>ha (List.mem_append_left _ q)) (λq=>ha (List.mem_append_right _ q)) e).weak λa h=>List.mem_append_right _ h
end
section
variable {prog:Program} {w:World} {K:Addr->Option Obj} {fx:Fx} {mg mb:Str->Option Value}
theorem Ep {C f:Addr} {name:Str} {a:PV} {h1 hp':List MO} {pv:PV} {P:Prop} (e:(match a with
  | .obj i=>if ct C name i h1 then some (PV.obj h1.length,h1++[MO.cit i f false]) else none
  | _=>none)=some (pv,hp')) (k:∀i,a=.obj i->ct C name i h1=true->pv=.obj h1.length->hp'=h1++[.cit i f false]->P):P:=by
 cases a with
 | obj i=>exact gn (show (if ct C name i h1=true then some (PV.obj h1.length,h1++[MO.cit i f false]) else none)=some (pv,hp') from e) λh e=>k i rfl h (cq e).1.symm (cq e).2.symm
 | dat d=>exact al e
 | strm i=>exact al e
 | objs _ _=>exact al e
theorem At {fuel:List MO->Nat} {F:EF} {σ:St} {is:IS} {n:Nat} {hp':List MO} {C:Prop} (q:rf fuel F σ=some ((is,n),hp')) (k:∀j i f d,F σ=some (.obj j,hp')->hp'[j]?=some (.cit i f d)->is=.trk j 0->n=fuel hp'->C):C:=by
 unfold rf at q
 cases h:F σ with
 | none=>rw [h] at q; exact al q
 | some x =>
  replace q:=h▸q
  cases x with
  | mk a hp=>cases a with
   | obj j =>
    have q:(match hp[j]? with | some (.cit _ _ _)=>some ((IS.trk j 0,fuel hp),hp) | _=>none)=some ((is,n),hp'):=q
    cases h2:hp[j]? with
    | none=>rw [h2] at q; exact al q
    | some mo =>
     replace q:=h2▸q
     cases mo with
     | cit i f d=>exact k j i f d ((cq q).2▸h) ((cq q).2▸h2) (Prod.mk.inj (cq q).1).1.symm ((cq q).2▸(Prod.mk.inj (cq q).1).2.symm)
     | _=>exact al q
   | dat d=>exact al q
   | strm i=>exact al q
   | objs _ _=>exact al q
theorem Ev.iterCit (gl:Gl K mg mb) {C:Addr} {mN:Str->Option Value} (cl:fj K C mN) {name:Str} {f:Addr} {of:Obj} {y:Option Value} {x:Str} {inp np ap cp pos:Pos} {kk:Nat} {Fo:EF} (hf:mN name=some (.ref f)) (hof:K f=some of) (hfc:of.cls=.type "function")
  (hB:typeLookup (.type "object") name=pure y) (hcop:(["__module__","__name__","__qualname__","__doc__","__annotations__"]:List Str).contains name=false) (ho:Ev prog w K fx (.Name x np) Fo)
  (hk:fx.sc.names.lookup ("iter":Str)=some .globalImplicit) (hg:mg "iter"=none) (hb:mb "iter"=some (.builtin "iter")) :
  Ev prog w K fx (.Call (.Name "iter" inp) [.Attribute (.Name x np) name ap,.Constant (.str "") kk cp] [] pos) (z6 Fo C f name):=.mk λA ρ Z σ s pv hp' Rm R q=>by
 refine Call_ (bp gl R hk (.inr ⟨hg,hb⟩) ?_ (by decide))
 refine cu (.inl ⟨_,rfl⟩) (wpAny_items_cons (Attribute_name (ho.then Rm R q λa va h1 ρ_1 s_1 e1 x_1 v_1 R_1=>?_)) rfl) rfl rfl
 refine cps λ_ KK=>?_
 refine Ep e1 λi ha hi hpv hhp=>?_
 obtain ⟨ats,hi,hne⟩:=z5 hi
 obtain ⟨r,b,hr,hva⟩:=(ha▸v_1:VR ρ_1 Z s_1.heap (.obj i) va)
 obtain ⟨hrm,hrz,o,mA,ho,h1',h2,h3,h4,h5,h6,h7⟩:=R_1.hr.ins hi hr
 obtain ⟨nm,qn,N,bs,sn,sub,col,dd,k0,k1,k2,k3,k5,hK,hNs⟩:=cl.ex
 obtain ⟨h,g,d,t,os⟩:=s_1
 refine KK ?_
 refine hva.symm▸hpv.symm▸hhp.symm▸?_
 refine A6 (R_1.top _ _ hK) (hNs h R_1.top) cl.ga cl.gh hf (R_1.top _ _ hof) hfc hB hcop ⟨o,ho,h1',h2,.inr ⟨b,h3,h4,h5⟩⟩ (h7 name hne) ?_
 refine wpAny_items_cons (wpAny_Constant_str (wpAny_items_nil ?_)) rfl
 have hm:(h.push { cls:=.type "method",data:=.fields #[.ref f,.ref r] }).get? h.objs.size=some (Mine.methObj f r):=Heap.get?_push_size _ rfl
 refine Bo hm ?_
 have hz:(h.push { cls:=.type "method",data:=.fields #[.ref f,.ref r] }).objs.size=h.objs.size+1:=Heap.size_push ..
 skip
 refine hz.symm▸?_
 have fm:h.get? h.objs.size=none:=Heap.get?_none_of_le (Nat.le_refl _)
 have fI:h.get? (h.objs.size+1)=none:=Heap.get?_none_of_le (by (exact Nat.le_add_right _ _))
 have H_1:HR ρ_1 Z h1 h:=R_1.hr
 generalize hob:({ cls:=.type "callable_iterator",data:=.fields #[.ref h.objs.size,.str ("":Str) (t+1),.bool false] }:Obj)=ob
 have kp:∀b o,h.get? b=some o->((h.push { cls:=.type "method",data:=.fields #[.ref f,.ref r] }).push ob).get? b=some o:=λb o e=>Heap.get?_push_of_some _ (Heap.get?_push_of_some _ e)
 have hI:((h.push { cls:=.type "method",data:=.fields #[.ref f,.ref r] }).push ob).get? (h.objs.size+1)=some ob:=by
  rw [← hz]; exact Heap.get?_push_size _ (by rw [← hob]; rfl)
 have H_2:HR (ρ_1++[(h.objs.size+1,h.objs.size+1)]) Z (h1++[.cit i f false]) ((h.push { cls:=.type "method",data:=.fields #[.ref f,.ref r] }).push ob):=H_1.push fI kp
  ⟨rfl,h.objs.size,t+1,r,b,g0 hr,by
   rw [bo,List.mem_append]
   rintro (q | q)
   ·exact (H_1.fresh fm).1 q
   ·have:h.objs.size=h.objs.size+1:=by simpa using q
    lia,(H_1.fresh fm).2,Heap.get?_push_of_some _ hm,by rw [hI,← hob]; rfl⟩
 refine ⟨_,x_1.trans ⟨⟨_,rfl,λp hp=>(List.mem_singleton.mp hp).symm▸fI⟩,λb o _ _ e=>kp b o e,λb o e=>⟨o,kp b o e⟩,rfl,rfl,λ_ _ e=>e,λh=>h⟩,?_,H_2⟩
 exact ⟨_,_,by rw [List.getElem?_append_right (H_1.len.symm▸Nat.le_refl _),H_1.len,Nat.sub_self]; rfl,rfl⟩
theorem EvI.cit {e tg:Expr} {F:EF} (ht:jt tg) (he:Ev prog w K fx e F) {kk:Nat} {f_0:Addr} {of:Obj} {fd:FuncData} {H_0:FnF} (hof:K f_0=some of) (hfd:of.data=.func fd) (hH:FnC prog w K f_0 kk H_0) (hK:kk+1≤fx.k) (fuel:List MO->Nat) :
  EvI prog w K fx e tg (jo f_0 H_0) (rf fuel F):=.mk λA ρ Z σ s is n hp' Rm R q=>by
 refine At q λj i f d e1 hj his hn=>?_
 refine his.symm▸?_
 refine wpAny_mono (he.run A ρ Z σ s _ _ Rm R e1) (λv s_1 P=>?_) λ_ _ q=>q.elim
 refine cps λ_ KK=>?_
 obtain ⟨ρ_1,x_1,⟨r,b,hr,hv⟩,H_1⟩:=P
 have R_1:=R.next x_1 H_1
 obtain ⟨hrb,m,t,x,y,g1,g2,g3,g4,g5⟩:=H_1.cit hr hj
 refine KK ?_
 refine hv.symm▸?_
 exact t4 (hrb.symm▸g5) rfl ⟨ρ_1,s_1,[],λ_=>False,_,x_1,H_1,Ext.refl _ _ _,λ_ _ e=>e,(λ_ h=>ck h),(λ_ h=>ck h),(λ_ h=>h.elim),⟨rfl,⟨_,hr⟩,R_1.top,R_1.off⟩,(Iter.cit ht Rm.handled hof hfd hH (Rm.mono hK) r).toD⟩
end
noncomputable def wo (iS iT tb:Nat) (P0:Addr):XF:=λσ=>match eg σ.loc iS with
 | some (.obj i)=>match σ.hp[tb]? with
  | some (.tab P true)=>if P=P0 then some (.next,⟨σ.loc.set iT (some (.strm i)),σ.hp.set tb (.tab P0 false)⟩) else none
  | _=>none
 | _=>none
section
variable {prog:Program} {w:World} {K:Addr->Option Obj} {fx:Fx} {mg mb:Str->Option Value}
theorem Bw {env:Env} {m m' cm:Str->Option Value} {x:Str} (h:m' x=m x):cf env m' cm x=cf env m cm x:=by
 unfold cf; rw [h]
theorem pj {iS iT tb:Nat} {P0:Addr} {σ:St} {r:Fl×St} {C:Prop} (e:wo iS iT tb P0 σ=some r) (k:∀i,eg σ.loc iS=some (.obj i)->σ.hp[tb]?=some (.tab P0 true)->r=(.next,⟨σ.loc.set iT (some (.strm i)),σ.hp.set tb (.tab P0 false)⟩)->C):C:=by
 unfold wo at e
 cases h1:eg σ.loc iS with
 | none=>rw [h1] at e; exact al e
 | some pv =>
  rw [h1] at e
  cases pv with
  | dat d=>exact al e
  | strm i=>exact al e
  | objs _ _=>exact al e
  | obj i =>
   cases h2:σ.hp[tb]? with
   | none=>exact al ((congrArg (λo=>match o with
    | some (.tab P true)=>if P=P0 then some (Fl.next,(⟨σ.loc.set iT (some (.strm i)),σ.hp.set tb (.tab P0 false)⟩:St)) else none
    | _=>none) h2).symm.trans e)
   | some mo =>
    have e:=(congrArg (λo=>match o with
     | some (.tab P true)=>if P=P0 then some (Fl.next,(⟨σ.loc.set iT (some (.strm i)),σ.hp.set tb (.tab P0 false)⟩:St)) else none
     | _=>none) h2).symm.trans e
    cases mo with
    | lst l=>exact al e
    | ins C l=>exact al e
    | cit a b c=>exact al e
    | tab P b=>cases b with
     | false=>exact al e
     | true=>exact ay e λh e=>k i h1 (h▸h2) e.symm
theorem ExsFin.stream (gl:Gl K mg mb) {iS iT tb:Nat} {P0 c0 cS:Addr} {P:Nat->Pos} {pp dpos p1 p2 p3 p4 p5 p6 lpos:Pos} {lb:Expr} {lsc:Scope} {rest:List Stmt} {G:XF}
  (hS:fx.vars.lookup iS=some ("signs":Str)) (hT:fx.vars.lookup iT=some ("stream":Str)) (hno:∀i,fx.vars.lookup i≠some ("read":Str))
  (kS:fx.sc.names.lookup ("signs":Str)=some .cell) (kR:fx.sc.names.lookup ("read":Str)=some .local) (kT:fx.sc.names.lookup ("stream":Str)=some .local)
  (hcS:fx.env.cells.lookup ("signs":Str)=some cS) (hcode:fx.env.code=.ref c0) (hcown:cS∈fx.own)
  (hC:∀h,TopOK K h->CodeHd h c0 P0) (hB:∀h,TopOK K h->h.BuiltinsAt mg P0) (hgP:mainGlobals≠P0)
  (hrest:Exs prog w K { fx with own:=[fx.env.locals] } rest G) (hpos:∀v,codeAmong lpos [rawInt dpos.line,rawInt dpos.col,v]=none) (hlsc:lsc.names=[])
  (hs2:swapsWith (.Lambda ⟨[],[],none,[],[],none,[]⟩ lb lsc lpos) (some (.Name "stream" p1)) p2.line fx.env=pure false) (hs3:swapsWith (.Name "read" p5) (some (.Attribute (.Name "stream" p3) "read" p4)) p6.line fx.env=pure false)
  (hline:((P 2).endLine==(P 4).line)=true) :
  ExsFin prog w K fx (.FunctionDef "read" ⟨[],[⟨"size",none,pp⟩],none,[],[],none,[]⟩ (mt P) [] none [] readScope none "read" dpos ::
   .Assign [.Name "stream" p1] (.Lambda ⟨[],[],none,[],[],none,[]⟩ lb lsc lpos) p2 ::
   .Assign [.Attribute (.Name "stream" p3) "read" p4] (.Name "read" p5) p6::rest) (ah (wo iS iT tb P0) G):=.mk λA ρ Z0 σ s fl σ' Rm R hoff q=>by
 refine cps λ_ KK=>?_
 refine tc q (λσ_1 e1 q=>pj e1 λi hi htb hr=>?_) λe1 n=>pj e1 λi _ _ hr=>(n (congrArg Prod.fst hr)).elim
 rw [(Prod.mk.inj hr).2] at q
 obtain ⟨m,cm,hn,hc,hv⟩:=R.er.ex
 obtain ⟨v,hsv,hV⟩:=hv iS _ _ hS (qt hi)
 obtain ⟨g,b,hgi,rfl⟩:=hV
 refine KK ?_
 have kS':fx.env.kindOf "signs"=some .cell:=by unfold Env.kindOf; rw [R.er.sc]; exact kS
 have kR':fx.env.kindOf "read"=some .local:=by unfold Env.kindOf; rw [R.er.sc]; exact kR
 have kT':fx.env.kindOf "stream"=some .local:=by unfold Env.kindOf; rw [R.er.sc]; exact kT
 have hcm:cm "signs"=some (.ref g):=by
  unfold cf at hsv
  replace hsv:=kS'▸hsv
  dsimp only at hsv
  replace hsv:=hcS▸hsv
  exact hsv
 refine cps λ_ KK=>?_
 obtain ⟨rt,bt,hrt,hmt⟩:=R.hr.at_ tb _ htb
 obtain ⟨hrb,hbP,vs,hP,hvs⟩:=hmt
 replace hrt:=hbP▸hrb▸hrt
 replace hP:=hbP▸hP
 obtain rfl:=hvs rfl
 obtain ⟨L,hL⟩:∃L,fx.env.locals=L:=⟨_,rfl⟩
 refine KK ?_
 have hPm:P0∈ax ρ:=List.mem_map_of_mem (f:=Prod.snd) (List.mem_of_getElem? hrt)
 have hnL:s.heap.Ns L m:=hL▸hn
 have LZ:L∈fx.own++Z0:=R.er.ownZ _ (hL▸R.er.lown)
 have hLP:L≠P0:=λq=>R.er.lmut (hL.symm▸q.symm▸hPm)
 have PlS:P0 < s.heap.objs.size:=Heap.lt_size hP
 have LlS:L < s.heap.objs.size:=by obtain ⟨o,e⟩:=Ns.live hnL; exact Heap.lt_size e
 have hcl:closureFor readScope fx.env=pure [(("signs":Str),cS)]:=by
  rw [g9 (by show (true&&((false||(fx.env.cells.lookup ("signs":Str)).isSome)&&true))=true; rw [hcS]; rfl)]
  refine congrArg pure ?_
  show Ac fx.env [(("size":Str),NameKind.local),(("signs":Str),NameKind.free)] []=_
  rw [Ac,if_neg (by decide),Ac,if_pos (by decide),hcS]
  rfl
 have hcl2:closureFor lsc fx.env=pure []:=by
  refine (g9 (by rw [hlsc]; rfl)).symm▸hlsc.symm▸?_
  rfl
 have kOf:∀b o,K b=some o->b≠P0∧b≠L:=λb o hb=>⟨λq=>(R.off b (hb.symm▸λq=>O0 q)).1 (q▸hPm),λq=>(R.off b (hb.symm▸λq=>O0 q)).2 (q▸LZ)⟩
 have hfk:(fx.env.scope.kind==.class||(fx.env.scope.kind==.module&&fx.env.locals != fx.env.globals))=false:=by rw [R.er.fn]; rfl
 refine wpAny_execs_cons (nestDef_K rfl rfl rfl (makeFunction_K hcl R.er.glob (gl.g _ R.top) hcode (hC _ R.top) (ps:=#[]) hP trivial rfl hgP (hB _ R.top) λc' ctv doc h1 tk hx hge hlt hrec htab=>?_))
 obtain ⟨fo,hfo⟩:∃fo,fo=fnMade ("read":Str) (qualnameIn fx.env ("read":Str) ("read":Str)) ⟨[],[⟨"size",none,pp⟩],none,[],[],none,[]⟩ (mt P) readScope [(("signs":Str),cS)] doc ((mg "__name__").getD .none) c' ctv:=⟨_,rfl⟩
 refine hfo▸?_
 have fr1:fo.isFreed=false:=by rw [hfo]; rfl
 have hn1:(h1.push fo).Ns L m:=Ns.keep hnL λo e=>Heap.get?_push_of_some _ (hx L o hLP e)
 refine wpAny_storeName_local kR' (hL▸hn1) (λh2 hn2 sb2=>?_) hfk
 rw [hL] at hn2 sb2
 have sz2:h2.objs.size=h1.objs.size+1:=sb2.1.symm▸Heap.size_push ..
 have k2:∀b o,b≠P0->b≠L->s.heap.get? b=some o->h2.get? b=some o:=λb o b1 b2 e=>sb2.extBut b o b2 (Heap.get?_push_of_some _ (hx b o b1 e))
 have tp2:TopOK K h2:=λb o hb=>k2 b o (kOf b o hb).1 (kOf b o hb).2 (R.top b o hb)
 have hP2:h2.get? P0=some (tabObj #[rawInt dpos.line,rawInt dpos.col,.ref c']):=sb2.extBut _ _ (Ne.symm hLP) (Heap.get?_push_of_some _ htab)
 have c1s:h1.objs.size > s.heap.objs.size:=Nat.lt_of_le_of_lt hge hlt
 have hr2:h2.get? h1.objs.size=some fo:=sb2.extBut _ _ (Nat.ne_of_gt (Nat.lt_trans LlS c1s)) (Heap.get?_push_size _ fr1)
 refine wpAny_execs_cons (wpAny_Assign_Name (kla_eval rfl (kla_makeFunction hcl2 R.er.glob (gl.g _ tp2) hcode (hC _ tp2) hP2 trivial (hpos _) hgP (hB _ tp2) λc2 ctv2 h3 tk3 hx3 hge3 hlt3 hrec3 htab3=>?_)) hs2)
 obtain ⟨lo,hlo⟩:∃lo,lo=kla_obj ("<lambda>":Str) (fx.env.qual++"<lambda>") ⟨[],[],none,[],[],none,[]⟩ lb lsc [] ((mg "__name__").getD .none) c2 ctv2:=⟨_,rfl⟩
 refine hlo▸?_
 have fr3:lo.isFreed=false:=by rw [hlo]; rfl
 have hn3:(h3.push lo).Ns L (λx=>if x="read" then some (.ref h1.objs.size) else m x):=Ns.keep hn2 λo e=>Heap.get?_push_of_some _ (hx3 L o hLP e)
 refine wpAny_storeName_local kT' (hL▸hn3) (λh4 hn4 sb4=>?_) hfk
 rw [hL] at hn4 sb4
 have sz4:h4.objs.size=h3.objs.size+1:=sb4.1.symm▸Heap.size_push ..
 have k4:∀b o,b≠P0->b≠L->h2.get? b=some o->h4.get? b=some o:=λb o b1 b2 e=>sb4.extBut b o b2 (Heap.get?_push_of_some _ (hx3 b o b1 e))
 have hge3':h2.objs.size≤c2:=hge3
 have c3s:h3.objs.size > h1.objs.size:=by have h:c2 < h3.objs.size:=hlt3; lia
 have ha4:h4.get? h3.objs.size=some lo:=sb4.extBut _ _ (Nat.ne_of_gt (Nat.lt_trans LlS (Nat.lt_trans c1s c3s))) (Heap.get?_push_size _ fr3)
 have hP4:h4.get? P0=some (tabObj (#[rawInt dpos.line,rawInt dpos.col,.ref c']++#[rawInt lpos.line,rawInt lpos.col,.ref c2])):=sb4.extBut _ _ (Ne.symm hLP) (Heap.get?_push_of_some _ htab3)
 refine wpAny_execs_cons (plainObj_wpAny_Assign_Attribute (wpAny_Name (wpAny_loadName_local R.er.fn kR' (hL▸hn4) (v:=.ref h1.objs.size) (by show (if ("read":Str)="stream" then _ else if ("read":Str)="read" then _ else _)=_; rw [if_neg (by decide),if_pos rfl]) (wpAny_Name (wpAny_loadName_local R.er.fn kT' (hL▸hn4) (v:=.ref h3.objs.size) (if_pos rfl) ?_) (by decide))) (by decide)) hs3)
 refine Ar ha4 (hlo.symm▸rfl) (by rw [hlo]) (hlo.symm▸rfl) λh6 dx t' e1 e2 e3 e4=>?_
 have sLt:∀b o,s.heap.get? b=some o->b≠h3.objs.size:=λb o e=>Nat.ne_of_lt (Nat.lt_trans (Heap.lt_size e) (Nat.lt_trans c1s c3s))
 have k6:∀b o,b≠P0->b≠L->s.heap.get? b=some o->h6.get? b=some o:=λb o b1 b2 e=>e4 b o (sLt b o e) (k4 b o b1 b2 (k2 b o b1 b2 e))
 have hP6:h6.get? P0=some (tabObj (#[rawInt dpos.line,rawInt dpos.col,.ref c']++#[rawInt lpos.line,rawInt lpos.col,.ref c2])):=e4 _ _ (sLt _ _ hP) hP4
 have hn6:h6.Ns L (λx=>if x="stream" then some (.ref h3.objs.size) else if x="read" then some (.ref h1.objs.size) else m x):=Ns.keep hn4 λo e=>e4 L o (Nat.ne_of_lt (Nat.lt_trans LlS (Nat.lt_trans c1s c3s))) e
 have lvZ:∀a∈fx.own++Z0,∃o,h6.get? a=some o:=λa ha=>by
  by_cases q:a=L
  ·obtain ⟨o,e⟩:=Ns.live hn6; exact ⟨o,q▸e⟩
  ·obtain ⟨o,e⟩:=R.hr.liveZ a ha
   exact ⟨o,k6 a o (λq'=>R.hr.offZ P0 hPm (q'▸ha)) q e⟩
 have wz:∀a∈[L]++Z0,a∈fx.own++Z0:=λa h=>(List.mem_append.mp h).elim (λh=>(List.mem_singleton.mp h).symm▸LZ) λh=>List.mem_append_right _ h
 have kZ:∀a o,a≠P0->a∉fx.own++Z0->s.heap.get? a=some o->h6.get? a=some o:=λa o h1 h2 e=>k6 a o h1 (λq=>h2 (q▸LZ)) e
 have H6:HR ρ ([L]++Z0) (σ.hp.set tb (.tab P0 false)) h6:=(R.hr.setZ (mo:=.tab P0 false) hrt kZ lvZ ⟨rfl,rfl,_,hP6,λh=>C1 h⟩).weak wz
 have fresh:∀b,s.heap.objs.size≤b->b∉ax ρ∧b∉[L]++Z0:=λb hb=>by
  have f:=R.hr.fresh (Heap.get?_none_of_le hb)
  exact ⟨f.1,λq=>f.2 (wz b q)⟩
 have hdx:s.heap.get? dx=none:=by
  cases q:s.heap.get? dx with
  | none=>rfl
  | some o =>
   exfalso
   by_cases b1:dx=P0
   ·rw [b1,hP4] at e1; cases e1
   ·by_cases b2:dx=L
    ·obtain ⟨o,e⟩:=Ns.live hn4; rw [b2,e] at e1; cases e1
    ·rw [k4 _ _ b1 b2 (k2 _ _ b1 b2 q)] at e1; cases e1
 have fdx:dx∉ax ρ∧dx∉[L]++Z0:=by
  have f:=R.hr.fresh hdx
  exact ⟨f.1,λq=>f.2 (wz dx q)⟩
 have hcS6:h6.IsCell cS (some (.ref g)):=by
  obtain ⟨o,ho,hd⟩:=hc _ _ hcS
  replace hd:=hcm▸hd
  exact ⟨o,k6 cS o (λq=>(R.er.cell _ _ hcS).1 (q▸hPm)) (λq=>(R.er.cell _ _ hcS).2 (q.trans hL.symm)) ho,hd⟩
 have hr6:h6.get? h1.objs.size=some fo:=e4 _ _ (Nat.ne_of_lt c3s) (k4 _ _ (Nat.ne_of_gt (Nat.lt_trans PlS c1s)) (Nat.ne_of_gt (Nat.lt_trans LlS c1s)) hr2)
 have hrec6:h6.CodeRec (.ref c') (qualnameIn fx.env ("read":Str) ("read":Str)):=by
  refine cps λ_ KK=>?_
  obtain ⟨c,o,vs,t,e,ge,r⟩:=hrec
  refine KK ?_
  replace ge:=(Value.ref.inj e).symm▸ge
  exact ⟨c',o,vs,t,rfl,e4 _ _ (Nat.ne_of_lt (Nat.lt_trans hlt c3s)) (k4 _ _ (Nat.ne_of_gt (Nat.lt_of_lt_of_le PlS hge)) (Nat.ne_of_gt (Nat.lt_of_lt_of_le LlS hge)) (sb2.extBut _ _ (Nat.ne_of_gt (Nat.lt_of_lt_of_le LlS hge)) (Heap.get?_push_of_some _ ge))),r⟩
 have hVs:VR ρ ([L]++Z0) h6 (.strm i) (.ref h3.objs.size):=by
  refine ⟨g,b,h3.objs.size,[h3.objs.size,dx,h1.objs.size,cS,c'],hgi,rfl,⟨⟨{ lo with dict:=some dx },fo,dx,h1.objs.size,cS,c',_,rfl,e3,hlo.symm▸rfl,⟨_,by rw [hlo]⟩,rfl,e2,hr6,hfo.symm▸rfl,by rw [hfo],⟨rfl,rfl,rfl,rfl,⟨P,rfl,hline⟩,⟨pp,rfl⟩,rfl,rfl,rfl⟩,hcS6,hrec6⟩⟩,ri (fresh _ (Nat.le_of_lt (Nat.lt_trans c1s c3s))) (ri fdx (ri (fresh _ (Nat.le_of_lt c1s)) (ri ⟨(R.er.cell _ _ hcS).1,λq=>(List.mem_append.mp q).elim (λq=>(R.er.cell _ _ hcS).2 ((List.mem_singleton.mp q).trans hL.symm)) (hoff _ hcown)⟩ (c8 (fresh _ hge)))))⟩
 have R6:SR K { fx with own:=[fx.env.locals] } ρ ([L]++Z0) ⟨σ.loc.set iT (some (.strm i)),σ.hp.set tb (.tab P0 false)⟩ ⟨h6,s.gens,s.drawn,t',s.os⟩:=by
  refine ⟨H6,⟨⟨_,cm,hL▸hn6,λn c e=>?_,λj x pv hj hl=>?_⟩,R.er.fn,R.er.sc,R.er.vinj,R.er.glob,R.er.bi,List.mem_singleton_self _,λa ha=>by rw [List.mem_singleton.mp ha,hL]; simp,R.er.lmut,R.er.cell,R.er.inj⟩,λb o hb=>k6 b o (kOf b o hb).1 (kOf b o hb).2 (R.top b o hb),λb hb=>⟨(R.off b hb).1,λq=>(R.off b hb).2 (wz b q)⟩⟩
  ·obtain ⟨o,ho,hd⟩:=hc n c e
   exact ⟨o,k6 c o (λq=>(R.er.cell n c e).1 (q▸hPm)) (λq=>(R.er.cell n c e).2 (q.trans hL.symm)) ho,hd⟩
  ·rcases qm hl with ⟨rfl,rfl⟩ | ⟨hij,hl'⟩
   ·refine ⟨.ref h3.objs.size,?_,hVs⟩
    refine (b9 (hT.symm.trans hj))▸?_
    unfold cf
    refine kT'.symm▸?_
    exact if_pos rfl
   ·obtain ⟨u,hu,hr⟩:=hv j x pv hj hl'
    refine ⟨u,?_,(VR.setZ (X:=[P0]) (λa ha=>(List.mem_singleton.mp ha).symm▸hPm) (λa o h1 h2 e=>kZ a o (λq=>h1 (by rw [q]; simp)) h2 e) hr).weak wz⟩
    have n1:x≠"stream":=λq=>hij (R.er.vinj iT j "stream" hT (q▸hj))
    have n2:x≠"read":=λq=>hno j (q▸hj)
    exact (Bw (by show (if _ then _ else if _ then _ else _)=_; rw [if_neg n1,if_neg n2])).trans hu
 refine wpAny_mono (hrest.run A ρ ([L]++Z0) _ _ fl σ' Rm R6 q) (λf s' p=>?_) λ_ _ q=>q
 refine cps λ_ KK=>?_
 obtain ⟨ρ',x,R',r⟩:=p
 refine KK ?_
 have x06:Ext fx.own ρ s ρ ⟨h6,s.gens,s.drawn,t',s.os⟩:=⟨⟨[],by simp,λ_ h=>ck h⟩,λb o hb hX e=>k6 b o (λq=>hb (q▸hPm)) (λq=>hX (q.symm▸hL▸R.er.lown)) e,λb o e=>by
  by_cases b1:b=P0
  ·exact ⟨_,b1▸hP6⟩
  ·by_cases b2:b=L
   ·obtain ⟨o,e⟩:=Ns.live hn6; exact ⟨o,b2▸e⟩
   ·exact ⟨o,k6 b o b1 b2 e⟩,rfl,rfl,λ_ _ e=>e,λh=>h⟩
 exact ⟨ρ',x06.trans (x.weak λa ha=>(List.mem_singleton.mp ha).symm▸R.er.lown),R'.hr.weak λa h=>List.mem_append_right _ h,r.weak λa h=>List.mem_append_right _ h⟩
end
end Mine
end
section
open PySem PySem.Calls PySem.W PyProof.Rows open PySem.Spec (ltCps)
namespace Mine
theorem pr {α:Type} {R:α->α->Prop} (anti:∀a b,R a b->R b a->a=b):∀(l_1 l_2:List α),l_1.Pairwise R->l_2.Pairwise R->l_1.Perm l_2->l_1=l_2
 | [],l_2,_,_,p=>p.symm.eq_nil.symm
 | a::l_1,[],_,_,p=>Qm p.eq_nil
 | a::l_1,b::l_2,h1,h2,p=>by
  have hab:a=b:=(List.mem_cons.mp (p.mem_iff.mp (List.mem_cons_self ..))).elim id λha=>(List.mem_cons.mp (p.mem_iff.mpr (List.mem_cons_self (a:=b) (l:=l_2)))).elim Eq.symm λhb=>anti _ _ (List.rel_of_pairwise_cons h1 hb) (List.rel_of_pairwise_cons h2 ha)
  subst hab
  exact (pr anti l_1 l_2 (List.pairwise_cons.mp h1).2 (List.pairwise_cons.mp h2).2 p.cons_inv).symm▸rfl
end Mine
end
section
open PySem PySem.Calls PySem.W PyProof.Rows
namespace Mine
noncomputable def uf (G:FnF):FnF:=λps hp=>match fz ps with
 | some _=>match G ps [] with
  | some (.dat d,[])=>some (.dat d,hp)
  | _=>none
 | none=>none
section
variable {prog:Program} {w:World} {K:Addr->Option Obj} {mg mb:Str->Option Value}
theorem VRs.pure {ρ:av} {Z:List Addr} {h:Heap} {ps:List PV}:∀{vs:List Value} {ds:List PyData},fz ps=some ds->VRs ρ Z h ps vs->VRs [] (ax ρ++Z) h ps vs:=by
 induction ps with
 | nil=>intro vs ds _ V; rw [V.unnil]; exact .nil
 | cons p ps ih =>
  intro vs ds e V
  refine cps λ_ KK=>?_
  obtain ⟨v,r,hv,hp,V2⟩:=V.uncons
  refine KK ?_
  refine hv.symm▸?_
  cases p with
  | dat d =>
   refine (Option.map_eq_some_iff.mp (show (fz ps).map (d::·)=some ds from e)).elim λds' h1=>?_
   exact .cons (hp.elim λas q=>⟨as,q.1,λa ha=>⟨List.not_mem_nil,λm=>(List.mem_append.mp m).elim (q.2 a ha).1 (q.2 a ha).2⟩⟩) (ih h1.1 V2)
  | obj i=>exact al e
  | strm i=>exact al e
  | objs _ _=>exact al e
theorem Fz {G:FnF} {ps:List PV} {hp hp':List MO} {pv:PV} {C:Prop} (q:uf G ps hp=some (pv,hp')) (k:∀ds d,fz ps=some ds->G ps []=some (.dat d,[])->pv=.dat d->hp'=hp->C):C:=by
 unfold uf at q
 cases h1:fz ps with
 | none=>rw [h1] at q; exact al q
 | some ds =>
  rw [h1] at q
  cases h2:G ps [] with
  | none=>rw [h2] at q; exact al q
  | some x =>
   rw [h2] at q
   cases x with
   | mk u l=>cases u with
    | dat d=>cases l with
     | nil=>exact k ds d h1 h2 (cq q).1.symm (cq q).2.symm
     | cons _ _=>exact al q
    | obj i=>exact al q
    | strm i=>exact al q
    | objs _ _=>exact al q
theorem FnC.pure {a:Addr} {k:Nat} {G:FnF} (h:FnC prog w K a k G):FnC prog w K a k (uf G):=.mk λA ρ Z hp s ps vs pv hp' Rm H top off V q=>Fz q λds d hds hG e1 e2=>by
 have H0:HR [] (ax ρ++Z) [] s.heap:=⟨rfl,List.nodup_nil,(λb hb=>ck hb),λa ha=>(List.mem_append.mp ha).elim (H.live a) (H.liveZ a),λi mo e=>al e⟩
 refine codeAny_mono (h.run A [] (ax ρ++Z) [] s ps vs _ _ Rm H0 top (λa ha=>⟨List.not_mem_nil,λm=>(List.mem_append.mp m).elim (off a ha).1 (off a ha).2⟩) (VRs.pure hds V) hG) λr s' p=>p.elim λv e p=>?_
 refine cps λ_ KK=>?_
 obtain ⟨ρ',x,⟨as,rv,qv⟩,H'⟩:=p
 refine KK ?_
 refine e.symm▸e1.symm▸e2.symm▸?_
 have k:∀b o,s.heap.get? b=some o->s'.heap.get? b=some o:=λb o e=>x.heap b o List.not_mem_nil List.not_mem_nil e
 exact ⟨ρ,⟨⟨[],(List.append_nil _).symm,λ_ h=>ck h⟩,λb o _ _ e=>k b o e,x.live,x.drawn,x.os,x.gens,x.bare⟩,⟨as,rv,λa ha=>⟨λm=>(qv a ha).2 (List.mem_append_left _ m),λm=>(qv a ha).2 (List.mem_append_right _ m)⟩⟩,H.keep k⟩
theorem FnAt.okF (gl:Gl K mg mb) {a:Addr} {st:Stmt} (F:FnAt K a st) {names:List Str} {vars:List (Nat×Str)} {k N:Nat} {B:XF} (keep:Bool) (hbind:∀q pm c doc (vs:List Value),vs.length=names.length->bindArgs (mz st q pm c doc) ⟨vs,[]⟩=pure (names.zip vs))
  (chk:Cz (Stmt.scopeOf st) names vars=true) (hb:∀q pm c doc L,ExsFin prog w K (pw (mz st q pm c doc) a vars k L) (Stmt.bodyOf st) B):FnC prog w K a (k+1) (kq names.length N keep B):=by
 refine cps λ_ KK=>?_
 obtain ⟨o,q,pm,c,doc,h1,h2,h3,h4⟩:=F
 refine KK ?_
 exact FnC.of_bodyF keep gl h1 h3 rfl h4 (hbind q pm (.ref c) doc) rfl rfl rfl chk (hb q pm (.ref c) doc)
theorem FnAt.ok (gl:Gl K mg mb) {a:Addr} {st:Stmt} (F:FnAt K a st) {names:List Str} {vars:List (Nat×Str)} {k N:Nat} {B:XF} (keep:Bool) (hbind:∀q pm c doc (vs:List Value),vs.length=names.length->bindArgs (mz st q pm c doc) ⟨vs,[]⟩=pure (names.zip vs))
  (chk:Cz (Stmt.scopeOf st) names vars=true) (hb:∀q pm c doc L,Exs prog w K (pw (mz st q pm c doc) a vars k L) (Stmt.bodyOf st) B):FnC prog w K a (k+1) (kq names.length N keep B) :=
 F.okF gl keep hbind chk λq pm c doc L=>(hb q pm c doc L).fin
theorem Ev.callAt {fx:Fx} (gl:Gl K mg mb) {f:Str} {a:Addr} {st:Stmt} (F:FnAt K a st) {e:Expr} {es:List Expr} {pos np:Pos} {G:LF} {H:FnF} {k:Nat} (he:EvL prog w K fx (e::es) G) (hf:FnC prog w K a k H) (hK:k≤fx.k)
  (hk:fx.sc.names.lookup f=some .globalImplicit) (hg:mg f=some (.ref a)) (hd:(f==("__debug__":Str))=false:=by decide)
  (hs:∀env,starEach (e::es) env=(false,eval e env)::starEach es env:=by intro _; rfl) (hp:∀env,(backTo pos (starEach es env)).any (·.1)=false:=by intro _; rfl) :
  Ev prog w K fx (.Call (.Name f np) (e::es) [] pos) (cz G H):=by
 refine cps λ_ KK=>?_
 obtain ⟨o,q,pm,c,doc,h1,h2,h3,h4⟩:=F
 refine KK ?_
 exact Ev.call gl he hf.ok hK h1 h3 hk hg hd hs hp
theorem Ev.methAt {fx:Fx} {C:Addr} {mN:Str->Option Value} (cl:fj K C mN) {name:Str} {f:Addr} {st:Stmt} (F:FnAt K f st) {y:Option Value} {o e:Expr} {es:List Expr} {apos pos:Pos} {Fo:EF} {G:LF} {H:FnF} {k:Nat} (hf:mN name=some (.ref f))
  (hB:typeLookup (.type "object") name=pure y) (ho:Ev prog w K fx o Fo) (he:EvL prog w K fx (e::es) G) (hH:FnC prog w K f k H) (hK:k≤fx.k) (mc:MC fx.env o name apos (e::es) pos)
  (hs:∀env,starEach (e::es) env=(false,eval e env)::starEach es env:=by intro _; rfl) :
  Ev prog w K fx (.Call (.Attribute o name apos) (e::es) [] pos) (ti Fo C name G H):=by
 refine cps λ_ KK=>?_
 obtain ⟨ob,q,pm,c,doc,h1,h2,h3,h4⟩:=F
 refine KK ?_
 exact Ev.meth cl hf h1 h2 h3 hB ho he hH.ok hK mc hs
theorem Ev.meth0At {fx:Fx} {C:Addr} {mN:Str->Option Value} (cl:fj K C mN) {name:Str} {f:Addr} {st:Stmt} (F:FnAt K f st) {y:Option Value} {o:Expr} {apos pos:Pos} {Fo:EF} {H:FnF} {k:Nat} (hf:mN name=some (.ref f))
  (hB:typeLookup (.type "object") name=pure y) (ho:Ev prog w K fx o Fo) (hH:FnC prog w K f k H) (hK:k≤fx.k) (mc:MC fx.env o name apos [] pos) :
  Ev prog w K fx (.Call (.Attribute o name apos) [] [] pos) (jd Fo C name H):=by
 refine cps λ_ KK=>?_
 obtain ⟨ob,q,pm,c,doc,h1,h2,h3,h4⟩:=F
 refine KK ?_
 exact Ev.meth0 cl hf h1 h2 h3 hB ho hH.ok hK mc
theorem Ev.newAt {fx:Fx} (gl:Gl K mg mb) {C:Addr} {mN:Str->Option Value} (cl:fj K C mN) {cn:Str} {f:Addr} {st:Stmt} (F:FnAt K f st) {e:Expr} {es:List Expr} {pos np:Pos} {G:LF} {H:FnF} {k:Nat} (hi:mN "__init__"=some (.ref f))
  (he:EvL prog w K fx (e::es) G) (hH:FnC prog w K f k H) (hK:k+1≤fx.k) (hk:fx.sc.names.lookup cn=some .globalImplicit) (hg:mg cn=some (.ref C)) (hd:(cn==("__debug__":Str))=false:=by decide)
  (hs:∀env,starEach (e::es) env=(false,eval e env)::starEach es env:=by intro _; rfl) (hp:∀env,(backTo pos (starEach es env)).any (·.1)=false:=by intro _; rfl) :
  Ev prog w K fx (.Call (.Name cn np) (e::es) [] pos) (C6 C G H):=by
 refine cps λ_ KK=>?_
 obtain ⟨ob,q,pm,c,doc,h1,h2,h3,h4⟩:=F
 refine KK ?_
 exact Ev.new gl cl hi h1 h2 he hH.ok hK hk hg hd hs hp
theorem Ev.iterCitAt {fx:Fx} (gl:Gl K mg mb) {C:Addr} {mN:Str->Option Value} (cl:fj K C mN) {name:Str} {f:Addr} {st:Stmt} (F:FnAt K f st) {y:Option Value} {x:Str} {inp np ap cp pos:Pos} {kk:Nat} {Fo:EF} (hf:mN name=some (.ref f))
  (hB:typeLookup (.type "object") name=pure y) (hcop:(["__module__","__name__","__qualname__","__doc__","__annotations__"]:List Str).contains name=false) (ho:Ev prog w K fx (.Name x np) Fo)
  (hk:fx.sc.names.lookup ("iter":Str)=some .globalImplicit) (hg:mg "iter"=none) (hb:mb "iter"=some (.builtin "iter")) :
  Ev prog w K fx (.Call (.Name "iter" inp) [.Attribute (.Name x np) name ap,.Constant (.str "") kk cp] [] pos) (z6 Fo C f name):=by
 refine cps λ_ KK=>?_
 obtain ⟨ob,q,pm,c,doc,h1,h2,h3,h4⟩:=F
 refine KK ?_
 exact Ev.iterCit gl cl hf h1 h2 hB hcop ho hk hg hb
theorem EvI.citAt {fx:Fx} {e tg:Expr} {F:EF} (ht:jt tg) (he:Ev prog w K fx e F) {kk:Nat} {f_0:Addr} {st:Stmt} (Fa:FnAt K f_0 st) {H_0:FnF} (hH:FnC prog w K f_0 kk H_0) (hK:kk+1≤fx.k) (fuel:List MO->Nat) :
  EvI prog w K fx e tg (jo f_0 H_0) (rf fuel F):=by
 refine cps λ_ KK=>?_
 obtain ⟨ob,q,pm,c,doc,h1,h2,h3,h4⟩:=Fa
 refine KK ?_
 exact EvI.cit ht he h1 h3 hH hK fuel
end
section
variable {prog:Program} {w:World} {K:Addr->Option Obj} {fx:Fx} {mg mb:Str->Option Value}
theorem Ev.clsStr (gl:Gl K mg mb) {Kf:Frag} {mc:Value} {C:Addr} {cn attr y:Str} {t:Tok} {np pos:Pos} {l:List Nat} (hX:∀h,TopOK K h->Kf.In h) (hr:readsIn Kf C mc=true) (e:findCls Kf (.ref C) mc attr=some (.val (.str y t))) (hy:y=⟨⟨l⟩⟩) (ho:PyData.strOk y=true)
  (hk:fx.sc.names.lookup cn=some .globalImplicit) (hg:mg cn=some (.ref C)) (hd:(cn==("__debug__":Str))=false:=by decide) :
  Ev prog w K fx (.Attribute (.Name cn np) attr pos) (λσ=>some (.dat (.str ⟨⟨l⟩⟩),σ.hp)):=.mk λA ρ Z σ s pv hp' _ R q=>by
 cases q
 subst hy
 refine Attribute_name (bp gl R hk (.inl hg) (cls_value (hX _ R.top) hr e rfl ?_) hd)
 exact Post.of_toks R.hr ⟨[],.str _ _ ho,λ_ h=>ck h⟩
theorem EvI.genAt (gl:Gl K mg mb) {f:Str} {a:Addr} {st:Stmt} {P:Nat->Pos} {k:Nat} {e:Expr} {es:List Expr} {pos np:Pos} {F:LF} (Fa:FnAt K a st) (hb:Stmt.bodyOf st=eh P)
  (hbind:∀q pm c doc v,bindArgs (mz st q pm c doc) ⟨[v],[]⟩=pure [(("addr":Str),v)]) (hgen:(Stmt.scopeOf st).isGenerator=true) (hco:(Stmt.scopeOf st).isCoroutine=false) (hkind:(Stmt.scopeOf st).kind=.function)
  (hnc:(Stmt.scopeOf st).names.all (λx=>x.2 != .cell)=true) (h1:(Stmt.scopeOf st).names.lookup ("addr":Str)=some .local) (h2:(Stmt.scopeOf st).names.lookup ("pos":Str)=some .local) (h3:(Stmt.scopeOf st).names.lookup ("escape":Str)=some .local) (h4:(Stmt.scopeOf st).names.lookup ("ch":Str)=some .local)
  (h5:(Stmt.scopeOf st).names.lookup ("enumerate":Str)=some .globalImplicit) (h6:mg "enumerate"=none) (h7:mb "enumerate"=some (.type "enumerate")) (hk1:1≤k)
  (he:EvL prog w K fx (e::es) F) {tg:Expr} (ht:jt tg) (hK:k+1≤fx.k)
  (hk:fx.sc.names.lookup f=some .globalImplicit) (hg:mg f=some (.ref a)) (hd:(f==("__debug__":Str))=false:=by decide)
  (hs:∀env,starEach (e::es) env=(false,eval e env)::starEach es env:=by intro _; rfl) (hp:∀env,(backTo pos (starEach es env)).any (·.1)=false:=by intro _; rfl) :
  EvI prog w K fx (.Call (.Name f np) (e::es) [] pos) tg ar (D5 F):=by
 refine cps λ_ KK=>?_
 obtain ⟨o,q,pm,c,doc,a1,a2,a3,a4⟩:=Fa
 refine KK ?_
 refine EvI.gen (o:=o) (fd:=mz st q pm (.ref c) doc) (P:=P) gl ⟨a1,a3,by show FuncBody.stmts (Stmt.bodyOf st)=_; rw [hb],a4,hbind q pm (.ref c) doc,rfl,rfl,rfl,hgen,hco,hkind,λx hx=>?_,h1,h2,h3,h4,h5,h6,h7,hk1⟩ he ht hK hk hg hd hs hp
 have:=List.all_eq_true.mp hnc x hx
 simpa using this
theorem Ej {gens:List Comprehension} (h:gens.all (λg=>g.is_async==0)=true):∀g'∈gens,g'.is_async=0:=λg hg=>by simpa using List.all_eq_true.mp h g hg
end
noncomputable def pd:List PV->Option (List Nat)
 | []=>some []
 | p::ps=>match p with
  | .obj i=>(pd ps).map (i::·)
  | _=>none
theorem t6 {ρ:av} {Z:List Addr} {h:Heap} {ps:List PV}:∀{vs:List Value} {l:List Nat},pd ps=some l->VRs ρ Z h ps vs->vs.length=l.length∧∀(k i:Nat),l[k]?=some i->∃x y,vs[k]?=some (Value.ref x)∧ρ[i]?=some (x,y):=by
 induction ps with
 | nil=>intro vs l e V; rw [V.unnil,← b9 e]; exact ⟨rfl,λk i h=>al h⟩
 | cons p ps ih =>
  intro vs l e V
  refine cps λ_ KK=>?_
  obtain ⟨v,r,hv,hp,V2⟩:=V.uncons
  refine KK ?_
  cases p with
  | obj j =>
   refine (Option.map_eq_some_iff.mp (show (pd ps).map (j::·)=some l from e)).elim λl' q=>?_
   have f:=ih q.1 V2
   rw [← q.2,hv]
   refine ⟨congrArg (·+1) f.1,λk i hk=>?_⟩
   cases k with
   | zero=>exact hp.elim λr q'=>q'.elim λb q'=>⟨r,b,congrArg some q'.2,b9 hk▸q'.1⟩
   | succ k=>exact f.2 k i hk
  | dat _=>exact al e
  | strm _=>exact al e
  | objs _ _=>exact al e
noncomputable def tj (lst:Bool) (G:LF):EF:=λσ=>match G σ with
 | some (ps,hp)=>match pd ps with
  | some l=>if l.length≤lim then some (.objs lst l,hp) else none
  | none=>none
 | none=>none
theorem uv {lst:Bool} {G:LF} {σ:St} {pv:PV} {hp':List MO} {C:Prop} (e:tj lst G σ=some (pv,hp')) (k:∀ps l,G σ=some (ps,hp')->pd ps=some l->l.length≤lim->.objs lst l=pv->C):C:=by
 unfold tj at e
 cases h:G σ with
 | none=>rw [h] at e; exact al e
 | some x =>
  rw [h] at e
  cases x with
  | mk ps hp =>
   have e:(match pd ps with | some l=>if l.length≤lim then some (PV.objs lst l,hp) else none | none=>none)=some (pv,hp'):=e
   cases h2:pd ps with
   | none=>rw [h2] at e; exact al e
   | some l =>
    rw [h2] at e
    exact ay (show (if l.length≤lim then some (PV.objs lst l,hp) else none)=_ from e) λhl e=>k ps l ((Prod.mk.inj e).2▸h) h2 hl (Prod.mk.inj e).1
section
variable {prog:Program} {w:World} {K:Addr->Option Obj} {fx:Fx}
theorem Post.objs {lst:Bool} {ρ ρ_1:av} {Z:List Addr} {s s_1:Shared} {ps:List PV} {l:List Nat} {vs:List Value} {hp':List MO} (x:Ext [] ρ s ρ_1 s_1) (V:VRs ρ_1 Z s_1.heap ps vs) (H:HR ρ_1 Z hp' s_1.heap) (e:pd ps=some l) :
  Post ρ Z s (.objs lst l) hp' (.ref s_1.heap.objs.size) { s_1 with heap:=s_1.heap.push { cls:=.type (if lst then "list" else "tuple"),data:=.seq vs.toArray } }:=by
 have f:=t6 e V
 have fr:=H.fresh (Heap.get?_none_of_le (Nat.le_refl s_1.heap.objs.size))
 have k1:∀b o,s_1.heap.get? b=some o->(s_1.heap.push { cls:=.type (if lst then "list" else "tuple"),data:=.seq vs.toArray }).get? b=some o:=λb o e=>Heap.get?_push_of_some _ e
 exact ⟨ρ_1,x.trans (Ext.of_keep (t:=s_1.toks) k1),⟨_,_,vs.toArray,_,rfl,Heap.get?_push_size _ rfl,rfl,rfl,f.1,λk i h=>(f.2 k i h).elim λx q=>q.elim λy q=>⟨x,y,by rw [List.getElem?_toArray]; exact q.1,q.2⟩,fr.1,fr.2⟩,H.keep k1⟩
theorem Ev.objList {es:List Expr} {pos:Pos} {G:LF} (h:EvL prog w K fx es G):Ev prog w K fx (.List es pos) (tj true G):=.mk λA ρ Z σ s pv hp' Rm R q =>
 uv q λps l e1 e2 hl hp=>hp▸wpAny_List (wpAny_mono (h.run pos A ρ Z σ s _ _ Rm R e1) (λvs s_1 p=>p.elim λρ_1 p=>⟨(t6 e2 p.2.1).1.symm▸Nat.le_trans hl (by decide),Post.objs (lst:=true) p.1 p.2.1 p.2.2 e2⟩) λ_ _ q=>q)
theorem Ev.objTuple {es:List Expr} {k:Nat} {pos:Pos} {G:LF} (h:EvL prog w K fx es G):Ev prog w K fx (.Tuple es k pos) (tj false G):=.mk λA ρ Z σ s pv hp' Rm R q =>
 uv q λps l e1 e2 hl hp=>hp▸wpAny_Tuple (wpAny_mono (h.run pos A ρ Z σ s _ _ Rm R e1) (λvs s_1 p=>p.elim λρ_1 p=>⟨(t6 e2 p.2.1).1.symm▸Nat.le_trans hl (by decide),Post.objs (lst:=false) p.1 p.2.1 p.2.2 e2⟩) λ_ _ q=>q)
noncomputable def y9 (a b:PV):EF:=λσ=>match a with
 | .objs true l=>match rd σ.hp b with
  | some (.int i)=>if 0≤i∧i < 2 ^ 60 then (l[i.toNat]?).map λj=>(.obj j,σ.hp) else none
  | _=>none
 | _=>none
theorem Dp {a b:PV} {σ:St} {pv:PV} {hp':List MO} {C:Prop} (e:y9 a b σ=some (pv,hp')) (k:∀l i j,a=.objs true l->rd σ.hp b=some (.int i)->0≤i->i < 2 ^ 60->l[i.toNat]?=some j->.obj j=pv->σ.hp=hp'->C):C:=by
 cases a with
 | dat _=>exact al e
 | obj _=>exact al e
 | strm _=>exact al e
 | objs lst l=>cases lst with
  | false=>exact al e
  | true =>
   have e:(match rd σ.hp b with | some (.int i)=>if 0≤i∧i < 2 ^ 60 then (l[i.toNat]?).map λj=>(PV.obj j,σ.hp) else none | _=>none)=some (pv,hp'):=e
   cases h:rd σ.hp b with
   | none=>rw [h] at e; exact al e
   | some d =>
    rw [h] at e
    cases d with
    | int i =>
     exact gn (show (if 0≤i∧i < 2 ^ 60 then (l[i.toNat]?).map λj=>(PV.obj j,σ.hp) else none)=some (pv,hp') from e) λhc e =>
      (Option.map_eq_some_iff.mp e).elim λj q=>k l i j rfl h hc.1 hc.2 q.1 (Prod.mk.inj q.2).1 (Prod.mk.inj q.2).2
    | _=>exact al e
theorem Ev.subO {e i:Expr} {pos:Pos} {F G:EF} (he:Ev prog w K fx e F) (hi:Ev prog w K fx i G):Ev prog w K fx (.Subscript e i pos) (af F λa=>af G λb=>y9 a b):=.mk λA ρ Z σ s pv hp' Rm R q =>
 Subscript_ (he.then2 hi Rm R q λa b va vb h2 ρ_2 s_2 e2 x v_1 v_2 R_2=>Dp e2 λl i j ha hb h0 h1 hj hpv hh=>by
  refine cps λ_ KK=>?_
  obtain ⟨c,o,vs,n,hv,ho,hc,hd,hs,hat,_,_⟩:=(ha▸v_1:VR ρ_2 Z s_2.heap (.objs true l) va)
  obtain ⟨bs,rb,_⟩:=ft R_2.hr v_2 hb
  obtain ⟨t,hi,_⟩:=rb.int_
  obtain ⟨y,z,hy,hz⟩:=hat _ _ hj
  refine KK ?_
  rw [hv,hi,← hpv,← hh]
  exact lc (T:="list") ⟨o,ho,hc⟩ list_getitem_lookup (wpAny_getItem_list ⟨o,ho,hc,n,hd⟩ h0 (Int.lt_trans h1 (by decide)) hy ⟨ρ_2,x,⟨y,z,hz,rfl⟩,R_2.hr⟩))
end
noncomputable def frz (n:Nat) (hp:List MO):List Nat->Option (List PyData)
 | []=>some []
 | i::l=>if n≤i then match hp[i]? with
  | some (.lst d)=>(frz n hp l).map (.list d::·)
  | _=>none else none
noncomputable def Eo (G:FnF):FnF:=λps hp=>match G ps hp with
 | some (.objs false l,hp')=>match frz hp.length hp' l with
  | some ds=>if (hp'.take hp.length).all (MO.closed hp.length)&&decide (hp.length≤hp'.length) then some (.dat (.tuple ds),hp'.take hp.length) else none
  | none=>none
 | _=>none
theorem Hf {G:FnF} {ps:List PV} {hp hp':List MO} {pv:PV} {C:Prop} (e:Eo G ps hp=some (pv,hp')) (k:∀l hp1 ds,G ps hp=some (.objs false l,hp1)->frz hp.length hp1 l=some ds->(hp1.take hp.length).all (MO.closed hp.length)=true->hp.length≤hp1.length->.dat (.tuple ds)=pv->hp1.take hp.length=hp'->C):C:=by
 unfold Eo at e
 cases h:G ps hp with
 | none=>rw [h] at e; exact al e
 | some x =>
  rw [h] at e
  cases x with
  | mk u hp1=>cases u with
   | dat _=>exact al e
   | obj _=>exact al e
   | strm _=>exact al e
   | objs b l=>cases b with
    | true=>exact al e
    | false =>
     have e:(match frz hp.length hp1 l with | some ds=>if (hp1.take hp.length).all (MO.closed hp.length)&&decide (hp.length≤hp1.length) then some (PV.dat (.tuple ds),hp1.take hp.length) else none | none=>none)=some (pv,hp'):=e
     cases h2:frz hp.length hp1 l with
     | none=>rw [h2] at e; exact al e
     | some ds =>
      rw [h2] at e
      exact ay (show (if ((hp1.take hp.length).all (MO.closed hp.length)&&decide (hp.length≤hp1.length))=true then some (PV.dat (.tuple ds),hp1.take hp.length) else none)=_ from e) λhc e =>
       k l hp1 ds h h2 (Bool.and_eq_true_iff.mp hc).1 (of_decide_eq_true (Bool.and_eq_true_iff.mp hc).2) (Prod.mk.inj e).1 (Prod.mk.inj e).2
theorem Lo {ρ e:av} {Z:List Addr} {h:Heap} {hp:List MO} {n:Nat} (hn:ρ.length=n) (H:HR (ρ++e) Z hp h):∀{l:List Nat} {ds:List PyData} {vs:List Value},frz n hp l=some ds->vs.length=l.length->(∀(k i:Nat),l[k]?=some i->∃x y,vs[k]?=some (Value.ref x)∧(ρ++e)[i]?=some (x,y)) ->
  ∃as,RDs h vs ds as∧∀a∈as,a∉ax ρ∧a∉Z:=by
 intro l
 induction l with
 | nil =>
  intro ds vs e1 hl _
  rw [List.length_eq_zero_iff.mp hl,← b9 e1]
  exact ⟨[],.nil,λ_ h=>ck h⟩
 | cons i l ih =>
  intro ds vs e1 hl hat
  refine gn (show (if n≤i then (match hp[i]? with | some (.lst d)=>(frz n hp l).map (.list d::·) | _=>none) else none)=some ds from e1) λhi e1=>?_
  cases vs with
  | nil=>exact Rp (α:=Nat) (a:=i) (l:=l) (List.length_eq_zero_iff.mp hl.symm).symm
  | cons v vs =>
   cases hm:hp[i]? with
   | none=>rw [hm] at e1; exact al e1
   | some mo =>
    rw [hm] at e1
    cases mo with
    | lst d =>
     refine (Option.map_eq_some_iff.mp (show (frz n hp l).map (.list d::·)=some ds from e1)).elim λds' q=>?_
     refine cps λ_ KK=>?_
     obtain ⟨as,r,qa⟩:=ih q.1 (Nat.succ.inj hl) λk j hk=>hat (k+1) j hk
     obtain ⟨x,y,hv,hx⟩:=hat 0 i rfl
     obtain ⟨hxy,o,ws,m,bs,ho,h1,h2,h3,h4,rs,qb⟩:=H.lst hm hx
     refine KK ?_
     have hxm:y∈ax e:=by
      rw [List.getElem?_append_right (hn▸hi)] at hx
      exact List.mem_map_of_mem (f:=Prod.snd) (List.mem_of_getElem? hx)
     have nd:=List.nodup_append.mp (bo ρ e▸H.nodup)
     have hyr:y∉ax ρ:=λq=>nd.2.2 y q y hxm rfl
     have hyz:y∉Z:=H.offZ y (bo ρ e▸List.mem_append_right _ hxm)
     rw [← q.2,b9 hv,hxy]
     exact ⟨(y::bs)++as,.cons (.list ho h1 h2 h3 h4 rs) r,λa ha=>(List.mem_append.mp ha).elim (λha=>(List.mem_cons.mp ha).elim (λq=>q▸⟨hyr,hyz⟩) λha=>⟨b8 (qb a ha).1,(qb a ha).2⟩) (qa a)⟩
    | _=>exact al e1
section
variable {prog:Program} {w:World} {K:Addr->Option Obj}
theorem Post.freeze {ρ:av} {Z:List Addr} {s s':Shared} {l:List Nat} {ds:List PyData} {hp hp1:List MO} {v:Value} (hn:ρ.length=hp.length) (p:Post ρ Z s (.objs false l) hp1 v s') (e:frz hp.length hp1 l=some ds) (c2:(hp1.take hp.length).all (MO.closed hp.length)=true) (c3:hp.length≤hp1.length):Post ρ Z s (.dat (.tuple ds)) (hp1.take hp.length) v s':=by
 refine cps λ_ KK=>?_
 obtain ⟨ρ',x,V,H⟩:=p
 obtain ⟨e',he,_⟩:=x.more
 refine KK ?_
 subst he
 refine cps λ_ KK=>?_
 obtain ⟨a,o,vs,n,hv,ho,hc,hd,hs,hat,ham,haz⟩:=V
 obtain ⟨as,r,qa⟩:=Lo (vs:=vs.toList) hn H e (Array.length_toList.trans hs) λk i hk=>(hat k i hk).elim λx q=>q.elim λy q=>⟨x,y,Array.getElem?_toList.trans q.1,q.2⟩
 refine KK ?_
 rw [← hn] at c2 c3 ⊢
 exact ⟨ρ,x.forget,⟨a::as,hv▸.tuple ho hc hd r,λb hb=>(List.mem_cons.mp hb).elim (λq=>q▸⟨b8 ham,haz⟩) (qa b)⟩,
  HR.forget (hp':=hp1.drop ρ.length) ((congrArg (λl=>HR (ρ++e') Z l s'.heap) (List.take_append_drop ρ.length hp1)).mpr H) (by rw [List.length_take]; exact (Nat.min_eq_left c3).symm) λi mo r b hi hm=>hm.forget (List.all_eq_true.mp c2 mo (List.mem_of_getElem? hi))⟩
theorem FnC.frz {a:Addr} {k:Nat} {G:FnF} (h:FnC prog w K a k G):FnC prog w K a k (Eo G):=.mk λA ρ Z hp s ps vs pv hp' Rm H top off V q=>Hf q λl hp1 ds e1 e2 c2 c3 hpv hhp =>
 codeAny_mono (h.run A ρ Z hp s ps vs _ _ Rm H top off V e1) λr s' p=>p.elim λv e p=>by
  rw [e]
  exact hpv▸hhp▸Post.freeze H.len p e2 c2 c3
end
noncomputable def uk (x:Int):List Int->List Int
 | []=>[x]
 | y::r=>if x≤y then x::y::r else y::uk x r
noncomputable def j7 (l:List Int):List Int:=l.foldr uk []
theorem ou (x:Int):∀l,(uk x l).Perm (x::l)
 | []=>.refl _
 | y::r=>by
  by_cases h:x≤y
  ·rw [show uk x (y::r)=x::y::r from if_pos h]
  ·rw [show uk x (y::r)=y::uk x r from if_neg h]
   exact ((ou x r).cons y).trans (.swap ..)
theorem Cf (x:Int):∀l,l.Pairwise (·≤·)->(uk x l).Pairwise (·≤·)
 | [],_=>List.pairwise_singleton ..
 | y::r,h=>by
  by_cases hxy:x≤y
  ·rw [show uk x (y::r)=x::y::r from if_pos hxy]
   exact List.pairwise_cons.mpr ⟨λa ha=>(List.mem_cons.mp ha).elim (λe=>e▸hxy) λha=>Int.le_trans hxy (List.rel_of_pairwise_cons h ha),h⟩
  ·rw [show uk x (y::r)=y::uk x r from if_neg hxy]
   exact List.pairwise_cons.mpr ⟨λa ha=>(List.mem_cons.mp ((ou x r).mem_iff.mp ha)).elim (λe=>e▸Int.le_of_lt (Int.not_le.mp hxy)) (List.rel_of_pairwise_cons h),Cf x r (List.pairwise_cons.mp h).2⟩
theorem ld:∀l,(j7 l).Perm l∧(j7 l).Pairwise (·≤·)
 | []=>⟨.refl _,.nil⟩
 | x::l=>⟨(ou x _).trans ((ld l).1.cons x),Cf x _ (ld l).2⟩
noncomputable def intsS:List PyData->Option (List Int)
 | []=>some []
 | d::r=>match d with
  | .int i=>(intsS r).map (i::·)
  | _=>none
noncomputable def o3:PyData->Option PyData
 | .list l=>if l.length < 64 then (intsS l).map λis=>.list ((j7 is).map .int) else none
 | _=>none
inductive Im (d r:PyData):Prop
 | mk (l:List PyData) (is:List Int):d=.list l->l.length < 64->intsS l=some is->.list ((j7 is).map .int)=r->Im d r
theorem Bt {d r:PyData} (e:o3 d=some r):Im d r:=by
 cases d with
 | list l=>exact gn e λh e=>(Option.map_eq_some_iff.mp e).elim λis q=>⟨l,is,rfl,h,q.1,q.2⟩
 | _=>exact al e
theorem Aj {d:PyData} {ds:List PyData} {is:List Int} {C:Prop} (e:intsS (d::ds)=some is) (k:∀x r,d=.int x->intsS ds=some r->x::r=is->C):C:=by
 cases d with
 | int x=>exact (Option.map_eq_some_iff.mp (show (intsS ds).map (x::·)=some is from e)).elim λr q=>k x r rfl q.1 q.2
 | _=>exact al e
theorem RDs.intsS {h:Heap} {vs:List Value} {ds:List PyData} {as:List Addr} (r:RDs h vs ds as):∀{is:List Int},Mine.intsS ds=some is->IntsAre vs is :=
 RDs.ind (Q:=λvs ds _=>∀{is:List Int},Mine.intsS ds=some is->IntsAre vs is) (λe=>(b9 e)▸.nil)
  (λx _ ih is e=>Aj e λy r hd hr he=>by
   rw [hd] at x
   refine cps λ_ KK=>?_
   obtain ⟨t,hv,_⟩:=RD.int_ x
   refine KK ?_
   exact he▸hv.symm▸.cons y t (ih hr)) r
theorem ya {h:Heap}:∀{vs:List Value} {is:List Int},IntsAre vs is->RDs h vs (is.map .int) []
 | _,_,.nil=>.nil
 | _,_,.cons n t r=>.cons (as:=[]) (bs:=[]) (.int n t) (ya r)
section
variable {prog:Program} {w:World} {K:Addr->Option Obj} {fx:Fx} {A:Around} {mg mb:Str->Option Value}
theorem H9 {s:Shared} {d r:PyData} {v:Value} {as:List Addr} {P:Addr->Prop} (x:RD s.heap v d as) (e:o3 d=some r):wpAny (model prog w) A (call (.builtin "sorted") [v]) (NewD s r P) bn s:=by
 refine cps λ_ KK=>?_
 obtain ⟨l,is,hd,h64,his,hr⟩:=Bt e
 replace x:=hd▸x
 obtain ⟨a,vs,n,bs,hv,_,ho,hlen,rs⟩:=x.list_
 refine KK ?_
 refine hv.symm▸hr▸?_
 refine sorted_ints (vs:=vs.toList) ⟨_,ho,rfl,n,rfl⟩ (rs.intsS his) (Array.length_toList.symm▸hlen.symm▸h64) λout ns' a1 a2 a3=>?_
 have hss:ns'=j7 is:=pr (λa b h1 h2=>Int.le_antisymm h1 h2) _ _ a3 (ld is).2 (a2.trans (ld is).1.symm)
 obtain ⟨e,he⟩:=sortedAll_at s.heap vs.toList out
 have rd:RDs (sortedAll s.heap vs.toList out) out.toList ((j7 is).map .int) []:=hss▸ya a1
 have hn:∀k,s.heap.get? (s.heap.objs.size+k)=none:=λk=>Heap.get?_none_of_le (Nat.le_add_right _ _)
 exact ⟨sortedAll s.heap vs.toList out,s.toks,_,rfl,λb o hb=>sortedAll_old hb,.list he rfl rfl rfl rfl rd,c8 (.inl (hn 1)),λb hb=>b9 hb▸⟨hn 1,List.not_mem_nil⟩⟩
theorem EvN.sortedI (gl:Gl K mg mb) {e:Expr} {pos np:Pos} {F:EF} (he:Ev prog w K fx e F) (hk:fx.sc.names.lookup ("sorted":Str)=some .globalImplicit) (hg:mg "sorted"=none) (hb:mb "sorted"=some (.builtin "sorted"))
  (hs:∀env,starEach [e] env=[(false,eval e env)]:=by intro _; rfl) :
  EvN prog w K fx (.Call (.Name "sorted" np) [e] [] pos) (af F (iw o3)):=.mk λA ρ Z σ s d hp' Rm R q=>by
 refine Call_ (bp gl R hk (.inr ⟨hg,hb⟩) ?_ (by decide))
 refine cu (.inl ⟨_,rfl⟩) ?_ (hs _) rfl
 refine wpAny_items_cons (he.then Rm R q λa va h1 ρ_1 s_1 e1 x_1 v_1 R_1=>wpAny_items_nil ?_) (hs _)
 refine ze e1 λx hx hd q'=>?_
 obtain ⟨as,ra,qa⟩:=ft R_1.hr v_1 hx
 exact q'▸wpAny_mono (H9 (P:=λ_=>False) ra hd) (λv s_2 n=>⟨_,_,_,x_1,R_1.hr,n,λ_ h=>h.elim⟩) λ_ _ q=>q
noncomputable def xc:PyData->Bool
 | .none=>true
 | .int _=>true
 | .str _=>true
 | .bool _=>true
 | _=>false
noncomputable def Em (F:EF):XF:=au F λpv σ=>match pv with
 | .dat d=>if xc d then some (.next,σ) else none
 | _=>none
theorem E0 {h:Heap} {v:Value} {d:PyData} {as:List Addr} {P:Prop} (r:RD h v d as) (hd:xc d=true) (k:P):(match (generalizing:=false) v with | .ref _=>False | _=>P):=by
 cases d with
 | none=>rw [r.none_.1]; exact k
 | int i=>exact r.int_.elim λt q=>by rw [q.1]; exact k
 | str x=>exact r.str_.elim λt q=>by rw [q.1]; exact k
 | bool b=>rw [r.bool_.1]; exact k
 | _=>exact C1 hd
theorem Ex.exprS {e:Expr} {p:Pos} {F:EF} (he:Ev prog w K fx e F) (hi:interactive fx.env=false) (hs:swapsWith e none p.line fx.env=pure false):Ex prog w K fx (.Expr e p) (Em F):=.mk λA ρ Z σ s fl σ' Rm R q=>by
 refine wpAny_Expr (he.thenX Rm R q λa v h1 ρ_1 s_1 e1 x_1 v_1 R_1=>?_) hi hs
 cases a with
 | dat d =>
  refine gn (show (if xc d=true then some (Fl.next,(⟨σ.loc,h1⟩:St)) else none)=some (fl,σ') from e1) λhd e1=>?_
  exact v_1.elim λas r=>E0 r.1 hd (PostX.eq e1 ⟨ρ_1,x_1.weak gx,R_1,rfl⟩)
 | _=>exact al e1
end
noncomputable def Jl (F:EF):EF:=λσ=>match F σ with
 | some (.dat (.list l),hp)=>some (.obj hp.length,hp++[.lst l])
 | _=>none
theorem Gw {F:EF} {σ:St} {pv:PV} {hp':List MO} {C:Prop} (q:Jl F σ=some (pv,hp')) (k:∀l hp,F σ=some (.dat (.list l),hp)->.obj hp.length=pv->hp++[.lst l]=hp'->C):C:=by
 unfold Jl at q
 cases h:F σ with
 | none=>rw [h] at q; exact al q
 | some x =>
  obtain ⟨u,hp⟩:=x
  rw [h] at q
  cases u with
  | dat d=>cases d with
   | list l =>
    obtain ⟨h1,h2⟩:=cq q
    exact k l hp h h1 h2
   | _=>exact al q
  | _=>exact al q
theorem HR.take {ρ:av} {Z Z':List Addr} {hp:List MO} {h:Heap} {D:Addr} {mo:MO} (H:HR ρ Z hp h) (hD:D∈Z) (hD':D∉Z') (hZ:∀a∈Z',a∈Z) (hm:MR (ρ++[(D,D)]) Z' h D D mo):HR (ρ++[(D,D)]) Z' (hp++[mo]) h:=by
 have hDm:D∉ax ρ:=λm=>H.offZ D m hD
 have e1:∀a,a∈ax (ρ++[(D,D)])->a∈ax ρ∨a=D:=λa ha=>by
  rw [bo,List.mem_append] at ha
  exact ha.imp_right λm=>List.mem_singleton.mp m
 refine ⟨by rw [List.length_append,List.length_append,H.len]; rfl,?_,λa ha=>(e1 a ha).elim (λha m=>H.offZ a ha (hZ a m)) λha=>ha▸hD',λa ha=>H.liveZ a (hZ a ha),λj mo' e=>?_⟩
 ·rw [bo,List.nodup_append]
  exact ⟨H.nodup,List.nodup_cons.mpr ⟨List.not_mem_nil,List.nodup_nil⟩,λa ha b hb q=>hDm ((List.mem_singleton.mp hb:b=D)▸q▸ha)⟩
 ·by_cases hj:j < hp.length
  ·rw [List.getElem?_append_left hj] at e
   obtain ⟨r,b,hr,hm'⟩:=H.at_ j mo' e
   refine ⟨r,b,?_,hm'.map (λi q e=>(g0 e)) (λa o h1 h2 e=>⟨e,λm=>(e1 a m).elim h1 λq=>h2 (q▸hD),λm=>h2 (hZ a m)⟩) λ_ e=>e⟩
   exact g0 hr
  ·have hj':hp.length≤j:=Nat.le_of_not_lt hj
   rw [List.getElem?_append_right hj'] at e
   cases hk:j - hp.length with
   | zero =>
    rw [hk] at e
    cases e
    have hjl:j=ρ.length:=by rw [H.len]; exact Nat.le_antisymm (Nat.le_of_sub_eq_zero hk) hj'
    refine ⟨D,D,?_,hm⟩
    rw [hjl,List.getElem?_append_right (Nat.le_refl _),Nat.sub_self]
    rfl
   | succ n=>rw [hk] at e; exact al e
section
variable {prog:Program} {w:World} {K:Addr->Option Obj} {fx:Fx}
theorem CompEnd.storedT {A:Around} {ρ:av} {Z:List Addr} {s s':Shared} {σ:St} {ds:List PyData} {hp:List MO} {D L:Addr} {i:Nat} {x:Str} {p:Pos} {Q:Unit->Shared->Prop} (hv:fx.vars.lookup i=some x) (ok:br fx x) (R:SR K fx ρ Z σ s) (C:CompEnd K fx ρ Z σ.loc s ds hp D L s')
  (k:∀s_2 m_2,s_2.heap.Ns L m_2->(∀h',(∀b o,b≠L->s_2.heap.get? b=some o->h'.get? b=some o)->PostX K fx ρ Z s .next ⟨σ.loc.set i (some (.obj hp.length)),hp++[.lst ds]⟩ .next { s_2 with heap:=h' })->Q () s_2):wpAny (model prog w) A (PySem.assign (.Name x p) fx.env (.ref D)) Q bn s':=by
 have nZ:=C.off R
 refine cps λ_ KK=>?_
 obtain ⟨ρ',x_1,R',ac,fD,fL,hDL,⟨m,hn⟩,hLo,offL,offLD,hDm⟩:=C
 have sub:∀a∈[L]++Z,a∈[L,D]++Z:=λa h=>(List.mem_append.mp h).elim (λh=>List.mem_append_left _ (List.mem_singleton.mp h▸.head _)) λh=>List.mem_append_right _ h
 have hDZ:D∉[L]++Z:=λm=>(List.mem_append.mp m).elim (λm=>hDL (List.mem_singleton.mp m)) (nZ D (.tail _ (.head _)))
 have hDin:D∈[L,D]++Z:=List.mem_append_left _ (.tail _ (.head _))
 obtain ⟨⟨us,as,⟨n,hl⟩,r,qa⟩,hz⟩:=ac
 refine KK ?_
 have mr:MR (ρ'++[(D,D)]) ([L]++Z) s'.heap D D (.lst ds):=⟨rfl,_,us,n,as,hl,rfl,rfl,rfl,rfl,r,λa ha=>⟨λm=>by
  rw [bo,List.mem_append] at m
  exact m.elim (qa a ha).1 λm=>(qa a ha).2 ((List.mem_singleton.mp m:a=D)▸hDin),λm=>(qa a ha).2 (sub a m)⟩⟩
 have H:HR (ρ'++[(D,D)]) ([L]++Z) (hp++[.lst ds]) s'.heap:=R'.hr.take hDin hDZ sub mr
 have x_1':Ext [] ρ s (ρ'++[(D,D)]) s':=⟨x_1.more.elim λe q=>⟨e++[(D,D)],by rw [q.1,List.append_assoc],λp hp=>(List.mem_append.mp hp).elim (q.2 p) λhp=>(List.mem_singleton.mp hp).symm▸fD⟩,x_1.heap,x_1.live,x_1.drawn,x_1.os,x_1.gens,x_1.bare⟩
 have R_1:SR K fx (ρ'++[(D,D)]) ([L]++Z) ⟨σ.loc,hp++[.lst ds]⟩ s':=R.extZ (x_1'.toG (G:=λ_=>False)) (λ_ h=>ck h) ⟨λm=>ck m,λ_ _ _ m=>ck m⟩ (λa h=>(List.mem_append.mp h).elim (λh=>.inr (List.mem_singleton.mp h▸fL)) .inl) (λa h=>List.mem_append_right _ (R.er.ownZ a h)) H
 have hlen:(ρ'++[(D,D)])[hp.length]?=some (D,D):=by
  rw [← R'.hr.len,List.getElem?_append_right (Nat.le_refl _),Nat.sub_self]; rfl
 have V:VR (ρ'++[(D,D)]) ([L]++Z) s'.heap (.obj hp.length) (.ref D):=⟨D,D,hlen,rfl⟩
 exact wpAny_assign_Name (R_1.store hv ok V λs_2 x_2 R_2=>k s_2 m (Ns.keep (a:=L) hn λo e=>x_2.heap L o (λq=>R_1.hr.offZ L q (List.mem_append_left _ (.head _))) hLo e) λh' kk =>
  have kw:∀b o,b∉[L]->s_2.heap.get? b=some o->h'.get? b=some o:=λb o hb e=>kk b o (λq=>hb (q▸.head _)) e
  ⟨ρ'++[(D,D)],((x_1'.weak gx).trans x_2).drop (t:=s_2.toks) (wr:=[L]) (c8 fL) kw,R_2.drop (t:=s_2.toks) (wr:=[L]) (c8 (nZ L (.head _))) offL R.er.ownZ kw,rfl⟩)
theorem Ex.assignCompT {x:Str} {i:Nat} {p p':Pos} {elt target iter:Expr} {rest:List Comprehension} {ifs:List Expr} {scope:Scope} {pos:Pos} {step:cy} {S:SF} {T:PyData->bg->Option bg} {tests:BF} {inner:CF} (ts:List Nat) (vs:List (Nat×Str))
  (hv:fx.vars.lookup i=some x) (ok:br fx x) (hsw:swapsWith (.ListComp elt (⟨target,iter,ifs,0⟩::rest) scope pos) (some (.Name x p)) p'.line fx.env=pure true)
  (chk:ij fx scope ts vs=true) (hi:EvI prog w K fx iter target step S) (ht:∀L,As prog w K (ms fx scope vs L) target T) (htests:∀L,TrAll prog w K (ms fx scope vs L) ifs tests)
  (hin:∀L D,n7 (ms fx scope vs L) [D]->D∉(ms fx scope vs L).own->CIn prog w K (ms fx scope vs L) D (.ListComp elt (⟨target,iter,ifs,0⟩::rest) scope pos) elt (⟨target,iter,ifs,0⟩::rest) 0 inner)
  (ha:((⟨target,iter,ifs,0⟩:Comprehension)::rest).all (λg=>g.is_async==0)=true:=by rfl) (hs:∀env x,foldedSetIterable iter env x=pure x:=by intro _ _; rfl) :
  Ex prog w K fx (.Assign [.Name x p] (.ListComp elt (⟨target,iter,ifs,0⟩::rest) scope pos) p') (au (Jl (du S step T tests inner ts)) (c9 i)):=.mk λA ρ Z σ s fl σ' Rm R q=>by
 refine cps λ_ KK=>?_
 obtain ⟨pv,hp,e1,e2⟩:=lz q
 refine KK ?_
 refine Gw e1 λl hp0 e0 h1 h2=>?_
 subst h1
 subst h2
 refine (exec_Assign_Name_used _ _ _ _ hsw).symm▸?_
 refine wpAny_bind (wpAny_standAt (wpAny_bind ?_))
 skip
 refine wpAny_bind (wpAny_mono (oz (Q:=λ_ s'=>PostX K fx ρ Z s .next ⟨σ.loc.set i (some (.obj hp0.length)),hp0++[.lst l]⟩ .next s') (use:=some (PySem.assign (.Name x p) fx.env)) rfl (λg hg=>by simpa using List.all_eq_true.mp ha g hg) chk hi ht htests hin hs Rm R e0 λds D L s' e C=>?_) (λ_ s' hq=>wpAny_pure (wpAny_pure (PostX.eq e2 hq))) λ_ _ e=>e)
 skip
 cases e
 exact C.storedT hv ok R λs_2 m_2 hn_2 k=>⟨m_2,hn_2,λh' sb=>k h' λb o hb e=>sb.extBut b o hb e⟩
end
theorem K5 {f:FuncData} {a:Str} (k:∀v,bindArgs f ⟨[v],[]⟩=pure [(a,v)]) (vs:List Value) (h:vs.length=[a].length):bindArgs f ⟨vs,[]⟩=pure ([a].zip vs):=(List.length_eq_one_iff.mp h).elim λv e=>e▸k v
theorem Qj {f:FuncData} {a b:Str} (k:∀v w,bindArgs f ⟨[v,w],[]⟩=pure [(a,v),(b,w)]) (vs:List Value) (h:vs.length=[a,b].length):bindArgs f ⟨vs,[]⟩=pure ([a,b].zip vs):=(List.exists_cons_of_length_eq_add_one h).elim λv q=>q.elim λt e=>(List.length_eq_one_iff.mp (Nat.succ.inj ((congrArg List.length e).symm.trans h))).elim λw e'=>e▸e'▸k v w
theorem sr {n:Str} (h:fastLookup "object" n=some none:=by kernel_rfl):typeLookup (.type "object") n=pure none:=by
 rw [typeLookup_type,builtinLookup_eq_fast,h]
theorem cj:∀j,j≤9->typeLookup (.type "object") (an j)=pure none:=le9 sr sr sr sr sr sr sr sr sr sr
noncomputable def gq (hp:List MO):Nat:=(hp.map λm=>match m with
 | .lst l=>l.length
 | _=>0).sum+2
noncomputable def Pu:Nat->Pos:=λi=>([⟨54,11,54,17⟩,⟨55,19,55,22⟩,⟨55,24,55,28⟩,⟨55,31,55,33⟩,⟨55,24,55,33⟩,⟨55,18,55,34⟩,⟨55,12,55,34⟩,⟨55,12,55,34⟩,⟨56,12,56,18⟩,⟨56,21,56,26⟩,⟨56,12,56,26⟩,⟨57,13,57,15⟩,⟨57,19,57,23⟩,⟨57,13,57,23⟩,⟨58,12,58,18⟩,⟨58,21,58,25⟩,⟨58,12,58,25⟩,⟨60,19,60,22⟩,⟨60,24,60,26⟩,⟨60,18,60,27⟩,⟨60,12,60,27⟩,⟨60,12,60,27⟩,⟨57,8,60,27⟩,⟨54,8,60,27⟩,⟨53,8,53,11⟩,⟨53,13,53,15⟩,⟨53,8,53,15⟩,⟨53,19,53,28⟩,⟨53,29,53,33⟩,⟨53,19,53,34⟩,⟨53,4,60,27⟩,⟨61,7,61,13⟩,⟨62,15,62,18⟩,⟨62,20,62,24⟩,⟨62,14,62,25⟩,⟨62,8,62,25⟩,⟨62,8,62,25⟩,⟨61,4,62,25⟩,⟨51,4,51,7⟩,⟨51,10,51,11⟩,⟨51,4,51,11⟩,⟨52,4,52,10⟩,⟨52,13,52,18⟩,⟨52,4,52,18⟩]:List Pos)[i]?.getD ⟨0,0,0,0⟩
abbrev G3 (s:Stmt) (a:Addr) (vs:List (Nat×Str)) (k:Nat):={ B:XF//∀{prog:Program} {w:World} {K:Addr->Option Obj} {mg mb:Str->Option Value},Tab K mg mb->∀q pm c doc L,Exs prog w K (pw (mz s q pm c doc) a vs k L) (Stmt.bodyOf s) B }
theorem nm {prog:Program} {w:World} {K:Addr->Option Obj} {fx:Fx} (i:Nat) {x:Str} {pos:Pos} (hv:fx.vars.lookup i=some x:=by rfl) (hd:(x==("__debug__":Str))=false:=by decide) (hd':(x==("__classdict__":Str))=false:=by decide):Ev prog w K fx (.Name x pos) (aa i):=.name hv hd hd'
theorem sv {prog:Program} {w:World} {K:Addr->Option Obj} {fx:Fx} (l:List Nat) {x k pos} (hl:x=⟨⟨l⟩⟩:=by kernel_rfl) (ho:PyData.strOk x=true:=by kernel_rfl):Ev prog w K fx (.Constant (.str x) k pos) (λσ=>some (.dat (.str ⟨⟨l⟩⟩),σ.hp)):=.str hl ho
theorem lp {env:Env} {o:Expr} {name:Str} {apos pos:Pos} {args:List Expr} (h:(apos.endLine==pos.line)=true:=by kernel_rfl) (hf:methodCallForm (args.length+0) (backTo pos (starEach args env)) []=true:=by kernel_rfl) (hb:attributeBase o name env (eval o env)=eval o env:=by kernel_rfl):MC env o name apos args pos:=.of_pos h hf hb
theorem nb {a b:Nat} (h:Nat.ble a b=true:=by rfl):a≤b:=Nat.le_of_ble_eq_true h
noncomputable def X_strip_quoted_realnames:G3 (en 6) 94 [(0,("addr":Str)),(1,("start":Str)),(2,("open_pos":Str)),(3,("result":Str)),(4,("pos":Str)),(5,("ch":Str))] 3:=⟨_,λT q pm c doc L =>
 (Exs.cons (Ex.if_ (Tr.cmp (sv [34]) (nm 0) (hk:=nb))
 (Exs.cons (Ex.ret (nm 0)) Exs.nil) Exs.nil)
 (Exs.cons (Ex.assign (i:=1) rfl (.inl (by kernel_rfl)) Ev.int (by kernel_rfl))
 (Exs.cons (Ex.assign (i:=2) rfl (.inl (by kernel_rfl)) Ev.none_ (by kernel_rfl))
 (Exs.cons (Ex.assign (i:=3) rfl (.inl (by kernel_rfl)) (EvN.list .nil).trk (by kernel_rfl))
 (Exs.cons (Ex.for_ (EvI.genAt T.gl (P:=Pu) (k:=1) T.f_iter_escaped_chars rfl (λ_ _ _ _ _=>rfl) rfl rfl rfl (by kernel_rfl) (by kernel_rfl) (by kernel_rfl) (by kernel_rfl) (by kernel_rfl) (by kernel_rfl) T.n_enumerate T.b_enumerate nb (EvL.cons (nm 0) EvL.nil) (.inr ⟨_,_,_,rfl⟩) nb (by kernel_rfl) T.g_iter_escaped_chars) (As.tup2 (i:=4) (j:=5) rfl (.inl (by kernel_rfl)) rfl (.inl (by kernel_rfl)))
 (Exs.cons (Ex.if_ (Tr.cmp (nm 5) (sv [34]) (hk:=nb))
 (Exs.cons (Ex.if_ (Tr.cmp (nm 2) Ev.none_ (hk:=nb))
 (Exs.cons (Ex.assign (i:=2) rfl (.inl (by kernel_rfl)) (nm 4) (by kernel_rfl)) Exs.nil)
 (Exs.cons (Ex.if_ (Tr.cmp (nm 1) (nm 2) (hk:=nb))
 (Exs.cons (Ex.expr (Ev.append (nm 3) (EvN.slice (nm 0) (EvP.some_ (nm 1)) (EvP.some_ (nm 2)) EvP.none_).dat lp) (by kernel_rfl) (by kernel_rfl)) Exs.nil) Exs.nil)
 (Exs.cons (Ex.assign (i:=1) rfl (.inl (by kernel_rfl)) (EvN.bin (nm 4) Ev.int).dat (by kernel_rfl))
 (Exs.cons (Ex.assign (i:=2) rfl (.inl (by kernel_rfl)) Ev.none_ (by kernel_rfl)) Exs.nil)))) Exs.nil) Exs.nil) Exs.nil))
 (Exs.cons (Ex.if_ (Tr.cmp (nm 1) (EvN.call1 T.gl .len (nm 0) (by kernel_rfl) T.n_len T.b_len).dat (hk:=nb))
 (Exs.cons (Ex.expr (Ev.append (nm 3) (EvN.slice (nm 0) (EvP.some_ (nm 1)) EvP.none_ EvP.none_).dat lp) (by kernel_rfl) (by kernel_rfl)) Exs.nil) Exs.nil)
 (Exs.cons (Ex.ret (EvN.meth1 .join (sv []) (nm 3) lp).dat) Exs.nil)))))))⟩
noncomputable def ce:FnF:=uf (kq 1 5 false X_strip_quoted_realnames.1)
theorem ie {prog:Program} {w:World} {K:Addr->Option Obj} {mg mb:Str->Option Value} (T:Tab K mg mb):FnC prog w K 94 4 ce :=
 FnC.pure (T.f_strip_quoted_realnames.ok T.gl (names:=[("addr":Str)]) false (λq pm c doc vs h=>K5 (λ_=>by kernel_rfl) vs h) (by kernel_rfl) (X_strip_quoted_realnames.2 T))
noncomputable def X_check_parenthesis:G3 (en 7) 101 [(0,("addr":Str)),(1,("opens":Str)),(2,("pos":Str)),(3,("ch":Str))] 5:=⟨_,λT q pm c doc L =>
 (Exs.cons (Ex.assign (i:=0) rfl (.inl (by kernel_rfl)) (Ev.callAt T.gl T.f_strip_quoted_realnames (EvL.cons (nm 0) EvL.nil) (ie T) nb (by kernel_rfl) T.g_strip_quoted_realnames) (by kernel_rfl))
 (Exs.cons (Ex.assign (i:=1) rfl (.inl (by kernel_rfl)) Ev.int (by kernel_rfl))
 (Exs.cons (Ex.for_ (EvI.genAt T.gl (P:=Pu) (k:=1) T.f_iter_escaped_chars rfl (λ_ _ _ _ _=>rfl) rfl rfl rfl (by kernel_rfl) (by kernel_rfl) (by kernel_rfl) (by kernel_rfl) (by kernel_rfl) (by kernel_rfl) T.n_enumerate T.b_enumerate nb (EvL.cons (nm 0) EvL.nil) (.inr ⟨_,_,_,rfl⟩) nb (by kernel_rfl) T.g_iter_escaped_chars) (As.tup2 (i:=2) (j:=3) rfl (.inl (by kernel_rfl)) rfl (.inl (by kernel_rfl)))
 (Exs.cons (Ex.if_ (Tr.cmp (nm 3) (sv [40]) (hk:=nb))
 (Exs.cons (Ex.aug (i:=1) rfl (.inl (by kernel_rfl)) Ev.int) Exs.nil)
 (Exs.cons (Ex.if_ (Tr.cmp (nm 3) (sv [41]) (hk:=nb))
 (Exs.cons (Ex.aug (i:=1) rfl (.inl (by kernel_rfl)) Ev.int)
 (Exs.cons (Ex.if_ (Tr.cmp (nm 1) Ev.int (hk:=nb))
 (Exs.cons (Ex.ret Ev.bool) Exs.nil) Exs.nil) Exs.nil)) Exs.nil) Exs.nil)) Exs.nil))
 (Exs.cons (Ex.ret (EvN.cmp (nm 1) Ev.int (hk:=nb)).dat) Exs.nil))))⟩
noncomputable def a8:FnF:=uf (kq 1 3 false X_check_parenthesis.1)
theorem dc {prog:Program} {w:World} {K:Addr->Option Obj} {mg mb:Str->Option Value} (T:Tab K mg mb):FnC prog w K 101 6 a8 :=
 FnC.pure (T.f_check_parenthesis.ok T.gl (names:=[("addr":Str)]) false (λq pm c doc vs h=>K5 (λ_=>by kernel_rfl) vs h) (by kernel_rfl) (X_check_parenthesis.2 T))
noncomputable def X_quotedata:G3 (en 12) 118 [(0,("data":Str))] 2:=⟨_,λT q pm c doc L =>
 (Exs.cons (Ex.ret (EvN.reSub T.gl Li T.p_re1 (by kernel_rfl) T.g_re1 (sv [46,46]) (EvN.reSub T.gl L9 T.p_re2 (by kernel_rfl) T.g_re2 (Ev.globStr T.gl (l:=[13,10]) (by kernel_rfl) T.g_CRLF (by kernel_rfl) (by kernel_rfl)) (nm 0) lp).dat lp).dat) Exs.nil)⟩
noncomputable def j9:FnF:=uf (kq 1 0 false X_quotedata.1)
theorem wx {prog:Program} {w:World} {K:Addr->Option Obj} {mg mb:Str->Option Value} (T:Tab K mg mb):FnC prog w K 118 3 j9 :=
 FnC.pure (T.f_quotedata.ok T.gl (names:=[("data":Str)]) false (λq pm c doc vs h=>K5 (λ_=>by kernel_rfl) vs h) (by kernel_rfl) (X_quotedata.2 T))
noncomputable def X_law_row:G3 (en 17) 198 [(0,("numbers":Str)),(1,("things":Str)),(2,("row":Str)),(3,("waits":Str)),(4,("within":Str)),(5,("pile":Str)),(6,("k":Str)),(7,("name":Str)),(8,("shut":Str))] 3:=⟨_,λT q pm c doc L =>
 (Exs.cons (Ex.assign (i:=1) rfl (.inl (by kernel_rfl)) (EvN.list (EvL.cons (sv []) (EvL.cons (sv [92,40]) (EvL.cons (sv [92,41]) (EvL.cons (sv [92,92]) (EvL.cons (sv [34,41,34]) (EvL.cons (sv [92,34]) EvL.nil))))))).dat (by kernel_rfl))
 (Exs.cons (Ex.tup (ts:=[(2,("row":Str),_),(3,("waits":Str),_),(4,("within":Str),_),(5,("pile":Str),_)]) (λ_=>⟨rfl,(.inl (by kernel_rfl)),⟨rfl,(.inl (by kernel_rfl)),⟨rfl,(.inl (by kernel_rfl)),⟨rfl,(.inl (by kernel_rfl)),True.intro⟩⟩⟩⟩) (EvL.cons (EvN.list .nil).trk (EvL.cons (EvN.list .nil).trk (EvL.cons (EvN.bin (EvN.list (EvL.cons Ev.int EvL.nil)).dat Ev.int).trk (EvL.cons (EvN.list .nil).trk EvL.nil)))) (by kernel_rfl) (by kernel_rfl))
 (Exs.cons (Ex.for_ (EvI.range T.gl (.inl ⟨_,_,rfl⟩) (EvL.cons Ev.int EvL.nil) (by kernel_rfl) T.n_range T.b_range) (As.name (i:=6) rfl (.inl (by kernel_rfl)))
 (Exs.cons (Ex.expr (Ev.append (nm 3) (EvN.call1 T.gl .len (nm 5) (by kernel_rfl) T.n_len T.b_len).dat lp) (by kernel_rfl) (by kernel_rfl))
 (Exs.cons (Ex.for_ (EvI.seq (.inl ⟨_,_,rfl⟩) (nm 5)) (As.name (i:=7) rfl (.inl (by kernel_rfl)))
 (Exs.cons (Ex.setItem (EvN.bin (Ev.sub (nm 4) (nm 7)) Ev.int).dat (nm 4) (nm 7) (by kernel_rfl)) Exs.nil))
 (Exs.cons (Ex.expr (Ev.append (nm 5) (nm 6) lp) (by kernel_rfl) (by kernel_rfl))
 (Exs.cons (Ex.expr (Ev.append (nm 2) (EvN.bin (Ev.sub (nm 1) (EvN.bin (EvN.bin (Ev.sub (nm 0) (nm 6)) Ev.int).dat Ev.int).dat) (sv [40])).dat lp) (by kernel_rfl) (by kernel_rfl))
 (Exs.cons (Ex.for_ (EvI.range T.gl (.inl ⟨_,_,rfl⟩) (EvL.cons (Ev.ife (Tr.cmp (nm 6) Ev.int (hk:=nb)) (EvN.bin (Ev.sub (nm 0) (nm 6)) (EvN.bin (EvN.call1 T.gl .len (nm 5) (by kernel_rfl) T.n_len T.b_len).dat Ev.int).dat).dat (EvN.call1 T.gl .len (nm 5) (by kernel_rfl) T.n_len T.b_len).dat) EvL.nil) (by kernel_rfl) T.n_range T.b_range) (As.name (i:=8) rfl (.inl (by kernel_rfl)))
 (Exs.cons (Ex.expr (Ev.append (nm 2) (EvN.bin (Ev.sub (nm 1) (EvN.bin (EvN.bin (EvN.bin (Ev.sub (nm 0) (nm 6)) Ev.int).dat (nm 8)).dat Ev.int).dat) (sv [41])).dat lp) (by kernel_rfl) (by kernel_rfl))
 (Exs.cons (Ex.exprS (Ev.pop (nm 5) lp) (by kernel_rfl) (by kernel_rfl)) Exs.nil))) Exs.nil))))))
 (Exs.cons (Ex.ret (Ev.objTuple (EvL.cons (nm 2) (EvL.cons (nm 3) (EvL.cons (nm 4) EvL.nil))))) Exs.nil))))⟩
noncomputable def kt:FnF:=Eo (kq 1 8 true X_law_row.1)
theorem Ba {prog:Program} {w:World} {K:Addr->Option Obj} {mg mb:Str->Option Value} (T:Tab K mg mb):FnC prog w K 198 4 kt :=
 FnC.frz (T.f_law_row.ok T.gl (names:=[("numbers":Str)]) true (λq pm c doc vs h=>K5 (λ_=>by kernel_rfl) vs h) (by kernel_rfl) (X_law_row.2 T))
noncomputable def X_L_init:G3 (Fc 3 0) 52 [(0,("self":Str)),(1,("fp":Str))] 1:=⟨_,λT q pm c doc L =>
 (Exs.cons (Ex.setAttr T.cL (j:=1) (by kernel_rfl) (T.aL 1 nb) (cj 1 nb) (nm 0) Ev.int (by kernel_rfl))
 (Exs.cons (Ex.setAttr T.cL (j:=0) (by kernel_rfl) (T.aL 0 nb) (cj 0 nb) (nm 0) (nm 1) (by kernel_rfl))
 (Exs.cons (Ex.setAttr T.cL (j:=2) (by kernel_rfl) (T.aL 2 nb) (cj 2 nb) (nm 0) (sv [10,9,13,32]) (by kernel_rfl))
 (Exs.cons (Ex.setAttr T.cL (j:=3) (by kernel_rfl) (T.aL 3 nb) (cj 3 nb) (nm 0) (EvN.list .nil).trk (by kernel_rfl)) Exs.nil))))⟩
noncomputable def H8:FnF:=kq 2 0 true X_L_init.1
theorem E7 {prog:Program} {w:World} {K:Addr->Option Obj} {mg mb:Str->Option Value} (T:Tab K mg mb):FnC prog w K 52 2 H8 :=
 T.fL_init.ok T.gl (names:=[("self":Str),("fp":Str)]) true (λq pm c doc vs h=>Qj (λ_ _=>by kernel_rfl) vs h) (by kernel_rfl) (X_L_init.2 T)
noncomputable def X_L_read_char:G3 (Fc 3 1) 59 [(0,("self":Str)),(1,("ch":Str))] 3:=⟨_,λT q pm c doc L =>
 (Exs.cons (Ex.assign (i:=1) rfl (.inl (by kernel_rfl)) (Ev.strmRead T.gl (Ev.attr T.cL (j:=0) (by kernel_rfl) (T.aL 0 nb) (cj 0 nb) (nm 0)) lp nb) (by kernel_rfl))
 (Exs.cons (Ex.if_ (Tr.cmp (nm 1) (sv [10]) (hk:=nb))
 (Exs.cons (Ex.augAttr T.cL (j:=1) (by kernel_rfl) (T.aL 1 nb) (cj 1 nb) (nm 0) Ev.int) Exs.nil) Exs.nil)
 (Exs.cons (Ex.ret (nm 1)) Exs.nil)))⟩
noncomputable def bd:FnF:=kq 1 1 false X_L_read_char.1
theorem ci {prog:Program} {w:World} {K:Addr->Option Obj} {mg mb:Str->Option Value} (T:Tab K mg mb):FnC prog w K 59 4 bd :=
 T.fL_read_char.ok T.gl (names:=[("self":Str)]) false (λq pm c doc vs h=>K5 (λ_=>by kernel_rfl) vs h) (by kernel_rfl) (X_L_read_char.2 T)
noncomputable def X_L_get_token:G3 (Fc 3 2) 66 [(0,("self":Str)),(1,("token":Str)),(2,("fiter":Str)),(3,("ch":Str))] 6:=⟨_,λT q pm c doc L =>
 (Exs.cons (Ex.if_ (Tr.val (Ev.attr T.cL (j:=3) (by kernel_rfl) (T.aL 3 nb) (cj 3 nb) (nm 0)))
 (Exs.cons (Ex.ret (Ev.pop0 (Ev.attr T.cL (j:=3) (by kernel_rfl) (T.aL 3 nb) (cj 3 nb) (nm 0)) lp)) Exs.nil) Exs.nil)
 (Exs.cons (Ex.assign (i:=1) rfl (.inl (by kernel_rfl)) (sv []) (by kernel_rfl))
 (Exs.cons (Ex.assign (i:=2) rfl (.inl (by kernel_rfl)) (Ev.iterCitAt T.gl T.cL T.fL_read_char T.mL_read_char sr (by kernel_rfl) (nm 0) (by kernel_rfl) T.n_iter T.b_iter) (by kernel_rfl))
 (Exs.cons (Ex.for_ (EvI.citAt (.inl ⟨_,_,rfl⟩) (nm 2) T.fL_read_char (ci T) nb gq) (As.name (i:=3) rfl (.inl (by kernel_rfl)))
 (Exs.cons (Ex.if_ (Tr.cmp (nm 3) (Ev.attr T.cL (j:=2) (by kernel_rfl) (T.aL 2 nb) (cj 2 nb) (nm 0)) (hk:=nb))
 (Exs.cons
 Ex.cont Exs.nil) Exs.nil)
 (Exs.cons (Ex.if_ (Tr.cmp (nm 3) (sv [34]) (hk:=nb))
 (Exs.cons (Ex.for_ (EvI.citAt (.inl ⟨_,_,rfl⟩) (nm 2) T.fL_read_char (ci T) nb gq) (As.name (i:=3) rfl (.inl (by kernel_rfl)))
 (Exs.cons (Ex.if_ (Tr.cmp (nm 3) (sv [34]) (hk:=nb))
 (Exs.cons (Ex.ret (nm 1)) Exs.nil)
 (Exs.cons (Ex.if_ (Tr.cmp (nm 3) (sv [92]) (hk:=nb))
 (Exs.cons (Ex.assign (i:=3) rfl (.inl (by kernel_rfl)) (Ev.meth0At T.cL T.fL_read_char T.mL_read_char sr (nm 0) (ci T) nb lp) (by kernel_rfl)) Exs.nil) Exs.nil) Exs.nil))
 (Exs.cons (Ex.aug (i:=1) rfl (.inl (by kernel_rfl)) (nm 3)) Exs.nil))) Exs.nil)
 (Exs.cons (Ex.if_ (Tr.cmp (nm 3) (sv [92]) (hk:=nb))
 (Exs.cons (Ex.assign (i:=3) rfl (.inl (by kernel_rfl)) (Ev.meth0At T.cL T.fL_read_char T.mL_read_char sr (nm 0) (ci T) nb lp) (by kernel_rfl)) Exs.nil) Exs.nil)
 (Exs.cons (Ex.aug (i:=1) rfl (.inl (by kernel_rfl)) (nm 3))
 (Exs.cons (Ex.for_ (EvI.citAt (.inl ⟨_,_,rfl⟩) (nm 2) T.fL_read_char (ci T) nb gq) (As.name (i:=3) rfl (.inl (by kernel_rfl)))
 (Exs.cons (Ex.if_ (Tr.cmp (nm 3) (Ev.attr T.cL (j:=2) (by kernel_rfl) (T.aL 2 nb) (cj 2 nb) (nm 0)) (hk:=nb))
 (Exs.cons (Ex.ret (nm 1)) Exs.nil)
 (Exs.cons (Ex.if_ (Tr.cmp (nm 3) (sv [92]) (hk:=nb))
 (Exs.cons (Ex.assign (i:=3) rfl (.inl (by kernel_rfl)) (Ev.meth0At T.cL T.fL_read_char T.mL_read_char sr (nm 0) (ci T) nb lp) (by kernel_rfl)) Exs.nil) Exs.nil) Exs.nil))
 (Exs.cons (Ex.aug (i:=1) rfl (.inl (by kernel_rfl)) (nm 3)) Exs.nil))) Exs.nil)))) Exs.nil)))
 (Exs.cons (Ex.ret (nm 1)) Exs.nil)))))⟩
noncomputable def b3:FnF:=kq 1 3 false X_L_get_token.1
theorem dz {prog:Program} {w:World} {K:Addr->Option Obj} {mg mb:Str->Option Value} (T:Tab K mg mb):FnC prog w K 66 7 b3 :=
 T.fL_get_token.ok T.gl (names:=[("self":Str)]) false (λq pm c doc vs h=>K5 (λ_=>by kernel_rfl) vs h) (by kernel_rfl) (X_L_get_token.2 T)
noncomputable def X_L_push_token:G3 (Fc 3 3) 73 [(0,("self":Str)),(1,("token":Str))] 1:=⟨_,λT q pm c doc L =>
 (Exs.cons (Ex.expr (Ev.append (Ev.attr T.cL (j:=3) (by kernel_rfl) (T.aL 3 nb) (cj 3 nb) (nm 0)) (nm 1) lp) (by kernel_rfl) (by kernel_rfl)) Exs.nil)⟩
noncomputable def d8:FnF:=kq 2 0 false X_L_push_token.1
theorem gj {prog:Program} {w:World} {K:Addr->Option Obj} {mg mb:Str->Option Value} (T:Tab K mg mb):FnC prog w K 73 2 d8 :=
 T.fL_push_token.ok T.gl (names:=[("self":Str),("token":Str)]) false (λq pm c doc vs h=>Qj (λ_ _=>by kernel_rfl) vs h) (by kernel_rfl) (X_L_push_token.2 T)
noncomputable def Rg:Nat->Pos:=λi=>([⟨147,31,147,36⟩,⟨147,15,147,20⟩,⟨147,15,147,24⟩,⟨147,25,147,26⟩,⟨147,15,147,27⟩,⟨147,42,147,44⟩,⟨147,15,147,44⟩,⟨147,8,147,44⟩]:List Pos)[i]?.getD ⟨0,0,0,0⟩
theorem Nk {vs:List (Nat×Str)} {x:Str} (h:vs.all (λp=>p.2 != x)=true):∀i,vs.lookup i≠some x:=λi e=>by
 have:=List.all_eq_true.mp h _ (b5 e)
 simp at this
noncomputable def X_law_lexer:{ B:XF//∀{prog:Program} {w:World} {K:Addr->Option Obj} {mg mb:Str->Option Value},Tab K mg mb->∀q pm doc L,ExsFin prog w K (pw (mz (en 16) q pm (.ref 190) doc) 191 [(0,("text":Str)),(1,("signs":Str)),(2,("stream":Str))] 5 L) (Stmt.bodyOf (en 16)) B }:=⟨_,λT q pm doc L =>
 ExsFin.cons (Ex.assign (i:=1) rfl (iv (by kernel_rfl) rfl) (EvN.call1 T.gl .list (nm 0) (by kernel_rfl) T.n_list T.b_list).trk (by kernel_rfl))
 (ExsFin.stream T.gl (iS:=1) (iT:=2) (tb:=0) (P0:=186) (c0:=190) (cS:=L+1) (P:=Rg) rfl rfl (Nk (by kernel_rfl)) (by kernel_rfl) (by kernel_rfl) (by kernel_rfl) (by kernel_rfl) rfl
 (by
  have h:(pw (mz (en 16) q pm (.ref 190) doc) 191 [(0,("text":Str)),(1,("signs":Str)),(2,("stream":Str))] 5 L).own=[L,L+1]:=by kernel_rfl
  rw [h]; simp) T.hC T.hB (by decide)
 (Exs.cons (Ex.ret (Ev.newAt T.gl T.cL T.fL_init T.mL_init (EvL.cons (nm 2) EvL.nil) (E7 T) nb (by kernel_rfl) T.g_netrclex)) Exs.nil)
 (λ_=>by kernel_rfl) (by kernel_rfl) (by kernel_rfl) (by kernel_rfl) (by kernel_rfl))⟩
noncomputable def j4:FnF:=kq 1 2 true X_law_lexer.1
theorem xt {prog:Program} {w:World} {K:Addr->Option Obj} {mg mb:Str->Option Value} (T:Tab K mg mb):FnC prog w K 191 6 j4:=by
 obtain ⟨o,q,pm,doc,h1,h2,h3,h4⟩:=T.fc_law_lexer
 exact FnC.of_bodyF (names:=[("text":Str)]) true T.gl h1 h3 rfl h4 (λvs h=>K5 (λ_=>by kernel_rfl) vs h) rfl rfl rfl (by kernel_rfl) (X_law_lexer.2 T q pm doc)
noncomputable def X_W_init:G3 (Fc 14 1) 135 [(0,("self":Str)),(1,("ws":Str)),(2,("S":Str)),(3,("T":Str)),(4,("count":Str)),(5,("b":Str)),(6,("n":Str)),(7,("nt":Str)),(8,("ch":Str))] 3:=⟨_,λT q pm c doc L =>
 (Exs.cons (Ex.setAttr T.cW (j:=4) (by kernel_rfl) (T.aW 4 nb) (cj 4 nb) (nm 0) (nm 1) (by kernel_rfl))
 (Exs.cons (Ex.tupR (ts:=[(2,("S":Str),_),(3,("T":Str),_)]) (λ_=>⟨rfl,(.inl (by kernel_rfl)),⟨rfl,(.inl (by kernel_rfl)),True.intro⟩⟩) (EvL.cons (Ev.clsStr T.gl (l:=[32]) T.cX T.cR T.c_S (by kernel_rfl) (by kernel_rfl) (by kernel_rfl) T.g_Whitespace) (EvL.cons (Ev.clsStr T.gl (l:=[9]) T.cX T.cR T.c_T (by kernel_rfl) (by kernel_rfl) (by kernel_rfl) T.g_Whitespace) EvL.nil)) (by kernel_rfl) (by kernel_rfl))
 (Exs.cons (Ex.assign (i:=4) rfl (.inl (by kernel_rfl)) (EvN.list .nil).trk (by kernel_rfl))
 (Exs.cons (Ex.chain3 (i:=5) (j:=6) (k:=7) rfl (.inl (by kernel_rfl)) rfl (.inl (by kernel_rfl)) rfl (.inl (by kernel_rfl)) Ev.int)
 (Exs.cons (Ex.for_ (EvI.seq (.inl ⟨_,_,rfl⟩) (Ev.attr T.cW (j:=4) (by kernel_rfl) (T.aW 4 nb) (cj 4 nb) (nm 0))) (As.name (i:=8) rfl (.inl (by kernel_rfl)))
 (Exs.cons (Ex.if_ (Tr.cmp (nm 8) (nm 2) (hk:=nb))
 (Exs.cons (Ex.assign (i:=6) rfl (.inl (by kernel_rfl)) (EvN.bin (nm 6) Ev.int).dat (by kernel_rfl))
 (Exs.cons (Ex.assign (i:=5) rfl (.inl (by kernel_rfl)) (EvN.bin (nm 5) Ev.int).dat (by kernel_rfl)) Exs.nil))
 (Exs.cons (Ex.if_ (Tr.cmp (nm 8) (nm 3) (hk:=nb))
 (Exs.cons (Ex.assign (i:=6) rfl (.inl (by kernel_rfl)) (EvN.bin (nm 6) Ev.int).dat (by kernel_rfl))
 (Exs.cons (Ex.assign (i:=7) rfl (.inl (by kernel_rfl)) (EvN.bin (nm 7) Ev.int).dat (by kernel_rfl))
 (Exs.cons (Ex.if_ (Tr.cmp (nm 5) (EvN.call1 T.gl .len (nm 4) (by kernel_rfl) T.n_len T.b_len).dat (hk:=nb))
 (Exs.cons (Ex.assign (i:=4) rfl (.inl (by kernel_rfl)) (EvN.bin (nm 4) (EvN.bin (EvN.list (EvL.cons Ev.int EvL.nil)).dat (EvN.bin (EvN.bin (nm 5) (EvN.call1 T.gl .len (nm 4) (by kernel_rfl) T.n_len T.b_len).dat).dat Ev.int).dat).dat).trk (by kernel_rfl)) Exs.nil) Exs.nil)
 (Exs.cons (Ex.setItem (EvN.bin (Ev.sub (nm 4) (nm 5)) Ev.int).dat (nm 4) (nm 5) (by kernel_rfl))
 (Exs.cons (Ex.assign (i:=5) rfl (.inl (by kernel_rfl)) Ev.int (by kernel_rfl)) Exs.nil)))))
 (Exs.cons
 Ex.brk Exs.nil)) Exs.nil)) Exs.nil))
 (Exs.cons (Ex.setAttr T.cW (j:=5) (by kernel_rfl) (T.aW 5 nb) (cj 5 nb) (nm 0) (nm 6) (by kernel_rfl))
 (Exs.cons (Ex.setAttr T.cW (j:=6) (by kernel_rfl) (T.aW 6 nb) (cj 6 nb) (nm 0) (nm 7) (by kernel_rfl))
 (Exs.cons (Ex.setAttr T.cW (j:=7) (by kernel_rfl) (T.aW 7 nb) (cj 7 nb) (nm 0) (EvN.tuple (EvL.cons (EvN.call1 T.gl .tuple (nm 4) (by kernel_rfl) T.n_tuple T.b_tuple).dat (EvL.cons (nm 5) EvL.nil))).dat (by kernel_rfl))
 (Exs.cons (Ex.setAttr T.cW (j:=8) (by kernel_rfl) (T.aW 8 nb) (cj 8 nb) (nm 0) (EvN.cmp (EvN.call1 T.gl .len (nm 4) (by kernel_rfl) T.n_len T.b_len).dat Ev.int (hk:=nb)).dat (by kernel_rfl)) Exs.nil)))))))))⟩
noncomputable def nv:FnF:=kq 2 7 false X_W_init.1
theorem E2 {prog:Program} {w:World} {K:Addr->Option Obj} {mg mb:Str->Option Value} (T:Tab K mg mb):FnC prog w K 135 4 nv :=
 T.fW_init.ok T.gl (names:=[("self":Str),("ws":Str)]) false (λq pm c doc vs h=>Qj (λ_ _=>by kernel_rfl) vs h) (by kernel_rfl) (X_W_init.2 T)
noncomputable def X_W_equal:G3 (Fc 14 4) 156 [(0,("self":Str)),(1,("other":Str))] 2:=⟨_,λT q pm c doc L =>
 (Exs.cons (Ex.ret (EvN.cmp (Ev.attr T.cW (j:=7) (by kernel_rfl) (T.aW 7 nb) (cj 7 nb) (nm 0)) (Ev.attr T.cW (j:=7) (by kernel_rfl) (T.aW 7 nb) (cj 7 nb) (nm 1)) (hk:=nb)).dat) Exs.nil)⟩
noncomputable def k9:FnF:=kq 2 0 false X_W_equal.1
theorem td {prog:Program} {w:World} {K:Addr->Option Obj} {mg mb:Str->Option Value} (T:Tab K mg mb):FnC prog w K 156 3 k9 :=
 T.fW_equal.ok T.gl (names:=[("self":Str),("other":Str)]) false (λq pm c doc vs h=>Qj (λ_ _=>by kernel_rfl) vs h) (by kernel_rfl) (X_W_equal.2 T)
noncomputable def X_law_lead:G3 (en 18) 203 [(0,("runs":Str))] 5:=⟨_,λT q pm c doc L =>
 (Exs.cons (Ex.ret (Ev.newAt T.gl T.cW T.fW_init T.mW_init (EvL.cons (EvN.meth1 .join (sv []) (Ev.comp [1] [(1,("run":Str))] (by kernel_rfl) (EvI.seq (.inl ⟨_,_,rfl⟩) (nm 0)) (λL=>(As.name (i:=1) rfl (.inl (by kernel_rfl)))) (λL=>TrAll.nil) (λL D hD hDo=>(CIn.emit rfl (EvN.bin (EvN.bin (sv [32]) (nm 1)).dat (sv [9])).dat hD hDo))) lp).dat EvL.nil) (E2 T) nb (by kernel_rfl) T.g_Whitespace)) Exs.nil)⟩
noncomputable def bv:FnF:=kq 1 1 true X_law_lead.1
theorem fy {prog:Program} {w:World} {K:Addr->Option Obj} {mg mb:Str->Option Value} (T:Tab K mg mb):FnC prog w K 203 6 bv :=
 T.f_law_lead.ok T.gl (names:=[("runs":Str)]) true (λq pm c doc vs h=>K5 (λ_=>by kernel_rfl) vs h) (by kernel_rfl) (X_law_lead.2 T)
set_option maxHeartbeats 4000000
noncomputable def yu:List (Nat×Str):=[(0,("script":Str)),(1,("numbers":Str)),(2,("row":Str)),(3,("waits":Str)),(4,("within":Str)),(5,("text":Str)),(6,("k":Str)),(7,("name":Str)),(8,("lexer":Str)),(9,("early":Str)),(10,("token":Str)),(11,("tokens":Str)),(12,("front":Str)),(13,("words":Str)),(14,("born":Str)),(15,("many":Str)),(16,("piece":Str)),(17,("verdict":Str)),(18,("small":Str)),(19,("great":Str)),(20,("place":Str)),(21,("mail":Str)),(22,("pairs":Str)),(23,("told":Str)),(24,("heard":Str))]
noncomputable def bc (l:List Stmt) (i:Nat):Stmt:=l[i]?.getD (.Pass ⟨0,0,0,0⟩)
noncomputable def fw:Stmt->List Stmt
 | .For _ _ b _ _=>b
 | _=>[]
noncomputable def J0:Stmt->List Stmt
 | .If _ b _ _=>b
 | _=>[]
noncomputable def Su:Stmt->List Stmt
 | .If _ _ b _=>b
 | _=>[]
abbrev TX (s:Stmt):={ B:XF//∀{prog:Program} {w:World} {K:Addr->Option Obj} {mg mb:Str->Option Value},Tab K mg mb->∀q pm c doc L,Ex prog w K (pw (mz (en 19) q pm c doc) 208 yu 8 L) s B }
noncomputable def X_law_0:TX (bc (Stmt.bodyOf (en 19)) 0):=⟨_,λT q pm c doc L=>(Ex.assignCompT (i:=1) [25,26] [(25,("k":Str)),(26,("begin":Str)),(0,("script":Str))] rfl (.inl (by kernel_rfl)) (by kernel_rfl) (by kernel_rfl) (EvI.enum T.gl (EvN.list (EvL.cons Ev.int (EvL.cons Ev.int (EvL.cons Ev.int (EvL.cons Ev.int (EvL.cons Ev.int EvL.nil)))))).dat (by kernel_rfl) T.n_enumerate T.b_enumerate) (λL=>(As.tup2 (i:=25) (j:=26) rfl (.inl (by kernel_rfl)) rfl (.inl (by kernel_rfl)))) (λL=>TrAll.nil) (λL D hD hDo=>(CIn.emit rfl (EvN.bin (EvN.bin (nm 26) (EvN.call1 T.gl .sum (EvN.slice (nm 0) (EvP.some_ (nm 25)) EvP.none_ (EvP.some_ Ev.int)).dat (by kernel_rfl) T.n_sum T.b_sum).dat).dat (EvN.bin Ev.int Ev.int).dat).dat hD hDo)))⟩
noncomputable def X_law_1:TX (bc (Stmt.bodyOf (en 19)) 1):=⟨_,λT q pm c doc L=>(Ex.assignT (As.tup3 (i:=2) (j:=3) (k:=4) rfl (.inl (by kernel_rfl)) rfl (iv (by kernel_rfl) rfl) rfl (.inl (by kernel_rfl))) (Ev.callAt T.gl T.f_law_row (EvL.cons (nm 1) EvL.nil) (Ba T) nb (by kernel_rfl) T.g_law_row) (by kernel_rfl) (by kernel_rfl))⟩
noncomputable def X_law_2:TX (bc (Stmt.bodyOf (en 19)) 2):=⟨_,λT q pm c doc L=>(Ex.assign (i:=5) rfl (.inl (by kernel_rfl)) (sv []) (by kernel_rfl))⟩
noncomputable def X_law_3_0:TX (bc (fw (bc (Stmt.bodyOf (en 19)) 3)) 0):=⟨_,λT q pm c doc L=>(Ex.assign (i:=5) rfl (.inl (by kernel_rfl)) (EvN.bin (nm 5) (Ev.sub (EvN.list (EvL.cons (EvN.bin (EvN.bin (sv [34]) (nm 7)).dat (sv [34])).dat (EvL.cons (EvN.bin (sv [92]) (nm 7)).dat (EvL.cons (nm 7) EvL.nil)))).dat (EvN.bin (EvN.bin (Ev.sub (nm 1) (nm 6)) Ev.int).dat Ev.int).dat)).dat (by kernel_rfl))⟩
noncomputable def X_law_3_1:TX (bc (fw (bc (Stmt.bodyOf (en 19)) 3)) 1):=⟨_,λT q pm c doc L=>(Ex.assign (i:=5) rfl (.inl (by kernel_rfl)) (EvN.bin (nm 5) (Ev.sub (sv [10,9,13,32]) (EvN.bin (EvN.bin (Ev.sub (nm 1) (nm 6)) Ev.int).dat Ev.int).dat)).dat (by kernel_rfl))⟩
noncomputable def X_law_3:TX (bc (Stmt.bodyOf (en 19)) 3):=⟨_,λT q pm c doc L=>(Ex.for_ (EvI.enum T.gl (sv [97,98,99,100,101]) (by kernel_rfl) T.n_enumerate T.b_enumerate) (As.tup2 (i:=6) (j:=7) rfl (iv (by kernel_rfl) rfl) rfl (.inl (by kernel_rfl))) (Exs.cons (X_law_3_0.2 T q pm c doc L) (Exs.cons (X_law_3_1.2 T q pm c doc L) Exs.nil)))⟩
noncomputable def X_law_4:TX (bc (Stmt.bodyOf (en 19)) 4):=⟨_,λT q pm c doc L=>(Ex.assign (i:=5) rfl (.inl (by kernel_rfl)) (EvN.slice (nm 5) EvP.none_ (EvP.some_ (Ev.neg rfl)) EvP.none_).dat (by kernel_rfl))⟩
noncomputable def X_law_5:TX (bc (Stmt.bodyOf (en 19)) 5):=⟨_,λT q pm c doc L=>(Ex.assign (i:=8) rfl (iv (by kernel_rfl) rfl) (Ev.callAt T.gl T.f_law_lexer (EvL.cons (nm 5) EvL.nil) (xt T) nb (by kernel_rfl) T.g_law_lexer) (by kernel_rfl))⟩
noncomputable def X_law_6:TX (bc (Stmt.bodyOf (en 19)) 6):=⟨_,λT q pm c doc L=>(Ex.assign (i:=9) rfl (.inl (by kernel_rfl)) (Ev.meth0At T.cL T.fL_get_token T.mL_get_token sr (nm 8) (dz T) nb lp) (by kernel_rfl))⟩
noncomputable def X_law_7_0:TX (bc (fw (bc (Stmt.bodyOf (en 19)) 7)) 0):=⟨_,λT q pm c doc L=>(Ex.expr (Ev.methAt T.cL T.fL_push_token T.mL_push_token sr (nm 8) (EvL.cons (nm 10) EvL.nil) (gj T) nb lp) (by kernel_rfl) (by kernel_rfl))⟩
noncomputable def X_law_7:TX (bc (Stmt.bodyOf (en 19)) 7):=⟨_,λT q pm c doc L=>(Ex.for_ (EvI.seq (.inl ⟨_,_,rfl⟩) (EvN.list (EvL.cons (sv []) (EvL.cons (nm 9) (EvL.cons (nm 9) (EvL.cons (sv []) EvL.nil))))).dat) (As.name (i:=10) rfl (.inl (by kernel_rfl))) (Exs.cons (X_law_7_0.2 T q pm c doc L) Exs.nil))⟩
noncomputable def X_law_8:TX (bc (Stmt.bodyOf (en 19)) 8):=⟨_,λT q pm c doc L=>(Ex.assignComp (i:=11) [27] [(27,("k":Str)),(8,("lexer":Str))] rfl (.inl (by kernel_rfl)) (by kernel_rfl) (by kernel_rfl) (EvI.range T.gl (.inl ⟨_,_,rfl⟩) (EvL.cons Ev.int EvL.nil) (by kernel_rfl) T.n_range T.b_range) (λL=>(As.name (i:=27) rfl (.inl (by kernel_rfl)))) (λL=>TrAll.nil) (λL D hD hDo=>(CIn.emit rfl (Ev.meth0At T.cL T.fL_get_token T.mL_get_token sr (nm 8) (dz T) nb lp) hD hDo)))⟩
noncomputable def X_law_9:TX (bc (Stmt.bodyOf (en 19)) 9):=⟨_,λT q pm c doc L=>(Ex.if_ (Tr.boolop (TrA.or_cons (Tr.cmp (nm 11) (EvN.list (EvL.cons (sv []) (EvL.cons (sv [97]) (EvL.cons (sv [97]) (EvL.cons (sv []) (EvL.cons (sv [98]) (EvL.cons (sv [99]) (EvL.cons (sv [100]) (EvL.cons (sv [101]) (EvL.cons (sv []) EvL.nil)))))))))).dat (hk:=nb)) (TrA.or_cons (Tr.cmp (Ev.attr T.cL (j:=1) (by kernel_rfl) (T.aL 1 nb) (cj 1 nb) (nm 8)) (EvN.bin Ev.int (EvN.meth1 .count (nm 5) (sv [10]) lp).dat).dat (hk:=nb)) TrA.or_nil)))
 (Exs.cons (Ex.ret Ev.bool) Exs.nil) Exs.nil)⟩
noncomputable def X_law_10:TX (bc (Stmt.bodyOf (en 19)) 10):=⟨_,λT q pm c doc L=>(Ex.assign (i:=12) rfl (.inl (by kernel_rfl)) (EvN.slice (EvN.meth1 .join (sv []) (nm 2) lp).dat EvP.none_ (EvP.some_ (Ev.neg rfl)) EvP.none_).dat (by kernel_rfl))⟩
noncomputable def X_law_11:TX (bc (Stmt.bodyOf (en 19)) 11):=⟨_,λT q pm c doc L=>(Ex.if_ (Tr.boolop (TrA.or_cons (Tr.cmp (Ev.callAt T.gl T.f_check_parenthesis (EvL.cons (EvN.bin (nm 12) (sv [34,41])).dat EvL.nil) (dc T) nb (by kernel_rfl) T.g_check_parenthesis) Ev.bool (hk:=nb)) (TrA.or_cons (Tr.cmp (Ev.callAt T.gl T.f_check_parenthesis (EvL.cons (nm 12) EvL.nil) (dc T) nb (by kernel_rfl) T.g_check_parenthesis) Ev.bool (hk:=nb)) TrA.or_nil)))
 (Exs.cons (Ex.ret Ev.bool) Exs.nil) Exs.nil)⟩
noncomputable def X_law_12:TX (bc (Stmt.bodyOf (en 19)) 12):=⟨_,λT q pm c doc L=>(Ex.tupR (ts:=[(13,("words":Str),_),(14,("born":Str),_),(15,("many":Str),_)]) (λ_=>⟨rfl,(.inl (by kernel_rfl)),⟨rfl,(.inl (by kernel_rfl)),⟨rfl,(.inl (by kernel_rfl)),True.intro⟩⟩⟩) (EvL.cons (EvN.list (EvL.cons (sv [46]) EvL.nil)).dat (EvL.cons Ev.int (EvL.cons Ev.int EvL.nil))) (by kernel_rfl) (by kernel_rfl))⟩
noncomputable def X_law_13_0:TX (bc (fw (bc (Stmt.bodyOf (en 19)) 13)) 0):=⟨_,λT q pm c doc L=>(Ex.assign (i:=17) rfl (.inl (by kernel_rfl)) (Ev.callAt T.gl T.f_check_parenthesis (EvL.cons (EvN.bin (nm 16) (sv [41])).dat EvL.nil) (dc T) nb (by kernel_rfl) T.g_check_parenthesis) (by kernel_rfl))⟩
noncomputable def X_law_13_1:TX (bc (fw (bc (Stmt.bodyOf (en 19)) 13)) 1):=⟨_,λT q pm c doc L=>(Ex.if_ (Tr.cmp (nm 17) (EvN.cmp (Ev.sub (nm 16) (Ev.neg rfl)) (sv [40]) (hk:=nb)).dat (hk:=nb))
 (Exs.cons (Ex.ret Ev.bool) Exs.nil) Exs.nil)⟩
noncomputable def X_law_13_2_t_0:TX (bc (J0 (bc (fw (bc (Stmt.bodyOf (en 19)) 13)) 2)) 0):=⟨_,λT q pm c doc L=>(Ex.tupR (ts:=[(18,("small":Str),_),(19,("great":Str),_)]) (λ_=>⟨rfl,(.inl (by kernel_rfl)),⟨rfl,(.inl (by kernel_rfl)),True.intro⟩⟩) (EvL.cons (Ev.comp [29] [(29,("word":Str))] (by kernel_rfl) (EvI.seq (.inl ⟨_,_,rfl⟩) (nm 13)) (λL=>(As.name (i:=29) rfl (.inl (by kernel_rfl)))) (λL=>TrAll.nil) (λL D hD hDo=>(CIn.emit rfl (EvN.bin (nm 29) (sv [97])).dat hD hDo))) (EvL.cons (Ev.comp [28] [(28,("word":Str))] (by kernel_rfl) (EvI.seq (.inl ⟨_,_,rfl⟩) (nm 13)) (λL=>(As.name (i:=28) rfl (.inl (by kernel_rfl)))) (λL=>TrAll.nil) (λL D hD hDo=>(CIn.emit rfl (EvN.bin (nm 28) (sv [98])).dat hD hDo))) EvL.nil)) (by kernel_rfl) (by kernel_rfl))⟩
noncomputable def X_law_13_2_t_1_0:TX (bc (fw (bc (J0 (bc (fw (bc (Stmt.bodyOf (en 19)) 13)) 2)) 1)) 0):=⟨_,λT q pm c doc L=>(Ex.expr (Ev.methAt T.cL T.fL_push_token T.mL_push_token sr (nm 8) (EvL.cons (nm 7) EvL.nil) (gj T) nb lp) (by kernel_rfl) (by kernel_rfl))⟩
noncomputable def X_law_13_2_t_1_1:TX (bc (fw (bc (J0 (bc (fw (bc (Stmt.bodyOf (en 19)) 13)) 2)) 1)) 1):=⟨_,λT q pm c doc L=>(Ex.assign (i:=20) rfl (iv (by kernel_rfl) rfl) (EvN.bin (EvN.bin (EvN.meth1 .index (sv [97,98,99,100,101]) (nm 7) lp).dat (nm 14)).dat Ev.int).dat (by kernel_rfl))⟩
noncomputable def X_law_13_2_t_1_2:TX (bc (fw (bc (J0 (bc (fw (bc (Stmt.bodyOf (en 19)) 13)) 2)) 1)) 2):=⟨_,λT q pm c doc L=>(Ex.assign (i:=21) rfl (.inl (by kernel_rfl)) (EvN.bin (Ev.comp [30] [(30,("word":Str)),(20,("place":Str))] (by kernel_rfl) (EvI.seq (.inl ⟨_,_,rfl⟩) (nm 19)) (λL=>(As.name (i:=30) rfl (.inl (by kernel_rfl)))) (λL=>(TrAll.one (Tr.cmp (Ev.sub (nm 30) (nm 20)) (sv [97]) (hk:=nb)))) (λL D hD hDo=>(CIn.emit rfl (nm 30) hD hDo))) (EvN.list (EvL.cons (sv [120,46]) EvL.nil)).dat).dat (by kernel_rfl))⟩
noncomputable def X_law_13_2_t_1_3:TX (bc (fw (bc (J0 (bc (fw (bc (Stmt.bodyOf (en 19)) 13)) 2)) 1)) 3):=⟨_,λT q pm c doc L=>(Ex.assign (i:=21) rfl (.inl (by kernel_rfl)) (EvN.meth1 .split (Ev.callAt T.gl T.f_quotedata (EvL.cons (EvN.meth1 .join (Ev.sub (EvN.list (EvL.cons (sv [10]) (EvL.cons (sv [13]) (EvL.cons (sv [13,10]) EvL.nil)))).dat (EvN.bin (nm 20) Ev.int).dat) (nm 21) lp).dat EvL.nil) (wx T) nb (by kernel_rfl) T.g_quotedata) (sv [13,10]) lp).dat (by kernel_rfl))⟩
noncomputable def X_law_13_2_t_1_4:TX (bc (fw (bc (J0 (bc (fw (bc (Stmt.bodyOf (en 19)) 13)) 2)) 1)) 4):=⟨_,λT q pm c doc L=>(Ex.if_ (Tr.cmp (Ev.sub (nm 21) (Ev.neg rfl)) (sv [120,46]) (hk:=nb))
 (Exs.cons (Ex.ret Ev.bool) Exs.nil) Exs.nil)⟩
noncomputable def X_law_13_2_t_1_5:TX (bc (fw (bc (J0 (bc (fw (bc (Stmt.bodyOf (en 19)) 13)) 2)) 1)) 5):=⟨_,λT q pm c doc L=>(Ex.assign (i:=19) rfl (.inl (by kernel_rfl)) (EvN.bin (Ev.comp [31] [(31,("word":Str)),(20,("place":Str))] (by kernel_rfl) (EvI.seq (.inl ⟨_,_,rfl⟩) (nm 19)) (λL=>(As.name (i:=31) rfl (.inl (by kernel_rfl)))) (λL=>(TrAll.one (Tr.cmp (Ev.sub (nm 31) (nm 20)) (sv [98]) (hk:=nb)))) (λL D hD hDo=>(CIn.emit rfl (nm 31) hD hDo))) (EvN.slice (nm 21) EvP.none_ (EvP.some_ (Ev.neg rfl)) EvP.none_).dat).dat (by kernel_rfl))⟩
noncomputable def X_law_13_2_t_1:TX (bc (J0 (bc (fw (bc (Stmt.bodyOf (en 19)) 13)) 2)) 1):=⟨_,λT q pm c doc L=>(Ex.for_ (EvI.seq (.inl ⟨_,_,rfl⟩) (Ev.comp [32] [(32,("k":Str)),(8,("lexer":Str))] (by kernel_rfl) (EvI.range T.gl (.inl ⟨_,_,rfl⟩) (EvL.cons (nm 15) EvL.nil) (by kernel_rfl) T.n_range T.b_range) (λL=>(As.name (i:=32) rfl (.inl (by kernel_rfl)))) (λL=>TrAll.nil) (λL D hD hDo=>(CIn.emit rfl (Ev.meth0At T.cL T.fL_get_token T.mL_get_token sr (nm 8) (dz T) nb lp) hD hDo)))) (As.name (i:=7) rfl (.inl (by kernel_rfl))) (Exs.cons (X_law_13_2_t_1_0.2 T q pm c doc L) (Exs.cons (X_law_13_2_t_1_1.2 T q pm c doc L) (Exs.cons (X_law_13_2_t_1_2.2 T q pm c doc L) (Exs.cons (X_law_13_2_t_1_3.2 T q pm c doc L) (Exs.cons (X_law_13_2_t_1_4.2 T q pm c doc L) (Exs.cons (X_law_13_2_t_1_5.2 T q pm c doc L) Exs.nil)))))))⟩
noncomputable def X_law_13_2_t_2:TX (bc (J0 (bc (fw (bc (Stmt.bodyOf (en 19)) 13)) 2)) 2):=⟨_,λT q pm c doc L=>(Ex.expr (Ev.methAt T.cL T.fL_push_token T.mL_push_token sr (nm 8) (EvL.cons (Ev.sub (sv [97,98,99,100,101]) (nm 14)) EvL.nil) (gj T) nb lp) (by kernel_rfl) (by kernel_rfl))⟩
noncomputable def X_law_13_2_t_3:TX (bc (J0 (bc (fw (bc (Stmt.bodyOf (en 19)) 13)) 2)) 3):=⟨_,λT q pm c doc L=>(Ex.tupR (ts:=[(13,("words":Str),_),(14,("born":Str),_),(15,("many":Str),_)]) (λ_=>⟨rfl,(.inl (by kernel_rfl)),⟨rfl,(.inl (by kernel_rfl)),⟨rfl,(.inl (by kernel_rfl)),True.intro⟩⟩⟩) (EvL.cons (EvN.bin (nm 18) (nm 19)).dat (EvL.cons (EvN.bin (nm 14) Ev.int).dat (EvL.cons (EvN.bin (nm 15) Ev.int).dat EvL.nil))) (by kernel_rfl) (by kernel_rfl))⟩
noncomputable def X_law_13_2_e_0:TX (bc (Su (bc (fw (bc (Stmt.bodyOf (en 19)) 13)) 2)) 0):=⟨_,λT q pm c doc L=>(Ex.exprS (Ev.meth0At T.cL T.fL_get_token T.mL_get_token sr (nm 8) (dz T) nb lp) (by kernel_rfl) (by kernel_rfl))⟩
noncomputable def X_law_13_2_e_1:TX (bc (Su (bc (fw (bc (Stmt.bodyOf (en 19)) 13)) 2)) 1):=⟨_,λT q pm c doc L=>(Ex.assign (i:=15) rfl (.inl (by kernel_rfl)) (EvN.bin (nm 15) Ev.int).dat (by kernel_rfl))⟩
noncomputable def X_law_13_2:TX (bc (fw (bc (Stmt.bodyOf (en 19)) 13)) 2):=⟨_,λT q pm c doc L=>(Ex.if_ (Tr.val (nm 17)) (Exs.cons (X_law_13_2_t_0.2 T q pm c doc L) (Exs.cons (X_law_13_2_t_1.2 T q pm c doc L) (Exs.cons (X_law_13_2_t_2.2 T q pm c doc L) (Exs.cons (X_law_13_2_t_3.2 T q pm c doc L) Exs.nil)))) (Exs.cons (X_law_13_2_e_0.2 T q pm c doc L) (Exs.cons (X_law_13_2_e_1.2 T q pm c doc L) Exs.nil)))⟩
noncomputable def X_law_13:TX (bc (Stmt.bodyOf (en 19)) 13):=⟨_,λT q pm c doc L=>(Ex.for_ (EvI.seq (.inl ⟨_,_,rfl⟩) (nm 2)) (As.name (i:=16) rfl (.inl (by kernel_rfl))) (Exs.cons (X_law_13_0.2 T q pm c doc L) (Exs.cons (X_law_13_1.2 T q pm c doc L) (Exs.cons (X_law_13_2.2 T q pm c doc L) Exs.nil))))⟩
noncomputable def X_law_14:TX (bc (Stmt.bodyOf (en 19)) 14):=⟨_,λT q pm c doc L=>(Ex.assignComp (i:=22) [33,34] [(33,("j":Str)),(34,("i":Str)),(3,("waits":Str))] rfl (.inl (by kernel_rfl)) (by kernel_rfl) (by kernel_rfl) (EvI.range T.gl (.inl ⟨_,_,rfl⟩) (EvL.cons Ev.int EvL.nil) (by kernel_rfl) T.n_range T.b_range) (λL=>(As.name (i:=33) rfl (.inl (by kernel_rfl)))) (λL=>TrAll.nil) (λL D hD hDo=>(CIn.nest rfl (Ej (by kernel_rfl)) (EvI.range T.gl (.inl ⟨_,_,rfl⟩) (EvL.cons (nm 33) EvL.nil) (by kernel_rfl) T.n_range T.b_range) (As.name (i:=34) rfl (.inl (by kernel_rfl))) TrAll.nil (CIn.emit rfl (EvN.bin (EvN.bin (Ev.sub (nm 3) (nm 33)) (Ev.sub (nm 3) (nm 34))).dat (EvN.call1 T.gl .int (EvN.cmp (nm 34) (EvN.bin (nm 33) (Ev.sub (nm 3) (nm 33))).dat (hk:=nb)).dat (by kernel_rfl) T.n_int T.b_int).dat).dat hD hDo) hDo)))⟩
noncomputable def X_law_15:TX (bc (Stmt.bodyOf (en 19)) 15):=⟨_,λT q pm c doc L=>(Ex.assign (i:=23) rfl (.inl (by kernel_rfl)) (Ev.objList (EvL.cons (Ev.callAt T.gl T.f_law_lead (EvL.cons (EvN.list (EvL.cons Ev.int EvL.nil)).dat EvL.nil) (fy T) nb (by kernel_rfl) T.g_law_lead) (EvL.cons (Ev.callAt T.gl T.f_law_lead (EvL.cons (nm 3) EvL.nil) (fy T) nb (by kernel_rfl) T.g_law_lead) (EvL.cons (Ev.callAt T.gl T.f_law_lead (EvL.cons (nm 22) EvL.nil) (fy T) nb (by kernel_rfl) T.g_law_lead) EvL.nil)))) (by kernel_rfl))⟩
noncomputable def X_law_16_0:TX (bc (fw (bc (Stmt.bodyOf (en 19)) 16)) 0):=⟨_,λT q pm c doc L=>(Ex.assign (i:=24) rfl (.inl (by kernel_rfl)) (Ev.callAt T.gl T.f_law_lead (EvL.cons (Ev.comp [35] [(35,("word":Str)),(6,("k":Str))] (by kernel_rfl) (EvI.seq (.inl ⟨_,_,rfl⟩) (nm 13)) (λL=>(As.name (i:=35) rfl (.inl (by kernel_rfl)))) (λL=>(TrAll.one (Tr.cmp (EvN.meth1 .count (nm 35) (sv [98]) lp).dat (nm 6) (hk:=nb)))) (λL D hD hDo=>(CIn.emit rfl (EvN.bin (EvN.meth1 .count (nm 35) (sv [46]) lp).dat Ev.int).dat hD hDo))) EvL.nil) (fy T) nb (by kernel_rfl) T.g_law_lead) (by kernel_rfl))⟩
noncomputable def X_law_16_1:TX (bc (fw (bc (Stmt.bodyOf (en 19)) 16)) 1):=⟨_,λT q pm c doc L=>(Ex.if_ (Tr.cmp (Ev.methAt T.cW T.fW_equal T.mW_equal sr (nm 24) (EvL.cons (Ev.subO (nm 23) (EvN.mm T.gl .mn (EvL.cons (nm 6) (EvL.cons (EvN.bin Ev.int (nm 6)).dat EvL.nil)) (by kernel_rfl) T.n_min T.b_min).dat) EvL.nil) (td T) nb lp) Ev.bool (hk:=nb))
 (Exs.cons (Ex.ret Ev.bool) Exs.nil) Exs.nil)⟩
noncomputable def X_law_16:TX (bc (Stmt.bodyOf (en 19)) 16):=⟨_,λT q pm c doc L=>(Ex.for_ (EvI.range T.gl (.inl ⟨_,_,rfl⟩) (EvL.cons Ev.int EvL.nil) (by kernel_rfl) T.n_range T.b_range) (As.name (i:=6) rfl (iv (by kernel_rfl) rfl)) (Exs.cons (X_law_16_0.2 T q pm c doc L) (Exs.cons (X_law_16_1.2 T q pm c doc L) Exs.nil)))⟩
noncomputable def X_law_17:TX (bc (Stmt.bodyOf (en 19)) 17):=⟨_,λT q pm c doc L=>(Ex.ret (EvN.cmp (Ev.methAt T.cW T.fW_equal T.mW_equal sr (Ev.subO (nm 23) Ev.int) (EvL.cons (Ev.callAt T.gl T.f_law_lead (EvL.cons (nm 4) EvL.nil) (fy T) nb (by kernel_rfl) T.g_law_lead) EvL.nil) (td T) nb lp) (EvN.cmp (EvN.sortedI T.gl (nm 3) (by kernel_rfl) T.n_sorted T.b_sorted).dat (EvN.sortedI T.gl (nm 4) (by kernel_rfl) T.n_sorted T.b_sorted).dat (hk:=nb)).dat (hk:=nb)).dat)⟩
noncomputable def X_law:{ B:XF//∀{prog:Program} {w:World} {K:Addr->Option Obj} {mg mb:Str->Option Value},Tab K mg mb->∀q pm c doc L,Exs prog w K (pw (mz (en 19) q pm c doc) 208 yu 8 L) (Stmt.bodyOf (en 19)) B }:=⟨_,λT q pm c doc L=>(Exs.cons (X_law_0.2 T q pm c doc L) (Exs.cons (X_law_1.2 T q pm c doc L) (Exs.cons (X_law_2.2 T q pm c doc L) (Exs.cons (X_law_3.2 T q pm c doc L) (Exs.cons (X_law_4.2 T q pm c doc L) (Exs.cons (X_law_5.2 T q pm c doc L) (Exs.cons (X_law_6.2 T q pm c doc L) (Exs.cons (X_law_7.2 T q pm c doc L) (Exs.cons (X_law_8.2 T q pm c doc L) (Exs.cons (X_law_9.2 T q pm c doc L) (Exs.cons (X_law_10.2 T q pm c doc L) (Exs.cons (X_law_11.2 T q pm c doc L) (Exs.cons (X_law_12.2 T q pm c doc L) (Exs.cons (X_law_13.2 T q pm c doc L) (Exs.cons (X_law_14.2 T q pm c doc L) (Exs.cons (X_law_15.2 T q pm c doc L) (Exs.cons (X_law_16.2 T q pm c doc L) (Exs.cons (X_law_17.2 T q pm c doc L) Exs.nil))))))))))))))))))⟩
noncomputable def Qg:Nat:=35
noncomputable def F_law:FnF:=kq 1 Qg false X_law.1
theorem ok_law {prog:Program} {w:World} {K:Addr->Option Obj} {mg mb:Str->Option Value} (T:Tab K mg mb):FnC prog w K 208 9 F_law :=
 T.f_law.ok T.gl (names:=[("script":Str)]) false (λq pm c doc vs h=>K5 (λ_=>by kernel_rfl) vs h) (by kernel_rfl) (X_law.2 T)
end Mine
end
section
open PySem PyProof.Rows
namespace Mine
noncomputable def sC (l:List Nat):EF:=λσ=>some (.dat (.str ⟨⟨l⟩⟩),σ.hp)
noncomputable def iC (k:Int):EF:=λσ=>some (.dat (.int k),σ.hp)
noncomputable def bq (op:CmpOp) (a b:EF):BF:=af a λx=>af b λy=>By op x y
noncomputable def bf (op:Operator) (a b:EF):NF:=af a λx=>af b λy=>dw (rj op) x y
noncomputable def jm (F:EF):XF:=au F λpv σ=>some (.ret pv,σ)
noncomputable def to (F:EF) (lo hi st:PF):NF:=af F λa=>ny lo λl=>ny hi λu=>ny st λk=>sw l u k a
section
variable {F1 F2 F:EF} {σ:St} {hp1 hp2:List MO} {p1 p2:PV} {a b d:PyData} {op:Operator} {r:Bool} {L:bg}
theorem a9 (h1:F1 ⟨L,hp1⟩=some (.dat a,hp2)) (h2:F2 ⟨L,hp2⟩=some (.dat b,hp2)) (h3:rj op a b=some d):am (bf op F1 F2) ⟨L,hp1⟩=some (.dat d,hp2):=by
 unfold am bf af
 rw [h1]
 dsimp only
 rw [h2]
 skip
 unfold dw
 dsimp only [rd]
 exact h3.symm▸rfl
theorem dk {op:CmpOp} (h1:F1 ⟨L,hp1⟩=some (p1,hp2)) (h2:F2 ⟨L,hp2⟩=some (p2,hp2)) (r1:rd hp2 p1=some a) (r2:rd hp2 p2=some b) (h3:di op a b=some r):bq op F1 F2 ⟨L,hp1⟩=some (r,hp2):=by
 unfold bq af
 rw [h1]
 dsimp only
 rw [h2]
 dsimp only
 unfold By
 dsimp only
 rw [r1,r2]
 dsimp only
 exact h3.symm▸rfl
theorem db {i:Nat} {L:bg} {p:PV} (h:F ⟨L,hp1⟩=some (p,hp2)):au F (c9 i) ⟨L,hp1⟩=some (.next,⟨L.set i (some p),hp2⟩):=by
 unfold au
 refine h.symm▸?_
 rfl
theorem fe {i:Nat} {L:bg} {p:PV} (h:eg L i=some p):aa i ⟨L,hp1⟩=some (p,hp1):=by
 unfold aa
 exact h.symm▸rfl
theorem i6 {lo hi st:PF} {l u k:Option Int} {L:bg} (h1:F ⟨L,hp1⟩=some (.dat a,hp1)) (h2:lo ⟨L,hp1⟩=some (l,hp1)) (h3:hi ⟨L,hp1⟩=some (u,hp1)) (h4:st ⟨L,hp1⟩=some (k,hp1)) (h5:ek l u k a=some d):am (to F lo hi st) ⟨L,hp1⟩=some (.dat d,hp1):=by
 unfold am to af
 rw [h1]
 skip
 unfold ny
 dsimp only
 rw [h2]
 dsimp only
 rw [h3]
 dsimp only
 rw [h4]
 skip
 unfold sw
 dsimp only [rd]
 exact h5.symm▸rfl
theorem Bi {C:BF} {G:XF} {L:bg} {hp1 hp2:List MO} (h:C ⟨L,hp1⟩=some (false,hp2)):gt C G aq ⟨L,hp1⟩=some (.next,⟨L,hp2⟩):=by
 unfold gt
 refine h.symm▸?_
 rfl
theorem J6 {A B:EF} {L:bg} {hp:List MO} {a b:PyData} (h1:A ⟨L,hp⟩=some (.dat a,hp)) (h2:B ⟨L,hp⟩=some (.dat b,hp)):am (Fp (ak A (ak B ba))) ⟨L,hp⟩=some (.dat (.tuple [a,b]),hp):=by
 unfold am Fp ak af
 refine h1.symm▸?_
 dsimp only
 refine h2.symm▸?_
 rfl
theorem Jr {F1 F2:EF} {L:bg} {hp:List MO} {a b:PV} (h1:F1 ⟨L,hp⟩=some (a,hp)) (h2:F2 ⟨L,hp⟩=some (b,hp)):ak F1 (ak F2 ba) ⟨L,hp⟩=some ([a,b],hp):=by
 unfold ak af
 refine h1.symm▸?_
 dsimp only
 refine h2.symm▸?_
 rfl
theorem nl {F:EF} {f:PyData->Option PyData} {L:bg} {hp1 hp2:List MO} {a d:PyData} (h1:F ⟨L,hp1⟩=some (.dat a,hp2)) (h2:f a=some d):am (af F (iw f)) ⟨L,hp1⟩=some (.dat d,hp2):=by
 unfold am af
 rw [h1]
 skip
 unfold iw
 dsimp only [rd]
 exact h2.symm▸rfl
theorem ed {F1 F2:EF} {L:bg} {hp:List MO} {a b d:PyData} (h1:F1 ⟨L,hp⟩=some (.dat a,hp)) (h2:F2 ⟨L,hp⟩=some (.dat b,hp)) (h3:ik a b=some d):(af F1 λa=>af F2 λb=>et a b) ⟨L,hp⟩=some (.dat d,hp):=by
 unfold af
 rw [h1]
 dsimp only
 rw [h2]
 skip
 unfold et
 dsimp only [rd]
 exact h3.symm▸rfl
theorem fq {m:M1} {F1 F2:EF} {L:bg} {hp1 hp2:List MO} {x b d:PyData} (h1:F1 ⟨L,hp1⟩=some (.dat x,hp1)) (hx:jl x=true) (h2:F2 ⟨L,hp1⟩=some (.dat b,hp2)) (h3:m.f x b=some d):am (Mine.meth1 m F1 F2) ⟨L,hp1⟩=some (.dat d,hp2):=by
 unfold am Mine.meth1 af
 rw [h1]
 dsimp only
 rw [if_pos hx]
 skip
 rw [h2]
 skip
 unfold dw
 dsimp only [rd]
 exact h3.symm▸rfl
theorem cg {i:Nat} {L:bg} {o:Option PV} {p:PV} (h:L[i]?=some o) (h1:o=some p):eg L i=some p:=by
 unfold eg
 exact h.symm▸h1.symm▸rfl
theorem ag {i:Nat} {L:bg} {o:Option PV} {p:PV} (h:L[i]?=some o) (h1:o=some p):aa i ⟨L,hp1⟩=some (p,hp1):=fe (cg h h1)
theorem Oq {C:BF} {F G:EF} {c:Bool} {q:Option (PV×List MO)} (h:C ⟨L,hp1⟩=some (c,hp2)) (k:(if c then F else G) ⟨L,hp2⟩=q):fv C (λc=>if c then F else G) ⟨L,hp1⟩=q:=by
 unfold fv
 refine h.symm▸?_
 exact k
theorem Nm (l:List Nat):di .NotEq (.str ⟨⟨l⟩⟩) (.str ⟨⟨l⟩⟩)=some false:=by
 show some (!(l==l))=_
 rw [beq_self_eq_true]; rfl
theorem add_str {x y:List Nat} (h:x.length+y.length≤lim):Lf (.str ⟨⟨x⟩⟩) (.str ⟨⟨y⟩⟩)=some (.str ⟨⟨x++y⟩⟩):=if_pos h
theorem fu {F:EF} {H:FnF} {p:PV} {q:Option (PV×List MO)} (h:F ⟨L,hp1⟩=some (p,hp2)) (k:H [p] hp2=q):cz (ak F ba) H ⟨L,hp1⟩=q:=by
 unfold cz ak af
 refine h.symm▸?_
 exact k
theorem ks {op:CmpOp} {x:Bool} (h1:F1 ⟨L,hp1⟩=some (.dat a,hp2)) (h2:F2 ⟨L,hp2⟩=some (.dat b,hp2)) (h3:di op a b=some x):am (af F1 λa=>af F2 λb=>dw (λx y=>(di op x y).map .bool) a b) ⟨L,hp1⟩=some (.dat (.bool x),hp2):=by
 unfold am af
 refine h1.symm▸?_
 dsimp only
 refine h2.symm▸?_
 skip
 unfold dw
 dsimp only [rd]
 refine h3.symm▸?_
 rfl
theorem qq {k:Int} (h:F ⟨L,hp1⟩=some (.dat (.int k),hp2)):ev F ⟨L,hp1⟩=some (some k,hp2):=by
 unfold ev af
 refine h.symm▸?_
 rfl
theorem sp {x y:List PyData} (h:x.length+y.length≤lim):Lf (.list x) (.list y)=some (.list (x++y)):=if_pos h
theorem gw {i:Nat} {l:List PyData} (h:F1 ⟨L,hp1⟩=some (.obj i,hp1)) (hi:hp1[i]?=some (.lst l)) (hl:l.length≤lim) (h2:F2 ⟨L,hp1⟩=some (.dat d,hp1)):dh F1 F2 ⟨L,hp1⟩=some (.dat .none,hp1.set i (.lst (l++[d]))):=by
 unfold dh af
 refine h.symm▸?_
 have e:yt hp1 i=true:=by unfold yt; rw [hi]
 dsimp only
 refine (if_pos e).symm▸h2.symm▸?_
 skip
 unfold Dn
 dsimp only
 refine hi.symm▸?_
 exact if_pos hl
theorem j6 {p q:PV} (h1:F1 ⟨L,hp1⟩=some (p,hp2)) (h2:F2 ⟨L,hp2⟩=some (q,hp2)) (r1:rd hp2 p=some a) (r2:rd hp2 q=some b) (h3:ik a b=some d):(af F1 λa=>af F2 λb=>et a b) ⟨L,hp1⟩=some (.dat d,hp2):=by
 unfold af
 rw [h1]
 dsimp only
 rw [h2]
 skip
 unfold et
 dsimp only
 rw [r1,r2]
 dsimp only
 exact h3.symm▸rfl
theorem J1 (h:F ⟨L,hp1⟩=some (.dat .none,hp2)):au F (λpv σ=>match pv with
   | .dat .none=>some (.next,σ)
   | _=>none) ⟨L,hp1⟩=some (.next,⟨L,hp2⟩):=by
 unfold au
 exact h.symm▸rfl
theorem Kc {i:Nat} {l:List PyData} (h:F ⟨L,hp1⟩=some (.obj i,hp2)) (hi:hp2[i]?=some (.lst l)):gb F ⟨L,hp1⟩=some ((.trk i 0,l.length+1),hp2):=by
 unfold gb
 rw [h]
 dsimp only
 rw [hi]
end
end Mine
end
section
open PySem PySem.StrLaws PySem.Builtin PySem.Builtin.Str
namespace Mine
noncomputable def bu:List Nat->List Nat->List (List Nat)
 | [],cur=>[cur]
 | [c],cur=>[cur++[c]]
 | c::c'::r,cur=>if c==13&&c'==10 then cur::bu r [] else bu (c'::r) (cur++[c])
noncomputable def i1:List Nat->Nat->List Nat
 | [],_=>[]
 | [_],_=>[]
 | c::c'::r,i=>if c==13&&c'==10 then i::i1 r (i+2) else i1 (c'::r) (i+1)
noncomputable def crlf:Str:=⟨⟨[13,10]⟩⟩
theorem th (l:List Nat) (i:Nat):subAt ⟨⟨l⟩⟩ crlf i=(match l.drop i with
  | c::c'::_=>c==13&&c'==10
  | _=>false):=by
 rw [subAt_eq]
 show ((l.drop i).take 2==[13,10])=_
 cases l.drop i with
 | nil=>rfl
 | cons c r=>cases r with
  | nil=>simp
  | cons c' r=>simp [List.take]
theorem D1 (m:List Nat) (i:Nat) (h:(match m with
  | c::c'::_=>c==13&&c'==10
  | _=>false)=false):i1 m i=i1 (m.drop 1) (i+1):=by
 match m,h with
 | [],_=>rfl
 | [_],_=>rfl
 | c::c'::r,h =>
  have h':(c==13&&c'==10)=false:=h
  show i1 (c::c'::r) i=i1 (c'::r) (i+1)
  rw [i1,h',if_neg Bool.false_ne_true]
theorem ne (l:List Nat):∀(n i:Nat) (found:Array Nat) (free:Nat),l.length+1 - i=n->found.size≤i->(free≤i ->
   (forIn (List.range' i n) (found,free) (occBody ⟨⟨l⟩⟩ crlf l.length (l.length+1))).run.fst.toList=found.toList++i1 (l.drop i) i) ∧
  (free=i+1->(forIn (List.range' i n) (found,free) (occBody ⟨⟨l⟩⟩ crlf l.length (l.length+1))).run.fst.toList=found.toList++i1 (l.drop (i+1)) (i+1))
 | 0,i,found,free,hn,hs=>by
  have h1:l.drop i=[]:=List.drop_eq_nil_of_le (by omega)
  have h2:l.drop (i+1)=[]:=List.drop_eq_nil_of_le (by omega)
  refine h1.symm▸h2.symm▸?_
  exact ⟨λ_=>by simp [i1],λ_=>by simp [i1]⟩
 | n+1,i,found,free,hn,hs=>by
  have hstep:List.range' i (n+1)=i::List.range' (i+1) n:=rfl
  rw [hstep,List.forIn_cons]
  have hdrop:(l.drop i).drop 1=l.drop (i+1):=by rw [List.drop_drop]
  have hlim:found.size < l.length+1:=by omega
  unfold occBody
  refine ⟨λhf=>?_,λhf=>?_⟩
  ·by_cases hsub:subAt ⟨⟨l⟩⟩ crlf i=true
   ·have hm:=hsub
    rw [th] at hm
    have:∃r,l.drop i=13::10::r:=by
     match h:l.drop i,hm with
     | c::c'::r,hm=>simp at hm; exact ⟨r,hm.1.symm▸hm.2.symm▸rfl⟩
    obtain ⟨r,hr⟩:=this
    have hlen:i+2≤l.length:=by
     have:=congrArg List.length hr
     simp at this
     omega
    rw [if_pos ⟨⟨⟨hlim,hf⟩,hlen⟩,hsub⟩]
    have ih:=(ne l n (i+1) (found.push i) (i+2) (by (exact Q7 (by assumption))) (by rw [Array.size_push]; (exact Nat.lt_succ_of_le (by assumption)))).2 rfl
    refine ih.trans ?_
    have hr2:l.drop (i+2)=r:=by
     have:=congrArg (List.drop 2) hr
     rwa [List.drop_drop] at this
    rw [hr,show l.drop (i+1+1)=r from hr2,i1,if_pos (by decide)]
    simp
   ·rw [if_neg (λh=>hsub h.2)]
    have ih:=(ne l n (i+1) found free (by (exact Q7 (by assumption))) (by (exact Nat.le_succ_of_le (by assumption)))).1 (by (exact Nat.le_succ_of_le (by assumption)))
    refine ih.trans ?_
    exact (D1 (l.drop i) i (by rw [← th]; simpa using hsub)).symm▸hdrop.symm▸rfl
  ·rw [if_neg (λh=>by have h2:free≤i:=h.1.1.2; omega)]
   exact (ne l n (i+1) found free (by (exact Q7 (by assumption))) (by (exact Nat.le_succ_of_le (by assumption)))).1 (by (exact Nat.le_of_eq (by assumption)))
theorem yn (l:List Nat):occurrences ⟨⟨l⟩⟩ crlf 0 l.length (l.length+1)=i1 l 0:=by
 rw [occ_eq]
 have:=(ne l (l.length+1) 0 #[] 0 rfl (Nat.zero_le _)).1 (Nat.le_refl _)
 refine (show l.length+1 - 0=l.length+1 from rfl).symm▸this.symm▸?_
 simp
theorem km (l:List Nat) (i j:Nat):strSub ⟨⟨l⟩⟩ i j=⟨⟨(l.drop i).take (j - i)⟩⟩:=by
 have:=strSub_toList ⟨⟨l⟩⟩ i j
 exact o7 this
theorem mi (l:List Nat):∀(n:Nat) (m:List Nat) (a i:Nat),m.length≤n->l.drop i=m->a≤i->i≤l.length ->
  (partsFrom ⟨⟨l⟩⟩ 2 a (i1 m i)).map (λy=>y.cps.toList)=bu m ((l.drop a).take (i - a))
 | _,[],a,i,_,hm,hai,hil=>by
  have hi:i=l.length:=by
   have:=congrArg List.length hm
   simp at this
   (exact Tj (by assumption) (by assumption))
  show [(strSub ⟨⟨l⟩⟩ a l.length).cps.toList]=_
  rw [km,hi]
  rfl
 | n+1,[c],a,i,_,hm,hai,hil=>by
  have hi:i+1=l.length:=by
   have:=congrArg List.length hm
   simp at this
   lia
  show [(strSub ⟨⟨l⟩⟩ a l.length).cps.toList]=_
  rw [km,bu]
  have:(l.drop a).take (l.length - a)=(l.drop a).take (i - a)++[c]:=by
   have e:(l.drop a).drop (i - a)=[c]:=List.drop_drop.symm▸(show a+(i - a)=i by (exact Nat.add_sub_of_le (by assumption))).symm▸(hm)
   have h1:=List.take_append_drop (i - a) (l.drop a)
   replace h1:=e▸h1
   rw [h1,List.take_of_length_le (by simp)]
  exact this.symm▸rfl
 | n+1,c::c'::r,a,i,hn,hm,hai,hil=>by
  have hlen:i+2≤l.length:=by
   have:=congrArg List.length hm
   simp at this
   lia
  have hr2:l.drop (i+2)=r:=by
   have:=congrArg (List.drop 2) hm
   rwa [List.drop_drop] at this
  have hr1:l.drop (i+1)=c'::r:=by
   have:=congrArg (List.drop 1) hm
   rwa [List.drop_drop] at this
  rw [i1,bu]
  split
  ·show (strSub ⟨⟨l⟩⟩ a i).cps.toList::(partsFrom ⟨⟨l⟩⟩ 2 (i+2) (i1 r (i+2))).map _=_
   rw [mi l n r (i+2) (i+2) (by simp at hn; (exact Nat.le_of_lt (by assumption))) hr2 (Nat.le_refl _) hlen,km]
   simp
  ·refine (mi l n (c'::r) a (i+1) (by simp at hn ⊢; assumption) hr1 (by (exact Nat.le_succ_of_le (by assumption))) (by (exact Nat.le_of_lt (by assumption)))).symm▸?_
   have e0:l[i]?=some c:=by
    have h0:(l.drop i)[0]?=l[i]?:=by rw [List.getElem?_drop]; rfl
    rw [← h0,hm]; rfl
   have e1:(l.drop a).take (i+1 - a)=(l.drop a).take (i - a)++[c]:=by
    refine (show i+1 - a=(i - a)+1 by (exact Nat.succ_sub (by assumption))).symm▸List.take_add_one.symm▸(List.getElem?_drop).symm▸(show a+(i - a)=i by (exact Nat.add_sub_of_le (by assumption))).symm▸e0.symm▸?_
    rfl
   exact e1.symm▸rfl
theorem l6:∀(n:Nat) (l cur:List Nat),l.length≤n->∀w∈bu l cur,∀c∈w,c∈l∨c∈cur
 | _,[],cur,_,w,hw,c,hc=>by
  rw [bu] at hw
  rw [List.mem_singleton.mp hw] at hc
  exact .inr hc
 | n+1,[a],cur,_,w,hw,c,hc=>by
  rw [bu] at hw
  rw [List.mem_singleton.mp hw] at hc
  rcases List.mem_append.mp hc with h | h
  ·exact .inr h
  ·exact .inl h
 | n+1,a::b::r,cur,hn,w,hw,c,hc=>by
  rw [bu] at hw
  split at hw
  ·rcases List.mem_cons.mp hw with rfl | hw
   ·exact .inr hc
   ·rcases l6 n r [] (by simp at hn; (exact Nat.le_of_lt (by assumption))) w hw c hc with h | h
    ·exact .inl (List.mem_cons_of_mem _ (List.mem_cons_of_mem _ h))
    ·exact ck h
  ·rcases l6 n (b::r) (cur++[a]) (by simp at hn ⊢; assumption) w hw c hc with h | h
   ·exact .inl (List.mem_cons_of_mem _ h)
   ·rcases List.mem_append.mp h with h | h
    ·exact .inr h
    ·exact .inl (by rw [List.mem_singleton.mp h]; exact List.mem_cons_self ..)
theorem zp {l:List Nat} (h:∀c∈l,c < 0x110000):PyData.strOk ⟨⟨l⟩⟩=true:=by
 unfold PyData.strOk
 rw [← Array.all_toList,List.all_eq_true]
 intro c hc
 simpa using h c hc
theorem t5:∀(n:Nat) (l:List Nat) (i:Nat),l.length≤n->(i1 l i).length≤l.length
 | _,[],i,_=>by simp [i1]
 | _,[a],i,_=>by simp [i1]
 | n+1,a::b::r,i,h=>by
  rw [i1]
  split
  ·have:=t5 n r (i+2) (by simp at h; (exact Nat.le_of_lt (by assumption)))
   simp; (exact Nat.le_succ_of_le (by assumption))
  ·have:=t5 n (b::r) (i+1) (by simp at h ⊢; assumption)
   simp at this ⊢; (exact Nat.le_succ_of_le (by assumption))
theorem Bs {l:List Nat} (h:l.length < lim) (hc:∀c∈l,c < 0x110000):o0 ⟨⟨l⟩⟩ crlf=some (.list ((bu l []).map λw=>.str ⟨⟨w⟩⟩)):=by
 have hw:(partsBetween ⟨⟨l⟩⟩ (occurrences ⟨⟨l⟩⟩ crlf 0 l.length (l.length+1)) crlf.length).map (λy=>y.cps.toList)=bu l []:=by
  rw [partsBetween_eq,yn]
  have:=mi l l.length l 0 0 (Nat.le_refl _) rfl (Nat.le_refl _) (Nat.zero_le _)
  show (partsFrom _ 2 0 _).map _=_
  simpa using this
 have hparts:partsBetween ⟨⟨l⟩⟩ (occurrences ⟨⟨l⟩⟩ crlf 0 l.length (l.length+1)) crlf.length=(bu l []).map λw=>⟨⟨w⟩⟩:=by
  rw [← hw,List.map_map]
  conv=>lhs; rw [← List.map_id (partsBetween ⟨⟨l⟩⟩ (occurrences ⟨⟨l⟩⟩ crlf 0 l.length (l.length+1)) crlf.length)]
  rfl
 have hsz:(⟨⟨l⟩⟩:Str).length=l.length:=rfl
 have hkind:decide (Str.strKind ⟨⟨l⟩⟩ < Str.strKind crlf)=false:=by
  have:Str.strKind crlf=1:=by decide +kernel
  rw [this,decide_eq_false_iff_not]
  unfold Str.strKind
  split
  ·decide
  ·split<;>decide
 unfold o0
 rw [if_pos ⟨by rw [hsz]; (exact Nat.le_of_lt (by assumption)),rfl⟩,hkind,Bool.or_false,hsz]
 by_cases h2:l.length < crlf.length
 ·rw [if_pos (by simpa using h2)]
  have:bu l []=[l]:=by
   match l,h2 with
   | [],_=>rfl
   | [a],_=>rfl
  rw [this]; rfl
 ·rw [if_neg (by simpa using h2)]
  by_cases he:(occurrences ⟨⟨l⟩⟩ crlf 0 l.length (l.length+1)).isEmpty=true
  ·rw [if_pos he]
   have hnil:occurrences ⟨⟨l⟩⟩ crlf 0 l.length (l.length+1)=[]:=by simpa using he
   have:bu l []=[l]:=by
    rw [← hw,hnil,partsBetween_eq]
    show [(strSub ⟨⟨l⟩⟩ 0 l.length).cps.toList]=_
    rw [km]
    simp
   rw [this]; rfl
  ·rw [if_neg he,if_pos]
   ·rw [hparts,List.map_map]; rfl
   ·refine ⟨?_,?_⟩
    ·rw [length_partsBetween,yn]
     have:=t5 l.length l 0 (Nat.le_refl _)
     (exact Nat.lt_of_le_of_lt (by assumption) (by assumption))
    ·rw [hparts,List.all_map,List.all_eq_true]
     intro w hw'
     exact zp λc hc'=>(l6 l.length l [] (Nat.le_refl _) w hw' c hc').elim (hc c) λh=>ck h
noncomputable def b4 (g:List Nat):List (List Nat)->List Nat
 | []=>[]
 | w::r=>w++(r.map (g++·)).flatten
theorem fc (g w v:List Nat) (r:List (List Nat)):b4 g (w::v::r)=w++(g++b4 g (v::r)):=by
 show w++((g++v)++(r.map (g++·)).flatten)=w++(g++(v++(r.map (g++·)).flatten))
 rw [List.append_assoc]
noncomputable def aw (ws:List (List Nat)):List PyData:=ws.map λw=>.str ⟨⟨w⟩⟩
theorem pt:∀ws:List (List Nat),mv (aw ws)=some (ws.map λw=>(⟨⟨w⟩⟩:Str))
 | []=>rfl
 | w::r=>by
  show (mv (aw r)).map ((⟨⟨w⟩⟩:Str)::·)=_
  rw [pt r]; rfl
theorem ux (g:List Nat):∀(r:List (List Nat)) (a:Array Nat),(r.map λw=>(⟨⟨w⟩⟩:Str)).foldl (λacc p=>acc++(⟨⟨g⟩⟩:Str).cps++p.cps) a=⟨a.toList++(r.map (g++·)).flatten⟩
 | [],a=>by simp
 | w::r,a=>by
  rw [List.map_cons,List.foldl_cons,ux g r]
  simp
theorem Hs (g:List Nat) (ws:List (List Nat)):glued ⟨⟨g⟩⟩ (ws.map λw=>(⟨⟨w⟩⟩:Str))=⟨⟨b4 g ws⟩⟩:=by
 unfold glued
 cases ws with
 | nil=>rfl
 | cons w r =>
  rw [List.map_cons,List.drop_succ_cons,List.drop_zero,ux]
  rfl
theorem x9 (g:List Nat):∀(ws:List (List Nat)) (n:Nat),(ws.map λw=>(⟨⟨w⟩⟩:Str)).foldl (·+·.length+(⟨⟨g⟩⟩:Str).length) n=n+(ws.map λw=>w.length+g.length).sum
 | [],n=>by simp
 | w::r,n=>by
  rw [List.map_cons,List.foldl_cons,x9 g r,List.map_cons,List.sum_cons]
  show n+w.length+g.length+_=_
  lia
theorem lh (g:List Nat):∀ws:List (List Nat),(b4 g ws).length≤(ws.map λw=>w.length+g.length).sum
 | []=>Nat.le_refl _
 | w::r=>by
  have:((r.map (g++·)).flatten).length=(r.map λw=>w.length+g.length).sum:=by
   rw [List.length_flatten,List.map_map]
   congr 1
   refine List.map_congr_left λx _=>?_
   simp [Nat.add_comm]
  show (w++_).length≤_
  rw [List.length_append,this,List.map_cons,List.sum_cons]
  lia
theorem n8 {g:List Nat} {ws:List (List Nat)} {c:Nat} (h:c∈b4 g ws):c∈g∨∃w∈ws,c∈w:=by
 cases ws with
 | nil=>exact ck h
 | cons w r =>
  rcases List.mem_append.mp h with h | h
  ·exact .inr ⟨w,List.mem_cons_self ..,h⟩
  ·refine cps λ_ KK=>?_
   obtain ⟨l,hl,hc⟩:=List.mem_flatten.mp h
   obtain ⟨v,hv,rfl⟩:=List.mem_map.mp hl
   refine KK ?_
   rcases List.mem_append.mp hc with hc | hc
   ·exact .inl hc
   ·exact .inr ⟨v,List.mem_cons_of_mem _ hv,hc⟩
theorem qp {g:List Nat} {ws:List (List Nat)} (h:(ws.map λw=>w.length+g.length).sum≤lim) (hg:∀c∈g,c < 0x110000) (hw:∀w∈ws,∀c∈w,c < 0x110000) :
  n5 ⟨⟨g⟩⟩ (aw ws)=some (.str ⟨⟨b4 g ws⟩⟩):=by
 unfold n5
 rw [pt]
 dsimp only
 rw [Hs,if_pos]
 refine ⟨by rw [x9,Nat.zero_add]; exact h,zp λc hc=>(n8 hc).elim (hg c) λ⟨w,hw',hc⟩=>hw w hw' c hc,?_⟩
 skip
 exact Nat.le_trans (lh g ws) h
theorem Bb {c:Nat} {r:List Nat} (h:c≠10∧c≠13):sub2L (c::r)=c::sub2L r:=by
 cases r with
 | nil=>unfold sub2L; rw [if_neg (by simp [h.1,h.2])]
 | cons c' r=>rw [sub2L,if_neg (by simp [h.1,h.2])]
theorem rp:∀(w r:List Nat),(∀c∈w,c≠10∧c≠13)->sub2L (w++r)=w++sub2L r
 | [],r,_=>rfl
 | c::w,r,h=>by
  refine List.cons_append.symm▸(Bb (h c (List.mem_cons_self ..))).symm▸(rp w r λx hx=>h x (List.mem_cons_of_mem _ hx)).symm▸?_
  rfl
theorem Ga {sep:List Nat} (hs:sep=[10]∨sep=[13]∨sep=[13,10]) {r:List Nat} (hr:r.head?≠some 10):sub2L (sep++r)=[13,10]++sub2L r:=by
 rcases hs with rfl | rfl | rfl
 ·cases r with
  | nil=>rfl
  | cons c r=>show sub2L (10::c::r)=_; rw [sub2L,if_pos (by rfl),if_neg (by simp)]; rfl
 ·cases r with
  | nil=>rfl
  | cons c r =>
   have:c≠10:=λh=>hr (by rw [h]; rfl)
   show sub2L (13::c::r)=_
   rw [sub2L,if_pos (by rfl),if_neg (by simp [this])]; rfl
 ·show sub2L (13::10::r)=_
  rw [sub2L,if_pos (by rfl),if_pos (by rfl)]; rfl
noncomputable def j1 (w:List Nat):Prop:=w≠[]∧∀c∈w,c≠10∧c≠13
theorem Ag {g w:List Nat} {r:List (List Nat)} (h:j1 w):(b4 g (w::r)).head?≠some 10:=by
 obtain ⟨h1,h2⟩:=h
 cases w with
 | nil=>exact absurd rfl h1
 | cons c w =>
  show some c≠some 10
  intro q
  cases q
  exact (h2 10 (List.mem_cons_self ..)).1 rfl
theorem u9 {sep:List Nat} (hs:sep=[10]∨sep=[13]∨sep=[13,10]):∀ws:List (List Nat),(∀w∈ws,j1 w)->sub2L (b4 sep ws)=b4 [13,10] ws
 | [],_=>rfl
 | [w],h=>by
  have:b4 sep [w]=w:=by show w++[]=w; simp
  rw [this]
  have:=rp w [] (h w (List.mem_cons_self ..)).2
  rw [List.append_nil] at this
  rw [this]; rfl
 | w::v::r,h=>by
  rw [fc,rp w _ (h w (List.mem_cons_self ..)).2,Ga hs (Ag (h v (by simp))),u9 hs (v::r) (λx hx=>h x (List.mem_cons_of_mem _ hx)),fc]
noncomputable def b7:List Nat->List Nat
 | 46::w=>46::46::w
 | w=>w
theorem rn:∀(w r:List Nat) ,(∀c∈w,c≠10)->w≠[]->∀b,bk b (w++13::10::r)=bk b w++13::10::bk true r
 | [],_,_,h,_=>absurd rfl h
 | [c],r,h,_,b=>by
  have hc:c≠10:=h c (List.mem_cons_self ..)
  have e1:bk b (c::13::10::r)=if b&&c==46 then 46::46::13::10::bk true r else c::13::10::bk true r:=by
   rw [bk]
   have h13:bk (c==10) (13::10::r)=13::10::bk true r:=by rw [bk,if_neg (by simp),bk,if_neg (by simp)]; rfl
   have h13':bk false (13::10::r)=13::10::bk true r:=by rw [bk,if_neg (by simp),bk,if_neg (by simp)]; rfl
   exact h13.symm▸h13'.symm▸rfl
  have e2:bk b [c]=if b&&c==46 then [46,46] else [c]:=rfl
  skip
  refine e1.symm▸e2.symm▸?_
  split<;>rfl
 | c::d::w,r,h,_,b=>by
  have hc:c≠10:=h c (List.mem_cons_self ..)
  show bk b (c::((d::w)++13::10::r))=_
  rw [bk,bk]
  split
  ·rw [rn (d::w) r (λx hx=>h x (List.mem_cons_of_mem _ hx)) (by simp)]; rfl
  ·rw [rn (d::w) r (λx hx=>h x (List.mem_cons_of_mem _ hx)) (by simp)]; rfl
theorem u2 (w:List Nat) (h:∀c∈w,c≠10):bk true w=b7 w:=by
 have main:∀(w:List Nat),(∀c∈w,c≠10)->bk false w=w:=by
  intro w
  induction w with
  | nil=>intro _; rfl
  | cons c w ih =>
   intro h
   have hc:(c==10)=false:=by simpa using h c (List.mem_cons_self ..)
   rw [bk,hc]
   simp only [Bool.false_and,Bool.false_eq_true,if_false]
   exact (ih λx hx=>h x (List.mem_cons_of_mem _ hx)).symm▸rfl
 cases w with
 | nil=>rfl
 | cons c w =>
  have hw:=main w λx hx=>h x (List.mem_cons_of_mem _ hx)
  have hc:(c==10)=false:=by simpa using h c (List.mem_cons_self ..)
  rw [bk]
  by_cases h46:c=46
  ·subst h46
   simp only [Bool.true_and,beq_self_eq_true,if_true]
   rw [hw]; rfl
  ·rw [if_neg (by simpa using h46),hc,hw]
   unfold b7
   split
   ·rename_i e; cases e; exact absurd rfl h46
   ·rfl
theorem vg:∀ws:List (List Nat),(∀w∈ws,j1 w)->bk true (b4 [13,10] ws)=b4 [13,10] (ws.map b7)
 | [],_=>rfl
 | [w],h=>by
  have h1:b4 [13,10] [w]=w:=by show w++[]=w; simp
  have h2:b4 [13,10] ([w].map b7)=b7 w:=by show b7 w++[]=_; simp
  exact h1.symm▸h2.symm▸(u2 w λc hc=>((h w (List.mem_cons_self ..)).2 c hc).1).symm▸rfl
 | w::v::r,h=>by
  have hw:=h w (List.mem_cons_self ..)
  rw [fc,List.map_cons,List.map_cons,fc]
  show bk true (w++13::10::b4 [13,10] (v::r))=_
  rw [rn w _ (λc hc=>(hw.2 c hc).1) hw.1,u2 w (λc hc=>(hw.2 c hc).1),vg (v::r) (λx hx=>h x (List.mem_cons_of_mem _ hx))]
  rfl
theorem tm:∀(w r cur:List Nat),(∀c∈w,c≠13)->bu (w++13::10::r) cur=(cur++w)::bu r []
 | [],r,cur,_=>by show bu (13::10::r) cur=_; rw [bu,if_pos (by rfl),List.append_nil]
 | [c],r,cur,h=>by
  have hc:c≠13:=h c (List.mem_cons_self ..)
  show bu (c::13::10::r) cur=_
  rw [bu,if_neg (by simp [hc]),bu,if_pos (by rfl)]
 | c::d::w,r,cur,h=>by
  have hc:c≠13:=h c (List.mem_cons_self ..)
  show bu (c::d::(w++13::10::r)) cur=_
  rw [bu,if_neg (by simp [hc])]
  have:=tm (d::w) r (cur++[c]) λx hx=>h x (List.mem_cons_of_mem _ hx)
  refine (show d::(w++13::10::r)=(d::w)++13::10::r from rfl).symm▸this.symm▸?_
  simp
theorem nq:∀(w cur:List Nat),(∀c∈w,c≠13)->bu w cur=[cur++w]
 | [],cur,_=>by rw [bu,List.append_nil]
 | [c],cur,_=>by rw [bu]
 | c::d::w,cur,h=>by
  have hc:c≠13:=h c (List.mem_cons_self ..)
  rw [bu,if_neg (by simp [hc]),nq (d::w) _ λx hx=>h x (List.mem_cons_of_mem _ hx)]
  simp
theorem o9:∀ws:List (List Nat),ws≠[]->(∀w∈ws,∀c∈w,c≠13)->bu (b4 [13,10] ws) []=ws
 | [],h,_=>absurd rfl h
 | [w],_,h=>by
  have h1:b4 [13,10] [w]=w:=by show w++[]=w; simp
  rw [h1,nq w [] (h w (List.mem_cons_self ..))]; rfl
 | w::v::r,_,h=>by
  rw [fc]
  show bu (w++13::10::b4 [13,10] (v::r)) []=_
  rw [tm w _ [] (h w (List.mem_cons_self ..)),o9 (v::r) (by simp) λx hx=>h x (List.mem_cons_of_mem _ hx)]
  rfl
end Mine
end
section
open PySem
namespace Mine
noncomputable def ats (f:Bool) (n:Int):List (Nat×PV):=if f then [(1,.dat (.int n)),(3,.obj 4),(2,.dat (.str ⟨⟨[10,9,13,32]⟩⟩)),(0,.strm 2)] else [(3,.obj 4),(2,.dat (.str ⟨⟨[10,9,13,32]⟩⟩)),(0,.strm 2),(1,.dat (.int n))]
noncomputable def Se:Option Bool->List MO
 | none=>[]
 | some dn=>[.cit 3 59 dn]
noncomputable def hs (P:Addr) (fl:Bool) (wl:List PyData) (s:List Nat) (f:Bool) (n:Int) (pb:List PyData) (t:Option Bool):List MO :=
 .tab P fl::.lst wl::.lst (chars s)::.ins 76 (ats f n)::.lst pb::Se t
section
variable {P:Addr} {fl f:Bool} {wl pb:List PyData} {s r:List Nat} {n:Int} {t:Option Bool} {c:Nat}
theorem N3:chars (c::r)=.str ⟨⟨[c]⟩⟩::chars r:=rfl
theorem rc_nil:bd [.obj 3] (hs P fl wl [] f n pb t)=some (.dat (.str ⟨⟨[]⟩⟩),hs P fl wl [] f n pb t):=by
 cases f<;>rcases t with _ | _<;>rfl
theorem Nl (h:r.length < lim):ph 2 (hs P fl wl (c::r) f n pb t)=some (.dat (.str ⟨⟨[c]⟩⟩),hs P fl wl r f n pb t):=by
 show (if (chars (c::r)).length≤lim then some (PV.dat (.str ⟨⟨[c]⟩⟩),hs P fl wl r f n pb t) else none)=_
 exact if_pos (show (chars r).length+1≤lim by rw [chars,List.length_map]; exact h)
theorem I0 {F G:XF} {σ σ':St} (h:F σ=some (.next,σ')):ah F G σ=G σ':=by unfold ah; rw [h]
theorem P4 (c k:Nat):di .Eq (.str ⟨⟨[c]⟩⟩) (.str ⟨⟨[k]⟩⟩)=some (c==k):=by
 show some (([c]:List Nat)==[k])=_
 congr 1
 exact Bool.and_true _
theorem rc_test:bq .Eq (aa 1) (sC [10]) ⟨[some (.obj 3),some (.dat (.str ⟨⟨[c]⟩⟩))],hs P fl wl r f n pb t⟩=some (c==10,hs P fl wl r f n pb t):=by
 show (match di .Eq (.str ⟨⟨[c]⟩⟩) (.str ⟨⟨[10]⟩⟩) with
  | some d=>some (d,hs P fl wl r f n pb t)
  | none=>none)=_
 rw [P4]
theorem Ld:gt (bq .Eq (aa 1) (sC [10])) (ah (yi (aa 0) (λσ=>some (.dat (.int 1),σ.hp)) 76 1 .Add) aq) aq ⟨[some (.obj 3),some (.dat (.str ⟨⟨[c]⟩⟩))],hs P fl wl r f n pb t⟩=some (.next,⟨[some (.obj 3),some (.dat (.str ⟨⟨[c]⟩⟩))],hs P fl wl r (f||c==10) (if c=10 then n+1 else n) pb t⟩):=by
 unfold gt
 refine rc_test.symm▸?_
 by_cases hc:c=10
 ·rw [hc]; cases f<;>rfl
 ·rw [if_neg hc,beq_false_of_ne hc,Bool.or_false]; rfl
theorem Oj {g:Bool} {m:Int}:trunc (hs P fl wl s f n pb t).length (.dat (.str ⟨⟨[c]⟩⟩)) (hs P fl wl r g m pb t)=some (.dat (.str ⟨⟨[c]⟩⟩),hs P fl wl r g m pb t):=by
 cases g<;>rcases t with _ | _<;>rfl
theorem Cm (h:r.length < lim):bd [.obj 3] (hs P fl wl (c::r) f n pb t)=some (.dat (.str ⟨⟨[c]⟩⟩),hs P fl wl r (f||c==10) (if c=10 then n+1 else n) pb t):=by
 have h1:au (Jt (af (aa 0) (bh 76 0))) (c9 1) ⟨[some (.obj 3),none],hs P fl wl (c::r) f n pb t⟩=some (.next,⟨[some (.obj 3),some (.dat (.str ⟨⟨[c]⟩⟩))],hs P fl wl r f n pb t⟩):=by
  unfold au
  rw [show Jt (af (aa 0) (bh 76 0)) ⟨[some (.obj 3),none],hs P fl wl (c::r) f n pb t⟩=ph 2 (hs P fl wl (c::r) f n pb t) by cases f<;>rfl,Nl h]
  rfl
 have e:X_L_read_char.1 ⟨az [.obj 3] 1,hs P fl wl (c::r) f n pb t⟩=some (.ret (.dat (.str ⟨⟨[c]⟩⟩)),⟨[some (.obj 3),some (.dat (.str ⟨⟨[c]⟩⟩))],hs P fl wl r (f||c==10) (if c=10 then n+1 else n) pb t⟩):=(I0 h1).trans ((I0 Ld).trans rfl)
 unfold bd kq
 rw [e]
 exact Oj
end
section
variable {step:cy} {T:PyData->bg->Option bg} {B:XF} {m:Nat} {is is':IS} {σ σ_2:St} {d:PyData} {hp:List MO} {loc:bg} {v:PV}
theorem bm (h1:step is σ.hp=some (some (d,is'),hp)) (h2:T d σ.loc=some loc) (h3:B ⟨loc,hp⟩=some (.next,σ_2)):bw step T B (m+1) is σ=bw step T B m is' σ_2:=by
 rw [bw]; dsimp only; rw [h1]; dsimp only; rw [h2]; dsimp only; rw [h3]
theorem vw (h1:step is σ.hp=some (some (d,is'),hp)) (h2:T d σ.loc=some loc) (h3:B ⟨loc,hp⟩=some (.cont,σ_2)):bw step T B (m+1) is σ=bw step T B m is' σ_2:=by
 rw [bw]; dsimp only; rw [h1]; dsimp only; rw [h2]; dsimp only; rw [h3]
theorem i3 (h1:step is σ.hp=some (some (d,is'),hp)) (h2:T d σ.loc=some loc) (h3:B ⟨loc,hp⟩=some (.ret v,σ_2)):bw step T B (m+1) is σ=some (.ret v,σ_2):=by
 rw [bw]; dsimp only; rw [h1]; dsimp only; rw [h2]; dsimp only; rw [h3]
theorem dg (h1:step is σ.hp=some (none,hp)):bw step T B (m+1) is σ=some (.next,⟨σ.loc,hp⟩):=by
 rw [bw]; dsimp only; rw [h1]
end
noncomputable def j0:XF:=gt (bq .Eq (aa 3) (sC [92])) (ah (au (jd (aa 0) 76 "_read_char" bd) (c9 3)) aq) aq
noncomputable def BQ:XF:=ah (gt (bq .Eq (aa 3) (sC [34])) (ah (jm (aa 1)) aq) (ah j0 aq)) (ah (ki 1 .Add (aa 3)) aq)
noncomputable def BW:XF:=ah (gt (bq .In (aa 3) (af (aa 0) (bh 76 2))) (ah (jm (aa 1)) aq) (ah j0 aq)) (ah (ki 1 .Add (aa 3)) aq)
noncomputable def Bm (B:XF):XF:=de (rf gq (aa 2)) λis n=>bw (jo 59 bd) (bx 3) B n is
noncomputable def BO:XF:=ah (gt (bq .In (aa 3) (af (aa 0) (bh 76 2))) (ah (λσ=>some (.cont,σ)) aq) aq)
 (ah (gt (bq .Eq (aa 3) (sC [34])) (ah (Bm BQ) aq) (ah j0 (ah (ki 1 .Add (aa 3)) (ah (Bm BW) aq)))) aq)
noncomputable def BT:XF:=ah (gt (af (af (aa 0) (bh 76 3)) B6) (ah (jm (md (af (aa 0) (bh 76 3)) true)) aq) aq)
 (ah (au (sC []) (c9 1)) (ah (au (z6 (aa 0) 76 59 "_read_char") (c9 2)) (ah (Bm BO) (ah (jm (aa 1)) aq))))
theorem get_token_eq:b3=kq 1 3 false BT:=rfl
noncomputable def LT (tok:List Nat) (ch:List Nat):bg:=[some (.obj 3),some (.dat (.str ⟨⟨tok⟩⟩)),some (.obj 5),some (.dat (.str ⟨⟨ch⟩⟩))]
section
variable {P:Addr} {fl f dn:Bool} {wl pb:List PyData} {s r tok ch:List Nat} {n:Int} {t:Option Bool} {c d:Nat}
noncomputable abbrev ST:=jo 59 bd
theorem gc:ST (.trk 5 0) (hs P fl wl [] f n pb (some false))=some (none,hs P fl wl [] f n pb (some true)):=by
 have:(hs P fl wl [] f n pb (some false))[5]?=some (.cit 3 59 false):=rfl
 unfold ST jo
 dsimp only
 refine this.symm▸?_
 dsimp only
 refine (if_pos rfl).symm▸rc_nil.symm▸?_
 rfl
theorem Dk:ST (.trk 5 0) (hs P fl wl s f n pb (some true))=some (none,hs P fl wl s f n pb (some true)):=rfl
theorem gy (h:r.length < lim):ST (.trk 5 0) (hs P fl wl (c::r) f n pb (some false))=some (some (.str ⟨⟨[c]⟩⟩,.trk 5 0),hs P fl wl r (f||c==10) (if c=10 then n+1 else n) pb (some false)):=by
 have:(hs P fl wl (c::r) f n pb (some false))[5]?=some (.cit 3 59 false):=rfl
 unfold ST jo
 dsimp only
 rw [this]
 dsimp only
 rw [if_pos rfl,Cm h]
 rfl
theorem Te (c k:Nat):di .Eq (.str ⟨⟨[c]⟩⟩) (.str ⟨⟨[k]⟩⟩)=some (c==k):=by
 show some (([c]:List Nat)==[k])=_
 congr 1
 rw [Bool.eq_iff_iff]
 simp
theorem Dd (k:Nat):bq .Eq (aa 3) (sC [k]) ⟨LT tok [c],hs P fl wl s f n pb t⟩=some (c==k,hs P fl wl s f n pb t):=by
 show (match di .Eq (.str ⟨⟨[c]⟩⟩) (.str ⟨⟨[k]⟩⟩) with
  | some d=>some (d,hs P fl wl s f n pb t)
  | none=>none)=_
 rw [Te]
noncomputable def gv (c:Nat):Bool:=[10,9,13,32].contains c
theorem Ie:bq .In (aa 3) (af (aa 0) (bh 76 2)) ⟨LT tok [c],hs P fl wl s f n pb t⟩=some (gv c,hs P fl wl s f n pb t):=by
 cases f<;>rfl
theorem Iw (h:tok.length+ch.length≤lim):ki 1 .Add (aa 3) ⟨LT tok ch,hs P fl wl s f n pb t⟩=some (.next,⟨LT (tok++ch) ch,hs P fl wl s f n pb t⟩):=by
 show (match p8 .Add (.str ⟨⟨tok⟩⟩) (.str ⟨⟨ch⟩⟩) with
  | some d=>some (Fl.next,(⟨(LT tok ch).set 1 (some (.dat d)),hs P fl wl s f n pb t⟩:St))
  | none=>none)=_
 have:p8 .Add (.str ⟨⟨tok⟩⟩) (.str ⟨⟨ch⟩⟩)=some (.str ⟨⟨tok++ch⟩⟩):=if_pos h
 rw [this]; rfl
theorem oh (h:c≠92):j0 ⟨LT tok [c],hs P fl wl s f n pb t⟩=some (.next,⟨LT tok [c],hs P fl wl s f n pb t⟩):=by
 unfold j0 gt
 rw [Dd]
 have:(c==92)=false:=by simpa using h
 rw [this]; rfl
theorem wf:j0 ⟨LT tok [92],hs P fl wl [] f n pb t⟩=some (.next,⟨LT tok [],hs P fl wl [] f n pb t⟩):=by
 unfold j0 gt
 rw [Dd]
 show ah (au (jd (aa 0) 76 "_read_char" bd) (c9 3)) aq ⟨LT tok [92],hs P fl wl [] f n pb t⟩=_
 have:jd (aa 0) 76 "_read_char" bd ⟨LT tok [92],hs P fl wl [] f n pb t⟩=some (.dat (.str ⟨⟨[]⟩⟩),hs P fl wl [] f n pb t):=by
  show (if ct 76 "_read_char" 3 (hs P fl wl [] f n pb t) then bd [.obj 3] (hs P fl wl [] f n pb t) else none)=_
  rw [show ct 76 "_read_char" 3 (hs P fl wl [] f n pb t)=true by cases f<;>kernel_rfl,if_pos rfl,rc_nil]
 unfold ah au
 rw [this]; rfl
theorem sq (h:r.length < lim):j0 ⟨LT tok [92],hs P fl wl (d::r) f n pb t⟩=some (.next,⟨LT tok [d],hs P fl wl r (f||d==10) (if d=10 then n+1 else n) pb t⟩):=by
 unfold j0 gt
 rw [Dd]
 show ah (au (jd (aa 0) 76 "_read_char" bd) (c9 3)) aq ⟨LT tok [92],hs P fl wl (d::r) f n pb t⟩=_
 have:jd (aa 0) 76 "_read_char" bd ⟨LT tok [92],hs P fl wl (d::r) f n pb t⟩=some (.dat (.str ⟨⟨[d]⟩⟩),hs P fl wl r (f||d==10) (if d=10 then n+1 else n) pb t):=by
  show (if ct 76 "_read_char" 3 (hs P fl wl (d::r) f n pb t) then bd [.obj 3] (hs P fl wl (d::r) f n pb t) else none)=_
  rw [show ct 76 "_read_char" 3 (hs P fl wl (d::r) f n pb t)=true by cases f<;>kernel_rfl,if_pos rfl,Cm h]
 unfold ah au
 rw [this]; rfl
end
noncomputable def Mw:List Nat->List Nat->List Nat×Option (List Nat)
 | [],tok=>(tok,none)
 | [c],tok=>if c=34 then (tok,some []) else if c=92 then (tok,none) else (tok++[c],none)
 | c::d::r,tok=>if c=34 then (tok,some (d::r)) else if c=92 then Mw r (tok++[d]) else Mw (d::r) (tok++[c])
noncomputable def Fy:List Nat->List Nat->List Nat×Option (List Nat)
 | [],tok=>(tok,none)
 | [c],tok=>if gv c then (tok,some []) else if c=92 then (tok,none) else (tok++[c],none)
 | c::d::r,tok=>if gv c then (tok,some (d::r)) else if c=92 then Fy r (tok++[d]) else Fy (d::r) (tok++[c])
section
variable {P:Addr} {fl f dn:Bool} {wl pb:List PyData} {s r tok ch:List Nat} {n:Int} {t:Option Bool} {c d:Nat}
noncomputable def Rz (P:Addr) (fl:Bool) (wl pb:List PyData) (N:Int) (x:List Nat×Option (List Nat)) (res:Option (Fl×St)):Prop:=match x with
 | (t',some r)=>∃ch' f' n',res=some (.ret (.dat (.str ⟨⟨t'⟩⟩)),⟨LT t' ch',hs P fl wl r f' n' pb (some false)⟩)∧n'+(r.count 10:Nat)=N
 | (t',none)=>∃ch' f',res=some (.next,⟨LT t' ch',hs P fl wl [] f' N pb (some true)⟩)
theorem cntC {c:Nat} {r:List Nat} {n:Int}:(if c=10 then n+1 else n)+(r.count 10:Nat)=n+((c::r).count 10:Nat):=by
 rw [List.count_cons]
 by_cases h:c=10
 ·subst h; simp; lia
 ·simp [h]
theorem Pp:BQ ⟨LT tok [34],hs P fl wl s f n pb t⟩=some (.ret (.dat (.str ⟨⟨tok⟩⟩)),⟨LT tok [34],hs P fl wl s f n pb t⟩):=rfl
theorem Kt {σ':St} (h:c≠34) (he:j0 ⟨LT tok [c],hs P fl wl s f n pb t⟩=some (.next,σ')):BQ ⟨LT tok [c],hs P fl wl s f n pb t⟩=ah (ki 1 .Add (aa 3)) aq σ':=by
 unfold BQ gt
 have h1:bq .Eq (aa 3) (sC [34]) ⟨LT tok [c],hs P fl wl s f n pb t⟩=some (false,hs P fl wl s f n pb t):=by
  rw [Dd]
  have:(c==34)=false:=by simpa using h
  rw [this]
 rw [ah]
 rw [h1]
 dsimp only
 rw [if_neg Bool.false_ne_true]
 show (match ah j0 aq ⟨LT tok [c],hs P fl wl s f n pb t⟩ with
  | some (.next,σ')=>ah (ki 1 .Add (aa 3)) aq σ'
  | r=>r)=_
 have:ah j0 aq ⟨LT tok [c],hs P fl wl s f n pb t⟩=some (.next,σ'):=by
  unfold ah
  rw [he]; rfl
 exact this.symm▸rfl
theorem P7 (h:gv c=true):BW ⟨LT tok [c],hs P fl wl s f n pb t⟩=some (.ret (.dat (.str ⟨⟨tok⟩⟩)),⟨LT tok [c],hs P fl wl s f n pb t⟩):=by
 unfold BW gt
 rw [ah]
 rw [Ie,h]
 rfl
theorem Kd {σ':St} (h:gv c=false) (he:j0 ⟨LT tok [c],hs P fl wl s f n pb t⟩=some (.next,σ')):BW ⟨LT tok [c],hs P fl wl s f n pb t⟩=ah (ki 1 .Add (aa 3)) aq σ':=by
 unfold BW gt
 rw [ah]
 rw [Ie,h]
 dsimp only
 rw [if_neg Bool.false_ne_true]
 show (match ah j0 aq ⟨LT tok [c],hs P fl wl s f n pb t⟩ with
  | some (.next,σ')=>ah (ki 1 .Add (aa 3)) aq σ'
  | r=>r)=_
 have:ah j0 aq ⟨LT tok [c],hs P fl wl s f n pb t⟩=some (.next,σ'):=by
  unfold ah
  rw [he]; rfl
 exact this.symm▸rfl
theorem za (h:tok.length+ch.length≤lim):ah (ki 1 .Add (aa 3)) aq ⟨LT tok ch,hs P fl wl s f n pb t⟩=some (.next,⟨LT (tok++ch) ch,hs P fl wl s f n pb t⟩):=by
 unfold ah
 rw [Iw h]; rfl
theorem Ct:∀(k:Nat) (s tok ch:List Nat) (f:Bool) (n:Int) (m:Nat),s.length≤k->s.length < m->s.length < lim->tok.length+s.length≤lim ->
  Rz P fl wl pb (n+(s.count 10:Nat)) (Mw s tok) (bw ST (bx 3) BQ m (.trk 5 0) ⟨LT tok ch,hs P fl wl s f n pb (some false)⟩)
 | _,[],tok,ch,f,n,m+1,_,_,_,_=>by
  refine ⟨ch,f,?_⟩
  rw [dg gc]
  simp
 | k+1,[c],tok,ch,f,n,m+1,hk,hm,hl,ht=>by
  have hst:=gy (P:=P) (fl:=fl) (wl:=wl) (pb:=pb) (c:=c) (r:=[]) (f:=f) (n:=n) (by decide)
  have hN:(if c=10 then n+1 else n)=n+([c].count 10:Nat):=by have:=cntC (c:=c) (r:=[]) (n:=n); simpa using this
  rw [Mw]
  by_cases h34:c=34
  ·subst h34
   refine (if_pos rfl).symm▸?_
   exact ⟨[34],_,_,i3 hst rfl Pp,by simp⟩
  ·refine (if_neg h34).symm▸?_
   cases m with
   | zero=>simp at hm
   | succ m =>
   by_cases h92:c=92
   ·subst h92
    refine (if_pos rfl).symm▸?_
    rw [bm hst rfl ((Kt h34 wf).trans (za (by simp at ht ⊢; (exact Nat.le_of_lt (by assumption))))),dg gc]
    exact ⟨[],_,by simp; rfl⟩
   ·refine (if_neg h92).symm▸?_
    rw [bm hst rfl ((Kt h34 (oh h92)).trans (za (by simpa using ht))),dg gc]
    exact ⟨[c],_,by rw [hN]⟩
 | k+1,c::d::r,tok,ch,f,n,m+1,hk,hm,hl,ht=>by
  simp only [List.length_cons] at hk hm hl ht
  have hst:=gy (P:=P) (fl:=fl) (wl:=wl) (pb:=pb) (c:=c) (r:=d::r) (f:=f) (n:=n) (by simp; (exact Nat.le_of_lt (by assumption)))
  rw [Mw]
  by_cases h34:c=34
  ·subst h34
   refine (if_pos rfl).symm▸?_
   exact ⟨[34],_,_,i3 hst rfl Pp,cntC.symm▸rfl⟩
  ·refine (if_neg h34).symm▸?_
   by_cases h92:c=92
   ·subst h92
    refine (if_pos rfl).symm▸?_
    rw [bm hst rfl ((Kt h34 (sq (by (exact Nat.lt_of_le_of_lt (Nat.le_add_right _ _) (by assumption))))).trans (za (by simp; (exact Nat.lt_of_le_of_lt (Nat.le_add_right _ _) (by assumption)))))]
    have ih:=Ct k r (tok++[d]) [d] (f||(92:Nat)==10||d==10) (if d=10 then (if (92:Nat)=10 then n+1 else n)+1 else (if (92:Nat)=10 then n+1 else n)) m (by lia) (by lia) (by (exact Nat.lt_of_le_of_lt (Nat.le_add_right _ _) (by assumption))) (by simp; lia)
    rw [cntC,if_neg (by decide)] at ih
    refine (show ((92::d::r).count 10:Nat)=((d::r).count 10:Nat) by rw [List.count_cons]; simp).symm▸?_
    exact ih
   ·refine (if_neg h92).symm▸?_
    rw [bm hst rfl ((Kt h34 (oh h92)).trans (za (by simp; (exact Nat.lt_of_le_of_lt (Nat.le_add_right _ _) (by assumption)))))]
    have ih:=Ct k (d::r) (tok++[c]) [c] (f||c==10) (if c=10 then n+1 else n) m (by simp; (exact Nat.le_of_lt_succ (by assumption))) (by simp; (exact Nat.le_of_lt_succ (by assumption))) (by simp; (exact Nat.le_of_lt (by assumption))) (by simp; lia)
    replace ih:=cntC▸ih
    exact ih
theorem wc:∀(k:Nat) (s tok ch:List Nat) (f:Bool) (n:Int) (m:Nat),s.length≤k->s.length < m->s.length < lim->tok.length+s.length≤lim ->
  Rz P fl wl pb (n+(s.count 10:Nat)) (Fy s tok) (bw ST (bx 3) BW m (.trk 5 0) ⟨LT tok ch,hs P fl wl s f n pb (some false)⟩)
 | _,[],tok,ch,f,n,m+1,_,_,_,_=>by
  refine ⟨ch,f,?_⟩
  rw [dg gc]
  simp
 | k+1,[c],tok,ch,f,n,m+1,hk,hm,hl,ht=>by
  have hst:=gy (P:=P) (fl:=fl) (wl:=wl) (pb:=pb) (c:=c) (r:=[]) (f:=f) (n:=n) (by decide)
  have hN:(if c=10 then n+1 else n)=n+([c].count 10:Nat):=by have:=cntC (c:=c) (r:=[]) (n:=n); simpa using this
  rw [Fy]
  cases hw:gv c with
  | true =>
   rw [if_pos rfl]
   exact ⟨[c],_,_,i3 hst rfl (P7 hw),by simpa using hN⟩
  | false =>
   rw [if_neg Bool.false_ne_true]
   cases m with
   | zero=>simp at hm
   | succ m =>
   by_cases h92:c=92
   ·subst h92
    rw [if_pos rfl]
    rw [bm hst rfl ((Kd hw wf).trans (za (by simp at ht ⊢; (exact Nat.le_of_lt (by assumption))))),dg gc]
    exact ⟨[],_,by simp; rfl⟩
   ·rw [if_neg h92]
    rw [bm hst rfl ((Kd hw (oh h92)).trans (za (by simpa using ht))),dg gc]
    exact ⟨[c],_,by rw [hN]⟩
 | k+1,c::d::r,tok,ch,f,n,m+1,hk,hm,hl,ht=>by
  simp only [List.length_cons] at hk hm hl ht
  have hst:=gy (P:=P) (fl:=fl) (wl:=wl) (pb:=pb) (c:=c) (r:=d::r) (f:=f) (n:=n) (by simp; (exact Nat.le_of_lt (by assumption)))
  rw [Fy]
  cases hw:gv c with
  | true =>
   rw [if_pos rfl]
   exact ⟨[c],_,_,i3 hst rfl (P7 hw),by rw [cntC]⟩
  | false =>
   rw [if_neg Bool.false_ne_true]
   by_cases h92:c=92
   ·subst h92
    rw [if_pos rfl]
    rw [bm hst rfl ((Kd hw (sq (by (exact Nat.lt_of_le_of_lt (Nat.le_add_right _ _) (by assumption))))).trans (za (by simp; (exact Nat.lt_of_le_of_lt (Nat.le_add_right _ _) (by assumption)))))]
    have ih:=wc k r (tok++[d]) [d] (f||(92:Nat)==10||d==10) (if d=10 then (if (92:Nat)=10 then n+1 else n)+1 else (if (92:Nat)=10 then n+1 else n)) m (by lia) (by lia) (by (exact Nat.lt_of_le_of_lt (Nat.le_add_right _ _) (by assumption))) (by simp; lia)
    rw [cntC,if_neg (by decide)] at ih
    rw [show ((92::d::r).count 10:Nat)=((d::r).count 10:Nat) by rw [List.count_cons]; simp]
    exact ih
   ·rw [if_neg h92]
    rw [bm hst rfl ((Kd hw (oh h92)).trans (za (by simp; (exact Nat.lt_of_le_of_lt (Nat.le_add_right _ _) (by assumption)))))]
    have ih:=wc k (d::r) (tok++[c]) [c] (f||c==10) (if c=10 then n+1 else n) m (by simp; (exact Nat.le_of_lt_succ (by assumption))) (by simp; (exact Nat.le_of_lt_succ (by assumption))) (by simp; (exact Nat.le_of_lt (by assumption))) (by simp; lia)
    rw [cntC] at ih
    exact ih
end
noncomputable def wg (tok:List Nat) (o:Option PV):bg:=[some (.obj 3),some (.dat (.str ⟨⟨tok⟩⟩)),some (.obj 5),o]
noncomputable def q7:List Nat->List Nat×Option (List Nat)
 | []=>([],none)
 | [c]=>if gv c then ([],none) else if c=34 then ([],none) else if c=92 then ([],none) else ([c],none)
 | c::d::r=>if gv c then q7 (d::r) else if c=34 then Mw (d::r) [] else if c=92 then Fy r [d] else Fy (d::r) [c]
section
variable {P:Addr} {fl f dn:Bool} {wl pb:List PyData} {s r tok ch:List Nat} {n:Int} {t:Option Bool} {c d:Nat}
theorem ji:s.length+2≤gq (hs P fl wl s f n pb t):=by
 unfold gq hs
 have:(chars s).length=s.length:=by simp [chars]
 simp [this]
 lia
theorem Lq (B:XF):Bm B ⟨wg tok (some (.dat (.str ⟨⟨ch⟩⟩))),hs P fl wl s f n pb (some dn)⟩=bw ST (bx 3) B (gq (hs P fl wl s f n pb (some dn))) (.trk 5 0) ⟨LT tok ch,hs P fl wl s f n pb (some dn)⟩:=rfl
noncomputable def Rt (P:Addr) (fl:Bool) (wl pb:List PyData) (N:Int) (x:List Nat×Option (List Nat)) (res:Option (Fl×St)):Prop:=match x with
 | (t',some r)=>∃o f' n',res=some (.ret (.dat (.str ⟨⟨t'⟩⟩)),⟨wg t' o,hs P fl wl r f' n' pb (some false)⟩)∧n'+(r.count 10:Nat)=N
 | (t',none)=>∃o f',res=some (.next,⟨wg t' o,hs P fl wl [] f' N pb (some true)⟩)
theorem Rz.outer {N:Int} {x:List Nat×Option (List Nat)} {m:Nat} {st hp':List MO} {loc loc':bg} {e:PyData} (h1:ST (.trk 5 0) st=some (some (e,.trk 5 0),hp')) (h2:bx 3 e loc=some loc') (h:Rz P fl wl pb N x (BO ⟨loc',hp'⟩)) (hm:0 < m) :
  Rt P fl wl pb N x (bw ST (bx 3) BO (m+1) (.trk 5 0) ⟨loc,st⟩):=by
 obtain ⟨t',o⟩:=x
 cases o with
 | some r =>
  obtain ⟨ch',f',n',e,hn⟩:=h
  exact ⟨some (.dat (.str ⟨⟨ch'⟩⟩)),f',n',i3 h1 h2 e,hn⟩
 | none =>
  obtain ⟨ch',f',e⟩:=h
  refine ⟨some (.dat (.str ⟨⟨ch'⟩⟩)),f',?_⟩
  rw [bm h1 h2 e]
  cases m with
  | zero=>cases hm
  | succ m =>
   rw [dg Dk]
   rfl
theorem ae {F G:XF} {σ σ':St} (h:F σ=some (.next,σ')):ah F G σ=G σ':=by unfold ah; rw [h]
theorem dq {F G:XF} {σ σ':St} {v:PV} (h:F σ=some (.ret v,σ')):ah F G σ=some (.ret v,σ'):=by unfold ah; rw [h]
theorem bz (F:XF) (σ:St):ah F aq σ=F σ:=by
 unfold ah
 split
 ·rename_i e; rw [e]; rfl
 ·rfl
theorem Mm (h:gv c=true):BO ⟨wg tok (some (.dat (.str ⟨⟨[c]⟩⟩))),hs P fl wl s f n pb t⟩=some (.cont,⟨wg tok (some (.dat (.str ⟨⟨[c]⟩⟩))),hs P fl wl s f n pb t⟩):=by
 unfold BO
 rw [ah]
 unfold gt
 refine (show bq .In (aa 3) (af (aa 0) (bh 76 2)) ⟨wg tok (some (.dat (.str ⟨⟨[c]⟩⟩))),hs P fl wl s f n pb t⟩=some (gv c,hs P fl wl s f n pb t) from Ie).symm▸h.symm▸?_
 rfl
theorem BO_quote:BO ⟨wg tok (some (.dat (.str ⟨⟨[34]⟩⟩))),hs P fl wl s f n pb (some false)⟩=bw ST (bx 3) BQ (gq (hs P fl wl s f n pb (some false))) (.trk 5 0) ⟨LT tok [34],hs P fl wl s f n pb (some false)⟩:=by
 unfold BO
 rw [ah]
 unfold gt
 refine (show bq .In (aa 3) (af (aa 0) (bh 76 2)) ⟨wg tok (some (.dat (.str ⟨⟨[34]⟩⟩))),hs P fl wl s f n pb (some false)⟩=some (gv 34,hs P fl wl s f n pb (some false)) from Ie).symm▸?_
 refine (show gv 34=false by rfl).symm▸?_
 dsimp only
 refine (if_neg Bool.false_ne_true).symm▸?_
 show ah (λσ=>match bq .Eq (aa 3) (sC [34]) σ with
  | some (b,hp)=>if b=true then ah (Bm BQ) aq ⟨σ.loc,hp⟩ else _
  | none=>none) aq _=_
 rw [bz]
 rw [show bq .Eq (aa 3) (sC [34]) ⟨wg tok (some (.dat (.str ⟨⟨[34]⟩⟩))),hs P fl wl s f n pb (some false)⟩=some ((34:Nat)==34,hs P fl wl s f n pb (some false)) from Dd 34]
 dsimp only
 rw [if_pos (by rfl),bz,Lq]
theorem qh {σ':St} (h:gv c=false) (h34:c≠34) (he:j0 ⟨LT tok [c],hs P fl wl s f n pb (some false)⟩=some (.next,σ')) :
  BO ⟨wg tok (some (.dat (.str ⟨⟨[c]⟩⟩))),hs P fl wl s f n pb (some false)⟩=ah (ki 1 .Add (aa 3)) (ah (Bm BW) aq) σ':=by
 unfold BO
 rw [ah]
 unfold gt
 rw [show bq .In (aa 3) (af (aa 0) (bh 76 2)) ⟨wg tok (some (.dat (.str ⟨⟨[c]⟩⟩))),hs P fl wl s f n pb (some false)⟩=some (gv c,hs P fl wl s f n pb (some false)) from Ie,h]
 dsimp only
 rw [if_neg Bool.false_ne_true]
 show ah (λσ=>match bq .Eq (aa 3) (sC [34]) σ with
  | some (b,hp)=>if b=true then _ else ah j0 (ah (ki 1 .Add (aa 3)) (ah (Bm BW) aq)) ⟨σ.loc,hp⟩
  | none=>none) aq _=_
 rw [bz]
 rw [show bq .Eq (aa 3) (sC [34]) ⟨wg tok (some (.dat (.str ⟨⟨[c]⟩⟩))),hs P fl wl s f n pb (some false)⟩=some (c==34,hs P fl wl s f n pb (some false)) from Dd 34]
 rw [show (c==34)=false by simpa using h34]
 dsimp only
 rw [if_neg Bool.false_ne_true]
 exact ae he
theorem Mt:∀(k:Nat) (s:List Nat) (o:Option PV) (f:Bool) (n:Int) (m:Nat),s.length≤k->s.length+1 < m->s.length+2 < lim ->
  Rt P fl wl pb (n+(s.count 10:Nat)) (q7 s) (bw ST (bx 3) BO m (.trk 5 0) ⟨wg [] o,hs P fl wl s f n pb (some false)⟩)
 | _,[],o,f,n,m+1,_,_,_=>by
  refine ⟨o,f,?_⟩
  rw [dg gc]
  simp
 | k+1,[c],o,f,n,m+1,hk,hm,hl=>by
  have hst:=gy (P:=P) (fl:=fl) (wl:=wl) (pb:=pb) (c:=c) (r:=[]) (f:=f) (n:=n) (by decide)
  have hN:(if c=10 then n+1 else n)=n+([c].count 10:Nat):=by have:=cntC (c:=c) (r:=[]) (n:=n); simpa using this
  have hm':0 < m:=by simp at hm; lia
  rw [q7]
  cases hw:gv c with
  | true =>
   refine (if_pos rfl).symm▸?_
   obtain ⟨m,rfl⟩:∃m',m=m'+1:=⟨m - 1,by (exact (Nat.sub_add_cancel (by assumption)).symm)⟩
   rw [vw hst rfl (Mm hw),dg gc,hN]
   exact ⟨_,_,rfl⟩
  | false =>
   refine (if_neg Bool.false_ne_true).symm▸?_
   by_cases h34:c=34
   ·subst h34
    refine (if_pos rfl).symm▸?_
    refine Rz.outer hst rfl ?_ hm'
    skip
    refine BO_quote.symm▸?_
    have:=Ct (P:=P) (fl:=fl) (wl:=wl) (pb:=pb) 0 [] [] [34] (f||(34:Nat)==10) (if (34:Nat)=10 then n+1 else n) (gq (hs P fl wl [] (f||(34:Nat)==10) (if (34:Nat)=10 then n+1 else n) pb (some false))) (Nat.le_refl _) (by have:=ji (P:=P) (fl:=fl) (wl:=wl) (pb:=pb) (s:=[]) (f:=f||(34:Nat)==10) (n:=if (34:Nat)=10 then n+1 else n) (t:=some false); simp at this ⊢; (exact Nat.succ_pos _)) (by decide) (by decide)
    simpa [Mw] using this
   ·refine (if_neg h34).symm▸?_
    by_cases h92:c=92
    ·subst h92
     refine (if_pos rfl).symm▸?_
     refine Rz.outer hst rfl ?_ hm'
     show Rz P fl wl pb _ _ (BO ⟨wg [] (some (.dat (.str ⟨⟨[92]⟩⟩))),_⟩)
     rw [qh hw h34 wf,ae (Iw (by decide)),bz,← hN]
     show Rz P fl wl pb _ _ (bw ST (bx 3) BW _ (.trk 5 0) _)
     have:=wc (P:=P) (fl:=fl) (wl:=wl) (pb:=pb) 0 [] [] [] (f||(92:Nat)==10) (if (92:Nat)=10 then n+1 else n) (gq (hs P fl wl [] (f||(92:Nat)==10) (if (92:Nat)=10 then n+1 else n) pb (some false))) (Nat.le_refl _) (by have:=ji (P:=P) (fl:=fl) (wl:=wl) (pb:=pb) (s:=[]) (f:=f||(92:Nat)==10) (n:=if (92:Nat)=10 then n+1 else n) (t:=some false); simp at this ⊢; (exact Nat.succ_pos _)) (by decide) (by decide)
     simpa [Fy] using this
    ·refine (if_neg h92).symm▸?_
     refine Rz.outer hst rfl ?_ hm'
     show Rz P fl wl pb _ _ (BO ⟨wg [] (some (.dat (.str ⟨⟨[c]⟩⟩))),_⟩)
     rw [qh hw h34 (oh h92),ae (Iw (by show 0+1≤lim; decide)),bz,← hN]
     show Rz P fl wl pb _ _ (bw ST (bx 3) BW _ (.trk 5 0) _)
     have:=wc (P:=P) (fl:=fl) (wl:=wl) (pb:=pb) 0 [] [c] [c] (f||c==10) (if c=10 then n+1 else n) (gq (hs P fl wl [] (f||c==10) (if c=10 then n+1 else n) pb (some false))) (Nat.le_refl _) (by have:=ji (P:=P) (fl:=fl) (wl:=wl) (pb:=pb) (s:=[]) (f:=f||c==10) (n:=if c=10 then n+1 else n) (t:=some false); simp at this ⊢; (exact Nat.succ_pos _)) (by decide) (by show 1+0≤lim; decide)
     simpa [Fy] using this
 | k+1,c::d::r,o,f,n,m+1,hk,hm,hl=>by
  simp only [List.length_cons] at hk hm hl
  have hst:=gy (P:=P) (fl:=fl) (wl:=wl) (pb:=pb) (c:=c) (r:=d::r) (f:=f) (n:=n) (by simp; lia)
  have hm':0 < m:=by lia
  rw [q7]
  cases hw:gv c with
  | true =>
   rw [if_pos rfl,vw hst rfl (Mm hw)]
   have ih:=Mt k (d::r) (some (.dat (.str ⟨⟨[c]⟩⟩))) (f||c==10) (if c=10 then n+1 else n) m (by simp; (exact Nat.le_of_lt_succ (by assumption))) (by simp; (exact Nat.le_of_lt_succ (by assumption))) (by simp; (exact Nat.le_of_lt (by assumption)))
   replace ih:=cntC▸ih
   exact ih
  | false =>
   refine (if_neg Bool.false_ne_true).symm▸?_
   by_cases h34:c=34
   ·subst h34
    refine (if_pos rfl).symm▸?_
    refine Rz.outer hst rfl ?_ hm'
    skip
    refine BO_quote.symm▸?_
    have:=Ct (P:=P) (fl:=fl) (wl:=wl) (pb:=pb) (r.length+1) (d::r) [] [34] (f||(34:Nat)==10) (if (34:Nat)=10 then n+1 else n) (gq (hs P fl wl (d::r) (f||(34:Nat)==10) (if (34:Nat)=10 then n+1 else n) pb (some false))) (by simp) (by have:=ji (P:=P) (fl:=fl) (wl:=wl) (pb:=pb) (s:=d::r) (f:=f||(34:Nat)==10) (n:=if (34:Nat)=10 then n+1 else n) (t:=some false); (exact Nat.le_of_lt (by assumption))) (by simp; lia) (by simp; (exact Nat.lt_of_le_of_lt (Nat.le_add_right _ _) (by assumption)))
    replace this:=cntC▸this
    exact this
   ·refine (if_neg h34).symm▸?_
    by_cases h92:c=92
    ·subst h92
     refine (if_pos rfl).symm▸?_
     refine Rz.outer hst rfl ?_ hm'
     show Rz P fl wl pb _ _ (BO ⟨wg [] (some (.dat (.str ⟨⟨[92]⟩⟩))),_⟩)
     rw [qh hw h34 (sq (by (exact Nat.lt_of_le_of_lt (Nat.le_add_right _ _) (by assumption)))),ae (Iw (by show 0+1≤lim; decide)),bz]
     have:=wc (P:=P) (fl:=fl) (wl:=wl) (pb:=pb) r.length r [d] [d] (f||(92:Nat)==10||d==10) (if d=10 then (if (92:Nat)=10 then n+1 else n)+1 else (if (92:Nat)=10 then n+1 else n)) (gq (hs P fl wl r (f||(92:Nat)==10||d==10) (if d=10 then (if (92:Nat)=10 then n+1 else n)+1 else (if (92:Nat)=10 then n+1 else n)) pb (some false))) (Nat.le_refl _) (by have:=ji (P:=P) (fl:=fl) (wl:=wl) (pb:=pb) (s:=r) (f:=f||(92:Nat)==10||d==10) (n:=if d=10 then (if (92:Nat)=10 then n+1 else n)+1 else (if (92:Nat)=10 then n+1 else n)) (t:=some false); (exact Nat.le_of_lt (by assumption))) (by (exact Nat.lt_of_le_of_lt (Nat.le_add_right _ _) (by assumption))) (by simp; lia)
     rw [cntC,if_neg (by decide)] at this
     refine (show ((92::d::r).count 10:Nat)=((d::r).count 10:Nat) by rw [List.count_cons]; simp).symm▸?_
     exact this
    ·refine (if_neg h92).symm▸?_
     refine Rz.outer hst rfl ?_ hm'
     show Rz P fl wl pb _ _ (BO ⟨wg [] (some (.dat (.str ⟨⟨[c]⟩⟩))),_⟩)
     rw [qh hw h34 (oh h92),ae (Iw (by show 0+1≤lim; decide)),bz]
     have:=wc (P:=P) (fl:=fl) (wl:=wl) (pb:=pb) (r.length+1) (d::r) [c] [c] (f||c==10) (if c=10 then n+1 else n) (gq (hs P fl wl (d::r) (f||c==10) (if c=10 then n+1 else n) pb (some false))) (by simp) (by have:=ji (P:=P) (fl:=fl) (wl:=wl) (pb:=pb) (s:=d::r) (f:=f||c==10) (n:=if c=10 then n+1 else n) (t:=some false); (exact Nat.le_of_lt (by assumption))) (by simp; lia) (by simp; lia)
     replace this:=cntC▸this
     exact this
end
section
variable {P:Addr} {fl f dn:Bool} {wl pb:List PyData} {s r tok ch:List Nat} {n:Int} {t:Option Bool} {c:Nat} {d:PyData}
theorem yv {v:PyData} {o:Bool}:trunc 5 (.dat v) (hs P fl wl s f n pb (some o))=some (.dat v,hs P fl wl s f n pb none):=by
 cases f<;>rfl
theorem mw (hl:s.length+2 < lim):∃f' n',b3 [.obj 3] (hs P fl wl s f n [] none)=some (.dat (.str ⟨⟨(q7 s).1⟩⟩),hs P fl wl ((q7 s).2.getD []) f' n' [] none)∧n'+(((q7 s).2.getD []).count 10:Nat)=n+(s.count 10:Nat):=by
 have h:=Mt (P:=P) (fl:=fl) (wl:=wl) (pb:=[]) s.length s none f n (gq (hs P fl wl s f n [] (some false))) (Nat.le_refl _) (by have:=ji (P:=P) (fl:=fl) (wl:=wl) (pb:=[]) (s:=s) (f:=f) (n:=n) (t:=some false); assumption) hl
 have hBT:BT ⟨az [.obj 3] 3,hs P fl wl s f n [] none⟩=ah (λσ=>bw ST (bx 3) BO (gq (hs P fl wl s f n [] (some false))) (.trk 5 0) σ) (ah (jm (aa 1)) aq) ⟨wg [] none,hs P fl wl s f n [] (some false)⟩:=by
  have h1:gt (af (af (aa 0) (bh 76 3)) B6) (ah (jm (md (af (aa 0) (bh 76 3)) true)) aq) aq ⟨az [.obj 3] 3,hs P fl wl s f n [] none⟩=some (.next,⟨az [.obj 3] 3,hs P fl wl s f n [] none⟩):=by
   cases f<;>rfl
  have h2:au (z6 (aa 0) 76 59 "_read_char") (c9 2) ⟨[some (.obj 3),some (.dat (.str ⟨⟨[]⟩⟩)),none,none],hs P fl wl s f n [] none⟩=some (.next,⟨wg [] none,hs P fl wl s f n [] (some false)⟩):=by
   unfold au
   have:z6 (aa 0) 76 59 "_read_char" ⟨[some (.obj 3),some (.dat (.str ⟨⟨[]⟩⟩)),none,none],hs P fl wl s f n [] none⟩=some (.obj 5,hs P fl wl s f n [] (some false)):=by
    show (if ct 76 "_read_char" 3 (hs P fl wl s f n [] none) then some (PV.obj 5,hs P fl wl s f n [] none++[.cit 3 59 false]) else none)=_
    rw [show ct 76 "_read_char" 3 (hs P fl wl s f n [] none)=true by cases f<;>kernel_rfl,if_pos rfl]
    rfl
   rw [this]; rfl
  unfold BT
  refine (ae h1).symm▸?_
  rw [ae (σ':=⟨[some (.obj 3),some (.dat (.str ⟨⟨[]⟩⟩)),none,none],hs P fl wl s f n [] none⟩) rfl,ae h2]
  rfl
 refine get_token_eq.symm▸?_
 unfold kq
 refine hBT.symm▸?_
 revert h
 generalize q7 s=x
 obtain ⟨t',o⟩:=x
 cases o with
 | some r =>
  rintro ⟨o,f',n',e,hn⟩
  refine ⟨f',n',?_,hn⟩
  refine (dq e).symm▸?_
  skip
  exact yv
 | none =>
  rintro ⟨o,f',e⟩
  refine ⟨f',n+(s.count 10:Nat),?_,by simp⟩
  rw [ae e,bz]
  skip
  exact yv
theorem Hq (hl:pb.length < lim):b3 [.obj 3] (hs P fl wl s f n (d::pb) none)=some (.dat d,hs P fl wl s f n pb none):=by
 have hp:∀hp:List MO,il 4 0 (d::pb) hp=some (.dat d,hp.set 4 (.lst pb)):=λhp=>by
  unfold il
  rw [if_pos (by show pb.length+1≤lim; assumption)]
  rfl
 have ht:Nd (.list (d::pb))=some true:=by
  show (if (d::pb).length≤lim then some ((d::pb).length != 0) else none)=_
  rw [if_pos (by show pb.length+1≤lim; assumption)]
  rfl
 have h1:af (af (aa 0) (bh 76 3)) B6 ⟨az [.obj 3] 3,hs P fl wl s f n (d::pb) none⟩=some (true,hs P fl wl s f n (d::pb) none):=by
  have:af (af (aa 0) (bh 76 3)) B6 ⟨az [.obj 3] 3,hs P fl wl s f n (d::pb) none⟩=(match Nd (.list (d::pb)) with
   | some b=>some (b,hs P fl wl s f n (d::pb) none)
   | none=>none):=by cases f<;>rfl
  rw [this,ht]
 have h2:md (af (aa 0) (bh 76 3)) true ⟨az [.obj 3] 3,hs P fl wl s f n (d::pb) none⟩=some (.dat d,hs P fl wl s f n pb none):=by
  have:md (af (aa 0) (bh 76 3)) true ⟨az [.obj 3] 3,hs P fl wl s f n (d::pb) none⟩=il 4 0 (d::pb) (hs P fl wl s f n (d::pb) none):=by cases f<;>rfl
  rw [this,hp]; rfl
 rw [get_token_eq]
 unfold kq
 have hB:BT ⟨az [.obj 3] 3,hs P fl wl s f n (d::pb) none⟩=some (.ret (.dat d),⟨az [.obj 3] 3,hs P fl wl s f n pb none⟩):=by
  unfold BT
  refine dq ?_
  unfold gt
  rw [h1]
  dsimp only
  rw [if_pos rfl,bz]
  unfold jm au
  rw [h2]
 rw [hB]
 show trunc 5 _ _=_
 cases f<;>rfl
theorem push_tok (hl:pb.length≤lim):d8 [.obj 3,.dat d] (hs P fl wl s f n pb none)=some (.dat .none,hs P fl wl s f n (pb++[d]) none):=by
 have hA:∀hp:List MO,hp[4]?=some (.lst pb)->Dn 4 (.dat d) ⟨az [.obj 3,.dat d] 0,hp⟩=some (.dat .none,hp.set 4 (.lst (pb++[d]))):=λhp h=>by
  unfold Dn
  dsimp only
  rw [h]
  dsimp only
  rw [if_pos hl]
 unfold d8 kq
 have hB:X_L_push_token.1 ⟨az [.obj 3,.dat d] 0,hs P fl wl s f n pb none⟩=some (.next,⟨az [.obj 3,.dat d] 0,hs P fl wl s f n (pb++[d]) none⟩):=by
  have e1:dh (af (aa 0) (bh 76 3)) (aa 1) ⟨az [.obj 3,.dat d] 0,hs P fl wl s f n pb none⟩=some (.dat .none,hs P fl wl s f n (pb++[d]) none):=by
   have:dh (af (aa 0) (bh 76 3)) (aa 1) ⟨az [.obj 3,.dat d] 0,hs P fl wl s f n pb none⟩=Dn 4 (.dat d) ⟨az [.obj 3,.dat d] 0,hs P fl wl s f n pb none⟩:=by cases f<;>rfl
   rw [this,hA _ rfl]; rfl
  show ah (au (dh (af (aa 0) (bh 76 3)) (aa 1)) _) aq _=_
  refine ae ?_
  unfold au
  exact e1.symm▸rfl
 refine hB.symm▸?_
 show trunc 5 _ _=_
 cases f<;>rfl
theorem Jf (hl:s.length≤lim):j4 [.dat (.str ⟨⟨s⟩⟩)] [.tab 186 true,.lst wl]=some (.obj 3,hs 186 false wl s false 1 [] none):=by
 have h0:ll (af (aa 0) (iw B1.list.f)) ⟨az [.dat (.str ⟨⟨s⟩⟩)] 2,[.tab 186 true,.lst wl]⟩=some (.obj 2,[.tab 186 true,.lst wl,.lst (chars s)]):=by
  have:ll (af (aa 0) (iw B1.list.f)) ⟨az [.dat (.str ⟨⟨s⟩⟩)] 2,[.tab 186 true,.lst wl]⟩=(match (match (if s.length≤lim then some (PyData.list (chars s)) else none) with
   | some d=>some (d,[MO.tab 186 true,MO.lst wl])
   | none=>none) with
   | some (.list l,hp)=>some (PV.obj hp.length,hp++[.lst l])
   | _=>none):=rfl
  rw [this,if_pos hl]; rfl
 unfold j4 kq
 have hB:X_law_lexer.1 ⟨az [.dat (.str ⟨⟨s⟩⟩)] 2,[.tab 186 true,.lst wl]⟩=some (.ret (.obj 3),⟨[some (.dat (.str ⟨⟨s⟩⟩)),some (.obj 2),some (.strm 2)],hs 186 false wl s false 1 [] none⟩):=by
  show ah (au (ll (af (aa 0) (iw B1.list.f))) (c9 1)) _ _=_
  have h1:au (ll (af (aa 0) (iw B1.list.f))) (c9 1) ⟨az [.dat (.str ⟨⟨s⟩⟩)] 2,[.tab 186 true,.lst wl]⟩=some (.next,⟨[some (.dat (.str ⟨⟨s⟩⟩)),some (.obj 2),none],[.tab 186 true,.lst wl,.lst (chars s)]⟩):=by
   unfold au
   rw [h0]; rfl
  rw [ae h1]
  rfl
 rw [hB]
 rfl
end
noncomputable def fb (a:EF):NF:=af a (iw B1.len.f)
noncomputable def Tz:XF:=ah (au (am (bf .Add (aa 6) (iC 1))) (c9 6)) (ah (au (am (bf .Add (aa 5) (iC 1))) (c9 5)) aq)
noncomputable def Q4:XF:=au (ll (bf .Add (aa 4) (am (bf .Mult (am (cw (ak (iC 0) ba))) (am (bf .Add (am (bf .Sub (aa 5) (am (fb (aa 4))))) (iC 1))))))) (c9 4)
noncomputable def R7:XF:=oe (am (bf .Add (af (aa 4) λa=>af (aa 5) λb=>et a b) (iC 1))) (aa 4) (aa 5)
noncomputable def Os:XF:=ah (au (am (bf .Add (aa 6) (iC 1))) (c9 6)) (ah (au (am (bf .Add (aa 7) (iC 1))) (c9 7))
 (ah (gt (bq .GtE (aa 5) (am (fb (aa 4)))) (ah Q4 aq) aq) (ah R7 (ah (au (iC 0) (c9 5)) aq))))
noncomputable def Fb:XF:=ah (gt (bq .Eq (aa 8) (aa 2)) Tz (ah (gt (bq .Eq (aa 8) (aa 3)) Os (ah (λσ=>some (.brk,σ)) aq)) aq)) aq
noncomputable def Qw:XF:=ah (em (aa 0) (aa 6) 180 5) (ah (em (aa 0) (aa 7) 180 6)
 (ah (em (aa 0) (am (Fp (ak (am (af (aa 4) (iw B1.tuple.f))) (ak (aa 5) ba)))) 180 7)
 (ah (em (aa 0) (am (af (am (fb (aa 4))) λa=>af (iC 1) λb=>dw (λx y=>(di .LtE x y).map .bool) a b)) 180 8) aq)))
noncomputable def Qq:XF:=ah (em (aa 0) (aa 1) 180 4) (ah (tt [2,3] (ak (sC [32]) (ak (sC [9]) ba))) (ah (au (ll (cw ba)) (c9 4)) (ah (Od 5 6 7 (iC 0))
 (ah (de (gb (af (aa 0) (bh 180 4))) λis n=>bw ar (bx 8) Fb n is) Qw))))
theorem W_init_eq:nv=kq 2 7 false Qq:=rfl
noncomputable def ao (c:List Nat):List PyData:=c.map λ(k:Nat)=>.int ((k:Nat):Int)
noncomputable def df (i:Nat) (s:List Nat) (j:Nat) (b n nt:Int) (ch:Option PV):bg:=[some (.obj i),some (.dat (.str ⟨⟨s⟩⟩)),some (.dat (.str ⟨⟨[32]⟩⟩)),some (.dat (.str ⟨⟨[9]⟩⟩)),some (.obj j),some (.dat (.int b)),some (.dat (.int n)),some (.dat (.int nt)),ch]
noncomputable def lm:Option PV:=some (.dat (.str ⟨⟨[9]⟩⟩))
noncomputable def Iu:Option PV:=some (.dat (.str ⟨⟨[32]⟩⟩))
noncomputable def ln (c:List Nat) (b:Nat):List Nat:=if b < c.length then c else c++List.replicate (b - c.length+1) 0
noncomputable def qf (c:List Nat) (b:Nat):List Nat:=(ln c b).set b ((ln c b)[b]?.getD 0+1)
section
variable {i j:Nat} {s c:List Nat} {b:Nat} {n nt:Int} {ch:Option PV} {hp:List MO}
theorem Pc {b:Int}:Fb ⟨df i s j b n nt Iu,hp⟩=some (.next,⟨df i s j (b+1) (n+1) nt Iu,hp⟩):=rfl
theorem BWh_t:Fb ⟨df i s j b n nt lm,hp⟩=Os ⟨df i s j b n nt lm,hp⟩:=by
 unfold Fb
 rw [bz]
 show ah (gt (bq .Eq (aa 8) (aa 3)) Os _) aq _=_
 rw [bz]
 rfl
theorem cntP_len:(ao c).length=c.length:=by simp [ao]
theorem F8 (h:b < c.length):(ao c)[b]?=some (.int ((c[b]?.getD 0:Nat):Int)):=by
 simp [ao,h]
theorem wj (hj:hp[j]?=some (.lst (ao c))):rd hp (.obj j)=some (.list (ao c)):=by
 show (match hp[j]? with
  | some (.lst l)=>some (PyData.list l)
  | _=>none)=_
 exact hj.symm▸rfl
theorem wm {b:Int} (hj:hp[j]?=some (.lst (ao c))) (hl:c.length≤lim):fb (aa 4) ⟨df i s j b n nt ch,hp⟩=some (.int c.length,hp):=by
 show (match rd hp (.obj j) with
  | some x=>match Oy x with
   | some d=>some (d,hp)
   | none=>none
  | none=>none)=_
 rw [wj hj]
 show (match (if (ao c).length≤lim then some (PyData.int (ao c).length) else none) with
  | some d=>some (d,hp)
  | none=>none)=_
 exact cntP_len.symm▸(if_pos hl).symm▸rfl
theorem Ic (hj:hp[j]?=some (.lst (ao c))) (hl:c.length≤lim):bq .GtE (aa 5) (am (fb (aa 4))) ⟨df i s j b n nt ch,hp⟩=some (decide (c.length≤b),hp):=by
 have h1:am (fb (aa 4)) ⟨df i s j b n nt ch,hp⟩=some (.dat (.int c.length),hp):=by
  unfold am; rw [wm hj hl]
 show (match am (fb (aa 4)) ⟨df i s j b n nt ch,hp⟩ with
  | some (v,hp')=>By .GtE (.dat (.int b)) v ⟨df i s j b n nt ch,hp'⟩
  | none=>none)=_
 refine h1.symm▸?_
 show (match di .GtE (.int b) (.int c.length) with
  | some d=>some (d,hp)
  | none=>none)=_
 show some (decide ((c.length:Int)≤(b:Int)),hp)=_
 congr 2
 simp
theorem uz:∀k:Nat,(List.replicate k ([PyData.int 0]:List PyData)).flatten=ao (List.replicate k 0)
 | 0=>rfl
 | k+1=>by
  refine List.replicate_succ.symm▸List.flatten_cons.symm▸(uz k).symm▸?_
  rfl
theorem Nb (hj:hp[j]?=some (.lst (ao c))) (hl:c.length≤b) (hb:b+1≤lim):Q4 ⟨df i s j b n nt ch,hp⟩=some (.next,⟨df i s hp.length b n nt ch,hp++[.lst (ao (ln c b))]⟩):=by
 have h1:am (fb (aa 4)) ⟨df i s j b n nt ch,hp⟩=some (.dat (.int c.length),hp):=by
  unfold am; rw [wm hj (by (exact Nat.le_trans (by assumption) (Nat.le_of_lt (by assumption))))]
 have h2:am (bf .Sub (aa 5) (am (fb (aa 4)))) ⟨df i s j b n nt ch,hp⟩=some (.dat (.int ((b:Int) - c.length)),hp):=by
  show (match (match am (fb (aa 4)) ⟨df i s j b n nt ch,hp⟩ with
   | some (v,hp')=>dw (rj .Sub) (.dat (.int b)) v ⟨df i s j b n nt ch,hp'⟩
   | none=>none) with
   | some (d,hp)=>some (PV.dat d,hp)
   | none=>none)=_
  rw [h1]; rfl
 have h3:am (bf .Add (am (bf .Sub (aa 5) (am (fb (aa 4))))) (iC 1)) ⟨df i s j b n nt ch,hp⟩=some (.dat (.int ((b:Int) - c.length+1)),hp):=by
  show (match (match am (bf .Sub (aa 5) (am (fb (aa 4)))) ⟨df i s j b n nt ch,hp⟩ with
   | some (v,hp')=>dw (rj .Add) v (.dat (.int 1)) ⟨df i s j b n nt ch,hp'⟩
   | none=>none) with
   | some (d,hp)=>some (PV.dat d,hp)
   | none=>none)=_
  rw [h2]; rfl
 have e1:((b:Int) - c.length+1).toNat=b - c.length+1:=by lia
 have h4:am (bf .Mult (am (cw (ak (iC 0) ba))) (am (bf .Add (am (bf .Sub (aa 5) (am (fb (aa 4))))) (iC 1)))) ⟨df i s j b n nt ch,hp⟩=some (.dat (.list (ao (List.replicate (b - c.length+1) 0))),hp):=by
  show (match (match am (bf .Add (am (bf .Sub (aa 5) (am (fb (aa 4))))) (iC 1)) ⟨df i s j b n nt ch,hp⟩ with
   | some (v,hp')=>dw (rj .Mult) (.dat (.list [.int 0])) v ⟨df i s j b n nt ch,hp'⟩
   | none=>none) with
   | some (d,hp)=>some (PV.dat d,hp)
   | none=>none)=_
  rw [h3]
  show (match (match (if ([PyData.int 0]:List PyData).length*((b:Int) - c.length+1).toNat≤lim∧((b:Int) - c.length+1).natAbs≤lim then some (PyData.list (List.replicate ((b:Int) - c.length+1).toNat ([PyData.int 0]:List PyData)).flatten) else none) with
   | some d=>some (d,hp)
   | none=>none) with
   | some (d,hp)=>some (PV.dat d,hp)
   | none=>none)=_
  rw [if_pos ⟨by rw [e1]; show 1*_≤_; lia,by lia⟩,e1,uz]
 have h5:ll (bf .Add (aa 4) (am (bf .Mult (am (cw (ak (iC 0) ba))) (am (bf .Add (am (bf .Sub (aa 5) (am (fb (aa 4))))) (iC 1)))))) ⟨df i s j b n nt ch,hp⟩=some (.obj hp.length,hp++[MO.lst (ao (ln c b))]):=by
  show (match (match am (bf .Mult (am (cw (ak (iC 0) ba))) (am (bf .Add (am (bf .Sub (aa 5) (am (fb (aa 4))))) (iC 1)))) ⟨df i s j b n nt ch,hp⟩ with
   | some (v,hp')=>dw (rj .Add) (.obj j) v ⟨df i s j b n nt ch,hp'⟩
   | none=>none) with
   | some (.list l,hp)=>some (PV.obj hp.length,hp++[MO.lst l])
   | _=>none)=_
  have h6:dw (rj .Add) (.obj j) (.dat (.list (ao (List.replicate (b - c.length+1) 0)))) ⟨df i s j b n nt ch,hp⟩=some (.list (ao (ln c b)),hp):=by
   unfold dw
   rw [show rd (⟨df i s j b n nt ch,hp⟩:St).hp (.obj j)=some (.list (ao c)) from wj hj]
   show (match (if (ao c).length+(ao (List.replicate (b - c.length+1) 0)).length≤lim then some (PyData.list (ao c++ao (List.replicate (b - c.length+1) 0))) else none) with
    | some d=>some (d,hp)
    | none=>none)=_
   rw [if_pos (by rw [cntP_len,cntP_len,List.length_replicate]; lia)]
   unfold ln
   rw [if_neg (by lia)]
   simp [ao]
  rw [h4]
  dsimp only
  rw [h6]
 unfold Q4 au
 rw [h5]
 rfl
theorem Ir (hj:hp[j]?=some (.lst (ao c))) (hb:b < c.length) (hl:c.length≤lim):R7 ⟨df i s j b n nt ch,hp⟩=some (.next,⟨df i s j b n nt ch,hp.set j (.lst (ao (c.set b (c[b]?.getD 0+1))))⟩):=by
 have h1:(af (aa 4) λa=>af (aa 5) λb=>et a b) ⟨df i s j b n nt ch,hp⟩=some (.dat (.int ((c[b]?.getD 0:Nat):Int)),hp):=by
  show et (.obj j) (.dat (.int b)) ⟨df i s j b n nt ch,hp⟩=_
  unfold et
  rw [show rd (⟨df i s j b n nt ch,hp⟩:St).hp (.obj j)=some (.list (ao c)) from wj hj]
  show (match (if (b:Int).natAbs≤lim then qu (ao c) (b:Int) else none) with
   | some d=>some (PV.dat d,hp)
   | none=>none)=_
  rw [if_pos (by show b≤lim; (exact Nat.le_trans (Nat.le_of_lt (by assumption)) (by assumption)))]
  have:qu (ao c) (b:Int)=(ao c)[b]?:=by
   unfold qu
   rw [if_neg (by lia)]
   rfl
  rw [this,F8 hb]
 have h2:am (bf .Add (af (aa 4) λa=>af (aa 5) λb=>et a b) (iC 1)) ⟨df i s j b n nt ch,hp⟩=some (.dat (.int (((c[b]?.getD 0+1:Nat)):Int)),hp):=by
  show (match (match (af (aa 4) λa=>af (aa 5) λb=>et a b) ⟨df i s j b n nt ch,hp⟩ with
   | some (v,hp')=>dw (rj .Add) v (.dat (.int 1)) ⟨df i s j b n nt ch,hp'⟩
   | none=>none) with
   | some (d,hp)=>some (PV.dat d,hp)
   | none=>none)=_
  rw [h1]; rfl
 unfold R7 oe au
 rw [h2]
 show (match hp[j]? with
  | some (.lst l)=>if 0≤(b:Int)∧(b:Int).toNat < l.length∧l.length≤lim then some (Fl.next,(⟨df i s j b n nt ch,hp.set j (.lst (l.set (b:Int).toNat (.int (((c[b]?.getD 0+1:Nat)):Int))))⟩:St)) else none
  | _=>none)=_
 rw [hj]
 dsimp only
 rw [if_pos ⟨by (exact Int.natCast_nonneg _),by rw [cntP_len]; simpa using hb,by rw [cntP_len]; exact hl⟩]
 have:(ao c).set (b:Int).toNat (.int (((c[b]?.getD 0+1:Nat)):Int))=ao (c.set b (c[b]?.getD 0+1)):=by
  skip
  simp [ao,List.map_set]
 rw [this]
theorem J9 (hj:hp[j]?=some (.lst (ao c))) (hb:b < c.length) (hl:c.length≤lim):Os ⟨df i s j b n nt lm,hp⟩=some (.next,⟨df i s j 0 (n+1) (nt+1) lm,hp.set j (.lst (ao (qf c b)))⟩):=by
 unfold Os
 rw [ae (σ':=⟨df i s j b (n+1) nt lm,hp⟩) rfl,ae (σ':=⟨df i s j b (n+1) (nt+1) lm,hp⟩) rfl]
 rw [ae (σ':=⟨df i s j b (n+1) (nt+1) lm,hp⟩) (by
  unfold gt
  rw [Ic hj hl,decide_eq_false (by lia)]
  rfl)]
 rw [ae (Ir hj hb hl)]
 have:qf c b=c.set b (c[b]?.getD 0+1):=by unfold qf ln; rw [if_pos hb]
 rw [this]
 rfl
theorem yq (h:c.length≤b):(ln c b).length=b+1:=by
 unfold ln
 rw [if_neg (by lia),List.length_append,List.length_replicate]
 (exact T4 (by assumption))
theorem Ly (hj:hp[j]?=some (.lst (ao c))) (hb:c.length≤b) (hl:b+1≤lim):Os ⟨df i s j b n nt lm,hp⟩=some (.next,⟨df i s hp.length 0 (n+1) (nt+1) lm,hp++[.lst (ao (qf c b))]⟩):=by
 unfold Os
 rw [ae (σ':=⟨df i s j b (n+1) nt lm,hp⟩) rfl,ae (σ':=⟨df i s j b (n+1) (nt+1) lm,hp⟩) rfl]
 rw [ae (σ':=⟨df i s hp.length b (n+1) (nt+1) lm,hp++[.lst (ao (ln c b))]⟩) (by
  unfold gt
  rw [Ic hj (by (exact Nat.le_trans (by assumption) (Nat.le_of_lt (by assumption)))),decide_eq_true (by assumption)]
  dsimp only
  rw [if_pos rfl,bz]
  exact Nb hj hb hl)]
 have hj':(hp++[MO.lst (ao (ln c b))])[hp.length]?=some (.lst (ao (ln c b))):=by simp
 rw [ae (Ir hj' (by rw [yq hb]; (exact Nat.le_refl _)) (by rw [yq hb]; exact hl))]
 have:(hp++[MO.lst (ao (ln c b))]).set hp.length (.lst (ao ((ln c b).set b ((ln c b)[b]?.getD 0+1))))=hp++[.lst (ao (qf c b))]:=by
  rw [List.set_append_right _ _ (Nat.le_refl _)]
  simp [qf]
 rw [this]
 rfl
end
structure InvW (base:List MO) (i:Nat) (hp:List MO) (j:Nat) (c:List Nat) (ats:List (Nat×PV)):Prop where
 pre:hp.take (i+1)=base++[.ins 180 ats]
 bl:base.length=i
 lt:i < j
 at_:hp[j]?=some (.lst (ao c))
noncomputable def cb (runs:List Nat):List Nat:=(runs.map λr=>List.replicate r 32++[9]).flatten
noncomputable def jv (runs c:List Nat):List Nat:=runs.foldl (λc r=>qf c r) c
section
variable {base:List MO} {i j m:Nat} {s c l:List Nat} {b r:Nat} {n nt:Int} {ch:Option PV} {hp:List MO} {ats:List (Nat×PV)}
theorem InvW.self (h:InvW base i hp j c ats):hp[i]?=some (.ins 180 ats):=by
 have h1:(hp.take (i+1))[i]?=hp[i]?:=by rw [List.getElem?_take]; simp
 rw [← h1,h.pre,List.getElem?_append_right (by rw [h.bl]; exact Nat.le_refl _),h.bl,Nat.sub_self]
 rfl
theorem InvW.jlt (h:InvW base i hp j c ats):j < hp.length:=(List.getElem?_eq_some_iff.mp h.at_).1
theorem InvW.setC {c':List Nat} (h:InvW base i hp j c ats):InvW base i (hp.set j (.lst (ao c'))) j c' ats:=by
 refine ⟨?_,h.bl,h.lt,?_⟩
 ·rw [List.take_set,List.set_eq_of_length_le,h.pre]
  rw [List.length_take]; have:=h.lt; (exact Nat.le_trans (Nat.min_le_left _ _) (by assumption))
 ·rw [List.getElem?_set,if_pos rfl,if_pos h.jlt]
theorem InvW.newC {c':List Nat} (h:InvW base i hp j c ats):InvW base i (hp++[.lst (ao c')]) hp.length c' ats:=by
 have:=h.jlt
 refine ⟨?_,h.bl,Nat.lt_trans h.lt this,by simp⟩
 rw [List.take_append_of_le_length (by have:=h.lt; (exact Nat.lt_trans (by assumption) (by assumption))),h.pre]
theorem InvW.setS (h:InvW base i hp j c ats) (ats':List (Nat×PV)):InvW base i (hp.set i (.ins 180 ats')) j c ats':=by
 refine ⟨?_,h.bl,h.lt,?_⟩
 ·rw [List.take_set,h.pre,List.set_append_right _ _ (by rw [h.bl]; exact Nat.le_refl _),h.bl,Nat.sub_self]
  rfl
 ·rw [List.getElem?_set,if_neg (by have:=h.lt; (exact Nat.ne_of_lt (by assumption)))]
  exact h.at_
theorem Ix:∀(r:Nat) (b n:Int) (ch:Option PV),∃ch',bw ar (bx 8) Fb (m+r) (.rem (chars (List.replicate r 32++l))) ⟨df i s j b n nt ch,hp⟩=bw ar (bx 8) Fb m (.rem (chars l)) ⟨df i s j (b+r) (n+r) nt ch',hp⟩
 | 0,b,n,ch=>⟨ch,by simp⟩
 | r+1,b,n,ch=>by
  obtain ⟨ch',e⟩:=Ix r (b+1) (n+1) Iu
  refine ⟨ch',?_⟩
  rw [List.replicate_succ,List.cons_append,← Nat.add_assoc]
  rw [bm (is':=.rem (chars (List.replicate r 32++l))) (d:=.str ⟨⟨[32]⟩⟩) (hp:=hp) (loc:=df i s j b n nt Iu) (σ_2:=⟨df i s j (b+1) (n+1) nt Iu,hp⟩) rfl rfl Pc,e]
  congr 3
  ·push_cast; lia
  ·push_cast; lia
theorem Lb (h:InvW base i hp j c ats) (hb:b+1≤lim) (hc:c.length≤lim):∃j' hp',InvW base i hp' j' (qf c b) ats∧bw ar (bx 8) Fb (m+1) (.rem (chars (9::l))) ⟨df i s j b n nt ch,hp⟩=bw ar (bx 8) Fb m (.rem (chars l)) ⟨df i s j' 0 (n+1) (nt+1) lm,hp'⟩:=by
 by_cases hlt:b < c.length
 ·refine ⟨j,_,h.setC,?_⟩
  rw [bm (is':=.rem (chars l)) (d:=.str ⟨⟨[9]⟩⟩) (hp:=hp) (loc:=df i s j b n nt lm) rfl rfl (BWh_t.trans (J9 h.at_ hlt hc))]
 ·refine ⟨hp.length,_,h.newC,?_⟩
  rw [bm (is':=.rem (chars l)) (d:=.str ⟨⟨[9]⟩⟩) (hp:=hp) (loc:=df i s j b n nt lm) rfl rfl (BWh_t.trans (Ly h.at_ (by (exact Nat.le_of_not_lt (by assumption))) hb))]
theorem yw:(qf c b).length=max c.length (b+1):=by
 unfold qf ln
 refine List.length_set.symm▸?_
 split
 ·lia
 ·rw [List.length_append,List.length_replicate]; lia
theorem zy:∀(runs:List Nat) (j:Nat) (c:List Nat) (n nt:Int) (ch:Option PV) (hp:List MO),InvW base i hp j c ats->(∀r∈runs,r+1≤lim)->c.length≤lim->∃j' hp' ch',InvW base i hp' j' (jv runs c) ats ∧
  bw ar (bx 8) Fb (m+(cb runs).length) (.rem (chars (cb runs++l))) ⟨df i s j 0 n nt ch,hp⟩=bw ar (bx 8) Fb m (.rem (chars l)) ⟨df i s j' 0 (n+(cb runs).length) (nt+runs.length) ch',hp'⟩
 | [],j,c,n,nt,ch,hp,h,_,_=>⟨j,hp,ch,h,by simp [cb]⟩
 | r::runs,j,c,n,nt,ch,hp,h,hr,hc=>by
  have e0:cb (r::runs)=List.replicate r 32++(9::cb runs):=by simp [cb]
  refine cps λ_ KK=>?_
  obtain ⟨ch1,e1⟩:=Ix (m:=m+(cb runs).length+1) (l:=9::(cb runs++l)) (i:=i) (s:=s) (j:=j) (nt:=nt) (hp:=hp) r 0 n ch
  obtain ⟨j2,hp2,h2,e2⟩:=Lb (m:=m+(cb runs).length) (l:=cb runs++l) (s:=s) (n:=n+r) (nt:=nt) (ch:=ch1) (b:=r) h (hr r (List.mem_cons_self ..)) hc
  obtain ⟨j3,hp3,ch3,h3,e3⟩:=zy runs j2 (qf c r) (n+r+1) (nt+1) lm hp2 h2 (λx hx=>hr x (List.mem_cons_of_mem _ hx)) (by rw [yw]; have:=hr r (List.mem_cons_self ..); lia)
  refine KK ?_
  refine ⟨j3,hp3,ch3,h3,?_⟩
  have hlen:m+(List.replicate r 32++(9::cb runs):List Nat).length=m+(cb runs).length+1+r:=by simp; lia
  rw [e0,List.append_assoc,List.cons_append,hlen,e1]
  rw [show ((0:Int)+(r:Int))=(r:Int) by lia,e2,e3]
  congr 3
  ·simp; lia
  ·simp; lia
end
end Mine
end
section
open PySem PyProof.Rows
namespace Mine
noncomputable def Gk (F:EF):XF:=au F λpv σ=>match pv with
 | .dat .none=>some (.next,σ)
 | _=>none
noncomputable def Ab (F G:EF):EF:=af F λa=>af G λb=>et a b
noncomputable def P9:List (List Nat):=[[],[92,40],[92,41],[92,92],[34,41,34],[92,34]]
noncomputable def Sv:XF:=Gk (dh (aa 3) (am (fb (aa 5))))
noncomputable def Nw:XF:=oe (am (bf .Add (Ab (aa 4) (aa 7)) (iC 1))) (aa 4) (aa 7)
noncomputable def Sf:XF:=de (gb (aa 5)) λis n=>bw ar (bx 7) (ah Nw aq) n is
noncomputable def S1:XF:=Gk (dh (aa 5) (aa 6))
noncomputable def S5:XF:=Gk (dh (aa 2) (am (bf .Add (Ab (aa 1) (am (bf .Mod (am (bf .FloorDiv (Ab (aa 0) (aa 6)) (iC 60))) (iC 6)))) (sC [40]))))
noncomputable def Ov:XF:=Gk (dh (aa 2) (am (bf .Add (Ab (aa 1) (am (bf .Mod (am (bf .Add (am (bf .FloorDiv (Ab (aa 0) (aa 6)) (iC 360))) (aa 8))) (iC 6)))) (sC [41]))))
noncomputable def Ox:XF:=Em (md (aa 5) false)
noncomputable def Pm:EF:=fv (bq .Lt (aa 6) (iC 4)) λb=>if b then am (bf .Mod (Ab (aa 0) (aa 6)) (am (bf .Add (am (fb (aa 5))) (iC 1)))) else am (fb (aa 5))
noncomputable def Sb:XF:=de (ey (ak Pm ba)) λis n=>bw ar (bx 8) (ah Ov (ah Ox aq)) n is
noncomputable def BR:XF:=ah Sv (ah Sf (ah S1 (ah S5 (ah Sb aq))))
noncomputable def Rw:XF:=de (ey (ak (iC 5) ba)) λis n=>bw ar (bx 6) BR n is
noncomputable def S6:XF:=au (am (cw (ak (sC []) (ak (sC [92,40]) (ak (sC [92,41]) (ak (sC [92,92]) (ak (sC [34,41,34]) (ak (sC [92,34]) ba)))))))) (c9 1)
noncomputable def S4:XF:=P3 [2,3,4,5] (ak (ll (cw ba)) (ak (ll (cw ba)) (ak (ll (bf .Mult (am (cw (ak (iC 0) ba))) (iC 5))) (ak (ll (cw ba)) ba))))
noncomputable def Sm:XF:=jm (tj false (ak (aa 2) (ak (aa 3) (ak (aa 4) ba))))
noncomputable def Td:XF:=ah S6 (ah S4 (ah Rw (ah Sm aq)))
theorem Iy:X_law_row.1=Td:=rfl
theorem Kj {α:Type} {l:List α} {p:Nat}:qu l (p:Int)=l[p]?:=if_neg (Int.not_lt.mpr (Int.natCast_nonneg p))
theorem l8 {hp:List MO} {i:Nat} {l:List PyData} (h:hp[i]?=some (.lst l)):rd hp (.obj i)=some (.list l):=by
 show (match hp[i]? with
  | some (.lst l)=>some (PyData.list l)
  | _=>none)=_
 exact h.symm▸rfl
theorem Co {F:EF} {L:bg} {hp:List MO} {i:Nat} {l:List PyData} (h:F ⟨L,hp⟩=some (.obj i,hp)) (hi:hp[i]?=some (.lst l)) (hl:l.length≤lim):am (fb F) ⟨L,hp⟩=some (.dat (.int (l.length:Nat)),hp):=by
 unfold am fb af
 refine h.symm▸?_
 dsimp only
 unfold iw
 dsimp only
 refine (l8 hi).symm▸?_
 dsimp only
 refine (show B1.len.f (.list l)=some (.int (l.length:Nat)) from if_pos hl).symm▸?_
 rfl
theorem jc {T:PyData->bg->Option bg} {B:XF} {its:List PyData} (I:Nat->St->Prop)
  (h:∀(k:Nat) (d:PyData) σ,its[k]?=some d->I k σ->∃loc σ',T d σ.loc=some loc∧B ⟨loc,σ.hp⟩=some (.next,σ')∧I (k+1) σ'):∀(l:List PyData) (k n:Nat) (σ:St),its.drop k=l->l.length < n->I k σ ->
  ∃σ',bw ar T B n (.rem l) σ=some (.next,σ')∧I (k+l.length) σ'
 | [],k,n+1,σ,_,_,hI=>⟨σ,rfl,hI⟩
 | d::l,k,n+1,σ,hk,hn,hI=>by
  have hd:its[k]?=some d:=by
   have:(its.drop k)[0]?=some d:=by rw [hk]; rfl
   rwa [List.getElem?_drop,Nat.add_zero] at this
  have hk':its.drop (k+1)=l:=by
   have:(its.drop k).drop 1=l:=by rw [hk]; rfl
   rwa [List.drop_drop] at this
  refine cps λ_ KK=>?_
  obtain ⟨loc,σ',h1,h2,h3⟩:=h k d σ hd hI
  obtain ⟨σ_2,e,q⟩:=jc I h l (k+1) n σ' hk' (Nat.lt_of_succ_lt_succ hn) h3
  refine KK ?_
  refine ⟨σ_2,?_,by rw [List.length_cons,Nat.add_comm l.length,← Nat.add_assoc]; exact q⟩
  rw [bm (is':=.rem l) (d:=d) (hp:=σ.hp) (loc:=loc) rfl h1 h2,e]
theorem Ch {T:PyData->bg->Option bg} {B:XF} {i:Nat} {l:List PyData} (I:Nat->St->Prop) (hl:∀k σ,I k σ->σ.hp[i]?=some (.lst l))
  (h:∀(k:Nat) (d:PyData) σ,l[k]?=some d->I k σ->∃loc σ',T d σ.loc=some loc∧B ⟨loc,σ.hp⟩=some (.next,σ')∧I (k+1) σ'):∀(m k n:Nat) (σ:St),k+m=l.length->m < n->I k σ ->
  ∃σ',bw ar T B n (.trk i k) σ=some (.next,σ')∧I l.length σ'
 | 0,k,n+1,σ,hk,_,hI=>by
  have e:ar (.trk i k) σ.hp=some (none,σ.hp):=by
   rw [o6,hl k σ hI]
   show (match l[k]? with | some d=>some (some (d,IS.trk i (k+1)),σ.hp) | none=>some (none,σ.hp))=_
   rw [List.getElem?_eq_none (show l.length≤k from Nat.le_of_eq hk.symm)]
  refine ⟨σ,?_,(show k=l.length from hk)▸hI⟩
  unfold bw
  rw [e]
 | m+1,k,n+1,σ,hk,hn,hI=>by
  have hlt:k < l.length:=hk▸Nat.lt_add_of_pos_right (Nat.succ_pos m)
  have hd:l[k]?=some l[k]:=List.getElem?_eq_getElem hlt
  have e:ar (.trk i k) σ.hp=some (some (l[k],.trk i (k+1)),σ.hp):=by
   rw [o6,hl k σ hI]
   show (match l[k]? with | some d=>some (some (d,IS.trk i (k+1)),σ.hp) | none=>some (none,σ.hp))=_
   rw [hd]
  refine cps λ_ KK=>?_
  obtain ⟨loc,σ',h1,h2,h3⟩:=h k _ σ hd hI
  obtain ⟨σ_2,e2,q⟩:=Ch I hl h m (k+1) n σ' (by rw [← hk,Nat.add_assoc,Nat.add_comm 1]) (Nat.lt_of_succ_lt_succ hn) h3
  refine KK ?_
  refine ⟨σ_2,?_,q⟩
  rw [bm (is':=.trk i (k+1)) (d:=l[k]) (hp:=σ.hp) (loc:=loc) e h1 h2,e2]
theorem Io {Fe Fo Fi:EF} {L:bg} {hp:List MO} {i k:Nat} {l:List PyData} {d:PyData} (he:Fe ⟨L,hp⟩=some (.dat d,hp)) (ho:Fo ⟨L,hp⟩=some (.obj i,hp)) (hi:Fi ⟨L,hp⟩=some (.dat (.int (k:Nat)),hp)) (hl:hp[i]?=some (.lst l)) (hk:k < l.length) (hlim:l.length≤lim) :
  oe Fe Fo Fi ⟨L,hp⟩=some (.next,⟨L,hp.set i (.lst (l.set k d))⟩):=by
 unfold oe au
 refine he.symm▸?_
 dsimp only
 refine ho.symm▸?_
 dsimp only
 refine hi.symm▸?_
 dsimp only
 refine hl.symm▸?_
 exact if_pos ⟨Int.natCast_nonneg k,hk,hlim⟩
theorem On {Fo:EF} {L:bg} {hp:List MO} {i:Nat} {l:List PyData} {d:PyData} (ho:Fo ⟨L,hp⟩=some (.obj i,hp)) (hl:hp[i]?=some (.lst (l++[d]))) (hlim:(l++[d]).length≤lim):md Fo false ⟨L,hp⟩=some (.dat d,hp.set i (.lst l)):=by
 unfold md af
 refine ho.symm▸?_
 dsimp only
 refine hl.symm▸?_
 show il i (if false=true then 0 else (l++[d]).length - 1) (l++[d]) hp=_
 rw [if_neg Bool.false_ne_true,List.length_append,List.length_singleton,Nat.add_sub_cancel]
 unfold il
 rw [if_pos hlim,List.getElem?_append_right (Nat.le_refl _),Nat.sub_self,List.eraseIdx_append_of_length_le (Nat.le_refl _),Nat.sub_self]
 show some (PV.dat d,hp.set i (.lst (l++[])))=_
 rw [List.append_nil]
theorem jg {F:EF} {L:bg} {hp1 hp2:List MO} (h:F ⟨L,hp1⟩=some (.dat .none,hp2)):Gk F ⟨L,hp1⟩=some (.next,⟨L,hp2⟩):=J1 h
theorem Bz {n k:Nat} (h:0 < k) (h2:k < 2 ^ 60):Jk (.int (n:Int)) (.int (k:Int))=some (.int ((n / k:Nat):Int)):=by
 show (if (k:Int)≠0∧(k:Int).natAbs < 2 ^ 60 then some (PyData.int ((n:Int).fdiv k)) else none)=_
 rw [if_pos ⟨λe=>Nat.ne_of_gt h (Int.ofNat_eq_zero.mp e),h2⟩,Int.fdiv_eq_ediv_of_nonneg _ (Int.natCast_nonneg k)]
 rfl
theorem we {n k:Nat} (h:0 < k):Nc (.int (n:Int)) (.int (k:Int))=some (.int ((n % k:Nat):Int)):=by
 show (if (k:Int)≠0 then some (PyData.int ((n:Int).fmod k)) else none)=_
 rw [if_pos λe=>Nat.ne_of_gt h (Int.ofNat_eq_zero.mp e),Int.fmod_eq_emod_of_nonneg _ (Int.natCast_nonneg k)]
 rfl
theorem fg {l:List PyData} {p:Nat} {d:PyData} (h:l[p]?=some d) (hp:p≤lim):ik (.list l) (.int (p:Int))=some d:=by
 show (if (p:Int).natAbs≤lim then qu l (p:Int) else none)=_
 rw [if_pos (show (p:Int).natAbs≤lim from hp),Kj]
 exact h
theorem ma {ns:List Nat} {k n:Nat} (h:ns[k]?=some n):(ao ns)[k]?=some (.int (n:Int)):=by
 unfold ao
 rw [List.getElem?_map,h]
 rfl
noncomputable def pf (i:Nat):List Nat:=(P9[i]?).getD []
theorem Mq {i:Nat} (h:i < 6):(aw P9)[i]?=some (.str ⟨⟨pf i⟩⟩):=by
 unfold aw pf
 rw [List.getElem?_map]
 match i,h with
 | 0,_ | 1,_ | 2,_ | 3,_ | 4,_ | 5,_=>rfl
theorem qz (i:Nat):(pf i).length≤3:=by
 unfold pf
 match i with
 | 0 | 1 | 2 | 3 | 4 | 5=>exact Nat.le_of_ble_eq_true rfl
 | _+6=>exact Nat.le_of_ble_eq_true rfl
noncomputable def hq (wl:List PyData) (R:List (List Nat)) (W V Q:List Nat):List MO:=[.tab 186 true,.lst wl,.lst (aw R),.lst (ao W),.lst (ao V),.lst (ao Q)]
noncomputable def lq (ns:List Nat) (k nm sh:Option PV):bg:=[some (.obj 1),some (.dat (.list (aw P9))),some (.obj 2),some (.obj 3),some (.obj 4),some (.obj 5),k,nm,sh]
section
variable {wl:List PyData} {R:List (List Nat)} {W V Q ns:List Nat} {k nm sh:Option PV} {kk n q s:Nat}
theorem Ts (hW:W.length≤lim) (hQ:Q.length≤lim):Sv ⟨lq ns k nm sh,hq wl R W V Q⟩=some (.next,⟨lq ns k nm sh,hq wl R (W++[Q.length]) V Q⟩):=by
 have e:=jg (gw (F1:=aa 3) (L:=lq ns k nm sh) (hp1:=hq wl R W V Q) (i:=3) (ag rfl rfl) rfl (by rw [cntP_len]; exact hW) (Co (F:=aa 5) (i:=5) (ag rfl rfl) rfl (by rw [cntP_len]; exact hQ)))
 rw [cntP_len] at e
 refine e.trans ?_
 unfold hq ao
 rw [List.map_append]
 rfl
theorem Sa (hq1:V[q]?=some n) (hV:V.length≤1000):Nw ⟨lq ns k (some (.dat (.int (q:Int)))) sh,hq wl R W V Q⟩=some (.next,⟨lq ns k (some (.dat (.int (q:Int)))) sh,hq wl R W (V.set q (n+1)) Q⟩):=by
 have hlt:=(List.getElem?_eq_some_iff.mp hq1).1
 let L:=lq ns k (some (.dat (.int (q:Int)))) sh
 have hn7:aa 7 ⟨L,hq wl R W V Q⟩=some (.dat (.int (q:Int)),hq wl R W V Q):=ag rfl rfl
 have e1:am (bf .Add (Ab (aa 4) (aa 7)) (iC 1)) ⟨L,hq wl R W V Q⟩=some (.dat (.int ((n+1:Nat):Int)),hq wl R W V Q) :=
  a9 (op:=.Add) (j6 (ag (i:=4) rfl rfl) hn7 (l8 rfl) rfl (fg (ma hq1) (Nat.le_trans (Nat.le_of_lt hlt) (Nat.le_trans hV (by decide))))) rfl rfl
 refine (Io (k:=q) e1 (ag (i:=4) rfl rfl) hn7 (i:=4) (l:=ao V) rfl (by rw [cntP_len]; exact hlt) (by rw [cntP_len]; exact Nat.le_trans hV (by decide))).trans ?_
 unfold hq ao
 rw [List.map_set]
 rfl
theorem Ta (hQ:Q.length≤lim):S1 ⟨lq ns (some (.dat (.int (kk:Int)))) nm sh,hq wl R W V Q⟩=some (.next,⟨lq ns (some (.dat (.int (kk:Int)))) nm sh,hq wl R W V (Q++[kk])⟩):=by
 have e:=jg (gw (F1:=aa 5) (L:=lq ns (some (.dat (.int (kk:Int)))) nm sh) (hp1:=hq wl R W V Q) (i:=5) (ag rfl rfl) rfl (by rw [cntP_len]; exact hQ) (ag (i:=6) rfl rfl))
 refine e.trans ?_
 unfold hq ao
 rw [List.map_append]
 rfl
theorem gz (x:List Nat):aw (R++[x])=aw R++[.str ⟨⟨x⟩⟩]:=List.map_append
theorem Tg (hn:ns[kk]?=some n) (hk:kk < 5) (hR:R.length≤lim):S5 ⟨lq ns (some (.dat (.int (kk:Int)))) nm sh,hq (ao ns) R W V Q⟩=some (.next,⟨lq ns (some (.dat (.int (kk:Int)))) nm sh,hq (ao ns) (R++[pf (n / 60 % 6)++[40]]) W V Q⟩):=by
 let L:=lq ns (some (.dat (.int (kk:Int)))) nm sh
 let h:=hq (ao ns) R W V Q
 have e0:Ab (aa 0) (aa 6) ⟨L,h⟩=some (.dat (.int (n:Int)),h):=j6 (ag rfl rfl) (ag (i:=6) rfl rfl) (l8 rfl) rfl (fg (ma hn) (Nat.le_trans (Nat.le_of_lt hk) (by decide)))
 have e1:=a9 (op:=.Mod) (F2:=iC 6) (a9 (op:=.FloorDiv) (F2:=iC 60) e0 rfl (Bz (k:=60) (by decide) (by decide))) rfl (we (k:=6) (by decide))
 have e2:Ab (aa 1) _ ⟨L,h⟩=_:=ed (ag (i:=1) rfl rfl) e1 (fg (Mq (Nat.mod_lt _ (by decide))) (Nat.le_trans (Nat.le_of_lt (Nat.mod_lt _ (by decide:0 < 6))) (by decide)))
 have e3:=a9 (op:=.Add) (F2:=sC [40]) e2 rfl (add_str (y:=[40]) (Nat.le_trans (Nat.add_le_add_right (qz _) 1) (by decide)))
 refine (jg (gw (F1:=aa 2) (i:=2) (ag rfl rfl) rfl (show (aw R).length≤lim from (List.length_map ..).symm▸hR) e3)).trans ?_
 unfold hq
 rw [gz]
 rfl
theorem Q9 (hn:ns[kk]?=some n) (hk:kk < 5) (hR:R.length≤lim):Ov ⟨lq ns (some (.dat (.int (kk:Int)))) nm (some (.dat (.int (s:Int)))),hq (ao ns) R W V Q⟩=some (.next,⟨lq ns (some (.dat (.int (kk:Int)))) nm (some (.dat (.int (s:Int)))),hq (ao ns) (R++[pf ((n / 360+s) % 6)++[41]]) W V Q⟩):=by
 let L:=lq ns (some (.dat (.int (kk:Int)))) nm (some (.dat (.int (s:Int))))
 let h:=hq (ao ns) R W V Q
 have e0:Ab (aa 0) (aa 6) ⟨L,h⟩=some (.dat (.int (n:Int)),h):=j6 (ag rfl rfl) (ag (i:=6) rfl rfl) (l8 rfl) rfl (fg (ma hn) (Nat.le_trans (Nat.le_of_lt hk) (by decide)))
 have e1:=a9 (op:=.Mod) (F2:=iC 6) (a9 (op:=.Add) (F2:=aa 8) (d:=.int ((n / 360+s:Nat):Int)) (a9 (op:=.FloorDiv) (F2:=iC 360) e0 rfl (Bz (k:=360) (by decide) (by decide))) (ag (i:=8) rfl rfl) rfl) rfl (we (k:=6) (by decide))
 have e2:Ab (aa 1) _ ⟨L,h⟩=_:=ed (ag (i:=1) rfl rfl) e1 (fg (Mq (Nat.mod_lt _ (by decide))) (Nat.le_trans (Nat.le_of_lt (Nat.mod_lt _ (by decide:0 < 6))) (by decide)))
 have e3:=a9 (op:=.Add) (F2:=sC [41]) e2 rfl (add_str (y:=[41]) (Nat.le_trans (Nat.add_le_add_right (qz _) 1) (by decide)))
 refine (jg (gw (F1:=aa 2) (i:=2) (ag rfl rfl) rfl (show (aw R).length≤lim from (List.length_map ..).symm▸hR) e3)).trans ?_
 unfold hq
 rw [gz]
 rfl
end
theorem Js {F:EF} {L:bg} {hp1 hp2:List MO} {d:PyData} (h:F ⟨L,hp1⟩=some (.dat d,hp2)) (hd:xc d=true):Em F ⟨L,hp1⟩=some (.next,⟨L,hp2⟩):=by
 unfold Em au
 refine h.symm▸?_
 exact if_pos hd
noncomputable def iu (V Q:List Nat):List Nat:=Q.foldl (λV q=>V.set q ((V[q]?).getD 0+1)) V
noncomputable def gr (n c:Nat):List (List Nat):=(List.range c).map λs=>pf ((n / 360+s) % 6)++[41]
theorem zr (V:List Nat):∀Q,(iu V Q).length=V.length:=λQ=>by
 unfold iu
 induction Q generalizing V with
 | nil=>rfl
 | cons q Q ih=>exact (ih _).trans List.length_set
section
variable {wl:List PyData} {R:List (List Nat)} {W V Q ns:List Nat} {k nm sh:Option PV} {kk n q s:Nat}
theorem Rk (hQ:Q.length+1≤lim):Ox ⟨lq ns k nm sh,hq wl R W V (Q++[q])⟩=some (.next,⟨lq ns k nm sh,hq wl R W V Q⟩):=by
 have e:ao (Q++[q])=ao Q++[.int (q:Int)]:=List.map_append
 have h:md (aa 5) false ⟨lq ns k nm sh,hq wl R W V (Q++[q])⟩=some (.dat (.int (q:Int)),(hq wl R W V (Q++[q])).set 5 (.lst (ao Q))) :=
  On (i:=5) (ag rfl rfl) (congrArg (λl=>some (MO.lst l)) e) (by rw [List.length_append,cntP_len]; exact hQ)
 exact Js h rfl
theorem E5 (V:List Nat) {j:Nat} {q:Nat} (h:Q[j]?=some q):iu V (Q.take (j+1))=(iu V (Q.take j)).set q (((iu V (Q.take j))[q]?).getD 0+1):=by
 unfold iu
 rw [List.take_add_one,h,List.foldl_append]
 rfl
theorem Tv (hV:V.length=5) (hQ:∀q∈Q,q < 5) (hl:Q.length≤5):∃nm',Sf ⟨lq ns k nm sh,hq wl R W V Q⟩=some (.next,⟨lq ns k nm' sh,hq wl R W (iu V Q) Q⟩):=by
 refine cps λ_ KK=>?_
 obtain ⟨σ',e,nm',hI⟩:=Ch (T:=bx 7) (B:=ah Nw aq) (i:=5) (l:=ao Q) (λj σ=>∃nm',σ=⟨lq ns k nm' sh,hq wl R W (iu V (Q.take j)) Q⟩) (λj σ ⟨nm',h⟩=>by rw [h]; rfl) (λj d σ hd ⟨nm',h⟩=>by
  have hj:∃q,Q[j]?=some q∧d=.int (q:Int):=by
   unfold ao at hd
   rw [List.getElem?_map] at hd
   exact (Option.map_eq_some_iff.mp hd).elim λq x=>⟨q,x.1,x.2.symm⟩
  obtain ⟨q,hq1,hdq⟩:=hj
  have hlen:=zr V (Q.take j)
  have hlt:q < (iu V (Q.take j)).length:=by rw [hlen,hV]; exact hQ q (List.mem_of_getElem? hq1)
  have hg:(iu V (Q.take j))[q]?=some (((iu V (Q.take j))[q]?).getD 0):=by rw [List.getElem?_eq_getElem hlt]; rfl
  refine ⟨lq ns k (some (.dat (.int (q:Int)))) sh,⟨lq ns k (some (.dat (.int (q:Int)))) sh,hq wl R W ((iu V (Q.take j)).set q (((iu V (Q.take j))[q]?).getD 0+1)) Q⟩,by rw [h,hdq]; rfl,?_,⟨some (.dat (.int (q:Int))),by rw [E5 V hq1]⟩⟩
  rw [h]
  exact (ae (Sa hg (by rw [hlen,hV]; decide))).trans rfl) (ao Q).length 0 ((ao Q).length+1) ⟨lq ns k nm sh,hq wl R W V Q⟩ (Nat.zero_add _) (Nat.lt_succ_self _) ⟨nm,rfl⟩
 refine KK ?_
 refine ⟨nm',?_⟩
 unfold Sf de
 rw [Kc (F:=aa 5) (i:=5) (L:=lq ns k nm sh) (hp1:=hq wl R W V Q) (hp2:=hq wl R W V Q) (ag rfl rfl) rfl]
 rw [hI,cntP_len,List.take_length] at e
 rw [cntP_len]
 exact e
end
theorem Cg {n:Nat} (h:n≤100000):Builtin.Range.rangeFitsLong (n:Int)=true:=by
 unfold Builtin.Range.rangeFitsLong
 rw [decide_eq_true (Int.le_trans (by decide) (Int.natCast_nonneg n)),decide_eq_true (Int.lt_of_le_of_lt (Int.ofNat_le.mpr h) (by decide))]
 rfl
theorem H5 {a b:Nat} (ha:a≤100000) (hb:b≤100000):Builtin.Range.small a b 1=true∧(Builtin.Range.rangeSize a b 1).toNat=b - a:=by
 have e:Builtin.Range.rangeSize (a:Int) (b:Int) 1=((b - a:Nat):Int):=by
  rw [Cp]
  by_cases h:(a:Int) < b
  ·rw [if_pos h,Int.natCast_sub (Int.ofNat_le.mp (Int.le_of_lt h))]
  ·rw [if_neg h,Nat.sub_eq_zero_of_le (Int.ofNat_le.mp (Int.not_lt.mp h))]; rfl
 refine ⟨?_,by rw [e]; rfl⟩
 show (Builtin.Range.rangeFitsLong (a:Int)&&Builtin.Range.rangeFitsLong (b:Int)&&Builtin.Range.rangeFitsLong 1&&Builtin.Range.rangeFitsLong (Builtin.Range.rangeSize a b 1)&&(Builtin.Range.rangeSize a b 1==0||Builtin.Range.rangeFitsLong ((b:Int)+(1 - 1))))=true
 rw [e,Cg ha,Cg hb,Cg (Nat.le_trans (Nat.sub_le ..) hb),show ((b:Int)+(1 - 1))=b from Int.add_zero _,Cg hb,Bool.or_true]
 rfl
theorem Eh {N:Nat} (h:N≤4000):Builtin.Range.small 0 N 1=true∧(Builtin.Range.rangeSize 0 N 1).toNat=N:=H5 (a:=0) (Nat.zero_le _) (Nat.le_trans h (by decide))
theorem lg {hp:List MO} {N:Nat} {loc:bg} {F:EF} (hN:N≤4000) (h:F ⟨loc,hp⟩=some (.dat (.int (N:Nat)),hp)):ey (ak F ba) ⟨loc,hp⟩=some ((.rem (i0 0 1 N),N+1),hp):=by
 obtain ⟨h1,h2⟩:=Eh hN
 unfold ey
 rw [show ak F ba ⟨loc,hp⟩=some ([.dat (.int (N:Nat))],hp) by unfold ak af; rw [h]; rfl]
 show (if (1:Int)≠0∧Builtin.Range.small 0 N 1=true∧(1:Int).natAbs < 2 ^ 60 then some ((IS.rem (i0 0 1 (Builtin.Range.rangeSize 0 N 1).toNat),(Builtin.Range.rangeSize 0 N 1).toNat+1),hp) else none)=_
 rw [if_pos ⟨by decide,h1,by decide⟩,h2]
theorem A8 (n j:Nat):gr n (j+1)=gr n j++[pf ((n / 360+j) % 6)++[41]]:=by
 unfold gr
 rw [List.range_succ,List.map_append]
 rfl
theorem vj (n c:Nat):(gr n c).length=c:=by unfold gr; rw [List.length_map,List.length_range]
theorem D3 {Q:List Nat} {j:Nat} (h:j < Q.length):∃q,Q.take (Q.length - j)=Q.take (Q.length - (j+1))++[q]:=by
 have h1:Q.length - j=Q.length - (j+1)+1:=Qt h
 have h2:Q.length - (j+1) < Q.length:=Nat.sub_lt (Nat.lt_of_le_of_lt (Nat.zero_le _) h) (Nat.succ_pos _)
 refine ⟨Q[Q.length - (j+1)],?_⟩
 rw [h1,List.take_add_one,List.getElem?_eq_getElem h2]
 rfl
noncomputable def dl (k n m:Nat):Nat:=if k < 4 then n % (m+1) else m
theorem sm (k n m:Nat):dl k n m≤m:=by
 unfold dl
 by_cases h:k < 4
 ·rw [if_pos h]; exact Nat.le_of_lt_succ (Nat.mod_lt _ (Nat.succ_pos _))
 ·rw [if_neg h]; exact Nat.le_refl _
section
variable {wl:List PyData} {R:List (List Nat)} {W V Q ns:List Nat} {k nm sh:Option PV} {kk n q s:Nat}
theorem Q0 (hn:ns[kk]?=some n) (hk:kk < 5) (hQ:Q.length≤5):Pm ⟨lq ns (some (.dat (.int (kk:Int)))) nm sh,hq (ao ns) R W V Q⟩=some (.dat (.int (dl kk n Q.length:Nat)),hq (ao ns) R W V Q):=by
 let L:=lq ns (some (.dat (.int (kk:Int)))) nm sh
 let h:=hq (ao ns) R W V Q
 have el:am (fb (aa 5)) ⟨L,h⟩=some (.dat (.int (Q.length:Nat)),h):=by
  have e:=Co (F:=aa 5) (L:=L) (hp:=h) (i:=5) (l:=ao Q) (ag rfl rfl) rfl (by rw [cntP_len]; exact Nat.le_trans hQ (by decide))
  rwa [cntP_len] at e
 have e0:Ab (aa 0) (aa 6) ⟨L,h⟩=some (.dat (.int (n:Int)),h):=j6 (ag rfl rfl) (ag (i:=6) rfl rfl) (l8 rfl) rfl (fg (ma hn) (Nat.le_trans (Nat.le_of_lt hk) (by decide)))
 refine Oq (c:=decide (kk < 4)) (dk (F2:=iC 4) (ag (i:=6) rfl rfl) rfl rfl rfl (show some (decide ((kk:Int) < 4))=_ from congrArg some (decide_eq_decide.mpr (Int.ofNat_lt (n:=kk) (m:=4))))) ?_
 unfold dl
 by_cases hc:kk < 4
 ·rw [if_pos hc,if_pos (decide_eq_true hc)]
  exact a9 (op:=.Mod) e0 (a9 (op:=.Add) (F2:=iC 1) el rfl rfl) (we (k:=Q.length+1) (Nat.succ_pos _))
 ·rw [if_neg hc,if_neg (by rw [decide_eq_false hc]; exact Bool.false_ne_true)]
  exact el
theorem Tf (hn:ns[kk]?=some n) (hk:kk < 5) (hQ:Q.length≤5) (hR:R.length≤1000):∃sh',Sb ⟨lq ns (some (.dat (.int (kk:Int)))) nm sh,hq (ao ns) R W V Q⟩=some (.next,⟨lq ns (some (.dat (.int (kk:Int)))) nm sh',hq (ao ns) (R++gr n (dl kk n Q.length)) W V (Q.take (Q.length - dl kk n Q.length))⟩):=by
 refine cps λ_ KK=>?_
 obtain ⟨c,hc⟩:∃c,c=dl kk n Q.length:=⟨_,rfl⟩
 have hcl:c≤Q.length:=hc▸sm ..
 obtain ⟨σ',e,hI⟩:=jc (T:=bx 8) (B:=ah Ov (ah Ox aq)) (its:=i0 0 1 c) (λj σ=>j≤c->∃sh',σ=⟨lq ns (some (.dat (.int (kk:Int)))) nm sh',hq (ao ns) (R++gr n j) W V (Q.take (Q.length - j))⟩) (λj d σ hd hI=>by
  have hj:j < c:=by
   have:=(List.getElem?_eq_some_iff.mp hd).1
   rwa [cr] at this
  have hdj:d=.int (j:Int):=(jz _ _ _ _ hd).trans (by rw [Int.mul_one,Int.zero_add])
  refine cps λ_ KK=>?_
  obtain ⟨sh',h⟩:=hI (Nat.le_of_lt hj)
  obtain ⟨q,hq1⟩:=D3 (Q:=Q) (j:=j) (Nat.lt_of_lt_of_le hj hcl)
  refine KK ?_
  let L:=lq ns (some (.dat (.int (kk:Int)))) nm (some (.dat (.int (j:Int))))
  have hRl:(R++gr n j).length≤lim:=by rw [List.length_append,vj]; exact Nat.le_trans (Nat.add_le_add hR (Nat.le_trans (Nat.le_of_lt hj) (Nat.le_trans hcl hQ))) (by decide)
  have a1:=Q9 (R:=R++gr n j) (W:=W) (V:=V) (Q:=Q.take (Q.length - j)) (nm:=nm) (s:=j) hn hk hRl
  have a2:=Rk (wl:=ao ns) (R:=R++gr n j++[pf ((n / 360+j) % 6)++[41]]) (W:=W) (V:=V) (Q:=Q.take (Q.length - (j+1))) (q:=q) (ns:=ns) (k:=some (.dat (.int (kk:Int)))) (nm:=nm) (sh:=some (.dat (.int (j:Int)))) (by rw [List.length_take]; exact Nat.le_trans (Nat.add_le_add_right (Nat.le_trans (Nat.min_le_right _ _) hQ) 1) (by decide))
  refine ⟨L,⟨L,hq (ao ns) (R++gr n (j+1)) W V (Q.take (Q.length - (j+1)))⟩,by rw [h,hdj]; rfl,?_,λ_=>⟨_,rfl⟩⟩
  rw [h,A8,← List.append_assoc]
  refine (ae a1).trans ?_
  rw [hq1]
  exact (ae a2).trans rfl) (i0 0 1 c) 0 (c+1) ⟨lq ns (some (.dat (.int (kk:Int)))) nm sh,hq (ao ns) R W V Q⟩ rfl (by rw [cr]; exact Nat.lt_succ_self _) (λ_=>⟨sh,by
   unfold gr
   rw [List.range_zero,List.map_nil,List.append_nil,Nat.sub_zero,List.take_length]⟩)
 rw [cr,Nat.zero_add] at hI
 obtain ⟨sh',hI⟩:=hI (Nat.le_refl _)
 refine KK ⟨sh',?_⟩
 unfold Sb de
 rw [lg (N:=c) (Nat.le_trans (Nat.le_trans hcl hQ) (by decide)) (hc▸Q0 hn hk hQ),← hc,← hI]
 exact e
end
structure RW where
 R:List (List Nat)
 W:List Nat
 V:List Nat
 Q:List Nat
noncomputable def xn (k n:Nat) (x:RW):RW :=
 ⟨x.R++[pf (n / 60 % 6)++[40]]++gr n (dl k n (x.Q++[k]).length),x.W++[x.Q.length],iu x.V x.Q,(x.Q++[k]).take ((x.Q++[k]).length - dl k n (x.Q++[k]).length)⟩
noncomputable def b6 (ns:List Nat):Nat->RW
 | 0=>⟨[],[],[0,0,0,0,0],[]⟩
 | k+1=>xn k ((ns[k]?).getD 0) (b6 ns k)
structure RWok (k:Nat) (x:RW):Prop where
 R:x.R.length≤k*6
 W:x.W.length=k
 V:x.V.length=5
 Q:x.Q.length≤k
 q:∀a∈x.Q,a < k
theorem RWok.step {k n:Nat} {x:RW} (h:RWok k x) (hk:k < 5):RWok (k+1) (xn k n x):=by
 have h1:(x.Q++[k]).length≤k+1:=by rw [List.length_append,List.length_singleton]; exact Nat.add_le_add_right h.Q 1
 refine ⟨?_,?_,?_,?_,λa ha=>?_⟩
 ·show (x.R++[pf (n / 60 % 6)++[40]]++gr n (dl k n (x.Q++[k]).length)).length≤(k+1)*6
  rw [List.length_append,List.length_append,List.length_singleton,vj,Nat.add_mul,Nat.one_mul,Nat.add_assoc]
  exact Nat.add_le_add h.R (show 1+_≤1+5 from Nat.add_le_add_left (Nat.le_trans (sm ..) (Nat.le_trans h1 hk)) 1)
 ·show (x.W++[x.Q.length]).length=k+1
  rw [List.length_append,h.W]; rfl
 ·exact (zr x.V x.Q).trans h.V
 ·exact Nat.le_trans (List.length_take_le' ..) h1
 ·exact (List.mem_append.mp (List.mem_of_mem_take ha)).elim (λha=>Nat.lt_succ_of_lt (h.q a ha)) λha=>List.mem_singleton.mp ha▸Nat.lt_succ_self k
theorem qx (ns:List Nat):∀k,k≤5->RWok k (b6 ns k)
 | 0,_=>⟨Nat.le_refl _,rfl,rfl,Nat.le_refl _,λ_ h=>ck h⟩
 | k+1,h=>(qx ns k (Nat.le_of_succ_le h)).step h
noncomputable def Gh (wl:List PyData) (x:RW):List MO:=hq wl x.R x.W x.V x.Q
section
variable {wl:List PyData} {ns:List Nat} {k nm sh:Option PV} {kk n:Nat} {x:RW}
theorem R8 (hn:ns[kk]?=some n) (hk:kk < 5) (h:RWok kk x):∃nm' sh',BR ⟨lq ns (some (.dat (.int (kk:Int)))) nm sh,Gh (ao ns) x⟩=some (.next,⟨lq ns (some (.dat (.int (kk:Int)))) nm' sh',Gh (ao ns) (xn kk n x)⟩):=by
 have l5:kk≤5:=Nat.le_of_lt hk
 have hR:x.R.length≤30:=Nat.le_trans h.R (Nat.mul_le_mul_right 6 l5)
 have hQ1:(x.Q++[kk]).length≤5:=by rw [List.length_append,List.length_singleton]; exact Nat.le_trans (Nat.add_le_add_right h.Q 1) hk
 refine cps λ_ KK=>?_
 have a1:=Ts (wl:=ao ns) (R:=x.R) (W:=x.W) (V:=x.V) (Q:=x.Q) (ns:=ns) (k:=some (.dat (.int (kk:Int)))) (nm:=nm) (sh:=sh) (by rw [h.W]; exact Nat.le_trans l5 (by decide)) (Nat.le_trans h.Q (Nat.le_trans l5 (by decide)))
 obtain ⟨nm',a2⟩:=Tv (wl:=ao ns) (R:=x.R) (W:=x.W++[x.Q.length]) (V:=x.V) (Q:=x.Q) (ns:=ns) (k:=some (.dat (.int (kk:Int)))) (nm:=nm) (sh:=sh) h.V (λa ha=>Nat.lt_trans (h.q a ha) hk) (Nat.le_trans h.Q l5)
 have a3:=Ta (wl:=ao ns) (R:=x.R) (W:=x.W++[x.Q.length]) (V:=iu x.V x.Q) (Q:=x.Q) (ns:=ns) (kk:=kk) (nm:=nm') (sh:=sh) (Nat.le_trans h.Q (Nat.le_trans l5 (by decide)))
 have a4:=Tg (R:=x.R) (W:=x.W++[x.Q.length]) (V:=iu x.V x.Q) (Q:=x.Q++[kk]) (nm:=nm') (sh:=sh) hn hk (Nat.le_trans hR (by decide))
 obtain ⟨sh',a5⟩:=Tf (R:=x.R++[pf (n / 60 % 6)++[40]]) (W:=x.W++[x.Q.length]) (V:=iu x.V x.Q) (Q:=x.Q++[kk]) (nm:=nm') (sh:=sh) hn hk hQ1 (by rw [List.length_append]; exact Nat.le_trans (Nat.add_le_add_right hR 1) (by decide))
 refine KK ⟨nm',sh',?_⟩
 exact (ae a1).trans <| (ae a2).trans <| (ae a3).trans <| (ae a4).trans <| (ae a5).trans rfl
theorem Ti (hl:ns.length=5):∃k' nm' sh',Rw ⟨lq ns k nm sh,Gh (ao ns) (b6 ns 0)⟩=some (.next,⟨lq ns k' nm' sh',Gh (ao ns) (b6 ns 5)⟩):=by
 refine cps λ_ KK=>?_
 obtain ⟨σ',e,hI⟩:=jc (T:=bx 6) (B:=BR) (its:=i0 0 1 5) (λj σ=>j≤5->∃k' nm' sh',σ=⟨lq ns k' nm' sh',Gh (ao ns) (b6 ns j)⟩) (λj d σ hd hI=>by
  have hj:j < 5:=(List.getElem?_eq_some_iff.mp hd).1
  have hdj:d=.int (j:Int):=(jz _ _ _ _ hd).trans (by rw [Int.mul_one,Int.zero_add])
  have hn:ns[j]?=some ((ns[j]?).getD 0):=by rw [List.getElem?_eq_getElem (hl.symm▸hj)]; rfl
  refine cps λ_ KK=>?_
  obtain ⟨k',nm',sh',h⟩:=hI (Nat.le_of_lt hj)
  obtain ⟨nm2,sh2,e⟩:=R8 (x:=b6 ns j) (nm:=nm') (sh:=sh') hn hj (qx ns j (Nat.le_of_lt hj))
  refine KK ?_
  refine ⟨lq ns (some (.dat (.int (j:Int)))) nm' sh',_,by rw [h,hdj]; rfl,?_,λ_=>⟨some (.dat (.int (j:Int))),nm2,sh2,rfl⟩⟩
  rw [h]
  exact e) (i0 0 1 5) 0 6 ⟨lq ns k nm sh,Gh (ao ns) (b6 ns 0)⟩ rfl (Nat.lt_succ_self _) (λ_=>⟨k,nm,sh,rfl⟩)
 obtain ⟨k',nm',sh',hI⟩:=hI (Nat.le_refl 5)
 refine KK ⟨k',nm',sh',?_⟩
 unfold Rw de
 rw [lg (N:=5) (by decide) (show iC 5 ⟨lq ns k nm sh,Gh (ao ns) (b6 ns 0)⟩=some (.dat (.int ((5:Nat):Int)),_) from rfl)]
 exact e.trans (congrArg (λσ=>some (Fl.next,σ)) hI)
theorem L8 {G:FnF} {ps:List PV} {hp hp':List MO} {l:List Nat} {ds:List PyData} (h:G ps hp=some (.objs false l,hp')) (h1:frz hp.length hp' l=some ds) (h2:((hp'.take hp.length).all (MO.closed hp.length)&&decide (hp.length≤hp'.length))=true):Eo G ps hp=some (.dat (.tuple ds),hp'.take hp.length):=by
 unfold Eo
 rw [h]
 dsimp only
 rw [h1]
 exact if_pos h2
theorem zw {np N:Nat} {B:XF} {ps:List PV} {hp:List MO} {pv:PV} {σ:St} (hl:ps.length=np) (h:B ⟨az ps N,hp⟩=some (.ret pv,σ)):kq np N true B ps hp=some (pv,σ.hp):=by
 unfold kq
 rw [if_pos (by rw [hl]; exact beq_self_eq_true np),h]
 rfl
theorem Nq (hl:ns.length=5):kt [.obj 1] [.tab 186 true,.lst (ao ns)]=some (.dat (.tuple [.list (aw (b6 ns 5).R),.list (ao (b6 ns 5).W),.list (ao (b6 ns 5).V)]),[.tab 186 true,.lst (ao ns)]):=by
 refine cps λ_ KK=>?_
 obtain ⟨k',nm',sh',e3⟩:=Ti (ns:=ns) (k:=none) (nm:=none) (sh:=none) hl
 refine KK ?_
 have e1:S6 ⟨az [.obj 1] 8,[.tab 186 true,.lst (ao ns)]⟩=some (.next,⟨(az [.obj 1] 8).set 1 (some (.dat (.list (aw P9)))),[.tab 186 true,.lst (ao ns)]⟩):=rfl
 have e2:S4 ⟨(az [.obj 1] 8).set 1 (some (.dat (.list (aw P9)))),[.tab 186 true,.lst (ao ns)]⟩=some (.next,⟨lq ns none none none,Gh (ao ns) (b6 ns 0)⟩):=rfl
 have e4:Sm ⟨lq ns k' nm' sh',Gh (ao ns) (b6 ns 5)⟩=some (.ret (.objs false [2,3,4]),⟨lq ns k' nm' sh',Gh (ao ns) (b6 ns 5)⟩):=rfl
 have eX:X_law_row.1 ⟨az [.obj 1] 8,[.tab 186 true,.lst (ao ns)]⟩=some (.ret (.objs false [2,3,4]),⟨lq ns k' nm' sh',Gh (ao ns) (b6 ns 5)⟩) :=
  (congrFun Iy _).trans <| (ae e1).trans <| (ae e2).trans <| (ae e3).trans <| (dq e4)
 exact L8 (zw rfl eX) rfl rfl
end
end Mine
end
section
open PySem
namespace Mine
theorem vz (Φ:bg->Prop) {T:PyData->bg->Option bg} {tests:BF} {inner:CF} {t:PyData->Bool} {ds:PyData->List PyData} {hp:List MO}:∀(l:List PyData),
  (∀d∈l,∀loc,Φ loc->∃loc1,Φ loc1∧T d loc=some loc1∧tests ⟨loc1,hp⟩=some (t d,hp)∧(t d=true->∃ia,Φ ia∧inner ⟨loc1,hp⟩=some (ds d,⟨ia,hp⟩))) ->
  ∀(loc:bg) (n:Nat),Φ loc->l.length < n->∃loc',Φ loc'∧dp ar T tests inner n (.rem l) ⟨loc,hp⟩=some ((l.filter t).flatMap ds,⟨loc',hp⟩)
 | [],_,loc,n+1,hl,_=>⟨loc,hl,rfl⟩
 | d::l,h,loc,n+1,hl,hn=>by
  refine cps λ_ KK=>?_
  obtain ⟨loc1,h1,h2,h3,h4⟩:=h d (List.mem_cons_self ..) loc hl
  refine KK ?_
  have ih:=vz Φ (T:=T) (tests:=tests) (inner:=inner) (t:=t) (ds:=ds) (hp:=hp) l λx hx=>h x (List.mem_cons_of_mem _ hx)
  have hn':l.length < n:=by rw [List.length_cons] at hn; (exact Nat.le_of_lt_succ (by assumption))
  rw [dp]
  dsimp only [ar]
  refine h2.symm▸?_
  dsimp only
  rw [h3]
  cases ht:t d with
  | false =>
   obtain ⟨loc',q,e⟩:=ih loc1 n h1 hn'
   refine ⟨loc',q,?_⟩
   dsimp only
   rw [e,List.filter_cons_of_neg (by rw [ht]; exact Bool.false_ne_true)]
  | true =>
   refine cps λ_ KK=>?_
   obtain ⟨ia,h5,h6⟩:=h4 ht
   obtain ⟨loc',q,e⟩:=ih ia n h5 hn'
   refine KK ?_
   refine ⟨loc',q,?_⟩
   dsimp only
   refine h6.symm▸?_
   dsimp only
   refine e.symm▸(List.filter_cons_of_pos ht).symm▸?_
   rfl
theorem Dc (Φ:bg->Prop) {S:SF} {T:PyData->bg->Option bg} {tests:BF} {F:EF} {t:PyData->Bool} {g:PyData->PyData} {hp:List MO} {l:List PyData} {loc:bg} {ts:List Nat} {n:Nat} (hS:S ⟨loc,hp⟩=some ((.rem l,n),hp)) (hn:l.length < n)
  (h:∀d∈l,∀loc,Φ loc->∃loc1,Φ loc1∧T d loc=some loc1∧tests ⟨loc1,hp⟩=some (t d,hp)∧(t d=true->F ⟨loc1,hp⟩=some (.dat (g d),hp))) (h0:Φ (jb ts loc)) (hl:l.length≤lim) :
  du S ar T tests (dj F) ts ⟨loc,hp⟩=some (.dat (.list ((l.filter t).map g)),hp):=by
 obtain ⟨loc',_,e⟩:=vz Φ (T:=T) (tests:=tests) (inner:=dj F) (t:=t) (ds:=λd=>[g d]) (hp:=hp) l (λd hd loc hp'=>by
  refine cps λ_ KK=>?_
  obtain ⟨loc1,h1,h2,h3,h4⟩:=h d hd loc hp'
  refine KK ?_
  refine ⟨loc1,h1,h2,h3,λht=>⟨loc1,h1,?_⟩⟩
  unfold dj
  rw [h4 ht]) (jb ts loc) n h0 hn
 unfold du
 rw [hS]
 dsimp only
 rw [e]
 dsimp only
 have e2:(l.filter t).flatMap (λd=>[g d])=(l.filter t).map g:=by
  exact (List.map_eq_flatMap ..).symm
 rw [e2,if_pos]
 have:=List.length_filter_le t l
 rw [List.length_map]; (exact Nat.le_trans (by assumption) (by assumption))
end Mine
end
section
open PySem PyProof.Rows
namespace Mine
noncomputable abbrev sD (l:List Nat):PyData:=.str ⟨⟨l⟩⟩
set_option genInjectivity false in
set_option genSizeOf false in
structure Vs where
 script:Option PV:=none
 numbers:Option PV:=none
 row:Option PV:=none
 waits:Option PV:=none
 within:Option PV:=none
 text:Option PV:=none
 k:Option PV:=none
 name:Option PV:=none
 lexer:Option PV:=none
 early:Option PV:=none
 token:Option PV:=none
 tokens:Option PV:=none
 front:Option PV:=none
 words:Option PV:=none
 born:Option PV:=none
 many:Option PV:=none
 piece:Option PV:=none
 verdict:Option PV:=none
 small:Option PV:=none
 great:Option PV:=none
 place:Option PV:=none
 mail:Option PV:=none
 pairs:Option PV:=none
 told:Option PV:=none
 heard:Option PV:=none
noncomputable def Vs.loc (v:Vs):bg:=[v.script,v.numbers,v.row,v.waits,v.within,v.text,v.k,v.name,v.lexer,v.early,v.token,v.tokens,v.front,v.words,v.born,v.many,v.piece,v.verdict,v.small,v.great,v.place,v.mail,v.pairs,v.told,v.heard,
 none,none,none,none,none,none,none,none,none,none,none]
section
variable {v:Vs} {hp:List MO} {script:List Int}
noncomputable def M6 (script:List Int) (k:Nat):Int:=(sy (o4 (some (k:Int)) none (some 5) (script.map .int))).getD 0
noncomputable def me (script:List Int) (k:Nat) (b:Int):Int:=(b+M6 script k).fmod 1000000
theorem vh:∀l:List PyData,(∀d∈l,∃i,d=.int i)->∃s,sy l=some s
 | [],_=>⟨0,rfl⟩
 | d::l,h=>by
  obtain ⟨i,rfl⟩:=h d (List.mem_cons_self ..)
  obtain ⟨s,e⟩:=vh l λx hx=>h x (List.mem_cons_of_mem _ hx)
  exact ⟨i+s,by rw [sy,e]; rfl⟩
theorem Ja {α:Type} {lo hi st:Option Int} {l:List α} {x:α} (h:x∈o4 lo hi st l):x∈l:=by
 unfold o4 at h
 exact (List.mem_filterMap.mp h).elim λi q=>List.mem_of_getElem? q.2
theorem L5 (k:Nat):sy (o4 (some (k:Int)) none (some 5) (script.map .int))=some (M6 script k):=by
 obtain ⟨s,e⟩:=vh (o4 (some (k:Int)) none (some 5) (script.map .int)) λd hd=>(List.mem_map.mp (Ja hd)).elim λi q=>⟨i,q.2.symm⟩
 unfold M6
 rw [e]; rfl
noncomputable def Ru (script:List Int):PyData->PyData
 | .tuple [.int k,.int b]=>.int (me script k.toNat b)
 | _=>.none
theorem vm:∀(ns:List Int) (i:Nat),∀d∈eo i (ns.map .int),∃(k:Nat) (b:Int),d=.tuple [.int k,.int b]
 | [],i,d,h=>ck h
 | n::ns,i,d,h=>(List.mem_cons.mp h).elim (λe=>⟨i,n,e⟩) (vm ns (i+1) d)
noncomputable def O6:EF:=am (bf .Mod (am (bf .Add (aa 26) (am (af (am (to (aa 0) (ev (aa 25)) Aa (ev (iC 5)))) (iw B1.sum.f))))) (am (bf .Pow (iC 10) (iC 6))))
theorem N7 (h0:v.script=some (.dat (.list (script.map .int)))) (hs:script.length≤63) (k:Nat) (b:Int):O6 ⟨(v.loc.set 25 (some (.dat (.int k)))).set 26 (some (.dat (.int b))),hp⟩=some (.dat (.int (me script k b)),hp):=by
 have hsl:ek (some (k:Int)) none (some 5) (.list (script.map .int))=some (.list (o4 (some (k:Int)) none (some 5) (script.map .int))):=by
  show (if (script.map PyData.int).length≤lim then (if (5:Int)≠0 then some (PyData.list (o4 (some (k:Int)) none (some 5) (script.map .int))) else none) else none)=_
  rw [if_pos (by rw [List.length_map]; exact Nat.le_trans hs (by decide)),if_pos (by decide)]
 exact a9 (op:=.Mod) (a9 (op:=.Add) (ag rfl rfl) (nl (i6 (hi:=Aa) (st:=ev (iC 5)) (ag rfl h0) (qq (ag rfl rfl)) rfl rfl hsl) (congrArg (Option.map PyData.int) (L5 k))) rfl) (a9 (op:=.Pow) (F1:=iC 10) (F2:=iC 6) rfl rfl rfl) rfl
noncomputable def Hy (script:List Int):List Int:=[me script 0 240,me script 1 15240,me script 2 11942,me script 3 19740,me script 4 2700]
noncomputable def Q1:List PyData:=[.int 240,.int 15240,.int 11942,.int 19740,.int 2700]
theorem Kk {F:EF} {σ:St} {l:List PyData} (h:F σ=some (.dat (.list l),hp)):Jl F σ=some (.obj hp.length,hp++[.lst l]):=by
 unfold Jl
 rw [h]
theorem s0 (h0:v.script=some (.dat (.list (script.map .int)))) (hs:script.length≤63) :
  X_law_0.1 ⟨v.loc,hp⟩=some (.next,⟨{ v with numbers:=some (.obj hp.length) }.loc,hp++[.lst ((Hy script).map .int)]⟩):=by
 have e:=Dc (λloc=>∃a b,loc=(v.loc.set 25 a).set 26 b) (S:=qw (am (cw (ak (iC 240) (ak (iC 15240) (ak (iC 11942) (ak (iC 19740) (ak (iC 2700) ba)))))))) (T:=ig 25 26) (tests:=λσ=>some (true,σ.hp)) (F:=O6) (t:=λ_=>true) (g:=Ru script) (hp:=hp) (l:=eo 0 Q1) (loc:=v.loc) (ts:=[25,26]) (n:=6)
  rfl (by decide) (λd hd loc hl=>by
   refine cps λ_ KK=>?_
   obtain ⟨a,b,hl⟩:=hl
   obtain ⟨k,n,hd⟩:=vm [240,15240,11942,19740,2700] 0 d hd
   refine KK ?_
   refine hl.symm▸hd.symm▸?_
   exact ⟨_,⟨some (.dat (.int k)),some (.dat (.int n)),rfl⟩,rfl,rfl,λ_=>N7 h0 hs k n⟩) ⟨none,none,rfl⟩ (by decide)
 exact db (Kk (e.trans rfl))
noncomputable def P6 (script:List Int):List Nat:=(Hy script).map Int.toNat
theorem Mg (script:List Int):(Hy script).map PyData.int=ao (P6 script):=by
 have h:∀(k:Nat) (b:Int),((me script k b).toNat:Int)=me script k b:=λk b=>Int.toNat_of_nonneg (by
  unfold me
  rw [Int.fmod_eq_emod_of_nonneg _ (by decide)]
  exact Int.emod_nonneg _ (by decide))
 show [PyData.int _,.int _,.int _,.int _,.int _]=[PyData.int ((me script 0 240).toNat:Int),.int ((me script 1 15240).toNat:Int),.int ((me script 2 11942).toNat:Int),.int ((me script 3 19740).toNat:Int),.int ((me script 4 2700).toNat:Int)]
 rw [h,h,h,h,h]
theorem s1 {ns:List Nat} (h0:v.numbers=some (.obj 1)) (hl:ns.length=5) :
  X_law_1.1 ⟨v.loc,[.tab 186 true,.lst (ao ns)]⟩=some (.next,⟨{ v with row:=some (.dat (.list (aw (b6 ns 5).R))),waits:=some (.dat (.list (ao (b6 ns 5).W))),within:=some (.dat (.list (ao (b6 ns 5).V))) }.loc,[.tab 186 true,.lst (ao ns)]⟩):=by
 have e:cz (ak (aa 1) ba) kt ⟨v.loc,[.tab 186 true,.lst (ao ns)]⟩=_:=fu (ag rfl h0) (Nq hl)
 show Nn (cz (ak (aa 1) ba) kt) (Ha 2 3 4) ⟨v.loc,[.tab 186 true,.lst (ao ns)]⟩=_
 unfold Nn au
 rw [e]
 rfl
end
theorem sx {n p d:Nat} (h:p≤n):om n (some (p:Int)) d=p:=by
 show (max 0 (min (if (p:Int) < 0 then (p:Int)+n else p) (n:Int))).toNat=p
 rw [if_neg (Int.not_lt.mpr (Int.natCast_nonneg p)),Int.min_eq_left (Int.ofNat_le.mpr h),Int.max_eq_right (Int.natCast_nonneg p)]; rfl
theorem K8 {n d:Nat}:om (n+1) (some (-1)) d=n:=by
 show (max 0 (min (-1+((n+1:Nat):Int)) ((n+1:Nat):Int))).toNat=n
 rw [show (-1+((n+1:Nat):Int))=n from (Int.add_comm _ _).trans (Int.add_sub_cancel (n:Int) 1),Int.min_eq_left (Int.ofNat_le.mpr (Nat.le_succ n)),Int.max_eq_right (Int.natCast_nonneg n)]; rfl
theorem wh {α:Type} {l:List α} {x:α}:sl none (some (-1)) (l++[x])=l:=by
 show ((l++[x]).take (om (l++[x]).length (some (-1)) (l++[x]).length)).drop 0=_
 rw [List.length_append,List.length_singleton,K8]
 exact List.take_left' rfl
theorem k8 {lo hi:Option Int} {l:List Nat} (h:l.length≤lim):ek lo hi none (sD l)=some (sD (sl lo hi l)):=if_pos h
noncomputable def iq (a c:Nat):List Nat:=if a=0 then [34,c,34] else if a=1 then [92,c] else [c]
noncomputable def E9 (b:Nat):Nat:=[10,9,13,32].getD b 0
noncomputable def kc (A B:Nat->Nat):Nat->List Nat
 | 0=>[]
 | j+1=>kc A B j++(iq (A j) (97+j)++[E9 (B j)])
theorem jx (a c:Nat):(iq a c).length≤3:=by
 unfold iq
 by_cases h:a=0
 ·rw [if_pos h]; exact Nat.le_refl 3
 ·rw [if_neg h]
  by_cases h:a=1
  ·rw [if_pos h]; exact Nat.le_succ 2
  ·rw [if_neg h]; exact Nat.le_add_left 1 2
theorem tn (A B:Nat->Nat):∀j,(kc A B j).length≤4*j
 | 0=>Nat.le_refl _
 | j+1=>by
  show (kc A B j++(iq (A j) (97+j)++[E9 (B j)])).length≤4*(j+1)
  rw [List.length_append,List.length_append,List.length_singleton,Nat.mul_add]
  exact Nat.add_le_add (tn A B j) (Nat.add_le_add_right (jx _ _) 1)
noncomputable def abcE:List PyData:=eo 0 (chars [97,98,99,100,101])
theorem yf {k:Nat} {d:PyData} (h:abcE[k]?=some d):k < 5∧d=.tuple [.int (k:Int),sD [97+k]]:=by
 match k,h with
 | 0,h | 1,h | 2,h | 3,h | 4,h=>exact ⟨by decide,(b9 h).symm⟩
noncomputable def Ky (ns:List Nat) (k:Nat):Nat:=(ns[k]?).getD 0 / 2160 % 3
noncomputable def Mj (ns:List Nat) (k:Nat):Nat:=(ns[k]?).getD 0 / 6480 % 4
section
variable {v:Vs} {hp:List MO} {k n q m:Nat} {l:List Nat} {ns:List Nat}
theorem cv {F:EF} {G:LF} {L:bg} {hp1 hp2:List MO} {p:PV} {ps:List PV} (h1:F ⟨L,hp1⟩=some (p,hp2)) (h2:G ⟨L,hp2⟩=some (ps,hp2)):ak F G ⟨L,hp1⟩=some (p::ps,hp2):=by
 unfold ak af
 rw [h1]
 dsimp only
 rw [h2]
theorem yb {G:LF} {L:bg} {hp1 hp2:List MO} {ps:List PV} {ds:List PyData} (h1:G ⟨L,hp1⟩=some (ps,hp2)) (h2:fz ps=some ds) (h3:ds.length≤lim):am (cw G) ⟨L,hp1⟩=some (.dat (.list ds),hp2):=by
 unfold am cw
 rw [h1]
 dsimp only
 rw [h2]
 dsimp only
 rw [if_pos h3]
theorem zj (h1:v.numbers=some (.obj 1)) (h2:v.k=some (.dat (.int (k:Int)))) (hn:ns[k]?=some n) (hk:k < 5) (hq:0 < q) (hq2:q < 2 ^ 60) (hm:0 < m) (hn1:hp[1]?=some (.lst (ao ns))) :
  am (bf .Mod (am (bf .FloorDiv (Ab (aa 1) (aa 6)) (iC q))) (iC m)) ⟨v.loc,hp⟩=some (.dat (.int ((n / q % m:Nat):Int)),hp) :=
 a9 (op:=.Mod) (a9 (op:=.FloorDiv) (j6 (ag rfl h1) (ag rfl h2) (l8 hn1) rfl (fg (ma hn) (Nat.le_trans (Nat.le_of_lt hk) (by decide)))) rfl (Bz hq hq2)) rfl (we hm)
theorem s2:X_law_2.1 ⟨v.loc,hp⟩=some (.next,⟨{ v with text:=some (.dat (sD [])) }.loc,hp⟩):=rfl
theorem Tn (h1:v.numbers=some (.obj 1)) (h2:v.k=some (.dat (.int (k:Int)))) (h3:v.name=some (.dat (sD [97+k]))) (h4:v.text=some (.dat (sD l))) (hl:l.length≤1000) (hn:ns[k]?=some n) (hk:k < 5) (hn1:hp[1]?=some (.lst (ao ns))) :
  X_law_3_0.1 ⟨v.loc,hp⟩=some (.next,⟨{ v with text:=some (.dat (sD (l++iq (n / 2160 % 3) (97+k)))) }.loc,hp⟩):=by
 have e2:∀a,a < 3->([sD [34,97+k,34],sD [92,97+k],sD [97+k]]:List PyData)[a]?=some (sD (iq a (97+k))):=λa ha=>by
  match a,ha with
  | 0,_ | 1,_ | 2,_=>rfl
 have n3:aa 7 ⟨v.loc,hp⟩=some (.dat (sD [97+k]),hp):=ag rfl h3
 have l3:am (cw (ak (am (bf .Add (am (bf .Add (sC [34]) (aa 7))) (sC [34]))) (ak (am (bf .Add (sC [92]) (aa 7))) (ak (aa 7) ba)))) ⟨v.loc,hp⟩=some (.dat (.list [sD [34,97+k,34],sD [92,97+k],sD [97+k]]),hp) :=
  yb (cv (a9 (op:=.Add) (a9 (op:=.Add) rfl n3 rfl) rfl rfl) (cv (a9 (op:=.Add) rfl n3 rfl) (cv n3 rfl))) rfl (Nat.le_of_ble_eq_true rfl)
 have hm:=Nat.mod_lt (n / 2160) (show 0 < 3 by decide)
 exact db (a9 (op:=.Add) (ag rfl h4) (ed l3 (zj (q:=2160) (m:=3) h1 h2 hn hk (by decide) (by decide) (by decide) hn1) (fg (e2 _ hm) (Nat.le_trans (Nat.le_of_lt hm) (by decide)))) (add_str (Nat.le_trans (Nat.add_le_add hl (jx _ _)) (by decide))))
theorem Tq (h1:v.numbers=some (.obj 1)) (h2:v.k=some (.dat (.int (k:Int)))) (h4:v.text=some (.dat (sD l))) (hl:l.length≤1000) (hn:ns[k]?=some n) (hk:k < 5) (hn1:hp[1]?=some (.lst (ao ns))) :
  X_law_3_1.1 ⟨v.loc,hp⟩=some (.next,⟨{ v with text:=some (.dat (sD (l++[E9 (n / 6480 % 4)]))) }.loc,hp⟩):=by
 have e2:∀b:Nat,b < 4->ik (sD [10,9,13,32]) (.int (b:Int))=some (sD [E9 b]):=λb hb=>by
  match b,hb with
  | 0,_ | 1,_ | 2,_ | 3,_=>rfl
 have hm:=Nat.mod_lt (n / 6480) (show 0 < 4 by decide)
 exact db (a9 (op:=.Add) (ag rfl h4) (ed (F1:=sC [10,9,13,32]) rfl (zj (q:=6480) (m:=4) h1 h2 hn hk (by decide) (by decide) (by decide) hn1) (e2 _ hm)) (add_str (y:=[_]) (Nat.le_trans (Nat.add_le_add_right hl 1) (by decide))))
theorem s3 (h1:v.numbers=some (.obj 1)) (h4:v.text=some (.dat (sD []))) (hl:ns.length=5) (hn1:hp[1]?=some (.lst (ao ns))) :
  ∃a b,X_law_3.1 ⟨v.loc,hp⟩=some (.next,⟨{ v with k:=a,name:=b,text:=some (.dat (sD (kc (Ky ns) (Mj ns) 5))) }.loc,hp⟩):=by
 refine cps λ_ KK=>?_
 obtain ⟨σ',e,a,b,hI⟩:=jc (T:=ig 6 7) (B:=ah X_law_3_0.1 (ah X_law_3_1.1 aq)) (its:=abcE) (λk σ=>∃a b,σ=⟨{ v with k:=a,name:=b,text:=some (.dat (sD (kc (Ky ns) (Mj ns) k))) }.loc,hp⟩) (λk d σ hd ⟨a,b,hσ⟩=>by
  have hk:=(yf hd).1
  have hg:ns[k]?=some ((ns[k]?).getD 0):=by rw [List.getElem?_eq_getElem (hl.symm▸hk)]; rfl
  let v1:Vs:={ v with k:=some (.dat (.int (k:Int))),name:=some (.dat (sD [97+k])),text:=some (.dat (sD (kc (Ky ns) (Mj ns) k))) }
  let v2:Vs:={ v1 with text:=some (.dat (sD (kc (Ky ns) (Mj ns) k++iq (Ky ns k) (97+k)))) }
  let v3:Vs:={ v2 with text:=some (.dat (sD (kc (Ky ns) (Mj ns) (k+1)))) }
  have hlen:(kc (Ky ns) (Mj ns) k).length≤20:=Nat.le_trans (tn _ _ k) (Nat.mul_le_mul_left 4 (Nat.le_of_lt hk))
  have e0:X_law_3_0.1 ⟨v1.loc,hp⟩=some (.next,⟨v2.loc,hp⟩):=Tn (v:=v1) h1 rfl rfl rfl (Nat.le_trans hlen (by decide)) hg hk hn1
  have e1:X_law_3_1.1 ⟨v2.loc,hp⟩=some (.next,⟨v3.loc,hp⟩):=by
   have:=Tq (v:=v2) (hp:=hp) h1 rfl rfl (by rw [List.length_append]; exact Nat.le_trans (Nat.add_le_add hlen (jx _ _)) (by decide)) hg hk hn1
   rw [this,List.append_assoc]
   rfl
  exact ⟨v1.loc,⟨v3.loc,hp⟩,by rw [hσ,(yf hd).2]; rfl,by rw [hσ]; exact (ae e0).trans ((bz _ _).trans e1),some (.dat (.int (k:Int))),some (.dat (sD [97+k])),rfl⟩) abcE 0 6 ⟨v.loc,hp⟩ rfl (by decide) ⟨v.k,v.name,(show kc (Ky ns) (Mj ns) 0=[] from rfl).symm▸h4▸rfl⟩
 refine KK ⟨a,b,?_⟩
 rw [show 0+abcE.length=5 from rfl] at hI
 exact e.trans (congrArg (λσ=>some (Fl.next,σ)) hI)
noncomputable def kl (A B:Nat->Nat):List Nat:=kc A B 4++iq (A 4) 101
theorem s4 {A B:Nat->Nat} (h4:v.text=some (.dat (sD (kc A B 5)))):X_law_4.1 ⟨v.loc,hp⟩=some (.next,⟨{ v with text:=some (.dat (sD (kl A B))) }.loc,hp⟩):=by
 have hl:(kc A B 5).length≤20:=tn A B 5
 have e1:ek none (some (-1)) none (sD (kc A B 5))=some (sD (kl A B)):=by
  rw [k8 (Nat.le_trans hl (by decide))]
  show some (sD (sl none (some (-1)) (kc A B 4++(iq (A 4) (97+4)++[E9 (B 4)]))))=_
  rw [← List.append_assoc,wh]
  rfl
 exact db (i6 (lo:=Aa) (hi:=ev (iC (-1))) (st:=Aa) (ag rfl h4) rfl rfl rfl e1)
end
noncomputable abbrev hN (P:Addr) (fl:Bool) (wl:List PyData) (s:List Nat) (f:Bool) (n:Int) (pb:List PyData):List MO:=hs P fl wl s f n pb none
section
variable {P:Addr} {fl f:Bool} {wl pb:List PyData} {s:List Nat} {n:Int} {loc:bg} {hp hp':List MO} {r:Option (PV×List MO)} {d:PyData}
theorem ky:ct 76 "get_token" 3 (hN P fl wl s f n pb)=true:=by cases f<;>kernel_rfl
theorem G0:ct 76 "push_token" 3 (hN P fl wl s f n pb)=true:=by cases f<;>kernel_rfl
noncomputable def uo:EF:=jd (aa 8) 76 "get_token" b3
theorem w8 (h:eg loc 8=some (.obj 3)) (h2:ct 76 "get_token" 3 hp=true):uo ⟨loc,hp⟩=b3 [.obj 3] hp:=by
 unfold uo jd af aa
 refine h.symm▸?_
 dsimp only
 exact (if_pos h2).symm▸rfl
noncomputable def yx (F:EF):EF:=ti (aa 8) 76 "push_token" (ak F ba) d8
theorem rm {F:EF} (h:eg loc 8=some (.obj 3)) (hF:F ⟨loc,hN P fl wl s f n pb⟩=some (.dat d,hN P fl wl s f n pb)) (hl:pb.length≤lim):yx F ⟨loc,hN P fl wl s f n pb⟩=some (.dat .none,hN P fl wl s f n (pb++[d])):=by
 unfold yx ti af aa
 refine h.symm▸?_
 dsimp only
 refine (if_pos G0).symm▸?_
 unfold ak af
 refine hF.symm▸?_
 exact push_tok hl
noncomputable def Gets:List PyData->List MO->List MO->Prop
 | [],hp,hp'=>hp=hp'
 | t::ts,hp,hp'=>∃hp1,b3 [.obj 3] hp=some (.dat t,hp1)∧ct 76 "get_token" 3 hp=true∧Gets ts hp1 hp'
theorem Gets.append:∀{a b:List PyData} {h1 h2 h3:List MO},Gets a h1 h2->Gets b h2 h3->Gets (a++b) h1 h3
 | [],_,_,_,_,h,q=>by cases h; exact q
 | t::a,b,_,_,_,⟨hp1,e1,e2,h⟩,q=>⟨hp1,e1,e2,Gets.append h q⟩
theorem xi:∀(pb:List PyData) {rest:List PyData},pb.length+rest.length < lim->Gets pb (hN P fl wl s f n (pb++rest)) (hN P fl wl s f n rest)
 | [],_,_=>rfl
 | d::pb,rest,h=>⟨_,Hq (by show (pb++rest).length < lim; rw [List.length_append]; rw [List.length_cons] at h; lia),ky,xi pb (by rw [List.length_cons] at h; lia)⟩
theorem vd {i:Nat} {base:bg} (hi:∀a,eg (base.set i a) 8=some (.obj 3)):∀(ts l:List PyData) (m:Nat) (a:Option PV) (hp hp':List MO),l.length=ts.length->l.length < m->Gets ts hp hp' ->
  ∃a',dp ar (bx i) (λσ=>some (true,σ.hp)) (dj uo) m (.rem l) ⟨base.set i a,hp⟩=some (ts,⟨base.set i a',hp'⟩)
 | [],[],m+1,a,hp,hp',_,_,h=>by cases h; exact ⟨a,rfl⟩
 | t::ts,d::l,m+1,a,hp,hp',hl,hm,⟨hp1,e1,e2,h⟩=>by
  obtain ⟨a',e⟩:=vd hi ts l m (some (.dat d)) hp1 hp' (by simpa using hl) (by rw [List.length_cons] at hm; (exact Nat.le_of_lt_succ (by assumption))) h
  refine ⟨a',?_⟩
  rw [dp]
  dsimp only [ar,bx]
  rw [List.set_set]
  unfold dj
  refine (w8 (hi _) e2).symm▸e1.symm▸?_
  dsimp only
  unfold dj at e
  refine e.symm▸?_
  rfl
theorem uy {i N:Nat} {base:bg} {S:SF} {ts:List PyData} (hi:∀a,eg (base.set i a) 8=some (.obj 3)) (hN:N=ts.length) (hS:S ⟨base,hp⟩=some ((.rem (i0 0 1 N),N+1),hp)) (hl:ts.length≤lim) (h:Gets ts hp hp') :
  du S ar (bx i) (λσ=>some (true,σ.hp)) (dj uo) [i] ⟨base,hp⟩=some (.dat (.list ts),hp'):=by
 obtain ⟨a',e⟩:=vd hi ts (i0 0 1 N) (N+1) none hp hp' (by rw [cr,hN]) (by rw [cr]; (exact Nat.le_refl _)) h
 unfold du
 rw [hS]
 dsimp only
 rw [show jb [i] base=base.set i none from rfl,e]
 dsimp only
 rw [if_pos hl]
end
theorem Ca {a c w:Nat} {r:List Nat} (hc:97≤c) (hw:gv w=true) (hr:r≠[]):q7 (iq a c++w::r)=([c],some (if a=0 then w::r else r)):=by
 have h34:c≠34:=by lia
 have h92:c≠92:=by lia
 have hcw:gv c=false:=by
  unfold gv
  have h1:c≠10:=by lia
  have h2:c≠9:=by lia
  have h3:c≠13:=by lia
  have h4:c≠32:=by lia
  simp [h1,h2,h3,h4]
 have x1:gv 34=false:=by decide
 have x3:gv 92=false:=by decide
 obtain ⟨d,r',rfl⟩:=List.exists_cons_of_ne_nil hr
 unfold iq
 by_cases h0:a=0
 ·simp [h0,q7,Mw,x1,h34,h92]
 ·by_cases h1:a=1
  ·simp [h1,q7,Fy,x3,hcw,h92,hw]
  ·simp [h0,h1,q7,Fy,hcw,h34,h92,hw]
theorem goT_end {a:Nat}:(q7 (iq a 101)).1=[101]∧(q7 (iq a 101)).2.getD []=[]:=by
 unfold iq
 split
 ·exact ⟨rfl,rfl⟩
 ·split<;>exact ⟨rfl,rfl⟩
theorem Ft {w:Nat} {r:List Nat} (hw:gv w=true) (hr:r≠[]):q7 (w::r)=q7 r:=by
 obtain ⟨d,r',rfl⟩:=List.exists_cons_of_ne_nil hr
 rw [q7,if_pos hw]
noncomputable def gp (A B:Nat->Nat):Nat->Nat->List Nat
 | 0,k=>iq (A k) (97+k)
 | j+1,k=>iq (A k) (97+k)++E9 (B k)::gp A B j (k+1)
theorem m8 (A B:Nat->Nat) (j k:Nat):gp A B j k≠[]:=by
 have:iq (A k) (97+k)≠[]:=by unfold iq; split<;>(try split)<;>simp
 cases j with
 | zero=>exact this
 | succ j=>simp [gp,this]
theorem sg (A B:Nat->Nat):kl A B=gp A B 4 0:=by simp [kl,kc,gp]
theorem Ce (b:Nat) (h:b < 4):gv (E9 b)=true:=by
 match b,h with
 | 0,_ | 1,_ | 2,_ | 3,_=>rfl
theorem kv (A B:Nat->Nat):∀j k,(gp A B j k).length≤4*j+3
 | 0,k=>by have:=jx (A k) (97+k); show (iq (A k) (97+k)).length≤_; assumption
 | j+1,k=>by
  have:=jx (A k) (97+k)
  have:=kv A B j (k+1)
  show (iq (A k) (97+k)++E9 (B k)::gp A B j (k+1)).length≤_
  simp; lia
noncomputable def Bx:Nat->Nat->List PyData
 | 0,k=>[sD [97+k],sD []]
 | j+1,k=>sD [97+k]::Bx j (k+1)
theorem vc {A B:Nat->Nat} {P:Addr} {fl:Bool} {wl:List PyData} (hB:∀k,B k < 4):∀(j k:Nat) (s:List Nat) (f:Bool) (n:Int),j+k=4->q7 s=q7 (gp A B j k)->s.length≤100 ->
  ∃f' n',Gets (Bx j k) (hN P fl wl s f n []) (hN P fl wl [] f' n' [])∧n'=n+(s.count 10:Nat)
 | 0,k,s,f,n,hk,hs,hl=>by
  refine cps λ_ KK=>?_
  obtain ⟨f1,n1,e1,q1⟩:=mw (P:=P) (fl:=fl) (wl:=wl) (s:=s) (f:=f) (n:=n) (by unfold lim; lia)
  have hk4:k=4:=by lia
  subst hk4
  have hg:q7 s=q7 (iq (A 4) 101):=hs
  replace e1:=goT_end.2▸goT_end.1▸hg▸e1
  replace q1:=goT_end.2▸hg▸q1
  obtain ⟨f2,n2,e2,q2⟩:=mw (P:=P) (fl:=fl) (wl:=wl) (s:=[]) (f:=f1) (n:=n1) (by decide)
  refine KK ?_
  refine ⟨f2,n2,⟨_,e1,ky,_,e2,ky,rfl⟩,?_⟩
  have z1:(([]:List Nat).count 10:Nat)=0:=rfl
  have z2:((q7 []).2.getD []).count 10=0:=rfl
  replace q2:=z1▸z2▸q2
  replace q1:=z1▸q1
  lia
 | j+1,k,s,f,n,hk,hs,hl=>by
  refine cps λ_ KK=>?_
  obtain ⟨f1,n1,e1,q1⟩:=mw (P:=P) (fl:=fl) (wl:=wl) (s:=s) (f:=f) (n:=n) (by unfold lim; lia)
  have hg:q7 s=([97+k],some (if A k=0 then E9 (B k)::gp A B j (k+1) else gp A B j (k+1))):=hs.trans (Ca (by (exact Nat.le_add_right _ _)) (Ce _ (hB k)) (m8 A B j (k+1)))
  rw [hg] at e1 q1
  have hlr:=kv A B j (k+1)
  obtain ⟨f2,n2,G,q2⟩:=vc (P:=P) (fl:=fl) (wl:=wl) hB j (k+1) (if A k=0 then E9 (B k)::gp A B j (k+1) else gp A B j (k+1)) f1 n1 (by lia) (by
   split
   ·exact Ft (Ce _ (hB k)) (m8 A B j (k+1))
   ·rfl) (by split<;>(try simp)<;>lia)
  refine KK ?_
  refine ⟨f2,n2,⟨_,e1,ky,G⟩,?_⟩
  dsimp only [Option.getD] at q1
  (exact Eq.trans (by assumption) (by assumption))
section
variable {v:Vs} {P:Addr} {fl f:Bool} {wl pb:List PyData} {s l:List Nat} {n:Int} {hp hp':List MO} {d:PyData}
theorem s5 (h4:v.text=some (.dat (sD l))) (hl:l.length≤lim):X_law_5.1 ⟨v.loc,[.tab 186 true,.lst wl]⟩=some (.next,⟨{ v with lexer:=some (.obj 3) }.loc,hN 186 false wl l false 1 []⟩) :=
 db (fu (ag rfl h4) (Jf hl))
theorem s6 (h:v.lexer=some (.obj 3)) (h2:ct 76 "get_token" 3 hp=true) (e:b3 [.obj 3] hp=some (.dat d,hp')):X_law_6.1 ⟨v.loc,hp⟩=some (.next,⟨{ v with early:=some (.dat d) }.loc,hp'⟩):=by
 show au uo (c9 9) _=_
 unfold au
 rw [w8 (cg rfl h) h2,e]
 rfl
theorem Tu (h:v.lexer=some (.obj 3)) (h2:v.token=some (.dat d)) (hl:pb.length≤lim):X_law_7_0.1 ⟨v.loc,hN P fl wl s f n pb⟩=some (.next,⟨v.loc,hN P fl wl s f n (pb++[d])⟩):=by
 show Gk (yx (aa 10)) _=_
 exact jg (rm (d:=d) (cg rfl h) (ag rfl h2) hl)
theorem s7 (h:v.lexer=some (.obj 3)) (h2:v.early=some (.dat d)) :
  ∃a,X_law_7.1 ⟨v.loc,hN P fl wl s f n []⟩=some (.next,⟨{ v with token:=a }.loc,hN P fl wl s f n [sD [],d,d,sD []]⟩):=by
 refine cps λ_ KK=>?_
 obtain ⟨σ',e,a,hI⟩:=jc (T:=bx 10) (B:=ah X_law_7_0.1 aq) (its:=[sD [],d,d,sD []]) (λk σ=>∃a,σ=⟨{ v with token:=a }.loc,hN P fl wl s f n ([sD [],d,d,sD []].take k)⟩) (λk x σ hd ⟨a,hσ⟩=>by
  let v1:Vs:={ v with token:=some (.dat x) }
  have e0:=Tu (v:=v1) (d:=x) (P:=P) (fl:=fl) (wl:=wl) (s:=s) (f:=f) (n:=n) (pb:=[sD [],d,d,sD []].take k) h rfl (by rw [List.length_take]; exact Nat.le_trans (Nat.min_le_right _ _) (Nat.le_of_ble_eq_true rfl))
  have ht:([sD [],d,d,sD []]:List PyData).take (k+1)=([sD [],d,d,sD []]:List PyData).take k++[x]:=by
   rw [List.take_add_one,hd]; rfl
  refine ⟨v1.loc,⟨v1.loc,hN P fl wl s f n ([sD [],d,d,sD []].take (k+1))⟩,by rw [hσ]; rfl,?_,some (.dat x),rfl⟩
  rw [hσ,ht]
  exact (bz _ _).trans e0) [sD [],d,d,sD []] 0 5 ⟨v.loc,hN P fl wl s f n []⟩ rfl (Nat.lt_succ_self _) ⟨v.token,rfl⟩
 refine KK ⟨a,?_⟩
 have hL:am (cw (ak (sC []) (ak (aa 9) (ak (aa 9) (ak (sC []) ba))))) ⟨v.loc,hN P fl wl s f n []⟩=some (.dat (.list [sD [],d,d,sD []]),hN P fl wl s f n []) :=
  yb (cv rfl (cv (ag rfl h2) (cv (ag rfl h2) (cv rfl rfl)))) rfl (Nat.le_of_ble_eq_true rfl)
 show de (gb (am (cw (ak (sC []) (ak (aa 9) (ak (aa 9) (ak (sC []) ba))))))) (λis n=>bw ar (bx 10) (ah X_law_7_0.1 aq) n is) _=_
 unfold de gb
 rw [hL]
 exact e.trans (congrArg (λσ=>some (Fl.next,σ)) hI)
theorem s8 {ts:List PyData} (h:v.lexer=some (.obj 3)) (hts:ts.length=9) (hg:Gets ts hp hp'):X_law_8.1 ⟨v.loc,hp⟩=some (.next,⟨{ v with tokens:=some (.dat (.list ts)) }.loc,hp'⟩):=by
 show au (du (ey (ak (iC 9) ba)) ar (bx 27) (λσ=>some (true,σ.hp)) (dj uo) [27]) (c9 11) _=_
 unfold au
 rw [uy (N:=9) (λa=>cg rfl h) hts.symm (by kernel_rfl) (by rw [hts]; decide) hg]
 rfl
noncomputable def Fg:PyData:=.list [sD [],sD [97],sD [97],sD [],sD [98],sD [99],sD [100],sD [101],sD []]
theorem ku (c:Nat):∀l:List Nat,cnt c l=(l.count c:Nat)
 | []=>rfl
 | x::l=>by
  rw [cnt_cons,ku c l,List.count_cons]
  by_cases h:x=c
  ·simp [h]; lia
  ·simp [h]
theorem Ni (n:Int):di .NotEq (.int n) (.int n)=some false:=by
 show some (!(n==n))=_
 rw [beq_self_eq_true]; rfl
theorem s9 {t:List Nat} (h:v.lexer=some (.obj 3)) (h2:v.tokens=some (.dat Fg)) (h3:v.text=some (.dat (sD t))) (hn:n=1+(t.count 10:Nat)):X_law_9.1 ⟨v.loc,hN P fl wl s f n pb⟩=some (.next,⟨v.loc,hN P fl wl s f n pb⟩):=by
 have e2:bh 76 1 (.obj 3) ⟨v.loc,hN P fl wl s f n pb⟩=some (.dat (.int n),hN P fl wl s f n pb):=by cases f<;>rfl
 have e3:Txt.count ⟨⟨t⟩⟩ ⟨⟨[10]⟩⟩=(t.count 10:Nat):=by
  rw [show (⟨⟨[10]⟩⟩:Str)=⟨#[10]⟩ from rfl,count_cnt,ku]
 let tF:EF:=am (cw (ak (sC []) (ak (sC [97]) (ak (sC [97]) (ak (sC []) (ak (sC [98]) (ak (sC [99]) (ak (sC [100]) (ak (sC [101]) (ak (sC []) ba))))))))))
 have c1:bq .NotEq (aa 11) tF ⟨v.loc,hN P fl wl s f n pb⟩=some (false,hN P fl wl s f n pb):=by
  have a1:aa 11 ⟨v.loc,hN P fl wl s f n pb⟩=some (.dat Fg,hN P fl wl s f n pb):=ag rfl h2
  unfold bq af
  refine a1.symm▸?_
  kernel_rfl
 have a1:af (aa 8) (bh 76 1) ⟨v.loc,hN P fl wl s f n pb⟩=some (.dat (.int n),hN P fl wl s f n pb):=by
  unfold af
  rw [ag rfl h]
  exact e2
 have c2:bq .NotEq (af (aa 8) (bh 76 1)) (am (bf .Add (iC 1) (am (Mine.meth1 .count (aa 5) (sC [10]))))) ⟨v.loc,hN P fl wl s f n pb⟩=some (false,hN P fl wl s f n pb) :=
  dk a1 (a9 (op:=.Add) rfl (fq (m:=.count) (ag rfl h3) rfl rfl (congrArg (λk=>some (PyData.int k)) e3)) (by rw [hn]; rfl)) rfl rfl (Ni n)
 show gt (fv (bq .NotEq (aa 11) tF) λb=>if b then yh true else fv (bq .NotEq (af (aa 8) (bh 76 1)) (am (bf .Add (iC 1) (am (Mine.meth1 .count (aa 5) (sC [10])))))) λb=>if b then yh true else yh false) _ aq _=_
 unfold gt fv
 refine c1.symm▸?_
 dsimp only
 refine (if_neg Bool.false_ne_true).symm▸c2.symm▸?_
 rfl
end
noncomputable def bC (b:Bool):EF:=λσ=>some (.dat (.bool b),σ.hp)
noncomputable def Fd:XF:=gt (bq .Eq (aa 3) (sC [40])) (ah (ki 1 .Add (iC 1)) aq)
 (ah (gt (bq .Eq (aa 3) (sC [41])) (ah (ki 1 .Sub (iC 1)) (ah (gt (bq .Lt (aa 1) (iC 0)) (ah (jm (bC false)) aq) aq) aq)) aq) aq)
noncomputable def T3:XF:=de (D5 (ak (aa 0) ba)) λis n=>bw ar (ig 2 3) (ah Fd aq) n is
noncomputable def Pf:XF:=jm (am (af (aa 1) λa=>af (iC 0) λb=>dw (λx y=>(di .Eq x y).map .bool) a b))
noncomputable def Sk:XF:=au (cz (ak (aa 0) ba) ce) (c9 0)
theorem Bj:X_check_parenthesis.1=ah Sk (ah (au (iC 0) (c9 1)) (ah T3 (ah Pf aq))):=rfl
noncomputable def par:List Nat->Bool->Nat->Bool
 | [],_,o=>o==0
 | _::r,true,o=>par r false o
 | c::r,false,o=>if c=92 then par r true o else if c=40 then par r false (o+1) else if c=41 then (match o with
  | 0=>false
  | o+1=>par r false o) else par r false o
noncomputable def LC (a:Option PV) (o:Nat) (p c:Option PV):bg:=[a,some (.dat (.int (o:Int))),p,c]
theorem sz {C:BF} {G H:XF} {L:bg} {h1 h2:List MO} (h:C ⟨L,h1⟩=some (true,h2)):gt C G H ⟨L,h1⟩=G ⟨L,h2⟩:=by
 unfold gt
 rw [h]
 rfl
theorem je {C:BF} {G H:XF} {L:bg} {h1 h2:List MO} (h:C ⟨L,h1⟩=some (false,h2)):gt C G H ⟨L,h1⟩=H ⟨L,h2⟩:=by
 unfold gt
 rw [h]
 rfl
theorem rh {F F' G:XF} {σ σ':St} (h:F σ=F' σ'):ah F G σ=ah F' G σ':=by unfold ah; rw [h]
theorem wq (a b:List Nat):di .Eq (.str ⟨⟨a⟩⟩) (.str ⟨⟨b⟩⟩)=some (a==b):=rfl
section
variable {a p:Option PV} {o:Nat} {ch:List Nat} {i:Int}
theorem Kn:Fd ⟨LC a o p (some (.dat (sD [40]))),[]⟩=some (.next,⟨LC a (o+1) p (some (.dat (sD [40]))),[]⟩):=rfl
theorem Jc:Fd ⟨LC a (o+1) p (some (.dat (sD [41]))),[]⟩=some (.next,⟨LC a o p (some (.dat (sD [41]))),[]⟩):=by
 have h:((o+1:Nat):Int) - 1=o:=Int.add_sub_cancel (o:Int) 1
 have e1:bq .Eq (aa 3) (sC [40]) ⟨LC a (o+1) p (some (.dat (sD [41]))),[]⟩=some (false,[]):=rfl
 have e2:bq .Eq (aa 3) (sC [41]) ⟨LC a (o+1) p (some (.dat (sD [41]))),[]⟩=some (true,[]):=rfl
 have e3:ki 1 .Sub (iC 1) ⟨LC a (o+1) p (some (.dat (sD [41]))),[]⟩=some (.next,⟨LC a o p (some (.dat (sD [41]))),[]⟩):=by
  show some (Fl.next,(⟨[a,some (.dat (.int (((o+1:Nat):Int) - 1))),p,some (.dat (sD [41]))],[]⟩:St))=_
  rw [h]; rfl
 have e4:bq .Lt (aa 1) (iC 0) ⟨LC a o p (some (.dat (sD [41]))),[]⟩=some (false,[]):=dk (F2:=iC 0) (ag rfl rfl) rfl rfl rfl (congrArg some (decide_eq_false (Int.not_lt.mpr (Int.natCast_nonneg o))))
 exact (je e1).trans <| (bz _ _).trans <| (sz e2).trans <| (ae e3).trans <| (bz _ _).trans <| (je e4).trans rfl
theorem M9:∃σ',Fd ⟨LC a 0 p (some (.dat (sD [41]))),[]⟩=some (.ret (.dat (.bool false)),σ'):=⟨_,rfl⟩
theorem xq (h1:ch≠[40]) (h2:ch≠[41]):Fd ⟨LC a o p (some (.dat (sD ch))),[]⟩=some (.next,⟨LC a o p (some (.dat (sD ch))),[]⟩):=by
 have e1:bq .Eq (aa 3) (sC [40]) ⟨LC a o p (some (.dat (sD ch))),[]⟩=some (false,[]):=dk (F2:=sC [40]) (ag rfl rfl) rfl rfl rfl (by rw [wq,beq_false_of_ne h1])
 have e2:bq .Eq (aa 3) (sC [41]) ⟨LC a o p (some (.dat (sD ch))),[]⟩=some (false,[]):=dk (F2:=sC [41]) (ag rfl rfl) rfl rfl rfl (by rw [wq,beq_false_of_ne h2])
 exact (je e1).trans <| (bz _ _).trans <| (je e2).trans rfl
theorem M0 {c:Option PV}:Pf ⟨LC a o p c,[]⟩=some (.ret (.dat (.bool (o==0))),⟨LC a o p c,[]⟩):=by
 have h:di .Eq (.int (o:Int)) (.int 0)=some (o==0):=by
  show some ((o:Int)==0)=_
  cases o with
  | zero=>rfl
  | succ o=>rfl
 have e:am (af (aa 1) λa=>af (iC 0) λb=>dw (λx y=>(di .Eq x y).map .bool) a b) ⟨LC a o p c,[]⟩=some (.dat (.bool (o==0)),[]):=ks (op:=.Eq) (F2:=iC 0) (ag rfl rfl) rfl h
 unfold Pf jm au
 rw [e]
theorem nw:∀(l:List Nat) (i:Nat) (esc:Bool) (o n:Nat) (p c:Option PV),(gF l i esc).length < n ->
  ∃σ',ah (bw ar (ig 2 3) (ah Fd aq) n (.rem (gF l i esc))) (ah Pf aq) ⟨LC a o p c,[]⟩=some (.ret (.dat (.bool (par l esc o))),σ')
 | [],i,false,o,n+1,p,c,_=>⟨_,(ae rfl).trans (dq M0)⟩
 | [],i,true,o,0,p,c,h=>absurd h (Nat.not_lt_zero _)
 | [],i,true,o,1,p,c,h=>absurd h (Nat.lt_irrefl _)
 | [],i,true,o,n+2,p,c,_=>by
  have e:bw ar (ig 2 3) (ah Fd aq) (n+2) (.rem (gF [] i true)) ⟨LC a o p c,[]⟩=some (.next,⟨LC a o (some (.dat (.int ((i:Int) - 1)))) (some (.dat (sD [92]))),[]⟩) :=
   (bm (is':=.rem []) (d:=.tuple [.int ((i:Int) - 1),sD [92]]) (hp:=[]) (loc:=LC a o (some (.dat (.int ((i:Int) - 1)))) (some (.dat (sD [92])))) rfl rfl ((bz _ _).trans (xq (by decide) (by decide)))).trans rfl
  exact ⟨_,(ae e).trans (dq M0)⟩
 | x::r,i,true,o,0,p,c,h=>absurd h (Nat.not_lt_zero _)
 | x::r,i,true,o,n+1,p,c,h=>by
  have e:=bm (m:=n) (is':=.rem (gF r (i+1) false)) (d:=.tuple [.int (i:Int),sD [92,x]]) (step:=ar) (is:=.rem (gF (x::r) i true)) (σ:=⟨LC a o p c,[]⟩) (hp:=[]) (T:=ig 2 3) (loc:=LC a o (some (.dat (.int (i:Int)))) (some (.dat (sD [92,x])))) (B:=ah Fd aq) rfl rfl ((bz _ _).trans (xq (λq=>by cases q) (λq=>by cases q)))
  obtain ⟨σ',e'⟩:=nw r (i+1) false o n (some (.dat (.int (i:Int)))) (some (.dat (sD [92,x]))) (Nat.lt_of_succ_lt_succ h)
  exact ⟨σ',(rh e).trans e'⟩
 | x::r,i,false,o,n,p,c,h=>by
  by_cases h92:x=92
  ·have hg:gF (x::r) i false=gF r (i+1) true:=by rw [h92]; rfl
   rw [hg] at h ⊢
   rw [show par (x::r) false o=par r true o from if_pos h92]
   exact nw r (i+1) true o n p c h
  ·have hg:gF (x::r) i false=.tuple [.int (i:Int),sD [x]]::gF r (i+1) false:=by
    show (if x==92 then _ else _)=_
    rw [if_neg (by rw [beq_false_of_ne h92]; exact Bool.false_ne_true)]
   rw [hg] at h ⊢
   cases n with
   | zero=>exact absurd h (Nat.not_lt_zero _)
   | succ n =>
    have hn:=Nat.lt_of_succ_lt_succ h
    have step:∀o',Fd ⟨LC a o (some (.dat (.int (i:Int)))) (some (.dat (sD [x]))),[]⟩=some (.next,⟨LC a o' (some (.dat (.int (i:Int)))) (some (.dat (sD [x]))),[]⟩)->par (x::r) false o=par r false o' ->
      ∃σ',ah (bw ar (ig 2 3) (ah Fd aq) (n+1) (.rem (.tuple [.int (i:Int),sD [x]]::gF r (i+1) false))) (ah Pf aq) ⟨LC a o p c,[]⟩=some (.ret (.dat (.bool (par (x::r) false o))),σ'):=λo' hb hp=>by
     have e:=bm (m:=n) (is':=.rem (gF r (i+1) false)) (d:=.tuple [.int (i:Int),sD [x]]) (step:=ar) (is:=.rem (.tuple [.int (i:Int),sD [x]]::gF r (i+1) false)) (σ:=⟨LC a o p c,[]⟩) (hp:=[]) (T:=ig 2 3) (loc:=LC a o (some (.dat (.int (i:Int)))) (some (.dat (sD [x])))) (B:=ah Fd aq) rfl rfl ((bz _ _).trans hb)
     obtain ⟨σ',e'⟩:=nw r (i+1) false o' n (some (.dat (.int (i:Int)))) (some (.dat (sD [x]))) hn
     exact ⟨σ',hp▸(rh e).trans e'⟩
    by_cases h40:x=40
    ·rw [h40]
     rw [h40] at step
     exact step (o+1) Kn rfl
    ·by_cases h41:x=41
     ·rw [h41]
      rw [h41] at step
      cases o with
      | zero =>
       obtain ⟨σ',hb⟩:=M9 (a:=a) (p:=some (.dat (.int (i:Int))))
       have e:=i3 (m:=n) (is':=.rem (gF r (i+1) false)) (d:=.tuple [.int (i:Int),sD [41]]) (step:=ar) (is:=.rem (.tuple [.int (i:Int),sD [41]]::gF r (i+1) false)) (σ:=⟨LC a 0 p c,[]⟩) (hp:=[]) (T:=ig 2 3) (loc:=LC a 0 (some (.dat (.int (i:Int)))) (some (.dat (sD [41])))) (B:=ah Fd aq) rfl rfl ((bz _ _).trans hb)
       exact ⟨_,(dq e).trans rfl⟩
      | succ o=>exact step o Jc rfl
     ·exact step o (xq (λq=>h40 (List.cons.inj q).1) (λq=>h41 (List.cons.inj q).1)) (by
       show (if x=92 then _ else if x=40 then _ else if x=41 then _ else _)=_
       rw [if_neg h92,if_neg h40,if_neg h41])
end
noncomputable def nC:EF:=λσ=>some (.dat .none,σ.hp)
noncomputable def Sg (lo hi:PF):NF:=to (aa 0) lo hi Aa
noncomputable def Tx:XF:=ah (gt (bq .NotEq (aa 1) (aa 2)) (ah (Gk (dh (aa 3) (am (Sg (ev (aa 1)) (ev (aa 2)))))) aq) aq)
 (ah (au (am (bf .Add (aa 4) (iC 1))) (c9 1)) (ah (au nC (c9 2)) aq))
noncomputable def Nu:XF:=gt (bq .Eq (aa 5) (sC [34])) (ah (gt (bq .Is (aa 2) nC) (ah (au (aa 4) (c9 2)) aq) Tx) aq) aq
noncomputable def S2:XF:=de (D5 (ak (aa 0) ba)) λis n=>bw ar (ig 4 5) (ah Nu aq) n is
noncomputable def S3:XF:=gt (bq .Lt (aa 1) (am (fb (aa 0)))) (ah (Gk (dh (aa 3) (am (Sg (ev (aa 1)) Aa)))) aq) aq
noncomputable def Q8:XF:=jm (am (Mine.meth1 .join (sC []) (aa 3)))
noncomputable def Sp:XF:=gt (bq .NotIn (sC [34]) (aa 0)) (ah (jm (aa 0)) aq) aq
theorem t7:X_strip_quoted_realnames.1=ah Sp (ah (au (iC 0) (c9 1)) (ah (au nC (c9 2)) (ah (au (ll (cw ba)) (c9 3)) (ah S2 (ah S3 (ah Q8 aq)))))):=rfl
noncomputable def Tw:Option Nat->PyData
 | none=>.none
 | some p=>.int (p:Int)
noncomputable def LS (t:List Nat) (s:Nat) (op:Option Nat) (p c:Option PV):bg:=[some (.dat (sD t)),some (.dat (.int (s:Int))),some (.dat (Tw op)),some (.obj 0),p,c]
noncomputable def hS (res:List (List Nat)):List MO:=[.lst (aw res)]
section
variable {t:List Nat} {s i p:Nat} {op:Option Nat} {res:List (List Nat)} {pos:Option PV} {ch:List Nat}
theorem wu (h:ch≠[34]):Nu ⟨LS t s op pos (some (.dat (sD ch))),hS res⟩=some (.next,⟨LS t s op pos (some (.dat (sD ch))),hS res⟩):=by
 have e1:bq .Eq (aa 5) (sC [34]) ⟨LS t s op pos (some (.dat (sD ch))),hS res⟩=some (false,hS res):=dk (F2:=sC [34]) (ag rfl rfl) rfl rfl rfl (by rw [wq,beq_false_of_ne h])
 exact (je e1).trans rfl
theorem K1:Nu ⟨LS t s none (some (.dat (.int (i:Int)))) (some (.dat (sD [34]))),hS res⟩=some (.next,⟨LS t s (some i) (some (.dat (.int (i:Int)))) (some (.dat (sD [34]))),hS res⟩):=rfl
noncomputable def n9 (t:List Nat) (s p:Nat) (res:List (List Nat)):List (List Nat):=if s=p then res else res++[(t.take p).drop s]
theorem Nx {a b:Nat} (ha:a≤t.length) (hb:b≤t.length):sl (some (a:Int)) (some (b:Int)) t=(t.take b).drop a:=by
 unfold sl
 rw [sx ha,sx hb]
theorem Kb {a:Nat} (ha:a≤t.length):sl (some (a:Int)) none t=t.drop a:=by
 show (t.take t.length).drop (om t.length (some (a:Int)) 0)=_
 rw [sx ha,List.take_length]
theorem Ji (hs:s≤t.length) (hp:p≤t.length) (ht:t.length≤1000) (hr:res.length≤1000):Nu ⟨LS t s (some p) (some (.dat (.int (i:Int)))) (some (.dat (sD [34]))),hS res⟩=some (.next,⟨LS t (i+1) none (some (.dat (.int (i:Int)))) (some (.dat (sD [34]))),hS (n9 t s p res)⟩):=by
 let L:=LS t s (some p) (some (.dat (.int (i:Int)))) (some (.dat (sD [34])))
 let L1:=LS t (i+1) (some p) (some (.dat (.int (i:Int)))) (some (.dat (sD [34])))
 have e1:bq .Eq (aa 5) (sC [34]) ⟨L,hS res⟩=some (true,hS res):=rfl
 have e2:bq .Is (aa 2) nC ⟨L,hS res⟩=some (false,hS res):=rfl
 have e3:bq .NotEq (aa 1) (aa 2) ⟨L,hS res⟩=some (!(s==p),hS res):=dk (ag rfl rfl) (ag rfl rfl) rfl rfl (show some (!((s:Int)==(p:Int)))=_ from congrArg (λb=>some (!b)) (by
  rw [Bool.eq_iff_iff,beq_iff_eq,beq_iff_eq,Int.ofNat_inj]))
 have e6:∀h,au (am (bf .Add (aa 4) (iC 1))) (c9 1) ⟨L,h⟩=some (.next,⟨L1,h⟩):=λh=>db (a9 (op:=.Add) (F2:=iC 1) (ag rfl rfl) rfl rfl)
 have fin:gt (bq .NotEq (aa 1) (aa 2)) (ah (Gk (dh (aa 3) (am (Sg (ev (aa 1)) (ev (aa 2)))))) aq) aq ⟨L,hS res⟩=some (.next,⟨L,hS (n9 t s p res)⟩):=by
  by_cases h:s=p
  ·rw [show (!(s==p))=false from by rw [h,beq_self_eq_true]; rfl] at e3
   rw [show n9 t s p res=res from if_pos h]
   exact (je e3).trans rfl
  ·rw [show (!(s==p))=true from by rw [beq_false_of_ne h]; rfl] at e3
   have a1:ek (some (s:Int)) (some (p:Int)) none (sD t)=some (sD ((t.take p).drop s)):=by
    rw [k8 (Nat.le_trans ht (by decide)),Nx hs hp]
   have a2:=jg (gw (F1:=aa 3) (i:=0) (L:=L) (hp1:=hS res) (ag rfl rfl) rfl (show (aw res).length≤lim from (List.length_map ..).symm▸Nat.le_trans hr (by decide)) (i6 (F:=aa 0) (lo:=ev (aa 1)) (hi:=ev (aa 2)) (st:=Aa) (ag (i:=0) rfl rfl) (qq (ag (i:=1) rfl rfl)) (qq (ag (i:=2) rfl rfl)) rfl a1))
   refine (sz e3).trans <| (bz _ _).trans <| a2.trans ?_
   rw [show n9 t s p res=res++[(t.take p).drop s] from if_neg h]
   unfold hS
   rw [gz]
   rfl
 exact (sz e1).trans <| (bz _ _).trans <| (je e2).trans <| (ae fin).trans <| (ae (e6 _)).trans rfl
end
noncomputable def bj:List Nat->Bool->Option (List Nat)->List Nat
 | [],_,none=>[]
 | [],_,some q=>q
 | c::r,true,none=>c::bj r false none
 | c::r,true,some q=>bj r false (some (q++[c]))
 | c::r,false,none=>if c=92 then c::bj r true none else if c=34 then bj r false (some [34]) else c::bj r false none
 | c::r,false,some q=>if c=92 then bj r true (some (q++[c])) else if c=34 then bj r false none else bj r false (some (q++[c]))
noncomputable def E3 (t:List Nat) (i s:Nat):Option Nat->List Nat
 | none=>(t.take i).drop s
 | some p=>(t.take p).drop s
noncomputable def pend (t:List Nat) (i:Nat):Option Nat->Option (List Nat)
 | none=>none
 | some p=>some ((t.take i).drop p)
noncomputable def okS (i s:Nat):Option Nat->Prop
 | none=>s≤i
 | some p=>s≤p∧p < i
theorem tx {t:List Nat} {i s c:Nat} (h:t[i]?=some c) (hs:s≤i):(t.take (i+1)).drop s=(t.take i).drop s++[c]:=by
 have hi:=(List.getElem?_eq_some_iff.mp h).1
 rw [List.take_add_one,h,List.drop_append_of_le_length (by rw [List.length_take]; exact Nat.le_min.mpr ⟨hs,Nat.le_trans hs (Nat.le_of_lt hi)⟩)]
 rfl
theorem tr {t:List Nat} {i s c:Nat} {op:Option Nat} (h:t[i]?=some c) (ho:okS i s op):∀(f:List Nat->Bool->Option (List Nat)->List Nat) (r:List Nat) (b:Bool) (X:List Nat),
  (∀q,X=(match q with | none=>c::bj r b none | some q=>bj r b (some (q++[c])))->pend t i op=q->E3 t i s op++X=E3 t (i+1) s op++bj r b (pend t (i+1) op)):=λf r b X q hX hq=>by
 cases op with
 | none =>
  cases hq
  rw [hX]
  show (t.take i).drop s++(c::bj r b none)=(t.take (i+1)).drop s++bj r b none
  rw [tx h ho,List.append_assoc]
  rfl
 | some p =>
  cases hq
  rw [hX]
  show (t.take p).drop s++bj r b (some ((t.take i).drop p++[c]))=(t.take p).drop s++bj r b (some ((t.take (i+1)).drop p))
  rw [tx h (Nat.le_of_lt ho.2)]
theorem okS.next {i s:Nat} {op:Option Nat} (h:okS i s op):okS (i+1) s op:=by
 cases op with
 | none=>exact Nat.le_succ_of_le h
 | some p=>exact ⟨h.1,Nat.lt_succ_of_lt h.2⟩
inductive StP (t:List Nat) (l:List Nat) (i:Nat) (esc:Bool) (s:Nat) (op:Option Nat) (res:List (List Nat)) (n:Nat) (p c:Option PV):Prop
 | mk (s':Nat) (op':Option Nat) (res':List (List Nat)) (p' c':Option PV):bw ar (ig 4 5) (ah Nu aq) n (.rem (gF l i esc)) ⟨LS t s op p c,hS res⟩=some (.next,⟨LS t s' op' p' c',hS res'⟩) ->
  res'.flatten++t.drop s'=res.flatten++(E3 t i s op++bj l esc (pend t i op))->s'≤t.length->res'.length≤res.length+l.length->StP t l i esc s op res n p c
theorem Gn {t:List Nat} {i s:Nat} {op:Option Nat} {res:List (List Nat)} {esc:Bool} (hi:i=t.length) (ho:okS i s op):res.flatten++t.drop s=res.flatten++(E3 t i s op++bj [] esc (pend t i op)):=by
 refine congrArg (res.flatten++·) ?_
 cases op with
 | none =>
  show t.drop s=(t.take i).drop s++bj [] esc none
  rw [hi,List.take_length,show bj [] esc none=[] from by cases esc<;>rfl,List.append_nil]
 | some p =>
  show t.drop s=(t.take p).drop s++bj [] esc (some ((t.take i).drop p))
  have hp:p≤t.length:=hi▸Nat.le_of_lt ho.2
  rw [show ∀q,bj [] esc (some q)=q from λq=>by cases esc<;>rfl,hi,List.take_length]
  have e:t.drop s=((t.take p)++t.drop p).drop s:=by rw [List.take_append_drop]
  rw [e,List.drop_append_of_le_length (by rw [List.length_take]; exact Nat.le_min.mpr ⟨ho.1,Nat.le_trans ho.1 hp⟩)]
theorem okS.le {t:List Nat} {i s:Nat} {op:Option Nat} (h:okS i s op) (hi:i≤t.length):s≤t.length:=by
 cases op with
 | none=>exact Nat.le_trans h hi
 | some p=>exact Nat.le_trans h.1 (Nat.le_trans (Nat.le_of_lt h.2) hi)
theorem u4 {t r:List Nat} {i x:Nat} (h:t.drop i=x::r):t[i]?=some x∧t.drop (i+1)=r∧i+1≤t.length:=by
 have h1:t[i]?=some x:=by
  have e:(t.drop i)[0]?=some x:=by rw [h]; rfl
  rwa [List.getElem?_drop,Nat.add_zero] at e
 refine ⟨h1,?_,(List.getElem?_eq_some_iff.mp h1).1⟩
 have e:(t.drop i).drop 1=r:=by rw [h]; rfl
 rwa [List.drop_drop] at e
theorem Sz (t:List Nat) (i:Nat):(t.take i).drop i=[]:=List.drop_eq_nil_of_le (by rw [List.length_take]; exact Nat.min_le_left _ _)
theorem Dx (t:List Nat) (s p:Nat) (res:List (List Nat)):(n9 t s p res).flatten=res.flatten++(t.take p).drop s:=by
 unfold n9
 by_cases h:s=p
 ·rw [if_pos h,h,List.drop_eq_nil_of_le (by rw [List.length_take]; exact Nat.min_le_left _ _),List.append_nil]
 ·rw [if_neg h,List.flatten_append]
  show res.flatten++((t.take p).drop s++[])=_
  rw [List.append_nil]
theorem xw (t:List Nat) (s p:Nat) (res:List (List Nat)):(n9 t s p res).length≤res.length+1:=by
 unfold n9
 by_cases h:s=p
 ·rw [if_pos h]; exact Nat.le_succ _
 ·rw [if_neg h,List.length_append]; exact Nat.le_refl _
theorem StP.turn {t l r:List Nat} {i i':Nat} {esc:Bool} {s s':Nat} {op op':Option Nat} {res res':List (List Nat)} {n:Nat} {p c:Option PV} {pos:Int} {ch:List Nat}
  (hg:gF l i esc=.tuple [.int pos,sD ch]::gF r i' false) (hb:Nu ⟨LS t s op (some (.dat (.int pos))) (some (.dat (sD ch))),hS res⟩=some (.next,⟨LS t s' op' (some (.dat (.int pos))) (some (.dat (sD ch))),hS res'⟩))
  (he:res.flatten++(E3 t i s op++bj l esc (pend t i op))=res'.flatten++(E3 t i' s' op'++bj r false (pend t i' op'))) (hl:res'.length+r.length≤res.length+l.length)
  (h:StP t r i' false s' op' res' n (some (.dat (.int pos))) (some (.dat (sD ch)))):StP t l i esc s op res (n+1) p c:=by
 refine cps λ_ KK=>?_
 obtain ⟨s2,op2,res2,p2,c2,e1,e2,e3,e4⟩:=h
 refine KK ?_
 have e:=bm (m:=n) (is':=.rem (gF r i' false)) (d:=.tuple [.int pos,sD ch]) (step:=ar) (is:=.rem (.tuple [.int pos,sD ch]::gF r i' false)) (σ:=⟨LS t s op p c,hS res⟩) (hp:=hS res) (T:=ig 4 5) (loc:=LS t s op (some (.dat (.int pos))) (some (.dat (sD ch)))) (B:=ah Nu aq) rfl rfl ((bz _ _).trans hb)
 exact ⟨s2,op2,res2,p2,c2,hg.symm▸e.trans e1,e2.trans he.symm,e3,Nat.le_trans e4 hl⟩
theorem lf {t:List Nat} (ht:t.length≤400):∀(l:List Nat) (i:Nat) (esc:Bool) (s:Nat) (op:Option Nat) (res:List (List Nat)) (n:Nat) (p c:Option PV),t.drop i=l->i≤t.length->okS i s op->res.length+l.length≤1000->(gF l i esc).length < n->StP t l i esc s op res n p c
 | [],i,false,s,op,res,n+1,p,c,hl,hi,ho,hr,hn=>⟨s,op,res,p,c,rfl,Gn (Nat.le_antisymm hi (List.drop_eq_nil_iff.mp hl)) ho,ho.le hi,Nat.le_refl _⟩
 | [],i,true,s,op,res,0,p,c,hl,hi,ho,hr,hn=>absurd hn (Nat.not_lt_zero _)
 | [],i,true,s,op,res,1,p,c,hl,hi,ho,hr,hn=>absurd hn (Nat.lt_irrefl _)
 | [],i,true,s,op,res,n+2,p,c,hl,hi,ho,hr,hn =>
  StP.turn (r:=[]) (i':=i) (n:=n+1) (pos:=(i:Int) - 1) (ch:=[92]) rfl (wu (by decide)) (by cases op<;>rfl) (Nat.le_refl _)
   ⟨s,op,res,_,_,rfl,Gn (Nat.le_antisymm hi (List.drop_eq_nil_iff.mp hl)) ho,ho.le hi,Nat.le_refl _⟩
 | x::r,i,true,s,op,res,0,p,c,hl,hi,ho,hr,hn=>absurd hn (Nat.not_lt_zero _)
 | x::r,i,true,s,op,res,n+1,p,c,hl,hi,ho,hr,hn =>
  have d:=u4 hl
  StP.turn (r:=r) (i':=i+1) (n:=n) (pos:=(i:Int)) (ch:=[92,x]) rfl (wu (λq=>by cases q)) (congrArg (res.flatten++·) (tr d.1 ho bj r false _ _ (by cases pend t i op<;>rfl) rfl)) (Nat.add_le_add_left (Nat.le_succ _) _)
   (lf ht r (i+1) false s op res n _ _ d.2.1 d.2.2 ho.next (Nat.le_trans (Nat.add_le_add_left (Nat.le_succ _) _) hr) (Nat.lt_of_succ_lt_succ hn))
 | x::r,i,false,s,op,res,n,p,c,hl,hi,ho,hr,hn=>by
  have d:=u4 hl
  have hr':res.length+r.length≤1000:=Nat.le_trans (Nat.add_le_add_left (Nat.le_succ _) _) hr
  by_cases h92:x=92
  ·have hg:gF (x::r) i false=gF r (i+1) true:=by rw [h92]; rfl
   rw [hg] at hn
   refine cps λ_ KK=>?_
   obtain ⟨s2,op2,res2,p2,c2,e1,e2,e3,e4⟩:=lf ht r (i+1) true s op res n p c d.2.1 d.2.2 ho.next hr' hn
   refine KK ⟨s2,op2,res2,p2,c2,hg▸e1,e2.trans (congrArg (res.flatten++·) (tr d.1 ho bj r true _ _ ?_ rfl)).symm,e3,Nat.le_trans e4 (Nat.add_le_add_left (Nat.le_succ _) _)⟩
   cases pend t i op with
   | none=>exact if_pos h92
   | some q=>exact if_pos h92
  ·have hg:gF (x::r) i false=.tuple [.int (i:Int),sD [x]]::gF r (i+1) false:=by
    show (if x==92 then _ else _)=_
    rw [if_neg (by rw [beq_false_of_ne h92]; exact Bool.false_ne_true)]
   rw [hg] at hn
   cases n with
   | zero=>exact absurd hn (Nat.not_lt_zero _)
   | succ n =>
    have hn:=Nat.lt_of_succ_lt_succ hn
    by_cases h34:x=34
    ·cases op with
     | none =>
      refine StP.turn (r:=r) (i':=i+1) (n:=n) (pos:=(i:Int)) (ch:=[34]) (op':=some i) (h34▸hg) K1 (congrArg (res.flatten++·) ?_) (Nat.add_le_add_left (Nat.le_succ _) _) (lf ht r (i+1) false s (some i) res n _ _ d.2.1 d.2.2 ⟨ho,Nat.lt_succ_self i⟩ hr' hn)
      show (t.take i).drop s++(if x=92 then _ else if x=34 then bj r false (some [34]) else _)=(t.take i).drop s++bj r false (some ((t.take (i+1)).drop i))
      rw [if_neg h92,if_pos h34,tx d.1 (Nat.le_refl i),Sz t i,h34]
      rfl
     | some p0 =>
      have hp0:p0≤t.length:=Nat.le_trans (Nat.le_of_lt ho.2) hi
      refine StP.turn (r:=r) (i':=i+1) (n:=n) (pos:=(i:Int)) (ch:=[34]) (s':=i+1) (op':=none) (res':=n9 t s p0 res) (h34▸hg) (Ji (Nat.le_trans ho.1 hp0) hp0 (Nat.le_trans ht (by decide)) (Nat.le_trans (Nat.le_add_right _ _) hr)) ?_ ?_ (lf ht r (i+1) false (i+1) none (n9 t s p0 res) n _ _ d.2.1 d.2.2 (Nat.le_refl _) ?_ hn)
      ·show res.flatten++((t.take p0).drop s++(if x=92 then _ else if x=34 then bj r false none else _))=(n9 t s p0 res).flatten++((t.take (i+1)).drop (i+1)++bj r false none)
       rw [if_neg h92,if_pos h34,Dx,Sz t (i+1),List.append_assoc]
       rfl
      ·show (n9 t s p0 res).length+r.length≤res.length+(r.length+1)
       rw [Nat.add_comm r.length,← Nat.add_assoc]
       exact Nat.add_le_add_right (xw ..) _
      ·refine Nat.le_trans ?_ hr
       show (n9 t s p0 res).length+r.length≤res.length+(r.length+1)
       rw [Nat.add_comm r.length,← Nat.add_assoc]
       exact Nat.add_le_add_right (xw ..) _
    ·refine StP.turn (r:=r) (i':=i+1) (n:=n) (pos:=(i:Int)) (ch:=[x]) hg (wu λq=>h34 (List.cons.inj q).1) (congrArg (res.flatten++·) (tr d.1 ho bj r false _ _ ?_ rfl)) (Nat.add_le_add_left (Nat.le_succ _) _) (lf ht r (i+1) false s op res n _ _ d.2.1 d.2.2 ho.next hr' hn)
     cases pend t i op with
     | none=>exact (if_neg h92).trans (if_neg h34)
     | some q=>exact (if_neg h92).trans (if_neg h34)
theorem gg:∀(l:List Nat) (esc:Bool) (q:Option (List Nat)),(bj l esc q).length≤l.length+(q.getD []).length
 | [],_,none=>Nat.le_refl _
 | [],_,some q=>Nat.le_of_eq (Nat.zero_add _).symm
 | c::r,true,none=>Nat.succ_le_succ (gg r false none)
 | c::r,true,some q=>by
  refine Nat.le_trans (gg r false (some (q++[c]))) ?_
  show r.length+(q++[c]).length≤r.length+1+q.length
  rw [List.length_append,Nat.add_assoc,Nat.add_comm 1]
  exact Nat.le_refl _
 | c::r,false,none=>by
  show (if c=92 then c::bj r true none else if c=34 then bj r false (some [34]) else c::bj r false none).length≤r.length+1
  by_cases h:c=92
  ·rw [if_pos h]; exact Nat.succ_le_succ (gg r true none)
  ·rw [if_neg h]
   by_cases h:c=34
   ·rw [if_pos h]; exact gg r false (some [34])
   ·rw [if_neg h]; exact Nat.succ_le_succ (gg r false none)
 | c::r,false,some q=>by
  have e:∀b,(bj r b (some (q++[c]))).length≤r.length+1+q.length:=λb=>by
   refine Nat.le_trans (gg r b (some (q++[c]))) ?_
   show r.length+(q++[c]).length≤r.length+1+q.length
   rw [List.length_append,Nat.add_assoc,Nat.add_comm 1]
   exact Nat.le_refl _
  show (if c=92 then bj r true (some (q++[c])) else if c=34 then bj r false none else bj r false (some (q++[c]))).length≤r.length+1+q.length
  by_cases h:c=92
  ·rw [if_pos h]; exact e true
  ·rw [if_neg h]
   by_cases h:c=34
   ·rw [if_pos h]; exact Nat.le_trans (gg r false none) (Nat.le_trans (Nat.le_succ _) (Nat.le_add_right _ _))
   ·rw [if_neg h]; exact e false
theorem d0 (B:Nat) (hB:34 < B):∀(l:List Nat) (esc:Bool) (q:Option (List Nat)),(∀c∈l,c < B)->(∀c∈q.getD [],c < B)->∀c∈bj l esc q,c < B
 | [],_,none,_,_,c,h=>ck h
 | [],_,some q,_,hq,c,h=>hq c h
 | x::r,true,none,hl,hq,c,h=>(List.mem_cons.mp h).elim (λe=>e▸hl x (List.mem_cons_self ..)) (d0 B hB r false none (λc h=>hl c (List.mem_cons_of_mem _ h)) hq c)
 | x::r,true,some q,hl,hq,c,h=>d0 B hB r false (some (q++[x])) (λc h=>hl c (List.mem_cons_of_mem _ h)) (λc h=>(List.mem_append.mp h).elim (hq c) λh=>List.mem_singleton.mp h▸hl x (List.mem_cons_self ..)) c h
 | x::r,false,none,hl,hq,c,h=>by
  have hr:∀c∈r,c < B:=λc h=>hl c (List.mem_cons_of_mem _ h)
  have hx:=hl x (List.mem_cons_self ..)
  replace h:c∈(if x=92 then x::bj r true none else if x=34 then bj r false (some [34]) else x::bj r false none):=h
  by_cases h1:x=92
  ·rw [if_pos h1] at h
   exact (List.mem_cons.mp h).elim (λe=>e▸hx) (d0 B hB r true none hr hq c)
  ·rw [if_neg h1] at h
   by_cases h2:x=34
   ·rw [if_pos h2] at h
    exact d0 B hB r false (some [34]) hr (λc h=>List.mem_singleton.mp h▸hB) c h
   ·rw [if_neg h2] at h
    exact (List.mem_cons.mp h).elim (λe=>e▸hx) (d0 B hB r false none hr hq c)
 | x::r,false,some q,hl,hq,c,h=>by
  have hr:∀c∈r,c < B:=λc h=>hl c (List.mem_cons_of_mem _ h)
  have hx:=hl x (List.mem_cons_self ..)
  have hq':∀c∈q++[x],c < B:=λc h=>(List.mem_append.mp h).elim (hq c) λh=>List.mem_singleton.mp h▸hx
  replace h:c∈(if x=92 then bj r true (some (q++[x])) else if x=34 then bj r false none else bj r false (some (q++[x]))):=h
  by_cases h1:x=92
  ·rw [if_pos h1] at h
   exact d0 B hB r true (some (q++[x])) hr hq' c h
  ·rw [if_neg h1] at h
   by_cases h2:x=34
   ·rw [if_pos h2] at h
    exact d0 B hB r false none hr (λ_ h=>ck h) c h
   ·rw [if_neg h2] at h
    exact d0 B hB r false (some (q++[x])) hr hq' c h
theorem k7:∀(l:List Nat) (esc:Bool),l.contains 34=false->bj l esc none=l
 | [],_,_=>rfl
 | c::r,esc,h=>by
  have h:(34==c||r.contains 34)=false:=h
  have h:=Bool.or_eq_false_iff.mp h
  have hc:c≠34:=λe=>by rw [e] at h; exact Sn h.1
  cases esc with
  | true=>exact congrArg (c::·) (k7 r false h.2)
  | false =>
   show (if c=92 then c::bj r true none else if c=34 then _ else c::bj r false none)=_
   rw [if_neg hc,k7 r true h.2,k7 r false h.2]
   by_cases h92:c=92
   ·rw [if_pos h92]
   ·rw [if_neg h92]
theorem kx:∀ws:List (List Nat),b4 [] ws=ws.flatten
 | []=>rfl
 | [w]=>rfl
 | w::v::r=>by rw [fc,kx (v::r)]; rfl
theorem ym:∀ws:List (List Nat),(ws.map λw=>w.length+([]:List Nat).length).sum=ws.flatten.length
 | []=>rfl
 | w::r=>by
  rw [List.flatten_cons,List.length_append,← ym r]
  rfl
theorem Ey {m:M1} {F1 F2:EF} {L:bg} {hp1:List MO} {x b d:PyData} {p:PV} (h1:F1 ⟨L,hp1⟩=some (.dat x,hp1)) (hx:jl x=true) (h2:F2 ⟨L,hp1⟩=some (p,hp1)) (hr:rd hp1 p=some b) (h3:m.f x b=some d):am (Mine.meth1 m F1 F2) ⟨L,hp1⟩=some (.dat d,hp1):=by
 unfold am Mine.meth1 af
 rw [h1]
 dsimp only
 rw [if_pos hx]
 skip
 rw [h2]
 skip
 unfold dw
 dsimp only
 rw [show rd hp1 (.dat x)=some x from rfl,hr]
 dsimp only
 exact h3.symm▸rfl
theorem Cl {G:FnF} {ps:List PV} {ds:List PyData} {d:PyData} {hp:List MO} (h1:fz ps=some ds) (h2:G ps []=some (.dat d,[])):uf G ps hp=some (.dat d,hp):=by
 unfold uf
 rw [h1]
 dsimp only
 rw [h2]
theorem Ap {np N:Nat} {B:XF} {ps:List PV} {d:PyData} {σ:St} (hl:ps.length=np) (h:B ⟨az ps N,[]⟩=some (.ret (.dat d),σ)):kq np N false B ps []=some (.dat d,[]):=by
 unfold kq
 rw [if_pos (by rw [hl]; exact beq_self_eq_true np),h]
 show trunc 0 (.dat d) σ.hp=_
 unfold trunc
 rw [if_pos (by rw [decide_eq_true (Nat.zero_le _)]; rfl)]
 rfl
theorem Hp {t:List Nat} (ht:t.length≤400) (hc:∀c∈t,c < 0x110000) (hp:List MO):ce [.dat (sD t)] hp=some (.dat (sD (bj t false none)),hp):=by
 refine Cl (ds:=[sD t]) rfl ?_
 have e0:∀b,t.contains 34=b->bq .NotIn (sC [34]) (aa 0) ⟨az [.dat (sD t)] 5,[]⟩=some (!b,[]):=λb hb=>dk (F1:=sC [34]) (F2:=aa 0) rfl (ag (i:=0) rfl rfl) rfl rfl (hb▸rfl)
 cases h:t.contains 34 with
 | false =>
  rw [k7 t false h]
  exact Ap (σ:=⟨az [.dat (sD t)] 5,[]⟩) rfl ((congrFun t7 _).trans (dq ((sz (e0 false h)).trans (dq rfl))))
 | true =>
  refine cps λ_ KK=>?_
  obtain ⟨s',op',res',p',c',e1,e2,e3,e4⟩:=lf ht t 0 false 0 none [] ((gF t 0 false).length+1) none none rfl (Nat.zero_le _) (Nat.le_refl 0) (by show 0+t.length≤1000; rw [Nat.zero_add]; exact Nat.le_trans ht (by decide)) (Nat.lt_succ_self _)
  refine KK ?_
  have e2:res'.flatten++t.drop s'=bj t false none:=e2
  have a0:Sp ⟨az [.dat (sD t)] 5,[]⟩=some (.next,⟨az [.dat (sD t)] 5,[]⟩):=(je (e0 true h)).trans rfl
  have hlen:(bj t false none).length≤400:=Nat.le_trans (gg t false none) ht
  have hmem:∀c∈bj t false none,c < 0x110000:=d0 0x110000 (by decide) t false none hc (λ_ h=>ck h)
  have aF:S2 ⟨LS t 0 none none none,hS []⟩=some (.next,⟨LS t s' op' p' c',hS res'⟩):=e1
  have hres:res'.length≤400:=Nat.le_trans e4 (by show 0+t.length≤400; rw [Nat.zero_add]; exact ht)
  have aE:∃res2,S3 ⟨LS t s' op' p' c',hS res'⟩=some (.next,⟨LS t s' op' p' c',hS res2⟩)∧res2.flatten=bj t false none:=by
   have el:am (fb (aa 0)) ⟨LS t s' op' p' c',hS res'⟩=some (.dat (.int (t.length:Nat)),hS res'):=nl (f:=B1.len.f) (a:=sD t) (ag (i:=0) rfl rfl) (if_pos (Nat.le_trans ht (by decide)))
   have ec:bq .Lt (aa 1) (am (fb (aa 0))) ⟨LS t s' op' p' c',hS res'⟩=some (decide (s' < t.length),hS res'):=dk (ag (i:=1) rfl rfl) el rfl rfl (congrArg some (decide_eq_decide.mpr Int.ofNat_lt))
   by_cases hlt:s' < t.length
   ·rw [decide_eq_true hlt] at ec
    have a1:ek (some (s':Int)) none none (sD t)=some (sD (t.drop s')):=by
     rw [k8 (Nat.le_trans ht (by decide)),Kb e3]
    have a2:=jg (gw (F1:=aa 3) (i:=0) (L:=LS t s' op' p' c') (hp1:=hS res') (ag rfl rfl) rfl (show (aw res').length≤lim from (List.length_map ..).symm▸Nat.le_trans hres (by decide)) (i6 (F:=aa 0) (lo:=ev (aa 1)) (hi:=Aa) (st:=Aa) (ag (i:=0) rfl rfl) (qq (ag (i:=1) rfl rfl)) rfl rfl a1))
    refine ⟨res'++[t.drop s'],(sz ec).trans <| (bz _ _).trans <| a2.trans ?_,?_⟩
    ·unfold hS
     rw [gz]
     rfl
    ·rw [List.flatten_append,← e2]
     show res'.flatten++(t.drop s'++[])=_
     rw [List.append_nil]
   ·rw [decide_eq_false hlt] at ec
    refine ⟨res',(je ec).trans rfl,?_⟩
    rw [← e2,List.drop_eq_nil_of_le (Nat.not_lt.mp hlt),List.append_nil]
  refine cps λ_ KK=>?_
  obtain ⟨res2,aE,hf⟩:=aE
  refine KK ?_
  have hj:n5 ⟨⟨[]⟩⟩ (aw res2)=some (sD (bj t false none)):=by
   have j:=qp (g:=[]) (ws:=res2) (by rw [ym,hf]; exact Nat.le_trans hlen (by decide)) (λ_ h=>ck h) (λw hw c hc'=>hmem c (hf▸List.mem_flatten.mpr ⟨w,hw,hc'⟩))
   rw [kx,hf] at j
   exact j
  have aR:Q8 ⟨LS t s' op' p' c',hS res2⟩=some (.ret (.dat (sD (bj t false none))),⟨LS t s' op' p' c',hS res2⟩):=by
   have e:=Ey (m:=.join) (F1:=sC []) (F2:=aa 3) (L:=LS t s' op' p' c') (hp1:=hS res2) rfl rfl (ag (i:=3) rfl rfl) (l8 rfl) hj
   unfold Q8 jm au
   rw [e]
  exact Ap rfl ((congrFun t7 _).trans <| (ae a0).trans <| (ae (σ':=⟨(az [.dat (sD t)] 5).set 1 (some (.dat (.int 0))),[]⟩) rfl).trans <| (ae (σ':=⟨((az [.dat (sD t)] 5).set 1 (some (.dat (.int 0)))).set 2 (some (.dat .none)),[]⟩) rfl).trans <| (ae (σ':=⟨LS t 0 none none none,hS []⟩) rfl).trans <| (ae aF).trans <| (ae aE).trans <| dq aR)
theorem ua {t:List Nat} (ht:t.length≤400) (hc:∀c∈t,c < 0x110000) (hp:List MO):a8 [.dat (sD t)] hp=some (.dat (.bool (par (bj t false none) false 0)),hp):=by
 refine Cl (ds:=[sD t]) rfl ?_
 let u:=bj t false none
 have a0:Sk ⟨az [.dat (sD t)] 3,[]⟩=some (.next,⟨(az [.dat (sD t)] 3).set 0 (some (.dat (sD (bj t false none)))),[]⟩):=db (fu (ag (i:=0) rfl rfl) (Hp ht hc []))
 refine (nw (a:=some (.dat (sD (bj t false none)))) (bj t false none) 0 false 0 ((gF (bj t false none) 0 false).length+1) none none (Nat.lt_succ_self _)).elim λσ' e=>?_
 exact Ap rfl ((congrFun Bj _).trans <| (ae a0).trans <| (ae (σ':=⟨LC (some (.dat (sD (bj t false none)))) 0 none none,[]⟩) rfl).trans <| e)
noncomputable def pc (x:Nat×Bool):List Nat:=pf x.1++[if x.2 then 40 else 41]
noncomputable def Sy (i:Nat):List Nat:=if i=4 then [] else pf i
theorem qi {i:Nat} (h:i < 6) (r:List Nat):bj (pf i++r) false none=Sy i++bj r false none:=by
 match i,h with
 | 0,_ | 1,_ | 2,_ | 3,_ | 4,_ | 5,_=>rfl
theorem q6 {i:Nat} (h:i < 6) (r:List Nat) (o:Nat):par (Sy i++r) false o=par r false o:=by
 match i,h with
 | 0,_ | 1,_ | 2,_ | 3,_ | 4,_ | 5,_=>rfl
noncomputable def ue:List (Nat×Bool)->Nat->Option Nat
 | [],o=>some o
 | (_,true)::r,o=>ue r (o+1)
 | (_,false)::r,0=>none
 | (_,false)::r,o+1=>ue r o
theorem jh:∀(x y:List (Nat×Bool)) (o:Nat),ue (x++y) o=(ue x o).bind (ue y)
 | [],y,o=>rfl
 | (_,true)::r,y,o=>jh r y (o+1)
 | (_,false)::r,y,0=>rfl
 | (_,false)::r,y,o+1=>jh r y o
theorem q8:∀(x:List (Nat×Bool)) (r:List Nat) (o o':Nat),(∀p∈x,p.1 < 6)->ue x o=some o'->par (bj ((x.map pc).flatten++r) false none) false o=par (bj r false none) false o'
 | [],r,o,o',_,h=>by rw [← b9 h]; rfl
 | (i,b)::x,r,o,o',hi,h=>by
  have h6:i < 6:=hi (i,b) (List.mem_cons_self ..)
  have hx:∀p∈x,p.1 < 6:=λp hp=>hi p (List.mem_cons_of_mem _ hp)
  have e:((((i,b)::x).map pc).flatten++r)=pf i++((if b then 40 else 41)::((x.map pc).flatten++r)):=by
   rw [List.map_cons,List.flatten_cons,List.append_assoc]
   show (pf i++[if b then 40 else 41])++_=_
   rw [List.append_assoc]
   rfl
  rw [e,qi h6,q6 h6]
  cases b with
  | true=>exact q8 x r (o+1) o' hx h
  | false =>
   cases o with
   | zero=>exact al h
   | succ o=>exact q8 x r o o' hx h
theorem H3 {x:List (Nat×Bool)} {i:Nat} (hi:∀p∈x,p.1 < 6) (h6:i < 6) (h:ue x 0=some 1):par (bj ((x.map pc).flatten++pf i) false none) false 0=false:=by
 rw [q8 x _ 0 1 hi h,← List.append_nil (pf i),qi h6,q6 h6]
 rfl
theorem Es {x:List (Nat×Bool)} {i:Nat} (hi:∀p∈x,p.1 < 6) (h6:i < 6) (h:ue x 0=some 1):par (bj ((x.map pc).flatten++pf i++[34,41]) false none) false 0=true:=by
 rw [List.append_assoc,q8 x _ 0 1 hi h,qi h6,q6 h6]
 rfl
theorem Hr {x:Nat×Bool} (h:x.1 < 6):par (bj (pc x++[41]) false none) false 0=x.2:=by
 obtain ⟨i,b⟩:=x
 show par (bj ((pf i++[if b then 40 else 41])++[41]) false none) false 0=b
 rw [List.append_assoc,qi h,q6 h]
 cases b<;>rfl
noncomputable def gm (ns:List Nat):Nat->List (Nat×Bool)
 | 0=>[]
 | k+1=>gm ns k++[((ns[k]?).getD 0 / 60 % 6,true)]++(List.range (dl k ((ns[k]?).getD 0) ((b6 ns k).Q.length+1))).map λs=>(((ns[k]?).getD 0 / 360+s) % 6,false)
theorem w4 (ns:List Nat):∀k,∀p∈gm ns k,p.1 < 6
 | 0,p,h=>ck h
 | k+1,p,h=>(List.mem_append.mp h).elim (λh=>(List.mem_append.mp h).elim (w4 ns k p) λh=>List.mem_singleton.mp h▸Nat.mod_lt _ (by decide)) λh=>(List.mem_map.mp h).elim λs q=>q.2▸Nat.mod_lt _ (by decide)
theorem zs (ns:List Nat):∀k,(b6 ns k).R=(gm ns k).map pc
 | 0=>rfl
 | k+1=>by
  show (b6 ns k).R++[pf ((ns[k]?).getD 0 / 60 % 6)++[40]]++gr ((ns[k]?).getD 0) (dl k ((ns[k]?).getD 0) ((b6 ns k).Q++[k]).length)=_
  rw [zs ns k,List.length_append,List.length_singleton]
  show _=(gm ns k++[((ns[k]?).getD 0 / 60 % 6,true)]++(List.range (dl k ((ns[k]?).getD 0) ((b6 ns k).Q.length+1))).map λs=>(((ns[k]?).getD 0 / 360+s) % 6,false)).map pc
  unfold gr
  rw [List.map_append,List.map_append,List.map_map]
  rfl
theorem t8 (f:Nat->Nat):∀c o,c≤o->ue ((List.range c).map λs=>(f s,false)) o=some (o - c)
 | 0,o,_=>rfl
 | c+1,o,h=>by
  rw [List.range_succ,List.map_append,jh,t8 f c o (Nat.le_of_succ_le h),show o - c=o - (c+1)+1 from Qt h]
  rfl
theorem qj (ns:List Nat):∀k,ue (gm ns k) 0=some (b6 ns k).Q.length
 | 0=>rfl
 | k+1=>by
  unfold gm
  rw [jh,jh,qj ns k]
  show ue ((List.range (dl k ((ns[k]?).getD 0) ((b6 ns k).Q.length+1))).map λs=>(((ns[k]?).getD 0 / 360+s) % 6,false)) ((b6 ns k).Q.length+1)=_
  rw [t8 (λs=>((ns[k]?).getD 0 / 360+s) % 6) _ _ (sm ..)]
  show _=some (((b6 ns k).Q++[k]).take (((b6 ns k).Q++[k]).length - dl k ((ns[k]?).getD 0) ((b6 ns k).Q++[k]).length)).length
  rw [List.length_take,List.length_append,List.length_singleton,Nat.min_eq_left (Nat.sub_le ..)]
theorem ww (p:Nat×Bool):(pc p).length≤4:=by
 show (pf p.1++[if p.2 then 40 else 41]).length≤4
 rw [List.length_append]
 exact Nat.add_le_add_right (qz p.1) 1
theorem He {i:Nat} (h:i < 6):∀c∈pf i,c < 0x110000 :=
 (by decide:∀i,i < 6->∀c∈((([[],[92,40],[92,41],[92,92],[34,41,34],[92,34]]:List (List Nat))[i]?).getD []),c < 0x110000) i h
theorem Fn {p:Nat×Bool} (h:p.1 < 6):∀c∈pc p,c < 0x110000:=λc hc=>(List.mem_append.mp hc).elim (He h c) λhc=>by
 rw [List.mem_singleton.mp hc]
 cases p.2<;>decide
theorem qs (M:Nat):∀l:List (List Nat),(∀w∈l,w.length≤M)->l.flatten.length≤l.length*M
 | [],_=>Nat.le_of_eq (Nat.zero_mul M).symm
 | w::l,h=>by
  rw [List.flatten_cons,List.length_append,List.length_cons,Nat.succ_mul,Nat.add_comm]
  exact Nat.add_le_add (qs M l λx hx=>h x (List.mem_cons_of_mem _ hx)) (h w (List.mem_cons_self ..))
theorem Iz (ns:List Nat):∃xs i,gm ns 5=xs++[(i,false)]∧i < 6∧(∀p∈xs,p.1 < 6)∧ue xs 0=some 1∧xs.length≤30:=by
 let n:=(ns[4]?).getD 0
 let q:=(b6 ns 4).Q.length
 let f:Nat->Nat:=λs=>(n / 360+s) % 6
 let xs:=gm ns 4++[(n / 60 % 6,true)]++(List.range q).map λs=>(f s,false)
 have e:gm ns 5=xs++[(f q,false)]:=by
  show gm ns 4++[(n / 60 % 6,true)]++(List.range (q+1)).map (λs=>(f s,false))=_
  rw [List.range_succ,List.map_append,← List.append_assoc]
  rfl
 have h6:=w4 ns 5
 rw [e] at h6
 have hl:(gm ns 5).length≤30:=by
  have:=(qx ns 5 (Nat.le_refl 5)).R
  rw [zs,List.length_map] at this
  exact this
 refine ⟨xs,f q,e,Nat.mod_lt _ (by decide),λp hp=>h6 p (List.mem_append.mpr (.inl hp)),?_,?_⟩
 ·show ue (gm ns 4++[(n / 60 % 6,true)]++(List.range q).map λs=>(f s,false)) 0=_
  rw [jh,jh,qj ns 4]
  show ue ((List.range q).map λs=>(f s,false)) (q+1)=_
  rw [t8 f q (q+1) (Nat.le_succ q),Nat.add_sub_cancel_left]
 ·rw [e,List.length_append] at hl
  exact Nat.le_trans (Nat.le_add_right ..) hl
section
variable {v:Vs} {hp:List MO} {xs:List (Nat×Bool)} {i:Nat}
noncomputable def o5 (xs:List (Nat×Bool)) (i:Nat):List Nat:=(xs.map pc).flatten++pf i
theorem zf (h:xs.length≤30):(o5 xs i).length≤123:=by
 unfold o5
 rw [List.length_append]
 refine Nat.add_le_add (Nat.le_trans (qs 4 _ λw hw=>(List.mem_map.mp hw).elim λp q=>q.2▸ww p) ?_) (qz i)
 rw [List.length_map]
 exact Nat.mul_le_mul_right 4 h
theorem Lj (h6:∀p∈xs,p.1 < 6) (hi:i < 6):∀c∈o5 xs i,c < 0x110000:=λc hc=>(List.mem_append.mp hc).elim (λhc=>(List.mem_flatten.mp hc).elim λw q=>(List.mem_map.mp q.1).elim λp r=>Fn (h6 p r.1) c (r.2.symm▸q.2)) (He hi c)
theorem Tm (h:v.row=some (.dat (.list (aw ((xs++[(i,false)]).map pc))))) (h6:∀p∈xs,p.1 < 6) (hi:i < 6) (hl:xs.length≤30):X_law_10.1 ⟨v.loc,hp⟩=some (.next,⟨{ v with front:=some (.dat (sD (o5 xs i))) }.loc,hp⟩):=by
 let ws:=(xs++[(i,false)]).map pc
 have hws:∀w∈ws,w.length≤4∧∀c∈w,c < 0x110000:=λw hw=>(List.mem_map.mp hw).elim λp q=>q.2▸⟨ww p,Fn ((List.mem_append.mp q.1).elim (h6 p) λhp=>List.mem_singleton.mp hp▸hi)⟩
 have hsum:(ws.map λw=>w.length+([]:List Nat).length).sum≤lim:=by
  have h1:∀l:List (List Nat),(l.map λw=>w.length+([]:List Nat).length).sum=l.flatten.length:=λl=>by
   induction l with
   | nil=>rfl
   | cons w l ih=>rw [List.map_cons,List.sum_cons,ih,List.flatten_cons,List.length_append]; rfl
  rw [h1]
  refine Nat.le_trans (qs 4 ws λw hw=>(hws w hw).1) (Nat.le_trans (Nat.mul_le_mul_right 4 (show ws.length≤31 from ?_)) (by decide))
  rw [List.length_map,List.length_append]
  exact Nat.add_le_add_right hl 1
 have ej:=qp (g:=[]) hsum (λ_ h=>ck h) λw hw=>(hws w hw).2
 have ef:b4 [] ws=o5 xs i++[41]:=by
  rw [kx]
  show ((xs++[(i,false)]).map pc).flatten=(xs.map pc).flatten++pf i++[41]
  rw [List.map_append,List.flatten_append,List.append_assoc]
  exact congrArg (_++·) (List.append_nil _)
 rw [ef] at ej
 have e1:ek none (some (-1)) none (sD (o5 xs i++[41]))=some (sD (o5 xs i)):=by
  rw [k8 (by rw [List.length_append]; exact Nat.le_trans (Nat.add_le_add_right (zf hl) 1) (by decide)),wh]
 exact db (i6 (lo:=Aa) (hi:=ev (iC (-1))) (st:=Aa) (fq (m:=.join) (F1:=sC []) rfl rfl (ag rfl h) ej) rfl rfl rfl e1)
theorem To (h:v.front=some (.dat (sD (o5 xs i)))) (h6:∀p∈xs,p.1 < 6) (hi:i < 6) (hl:xs.length≤30) (hb:ue xs 0=some 1):X_law_11.1 ⟨v.loc,hp⟩=some (.next,⟨v.loc,hp⟩):=by
 have hlen:=zf (i:=i) hl
 have hlt:=Lj h6 hi
 have k1:a8 [.dat (sD (o5 xs i++[34,41]))] hp=some (.dat (.bool true),hp):=by
  rw [ua (by rw [List.length_append]; exact Nat.le_trans (Nat.add_le_add_right hlen 2) (by decide)) (λc hc=>(List.mem_append.mp hc).elim (hlt c) λhc=>(by decide:∀c∈([34,41]:List Nat),c < 0x110000) c hc),show par (bj (o5 xs i++[34,41]) false none) false 0=true from Es h6 hi hb]
 have k2:a8 [.dat (sD (o5 xs i))] hp=some (.dat (.bool false),hp):=by
  rw [ua (Nat.le_trans hlen (by decide)) hlt,show par (bj (o5 xs i) false none) false 0=false from H3 h6 hi hb]
 have c1:bq .IsNot (cz (ak (am (bf .Add (aa 12) (sC [34,41]))) ba) a8) (λσ=>some (.dat (.bool true),σ.hp)) ⟨v.loc,hp⟩=some (false,hp) :=
  dk (fu (a9 (op:=.Add) (ag rfl h) rfl (add_str (Nat.le_trans (Nat.add_le_add_right hlen 2) (by decide)))) k1) rfl rfl rfl rfl
 have c2:bq .IsNot (cz (ak (aa 12) ba) a8) (λσ=>some (.dat (.bool false),σ.hp)) ⟨v.loc,hp⟩=some (false,hp) :=
  dk (fu (ag rfl h) k2) rfl rfl rfl rfl
 show gt (fv (bq .IsNot (cz (ak (am (bf .Add (aa 12) (sC [34,41]))) ba) a8) (λσ=>some (.dat (.bool true),σ.hp))) λb=>if b then yh true else fv (bq .IsNot (cz (ak (aa 12) ba) a8) (λσ=>some (.dat (.bool false),σ.hp))) λb=>if b then yh true else yh false) _ aq _=_
 unfold gt fv
 refine c1.symm▸?_
 dsimp only
 refine (if_neg Bool.false_ne_true).symm▸c2.symm▸?_
 rfl
theorem Th:X_law_12.1 ⟨v.loc,hp⟩=some (.next,⟨{ v with words:=some (.dat (.list (aw [[46]]))),born:=some (.dat (.int (0:Nat))),many:=some (.dat (.int (0:Nat))) }.loc,hp⟩):=rfl
end
theorem Oa {l:List Nat} (h:∀c∈l,c < 0x110000):PyData.strOk (⟨⟨l⟩⟩:Str)=true:=by
 unfold PyData.strOk
 rw [← Array.all_toList,List.all_eq_true]
 exact λc hc=>decide_eq_true (h c hc)
theorem I1 {f:List Nat->List Nat} {l:List Nat} (h:4*l.length≤lim) (ho:∀c∈f l,c < 0x110000):Mx f ⟨⟨l⟩⟩=some (.str ⟨⟨f l⟩⟩):=if_pos ⟨h,Oa ho⟩
section
variable {F F1 F2:EF} {L:bg} {hp hp1 hp2:List MO}
theorem Cc {r x:Str} {f:List Nat->List Nat} {d:PyData} (h1:F1 ⟨L,hp1⟩=some (.dat (.str r),hp2)) (h2:F2 ⟨L,hp2⟩=some (.dat (.str x),hp2)) (h3:Mx f x=some d):am (Hb r f F1 F2) ⟨L,hp1⟩=some (.dat d,hp2):=by
 unfold am Hb af
 rw [h1]
 dsimp only
 rw [h2]
 dsimp only
 rw [if_pos rfl,h3]
theorem Oc {G:XF} {p:PV} (h:F ⟨L,hp1⟩=some (p,hp2)):ah (jm F) G ⟨L,hp1⟩=some (.ret p,⟨L,hp2⟩):=by
 unfold ah jm au
 exact h.symm▸rfl
theorem Og {np N:Nat} {B:XF} {ps:List PV} {ds:List PyData} {d:PyData} {L':bg} (hl:ps.length=np) (hd:fz ps=some ds) (h:B ⟨az ps N,[]⟩=some (.ret (.dat d),⟨L',[]⟩)):uf (kq np N false B) ps hp=some (.dat d,hp):=by
 unfold uf
 refine hd.symm▸?_
 unfold kq
 dsimp only
 refine (if_pos (beq_iff_eq.mpr hl)).symm▸h.symm▸?_
 rfl
end
theorem Jn {l:List Nat} {hp:List MO} (h:4*l.length≤lim) (h2:4*(sub2L l).length≤lim) (ho2:∀c∈sub2L l,c < 0x110000) (ho1:∀c∈bk true (sub2L l),c < 0x110000) :
  j9 [.dat (.str ⟨⟨l⟩⟩)] hp=some (.dat (.str ⟨⟨bk true (sub2L l)⟩⟩),hp) :=
 Og rfl rfl (Oc (Cc (F1:=sC [46,46]) rfl (Cc (F1:=sC [13,10]) rfl (ag rfl rfl) (I1 (f:=sub2L) h ho2)) (I1 (f:=bk true) (l:=sub2L l) h2 ho1)))
theorem se {M k:Nat}:∀ws:List (List Nat),(∀w∈ws,w.length≤M)->(ws.map λw=>w.length+k).sum≤ws.length*(M+k)
 | [],_=>by simp
 | w::ws,h=>by
  have:=se (k:=k) ws λx hx=>h x (List.mem_cons_of_mem _ hx)
  have h1:=h w (List.mem_cons_self ..)
  rw [List.map_cons,List.sum_cons,List.length_cons,Nat.add_mul]
  lia
theorem Bv (w:List Nat):(b7 w).length≤w.length+1:=by
 unfold b7
 split<;>simp
theorem Bh {w:List Nat} {c:Nat} (h:c∈b7 w):c∈w:=by
 unfold b7 at h
 split at h
 ·simp at h ⊢; rcases h with h | h<;>simp [h]
 ·exact h
theorem Lp {sep:List Nat} (hs:sep=[10]∨sep=[13]∨sep=[13,10]) {ws:List (List Nat)} (hne:ws≠[]) (hw:∀w∈ws,j1 w∧(∀c∈w,c < 200)∧w.length≤40) (hl:ws.length≤4000) (hp:List MO) :
  n5 ⟨⟨sep⟩⟩ (aw ws)=some (sD (b4 sep ws))∧j9 [.dat (sD (b4 sep ws))] hp=some (.dat (sD (b4 [13,10] (ws.map b7))),hp)∧o0 ⟨⟨b4 [13,10] (ws.map b7)⟩⟩ crlf=some (.list (aw (ws.map b7))):=by
 have hsl:sep.length≤2:=by rcases hs with rfl | rfl | rfl<;>decide
 have hsc:∀c∈sep,c < 200:=by rcases hs with rfl | rfl | rfl<;>simp
 have hcr:∀c∈([13,10]:List Nat),c < 200:=by simp
 have hcl:([13,10]:List Nat).length=2:=rfl
 have p1:∀w∈ws,j1 w:=λw h=>(hw w h).1
 have hj:=lh sep ws
 have hjs:=se (k:=sep.length) ws λw h=>(hw w h).2.2
 have hb:ws.length*(40+sep.length)≤4000*42:=Nat.mul_le_mul hl (by lia)
 have e1:sub2L (b4 sep ws)=b4 [13,10] ws:=u9 hs ws p1
 have e2:bk true (b4 [13,10] ws)=b4 [13,10] (ws.map b7):=vg ws p1
 have hj2:=lh [13,10] ws
 have hjs2:=se (k:=2) ws λw h=>(hw w h).2.2
 have hj3:=lh [13,10] (ws.map b7)
 have hd:∀w∈ws.map b7,w.length≤41:=by
  intro w h
  obtain ⟨x,hx,rfl⟩:=List.mem_map.mp h
  have:=Bv x
  have:=(hw x hx).2.2
  lia
 have hjs3:=se (k:=2) (ws.map b7) hd
 rw [List.length_map] at hjs3
 rw [hcl] at hj2 hj3
 have hdc:∀w∈ws.map b7,∀c∈w,c < 200∧c≠13:=by
  intro w h c hc
  obtain ⟨x,hx,rfl⟩:=List.mem_map.mp h
  have:=Bh hc
  exact ⟨(hw x hx).2.1 c this,((hw x hx).1.2 c this).2⟩
 have c1:∀c∈b4 [13,10] ws,c < 0x110000:=by
  intro c hc
  rcases n8 hc with h | ⟨w,h,h'⟩
  ·have:=hcr c h; (exact Nat.le_trans (by assumption) (by decide))
  ·have:=(hw w h).2.1 c h'; (exact Nat.le_trans (by assumption) (by decide))
 have c2:∀c∈b4 [13,10] (ws.map b7),c < 0x110000:=by
  intro c hc
  rcases n8 hc with h | ⟨w,h,h'⟩
  ·have:=hcr c h; (exact Nat.le_trans (by assumption) (by decide))
  ·have:=(hdc w h c h').1; (exact Nat.le_trans (by assumption) (by decide))
 refine ⟨?_,?_,?_⟩
 ·exact qp (by unfold lim; lia) (λc h=>by have:=hsc c h; (exact Nat.le_trans (by assumption) (by decide))) (λw h c hc=>by have:=(hw w h).2.1 c hc; (exact Nat.le_trans (by assumption) (by decide)))
 ·rw [Jn (l:=b4 sep ws) (hp:=hp) (by unfold lim; lia) (by rw [e1]; unfold lim; lia) (by rw [e1]; exact c1) (e1.symm▸e2.symm▸(c2)),e1,e2]
 ·refine (Bs (by unfold lim; lia) c2).symm▸(o9 _ (by simp [hne]) λw h c hc=>(hdc w h c hc).2).symm▸?_
  rfl
theorem n4 {α:Type} (g:α->PyData) (Φ:bg->Prop) {T:PyData->bg->Option bg} {tests:BF} {inner:CF} {t:α->Bool} {ds:α->List PyData} {hp:List MO}:∀(l:List α),
  (∀k∈l,∀loc,Φ loc->∃loc1,Φ loc1∧T (g k) loc=some loc1∧tests ⟨loc1,hp⟩=some (t k,hp)∧(t k=true->∃ia,Φ ia∧inner ⟨loc1,hp⟩=some (ds k,⟨ia,hp⟩))) ->
  ∀(loc:bg) (n:Nat),Φ loc->l.length < n->∃loc',Φ loc'∧dp ar T tests inner n (.rem (l.map g)) ⟨loc,hp⟩=some ((l.filter t).flatMap ds,⟨loc',hp⟩)
 | [],_,loc,n+1,hl,_=>⟨loc,hl,rfl⟩
 | d::l,h,loc,n+1,hl,hn=>by
  refine cps λ_ KK=>?_
  obtain ⟨loc1,h1,h2,h3,h4⟩:=h d (List.mem_cons_self ..) loc hl
  refine KK ?_
  have ih:=n4 g Φ (T:=T) (tests:=tests) (inner:=inner) (t:=t) (ds:=ds) (hp:=hp) l λx hx=>h x (List.mem_cons_of_mem _ hx)
  have hn':l.length < n:=by rw [List.length_cons] at hn; (exact Nat.le_of_lt_succ (by assumption))
  rw [List.map_cons,dp]
  dsimp only [ar]
  refine h2.symm▸?_
  dsimp only
  rw [h3]
  cases ht:t d with
  | false =>
   obtain ⟨loc',q,e⟩:=ih loc1 n h1 hn'
   refine ⟨loc',q,?_⟩
   dsimp only
   rw [e,List.filter_cons_of_neg (by rw [ht]; exact Bool.false_ne_true)]
  | true =>
   refine cps λ_ KK=>?_
   obtain ⟨ia,h5,h6⟩:=h4 ht
   obtain ⟨loc',q,e⟩:=ih ia n h5 hn'
   refine KK ?_
   refine ⟨loc',q,?_⟩
   dsimp only
   refine h6.symm▸?_
   dsimp only
   refine e.symm▸(List.filter_cons_of_pos ht).symm▸?_
   rfl
theorem my {α:Type} (g:α->PyData) (Φ:bg->Prop) {S:SF} {T:PyData->bg->Option bg} {tests:BF} {F:EF} {t:α->Bool} {r:α->PyData} {hp:List MO} {l:List α} {loc:bg} {ts:List Nat} {n:Nat} (hS:S ⟨loc,hp⟩=some ((.rem (l.map g),n),hp)) (hn:l.length < n)
  (h:∀k∈l,∀loc,Φ loc->∃loc1,Φ loc1∧T (g k) loc=some loc1∧tests ⟨loc1,hp⟩=some (t k,hp)∧(t k=true->F ⟨loc1,hp⟩=some (.dat (r k),hp))) (h0:Φ (jb ts loc)) (hl:l.length≤lim) :
  du S ar T tests (dj F) ts ⟨loc,hp⟩=some (.dat (.list ((l.filter t).map r)),hp):=by
 obtain ⟨loc',_,e⟩:=n4 g Φ (T:=T) (tests:=tests) (inner:=dj F) (t:=t) (ds:=λd=>[r d]) (hp:=hp) l (λd hd loc hp'=>by
  refine cps λ_ KK=>?_
  obtain ⟨loc1,h1,h2,h3,h4⟩:=h d hd loc hp'
  refine KK ?_
  refine ⟨loc1,h1,h2,h3,λht=>⟨loc1,h1,?_⟩⟩
  unfold dj
  rw [h4 ht]) (jb ts loc) n h0 hn
 unfold du
 rw [hS]
 dsimp only
 rw [e]
 dsimp only
 have e2:(l.filter t).flatMap (λd=>[r d])=(l.filter t).map r:=(List.map_eq_flatMap ..).symm
 rw [e2,if_pos]
 have:=List.length_filter_le t l
 rw [List.length_map]; (exact Nat.le_trans (by assumption) (by assumption))
theorem zn {α:Type} {l:List α} {x:α}:qu (l++[x]) (-1)=some x:=by
 unfold qu
 rw [if_pos (by lia),if_pos (by simp; lia)]
 have:(-1+((l++[x]).length:Int)).toNat=l.length:=by simp; lia
 rw [this]; simp
theorem Ed {l:List PyData} {x:PyData}:ik (.list (l++[x])) (.int (-1))=some x:=by
 show (if (-1:Int).natAbs≤lim then qu (l++[x]) (-1) else none)=_
 rw [if_pos (by decide),zn]
theorem A3 {w:List Nat} (hne:w≠[]) (h:∀x∈w,x=46∨(97≤x∧x < 102)) (hl:w.length≤40):j1 w∧(∀c∈w,c < 200)∧w.length≤40 :=
 ⟨⟨hne,λx hx=>by rcases h x hx with h | h<;>lia⟩,λx hx=>by rcases h x hx with h | h<;>lia,hl⟩
abbrev Wd:=Nat×List Bool
noncomputable def xv (b:Bool):Nat:=if b then 98 else 97
noncomputable def wT (w:Wd):List Nat:=List.replicate (w.1+1) 46++w.2.map xv
noncomputable def j8 (ws:List Wd):PyData:=.list (aw (ws.map wT))
noncomputable def ju (b:Bool) (ws:List Wd):List Wd:=ws.map λw=>(w.1,w.2++[b])
noncomputable def lj (j:Nat) (w:Wd):Bool:=(w.2[j]?).getD false
noncomputable def Ae (w:Wd):Wd:=(w.1+1,w.2)
noncomputable def jr (ws:List Wd) (j:Nat):List Wd:=ws.filter (lj j)++(ws.filter λw=>!lj j w).map Ae
structure okW (k M N:Nat) (ws:List Wd):Prop where
 l:ws.length≤N
 w:∀w∈ws,w.2.length=k∧w.1≤M
theorem Br (w:Wd):(wT w).length=w.1+1+w.2.length:=by rw [wT,List.length_append,List.length_replicate,List.length_map]
theorem Oo (w:Wd) (b:Bool):wT (w.1,w.2++[b])=wT w++[xv b]:=by
 show List.replicate (w.1+1) 46++(w.2++[b]).map xv=_
 rw [List.map_append,← List.append_assoc]; rfl
theorem N4 (b:Bool):xv b=46∨(97≤xv b∧xv b < 102):=by cases b<;>exact .inr (by decide)
theorem Ob (w:Wd):∀x∈wT w,x=46∨(97≤x∧x < 102):=λx hx=>(List.mem_append.mp hx).elim (λhx=>.inl (List.mem_replicate.mp hx).2) λhx=>(List.mem_map.mp hx).elim λb q=>q.2▸N4 b
theorem Gy {w:Wd} {k M:Nat} (h:w.2.length=k∧w.1≤M) (hk:M+1+k≤40):j1 (wT w)∧(∀c∈wT w,c < 200)∧(wT w).length≤40 :=
 A3 (λe=>nomatch (show 46::_=([]:List Nat) from e)) (Ob w) (by rw [Br,h.1]; exact Nat.le_trans (Nat.add_le_add_right (Nat.add_le_add_right h.2 1) k) hk)
theorem okW.add {k M N:Nat} {ws:List Wd} (h:okW k M N ws) (b:Bool):okW (k+1) M N (ju b ws) :=
 ⟨by unfold ju; rw [List.length_map]; exact h.l,λw hw=>(List.mem_map.mp hw).elim λx q=>q.2▸⟨by show (x.2++[b]).length=_; rw [List.length_append,(h.w x q.1).1]; rfl,(h.w x q.1).2⟩⟩
theorem z9 {α:Type} (p:α->Bool):∀l:List α,(l.filter p).length+(l.filter λw=>!p w).length=l.length
 | []=>rfl
 | x::l=>by
  have ih:=z9 p l
  cases h:p x with
  | true=>rw [List.filter_cons_of_pos h,List.filter_cons_of_neg (by rw [h]; exact Bool.false_ne_true),List.length_cons,List.length_cons,Nat.add_right_comm,ih]
  | false=>rw [List.filter_cons_of_neg (by rw [h]; exact Bool.false_ne_true),List.filter_cons_of_pos (by rw [h]; rfl),List.length_cons,List.length_cons,← Nat.add_assoc,ih]
theorem okW.name {k M N:Nat} {ws:List Wd} (h:okW k M N ws) (j:Nat):okW k (M+1) N (jr ws j):=by
 refine ⟨?_,λw hw=>(List.mem_append.mp hw).elim (λhw=>?_) λhw=>(List.mem_map.mp hw).elim λx q=>?_⟩
 ·unfold jr
  rw [List.length_append,List.length_map,z9]
  exact h.l
 ·have:=h.w w (List.mem_filter.mp hw).1
  exact ⟨this.1,Nat.le_succ_of_le this.2⟩
 ·have:=h.w x (List.mem_filter.mp q.1).1
  exact q.2▸⟨this.1,Nat.add_le_add_right this.2 1⟩
theorem okW.names {k N:Nat}:∀(Q:List Nat) {M:Nat} {ws:List Wd},okW k M N ws->okW k (M+Q.length) N (Q.foldl jr ws)
 | [],_,_,h=>h
 | j::Q,M,ws,h=>by
  have:=okW.names Q (h.name j)
  rw [List.length_cons,Nat.add_comm Q.length 1,← Nat.add_assoc]
  exact this
theorem Pn {w:Wd} {b j d:Nat} (h:w.2.length=b+1) (hj:j < b+1) (hd:w.1≤d) (hl:d+b≤1000):ik (sD (wT w)) (.int ((j:Int) - (b:Int) - 1))=some (sD [xv (lj j w)]):=by
 have hlen:=Br w
 rw [h] at hlen
 have hneg:(j:Int) - (b:Int) - 1 < 0:=by lia
 have e0:((j:Int) - (b:Int) - 1+((wT w).length:Nat))=((w.1+1+j:Nat):Int):=by rw [hlen]; lia
 have e1:qu (wT w) ((j:Int) - (b:Int) - 1)=(wT w)[w.1+1+j]?:=by
  unfold qu
  rw [if_pos hneg,e0,if_pos (Int.natCast_nonneg _)]; rfl
 have e2:(wT w)[w.1+1+j]?=some (xv (lj j w)):=by
  unfold wT
  rw [List.getElem?_append_right (by rw [List.length_replicate]; exact Nat.le_add_right ..),List.length_replicate,Nat.add_sub_cancel_left,List.getElem?_map]
  unfold lj
  rw [List.getElem?_eq_getElem (h.symm▸hj)]
  rfl
 show (if ((j:Int) - (b:Int) - 1).natAbs≤lim then (qu (wT w) ((j:Int) - (b:Int) - 1)).map (λc=>PyData.str ⟨⟨[c]⟩⟩) else none)=_
 rw [if_pos (by unfold lim; lia),e1,e2]
 rfl
theorem Rv (x:Bool):di .Eq (sD [xv x]) (sD [98])=some x:=by cases x<;>rfl
theorem Qu (x:Bool):di .Eq (sD [xv x]) (sD [97])=some (!x):=by cases x<;>rfl
section
variable {v:Vs} {hp:List MO} {ws:List Wd} {b j k M N:Nat}
theorem N6 {i:Nat} {L:bg} (h:eg L i=some (.dat (j8 ws))):gb (aa i) ⟨L,hp⟩=some ((.rem (ws.map λw=>sD (wT w)),ws.length+1),hp):=by
 unfold gb
 rw [fe h]
 show some ((IS.rem (aw (ws.map wT)),(aw (ws.map wT)).length+1),hp)=_
 have e:aw (ws.map wT)=ws.map λw=>sD (wT w):=by unfold aw; rw [List.map_map]; rfl
 rw [e,List.length_map]
theorem Je (ws:List Wd):j8 ws=.list (ws.map λw=>sD (wT w)):=by unfold j8 aw; rw [List.map_map]; rfl
noncomputable def F7 (i c:Nat):EF:=du (gb (aa 13)) ar (bx i) (λσ=>some (true,σ.hp)) (dj (am (bf .Add (aa i) (sC [c])))) [i]
theorem C3 {i:Nat} (hs:∀a,(v.loc.set i a)[i]?=some a) (h:v.words=some (.dat (j8 ws))) (h0:eg (v.loc.set i none) 13=eg v.loc 13) (hw:okW k M N ws) (hl:M+k+N≤1000) (b:Bool):F7 i (xv b) ⟨v.loc,hp⟩=some (.dat (j8 (ju b ws)),hp):=by
 have e:=my (λw=>sD (wT w)) (λloc=>∃a,loc=v.loc.set i a) (S:=gb (aa 13)) (T:=bx i) (tests:=λσ=>some (true,σ.hp)) (F:=am (bf .Add (aa i) (sC [xv b]))) (t:=λ_=>true) (r:=λw=>sD (wT (w.1,w.2++[b]))) (hp:=hp) (l:=ws) (loc:=v.loc) (ts:=[i]) (n:=ws.length+1)
  (N6 (cg rfl h)) (Nat.le_refl _) (λw hm loc ⟨a,hloc⟩=>by
   subst hloc
   have hq:=hw.w w hm
   refine ⟨_,⟨some (.dat (sD (wT w))),rfl⟩,by show some ((v.loc.set i a).set i _)=_; rw [List.set_set],rfl,λ_=>?_⟩
   refine a9 (op:=.Add) (F2:=sC [xv b]) (ag (hs _) rfl) rfl ?_
   rw [Oo]
   exact add_str (by rw [Br,hq.1]; exact Nat.le_trans (Nat.add_le_add_right (Nat.add_le_add_right (Nat.add_le_add_right hq.2 1) k) 1) (by unfold lim; lia))) ⟨none,rfl⟩ (Nat.le_trans hw.l (by unfold lim; lia))
 refine e.trans ?_
 rw [Je,List.filter_eq_self.mpr (λ_ _=>rfl)]
 unfold ju
 rw [List.map_map]
 rfl
theorem t0 (h:v.words=some (.dat (j8 ws))) (hw:okW k M N ws) (hl:M+k+N≤1000):X_law_13_2_t_0.1 ⟨v.loc,hp⟩=some (.next,⟨{ v with small:=some (.dat (j8 (ju false ws))),great:=some (.dat (j8 (ju true ws))) }.loc,hp⟩):=by
 have e1:=C3 (i:=29) (hp:=hp) (λa=>rfl) h rfl hw hl false
 have e2:=C3 (i:=28) (hp:=hp) (λa=>rfl) h rfl hw hl true
 show tt [18,19] (ak (F7 29 (xv false)) (ak (F7 28 (xv true)) ba)) _=_
 unfold tt
 rw [cv e1 (cv e2 rfl)]
 rfl
end
noncomputable abbrev lr (j:Nat):PyData:=sD [97+j]
theorem Gs {p:Nat} (h:p < 5):Hi ⟨⟨[97,98,99,100,101]⟩⟩ ⟨⟨[97+p]⟩⟩=some (.int p):=by
 match p,h with
 | 0,_ | 1,_ | 2,_ | 3,_ | 4,_=>kernel_rfl
noncomputable def Iq (i:Int):List Nat:=[[10],[13],[13,10]].getD (i.fmod 3).toNat []
theorem Kl (i:Int):(Iq i=[10]∨Iq i=[13]∨Iq i=[13,10])∧ik (.list [sD [10],sD [13],sD [13,10]]) (.int (i.fmod 3))=some (sD (Iq i)):=by
 unfold Iq
 have h0:0≤i.fmod 3:=by rw [Int.fmod_eq_emod_of_nonneg _ (by decide)]; exact Int.emod_nonneg _ (by decide)
 have h3:i.fmod 3 < 3:=by rw [Int.fmod_eq_emod_of_nonneg _ (by decide)]; exact Int.emod_lt_of_pos _ (by decide)
 obtain ⟨m,hm⟩:=Int.eq_ofNat_of_zero_le h0
 rw [hm] at h3 ⊢
 have:m < 3:=by lia
 match m,this with
 | 0,_=>exact ⟨.inl rfl,rfl⟩
 | 1,_=>exact ⟨.inr (.inl rfl),rfl⟩
 | 2,_=>exact ⟨.inr (.inr rfl),rfl⟩
section
variable {v:Vs} {P:Addr} {fl f:Bool} {wl pb:List PyData} {s:List Nat} {n:Int} {hp hp':List MO} {gs:List Wd} {b j k M N:Nat} {i:Int} {ws:List (List Nat)}
theorem m0 (h:v.lexer=some (.obj 3)) (h2:v.name=some (.dat (lr j))) (hl:pb.length≤lim):X_law_13_2_t_1_0.1 ⟨v.loc,hN P fl wl s f n pb⟩=some (.next,⟨v.loc,hN P fl wl s f n (pb++[lr j])⟩):=by
 show Gk (yx (aa 7)) _=_
 exact jg (rm (d:=lr j) (cg rfl h) (ag rfl h2) hl)
theorem m1 (h:v.name=some (.dat (lr j))) (h2:v.born=some (.dat (.int (b:Nat)))) (hj:j < 5):X_law_13_2_t_1_1.1 ⟨v.loc,hp⟩=some (.next,⟨{ v with place:=some (.dat (.int ((j:Int) - (b:Int) - 1))) }.loc,hp⟩) :=
 db (a9 (op:=.Sub) (a9 (op:=.Sub) (fq (m:=.index) (F1:=sC [97,98,99,100,101]) rfl rfl (ag rfl h) (Gs hj)) (ag rfl h2) rfl) rfl rfl)
noncomputable def Nt (i c:Nat):EF:=du (gb (aa 19)) ar (bx i) (bq .Eq (af (aa i) λa=>af (aa 20) λb=>et a b) (sC [c])) (dj (aa i)) [i]
theorem Jb {i c:Nat} {t:Wd->Bool} (hs:∀a,(v.loc.set i a)[i]?=some a) (h19:v.great=some (.dat (j8 gs))) (h20:∀a,eg (v.loc.set i a) 20=eg v.loc 20) (hpl:v.place=some (.dat (.int ((j:Int) - (b:Int) - 1)))) (hw:okW (b+1) M N gs) (hj:j < b+1) (hl:M+b+N≤1000)
  (hc:∀w∈gs,di .Eq (sD [xv (lj j w)]) (sD [c])=some (t w)):Nt i c ⟨v.loc,hp⟩=some (.dat (j8 (gs.filter t)),hp):=by
 have e:=my (λw=>sD (wT w)) (λloc=>∃a,loc=v.loc.set i a) (S:=gb (aa 19)) (T:=bx i) (tests:=bq .Eq (af (aa i) λa=>af (aa 20) λb=>et a b) (sC [c])) (F:=aa i) (t:=t) (r:=λw=>sD (wT w)) (hp:=hp) (l:=gs) (loc:=v.loc) (ts:=[i]) (n:=gs.length+1)
  (N6 (cg rfl h19)) (Nat.le_refl _) (λw hm loc ⟨a,hloc⟩=>by
   subst hloc
   have hq:=hw.w w hm
   refine ⟨_,⟨some (.dat (sD (wT w))),rfl⟩,by show some ((v.loc.set i a).set i _)=_; rw [List.set_set],?_,λ_=>ag (hs _) rfl⟩
   exact dk (F2:=sC [c]) (ed (ag (hs _) rfl) (fe ((h20 _).trans (cg rfl hpl))) (Pn hq.1 hj hq.2 (Nat.le_trans (Nat.le_add_right _ _) hl))) rfl rfl rfl (hc w hm)) ⟨none,rfl⟩ (Nat.le_trans hw.l (by unfold lim; lia))
 rw [Je]
 exact e
theorem m2 (h19:v.great=some (.dat (j8 gs))) (hpl:v.place=some (.dat (.int ((j:Int) - (b:Int) - 1)))) (hw:okW (b+1) M N gs) (hj:j < b+1) (hl:M+b+N≤1000) :
  X_law_13_2_t_1_2.1 ⟨v.loc,hp⟩=some (.next,⟨{ v with mail:=some (.dat (.list (aw ((gs.filter λw=>!lj j w).map wT++[[120,46]])))) }.loc,hp⟩):=by
 have e:=Jb (i:=30) (c:=97) (hp:=hp) (t:=λw=>!lj j w) (λa=>rfl) h19 (λa=>rfl) hpl hw hj hl λw _=>Qu _
 show au (am (bf .Add (Nt 30 97) (am (cw (ak (sC [120,46]) ba))))) (c9 21) _=_
 refine db (a9 (op:=.Add) e (show _=some (PV.dat (.list [sD [120,46]]),_) from rfl) ?_)
 unfold j8
 rw [gz]
 exact sp (by
  unfold aw
  rw [List.length_map,List.length_map]
  exact Nat.le_trans (Nat.add_le_add_right (Nat.le_trans (List.length_filter_le ..) hw.l) 1) (by unfold lim; lia))
theorem m3 (h1:v.place=some (.dat (.int i))) (h2:v.mail=some (.dat (.list (aw ws)))) (hne:ws≠[]) (hw:∀w∈ws,j1 w∧(∀c∈w,c < 200)∧w.length≤40) (hl:ws.length≤4000) :
  X_law_13_2_t_1_3.1 ⟨v.loc,hp⟩=some (.next,⟨{ v with mail:=some (.dat (.list (aw (ws.map b7)))) }.loc,hp⟩):=by
 obtain ⟨hs,e0⟩:=Kl i
 obtain ⟨e1,e2,e3⟩:=Lp hs hne hw hl hp
 unfold crlf at e3
 exact db (fq (m:=.split) (F2:=sC [13,10]) (fu (fq (m:=.join) (ed (F1:=am (cw (ak (sC [10]) (ak (sC [13]) (ak (sC [13,10]) ba))))) rfl (a9 (op:=.Mod) (F2:=iC 3) (ag rfl h1) rfl rfl) e0) rfl (ag rfl h2) e1) e2) rfl rfl e3)
theorem m4 (h2:v.mail=some (.dat (.list (pb++[sD [120,46]])))):X_law_13_2_t_1_4.1 ⟨v.loc,hp⟩=some (.next,⟨v.loc,hp⟩):=by
 have e:=Ed (l:=pb) (x:=sD [120,46])
 exact Bi (C:=bq .NotEq _ _) (dk (F2:=sC [120,46]) (ed (F2:=iC (-1)) (ag rfl h2) rfl e) rfl rfl rfl (Nm _))
theorem m5 (h19:v.great=some (.dat (j8 gs))) (hpl:v.place=some (.dat (.int ((j:Int) - (b:Int) - 1)))) (hw:okW (b+1) M N gs) (hj:j < b+1) (hl:M+b+N≤1000) (h2:v.mail=some (.dat (.list (aw (((gs.filter λw=>!lj j w).map Ae).map wT)++[sD [120,46]])))) :
  X_law_13_2_t_1_5.1 ⟨v.loc,hp⟩=some (.next,⟨{ v with great:=some (.dat (j8 (jr gs j))) }.loc,hp⟩):=by
 have e:=Jb (i:=31) (c:=98) (hp:=hp) (t:=lj j) (λa=>rfl) h19 (λa=>rfl) hpl hw hj hl λw _=>Rv _
 have hA:(aw (((gs.filter λw=>!lj j w).map Ae).map wT)).length≤1000:=by
  unfold aw
  rw [List.length_map,List.length_map,List.length_map]
  exact Nat.le_trans (Nat.le_trans (List.length_filter_le ..) hw.l) (by lia)
 have e1:ek none (some (-1)) none (.list (aw (((gs.filter λw=>!lj j w).map Ae).map wT)++[sD [120,46]]))=some (.list (aw (((gs.filter λw=>!lj j w).map Ae).map wT))) :=
  (if_pos (by rw [List.length_append]; exact Nat.le_trans (Nat.add_le_add_right hA 1) (by decide))).trans (congrArg (λl=>some (PyData.list l)) wh)
 show au (am (bf .Add (Nt 31 98) (am (to (aa 21) Aa (ev (iC (-1))) Aa)))) (c9 19) _=_
 refine db (a9 (op:=.Add) e (i6 (lo:=Aa) (hi:=ev (iC (-1))) (st:=Aa) (ag rfl h2) rfl rfl rfl e1) ?_)
 have hB:(aw ((gs.filter (lj j)).map wT)).length≤1000:=by
  unfold aw
  rw [List.length_map,List.length_map]
  exact Nat.le_trans (Nat.le_trans (List.length_filter_le ..) hw.l) (by lia)
 refine (sp (Nat.le_trans (Nat.add_le_add hB hA) (by decide))).trans ?_
 ·unfold j8 jr aw
  rw [List.map_append,List.map_append]
noncomputable def Q6:XF:=ah X_law_13_2_t_1_0.1 (ah X_law_13_2_t_1_1.1 (ah X_law_13_2_t_1_2.1 (ah X_law_13_2_t_1_3.1 (ah X_law_13_2_t_1_4.1 (ah X_law_13_2_t_1_5.1 aq)))))
theorem Mh (h8:v.lexer=some (.obj 3)) (h7:v.name=some (.dat (lr j))) (h14:v.born=some (.dat (.int (b:Nat)))) (h19:v.great=some (.dat (j8 gs))) (hw:okW (b+1) M N gs) (hj:j < b+1) (hb:b < 5) (hM:M≤30) (hN1:N≤100) (hl:pb.length≤100) :
  ∃a c,Q6 ⟨v.loc,hN P fl wl s f n pb⟩=some (.next,⟨{ v with place:=a,mail:=c,great:=some (.dat (j8 (jr gs j))) }.loc,hN P fl wl s f n (pb++[lr j])⟩):=by
 let H:=hN P fl wl s f n (pb++[lr j])
 let A:=gs.filter λw=>!lj j w
 let v1:Vs:={ v with place:=some (.dat (.int ((j:Int) - (b:Int) - 1))) }
 let v2:Vs:={ v1 with mail:=some (.dat (.list (aw (A.map wT++[[120,46]])))) }
 let v3:Vs:={ v2 with mail:=some (.dat (.list (aw ((A.map wT++[[120,46]]).map b7)))) }
 let v4:Vs:={ v3 with great:=some (.dat (j8 (jr gs j))) }
 have hdot:aw ((A.map wT++[[120,46]]).map b7)=aw ((A.map Ae).map wT)++[sD [120,46]]:=by
  unfold aw
  rw [List.map_append,List.map_append,List.map_map,List.map_map,List.map_map,List.map_map,List.map_map]
  rfl
 have hsum:M+b+N≤1000:=Nat.le_trans (Nat.add_le_add (Nat.add_le_add hM (Nat.le_of_lt hb)) hN1) (by decide)
 have hA:A.length≤100:=Nat.le_trans (Nat.le_trans (List.length_filter_le ..) hw.l) hN1
 have e0:X_law_13_2_t_1_0.1 ⟨v.loc,hN P fl wl s f n pb⟩=some (.next,⟨v.loc,H⟩):=m0 h8 h7 (Nat.le_trans hl (by decide))
 have e1:X_law_13_2_t_1_1.1 ⟨v.loc,H⟩=some (.next,⟨v1.loc,H⟩):=m1 h7 h14 (Nat.lt_of_lt_of_le hj hb)
 have e2:X_law_13_2_t_1_2.1 ⟨v1.loc,H⟩=some (.next,⟨v2.loc,H⟩):=m2 (v:=v1) h19 rfl hw hj hsum
 have e3:X_law_13_2_t_1_3.1 ⟨v2.loc,H⟩=some (.next,⟨v3.loc,H⟩):=m3 (v:=v2) (ws:=A.map wT++[[120,46]]) rfl rfl (λe=>by cases (List.append_eq_nil_iff.mp e).2) (λw hm=>(List.mem_append.mp hm).elim (λhm=>(List.mem_map.mp hm).elim λx q=>q.2▸Gy (hw.w x (List.mem_filter.mp q.1).1) (by lia)) λhm=>by
   rw [List.mem_singleton.mp hm]
   exact ⟨⟨List.cons_ne_nil _ _,by decide⟩,by decide,by decide⟩) (by rw [List.length_append,List.length_map]; exact Nat.le_trans (Nat.add_le_add_right hA 1) (by decide))
 have e4:X_law_13_2_t_1_4.1 ⟨v3.loc,H⟩=some (.next,⟨v3.loc,H⟩):=m4 (v:=v3) (pb:=aw ((A.map Ae).map wT)) (congrArg (λl=>some (PV.dat (.list l))) hdot)
 have e5:X_law_13_2_t_1_5.1 ⟨v3.loc,H⟩=some (.next,⟨v4.loc,H⟩):=m5 (v:=v3) h19 rfl hw hj hsum (congrArg (λl=>some (PV.dat (.list l))) hdot)
 refine ⟨v3.place,v3.mail,?_⟩
 exact (ae e0).trans <| (ae e1).trans <| (ae e2).trans <| (ae e3).trans <| (ae e4).trans <| (ae e5).trans rfl
end
noncomputable def nh (Q:List Nat) (ws:List Wd):List Wd:=ju false ws++Q.foldl jr (ju true ws)
section
variable {v:Vs} {P:Addr} {fl f:Bool} {wl pb:List PyData} {s:List Nat} {n:Int} {hp hp':List MO} {gs ws:List Wd} {b j k M N:Nat} {Q:List Nat}
noncomputable abbrev hQ (P:Addr) (fl:Bool) (wl:List PyData) (s:List Nat) (f:Bool) (n:Int) (Q:List Nat):List MO:=hN P fl wl s f n (Q.map lr)
theorem t1 (h8:v.lexer=some (.obj 3)) (h14:v.born=some (.dat (.int (b:Nat)))) (h15:v.many=some (.dat (.int (Q.length:Nat)))) (h19:v.great=some (.dat (j8 gs))) (hw:okW (b+1) M N gs) (hq:∀j∈Q,j < b+1) (hb:b < 5) (hM:M+Q.length≤30) (hN1:N≤100) :
  ∃a c d,X_law_13_2_t_1.1 ⟨v.loc,hQ P fl wl s f n Q⟩=some (.next,⟨{ v with name:=a,place:=c,mail:=d,great:=some (.dat (j8 (Q.foldl jr gs))) }.loc,hQ P fl wl s f n Q⟩):=by
 have hl30:Q.length≤30:=Nat.le_trans (Nat.le_add_left ..) hM
 have hml:(Q.map lr).length=Q.length:=List.length_map ..
 have e:=uy (i:=32) (N:=Q.length) (base:=v.loc) (S:=ey (ak (aa 15) ba)) (ts:=Q.map lr) (hp:=hQ P fl wl s f n Q) (hp':=hQ P fl wl s f n []) (λa=>cg rfl h8) hml.symm (lg (Nat.le_trans hl30 (by decide)) (ag rfl h15)) (by rw [hml]; exact Nat.le_trans hl30 (by decide))
  (by have:=xi (P:=P) (fl:=fl) (wl:=wl) (s:=s) (f:=f) (n:=n) (Q.map lr) (rest:=[]) (by rw [hml]; exact Nat.lt_of_le_of_lt hl30 (by decide)); rwa [List.append_nil] at this)
 refine cps λ_ KK=>?_
 obtain ⟨σ',e2,hI⟩:=jc (T:=bx 7) (B:=Q6) (its:=Q.map lr) (λk σ=>∃a c d,σ=⟨{ v with name:=a,place:=c,mail:=d,great:=some (.dat (j8 ((Q.take k).foldl jr gs))) }.loc,hQ P fl wl s f n (Q.take k)⟩) (λk x σ hx ⟨a,c,d,hσ⟩=>by
  obtain ⟨j,hj,hxj⟩:∃j,Q[k]?=some j∧x=lr j:=by
   rw [List.getElem?_map] at hx
   cases hg:Q[k]? with
   | none=>rw [hg] at hx; exact al hx
   | some j=>rw [hg] at hx; exact ⟨j,rfl,(b9 hx).symm⟩
  have htk:Q.take (k+1)=Q.take k++[j]:=by rw [List.take_add_one,hj]; rfl
  have htl:(Q.take k).length≤Q.length:=List.length_take_le' ..
  let v1:Vs:={ v with name:=some (.dat (lr j)),place:=c,mail:=d,great:=some (.dat (j8 ((Q.take k).foldl jr gs))) }
  refine cps λ_ KK=>?_
  obtain ⟨a1,c1,e1⟩:=Mh (v:=v1) (P:=P) (fl:=fl) (wl:=wl) (s:=s) (f:=f) (n:=n) (pb:=(Q.take k).map lr) (gs:=(Q.take k).foldl jr gs) (b:=b) (j:=j) (M:=M+(Q.take k).length) (N:=N) h8 rfl h14 rfl (hw.names _) (hq j (List.mem_of_getElem? hj)) hb (Nat.le_trans (Nat.add_le_add_left htl M) hM) hN1 (by rw [List.length_map]; exact Nat.le_trans htl (Nat.le_trans hl30 (by decide)))
  refine KK ⟨v1.loc,⟨{ v1 with place:=a1,mail:=c1,great:=some (.dat (j8 (jr ((Q.take k).foldl jr gs) j))) }.loc,hN P fl wl s f n ((Q.take k).map lr++[lr j])⟩,by rw [hσ,hxj]; rfl,?_,some (.dat (lr j)),a1,c1,?_⟩
  ·rw [hσ]; exact e1
  ·have hm:(Q.take k++[j]).map lr=(Q.take k).map lr++[lr j]:=List.map_append
   rw [htk,List.foldl_append]
   unfold hQ
   rw [hm]
   rfl) (Q.map lr) 0 ((Q.map lr).length+1) ⟨v.loc,hQ P fl wl s f n []⟩ rfl (Nat.lt_succ_self _) ⟨v.name,v.place,v.mail,congrArg (λg=>St.mk (Vs.loc { v with great:=g }) (hQ P fl wl s f n [])) h19⟩
 obtain ⟨a,c,d,hI⟩:=hI
 refine KK ⟨a,c,d,?_⟩
 rw [Nat.zero_add,hml,List.take_length] at hI
 show de (gb (du (ey (ak (aa 15) ba)) ar (bx 32) (λσ=>some (true,σ.hp)) (dj uo) [32])) (λis n=>bw ar (bx 7) Q6 n is) _=_
 unfold de gb
 rw [e]
 exact e2.trans (congrArg (λσ=>some (Fl.next,σ)) hI)
theorem t2 (h8:v.lexer=some (.obj 3)) (h14:v.born=some (.dat (.int (b:Nat)))) (hb:b < 5) (hl:pb.length≤lim):X_law_13_2_t_2.1 ⟨v.loc,hN P fl wl s f n pb⟩=some (.next,⟨v.loc,hN P fl wl s f n (pb++[lr b])⟩):=by
 show Gk (yx (af (sC [97,98,99,100,101]) λa=>af (aa 14) λb=>et a b)) _=_
 refine jg (rm (d:=lr b) (cg rfl h8) (ed (F1:=sC [97,98,99,100,101]) rfl (ag rfl h14) ?_) hl)
 match b,hb with
 | 0,_ | 1,_ | 2,_ | 3,_ | 4,_=>rfl
theorem t3 {l1 l2:List (List Nat)} (h18:v.small=some (.dat (.list (aw l1)))) (h19:v.great=some (.dat (.list (aw l2)))) (h14:v.born=some (.dat (.int (b:Nat)))) (h15:v.many=some (.dat (.int (k:Nat)))) (hl:l1.length+l2.length≤lim) :
  X_law_13_2_t_3.1 ⟨v.loc,hp⟩=some (.next,⟨{ v with words:=some (.dat (.list (aw (l1++l2)))),born:=some (.dat (.int ((b+1:Nat):Int))),many:=some (.dat (.int ((k+1:Nat):Int))) }.loc,hp⟩):=by
 have e1:am (bf .Add (aa 18) (aa 19)) ⟨v.loc,hp⟩=some (.dat (.list (aw (l1++l2))),hp):=a9 (op:=.Add) (ag rfl h18) (ag rfl h19) ((sp (by unfold aw; rw [List.length_map,List.length_map]; exact hl)).trans (by unfold aw; rw [List.map_append]))
 have e2:am (bf .Add (aa 14) (iC 1)) ⟨v.loc,hp⟩=some (.dat (.int ((b+1:Nat):Int)),hp):=a9 (op:=.Add) (ag rfl h14) rfl rfl
 have e3:am (bf .Add (aa 15) (iC 1)) ⟨v.loc,hp⟩=some (.dat (.int ((k+1:Nat):Int)),hp):=a9 (op:=.Add) (ag rfl h15) rfl rfl
 show tt [13,14,15] (ak (am (bf .Add (aa 18) (aa 19))) (ak (am (bf .Add (aa 14) (iC 1))) (ak (am (bf .Add (aa 15) (iC 1))) ba))) _=_
 unfold tt
 rw [cv e1 (cv e2 (cv e3 rfl))]
 rfl
noncomputable def Qy:XF:=ah X_law_13_2_t_0.1 (ah X_law_13_2_t_1.1 (ah X_law_13_2_t_2.1 (ah X_law_13_2_t_3.1 aq)))
noncomputable def Rj:XF:=ah X_law_13_2_e_0.1 (ah X_law_13_2_e_1.1 aq)
theorem Ko (h8:v.lexer=some (.obj 3)) (h13:v.words=some (.dat (j8 ws))) (h14:v.born=some (.dat (.int (b:Nat)))) (h15:v.many=some (.dat (.int (Q.length:Nat)))) (hw:okW b M N ws) (hq:∀j∈Q,j < b+1) (hb:b < 5) (hM:M+Q.length≤30) (hN1:N≤100) :
  ∃a1 a2 a3 a4 a5,Qy ⟨v.loc,hQ P fl wl s f n Q⟩=some (.next,⟨{ v with small:=a1,great:=a2,name:=a3,place:=a4,mail:=a5,words:=some (.dat (j8 (nh Q ws))),born:=some (.dat (.int ((b+1:Nat):Int))),many:=some (.dat (.int (((Q++[b]).length:Nat):Int))) }.loc,hQ P fl wl s f n (Q++[b])⟩):=by
 have hl30:Q.length≤30:=Nat.le_trans (Nat.le_add_left ..) hM
 have e0:=t0 (v:=v) (hp:=hQ P fl wl s f n Q) h13 hw (Nat.le_trans (Nat.add_le_add (Nat.add_le_add (Nat.le_trans (Nat.le_add_right ..) hM) (Nat.le_of_lt hb)) hN1) (by decide))
 let v1:Vs:={ v with small:=some (.dat (j8 (ju false ws))),great:=some (.dat (j8 (ju true ws))) }
 refine cps λ_ KK=>?_
 obtain ⟨a,c,d,e1⟩:=t1 (v:=v1) (P:=P) (fl:=fl) (wl:=wl) (s:=s) (f:=f) (n:=n) (gs:=ju true ws) h8 h14 h15 rfl (hw.add true) hq hb hM hN1
 let v2:Vs:={ v1 with name:=a,place:=c,mail:=d,great:=some (.dat (j8 (Q.foldl jr (ju true ws)))) }
 have e2:=t2 (v:=v2) (P:=P) (fl:=fl) (wl:=wl) (s:=s) (f:=f) (n:=n) (pb:=Q.map lr) h8 h14 hb (by rw [List.length_map]; exact Nat.le_trans hl30 (by decide))
 have l1:((ju false ws).map wT).length≤100:=by rw [List.length_map]; exact Nat.le_trans (hw.add false).l hN1
 have l2:((Q.foldl jr (ju true ws)).map wT).length≤100:=by rw [List.length_map]; exact Nat.le_trans ((hw.add true).names Q).l hN1
 have e3:=t3 (v:=v2) (hp:=hN P fl wl s f n (Q.map lr++[lr b])) (l1:=(ju false ws).map wT) (l2:=(Q.foldl jr (ju true ws)).map wT) rfl rfl h14 h15 (Nat.le_trans (Nat.add_le_add l1 l2) (by decide))
 refine KK ⟨v2.small,v2.great,a,c,d,?_⟩
 have hm:(Q++[b]).map lr=Q.map lr++[lr b]:=List.map_append
 have hw2:j8 (nh Q ws)=.list (aw ((ju false ws).map wT++(Q.foldl jr (ju true ws)).map wT)):=by
  unfold j8 nh
  rw [List.map_append]
 unfold hQ
 rw [hm,hw2,List.length_append]
 exact (ae e0).trans <| (ae e1).trans <| (ae e2).trans <| (ae e3).trans rfl
theorem Mf (h8:v.lexer=some (.obj 3)) (h15:v.many=some (.dat (.int (((j::Q).length:Nat):Int)))) (hl:Q.length≤100) :
  Rj ⟨v.loc,hQ P fl wl s f n (j::Q)⟩=some (.next,⟨{ v with many:=some (.dat (.int (Q.length:Nat))) }.loc,hQ P fl wl s f n Q⟩):=by
 have e0:uo ⟨v.loc,hQ P fl wl s f n (j::Q)⟩=some (.dat (lr j),hQ P fl wl s f n Q):=(w8 (cg rfl h8) ky).trans (Hq (by rw [List.length_map]; exact Nat.lt_of_le_of_lt hl (by decide)))
 have e1:Em uo ⟨v.loc,hQ P fl wl s f n (j::Q)⟩=_:=Js e0 rfl
 have e2:X_law_13_2_e_1.1 ⟨v.loc,hQ P fl wl s f n Q⟩=some (.next,⟨{ v with many:=some (.dat (.int (Q.length:Nat))) }.loc,hQ P fl wl s f n Q⟩) :=
  db (a9 (op:=.Sub) (F2:=iC 1) (ag rfl h15) rfl (by
   show some (PyData.int (((Q.length+1:Nat):Int) - 1))=_
   rw [Int.natCast_add,Int.natCast_one,Int.add_sub_cancel]))
 show ah (Em uo) (ah X_law_13_2_e_1.1 aq) _=_
 exact (ae e1).trans <| (ae e2).trans rfl
end
structure LSt where
 ws:List Wd
 b:Nat
 Q:List Nat
noncomputable def fk (S:LSt) (x:Nat×Bool):LSt:=if x.2 then ⟨nh S.Q S.ws,S.b+1,S.Q++[S.b]⟩ else ⟨S.ws,S.b,S.Q.tail⟩
structure okL (S:LSt):Prop where
 w:okW S.b (5*S.b) (2 ^ S.b) S.ws
 q:∀j∈S.Q,j < S.b
 l:S.Q.length≤S.b
theorem Hl {b M N:Nat} {Q:List Nat} {ws:List Wd} (h:okW b M N ws):okW (b+1) (M+Q.length) (N+N) (nh Q ws):=by
 have h1:=h.add false
 have h2:=(h.add true).names Q
 refine ⟨?_,λw hw=>(List.mem_append.mp hw).elim (λhw=>⟨(h1.w w hw).1,Nat.le_trans (h1.w w hw).2 (Nat.le_add_right ..)⟩) (h2.w w)⟩
 unfold nh
 rw [List.length_append]
 exact Nat.add_le_add h1.l h2.l
theorem okL.open {S:LSt} (h:okL S) (hb:S.b < 5) (i:Nat):okL (fk S (i,true)):=by
 refine ⟨?_,λj hj=>(List.mem_append.mp hj).elim (λhj=>Nat.lt_succ_of_lt (h.q j hj)) λhj=>List.mem_singleton.mp hj▸Nat.lt_succ_self _,?_⟩
 ·have:=Hl (Q:=S.Q) h.w
  refine ⟨Nat.le_trans this.l (Nat.le_of_eq (by show 2 ^ S.b+2 ^ S.b=2 ^ (S.b+1); rw [Nat.pow_succ,Nat.mul_two])),λw hw=>⟨(this.w w hw).1,Nat.le_trans (this.w w hw).2 ?_⟩⟩
  have:=h.l
  show 5*S.b+S.Q.length≤5*(S.b+1)
  lia
 ·show (S.Q++[S.b]).length≤S.b+1
  rw [List.length_append]
  exact Nat.add_le_add_right h.l 1
theorem okL.shut {S:LSt} (h:okL S) (i:Nat):okL (fk S (i,false)) :=
 ⟨h.w,λj hj=>h.q j (List.mem_of_mem_tail hj),Nat.le_trans (by show S.Q.tail.length≤_; rw [List.length_tail]; exact Nat.sub_le ..) h.l⟩
noncomputable def An:List (Nat×Bool)->Nat
 | []=>0
 | (_,true)::r=>An r+1
 | (_,false)::r=>An r
section
variable {v:Vs} {P:Addr} {fl f:Bool} {wl pb:List PyData} {s:List Nat} {n:Int} {hp hp':List MO} {x:Nat×Bool} {S:LSt}
theorem b0 (h:v.piece=some (.dat (sD (pc x)))) (h6:x.1 < 6):X_law_13_0.1 ⟨v.loc,hp⟩=some (.next,⟨{ v with verdict:=some (.dat (.bool x.2)) }.loc,hp⟩):=by
 have k1:a8 [.dat (sD (pc x++[41]))] hp=some (.dat (.bool x.2),hp):=by
  rw [ua (by rw [List.length_append]; exact Nat.le_trans (Nat.add_le_add_right (ww x) 1) (by decide)) (λc hc=>(List.mem_append.mp hc).elim (Fn h6 c) λhc=>by rw [List.mem_singleton.mp hc]; decide),Hr h6]
 exact db (fu (a9 (op:=.Add) (F2:=sC [41]) (ag rfl h) rfl (add_str (Nat.le_trans (Nat.add_le_add_right (ww x) 1) (by decide)))) k1)
theorem b1 (h:v.piece=some (.dat (sD (pc x)))) (h2:v.verdict=some (.dat (.bool x.2))):X_law_13_1.1 ⟨v.loc,hp⟩=some (.next,⟨v.loc,hp⟩):=by
 have e0:ik (sD (pc x)) (.int (-1))=some (sD [if x.2 then 40 else 41]):=by
  show (if (-1:Int).natAbs≤lim then (qu (pc x) (-1)).map (λc=>PyData.str ⟨⟨[c]⟩⟩) else none)=_
  rw [if_pos (by decide)]
  unfold pc
  rw [zn]; rfl
 have e1:am (af (af (aa 16) λa=>af (iC (-1)) λb=>et a b) λa=>af (sC [40]) λb=>dw (λx y=>(di .Eq x y).map .bool) a b) ⟨v.loc,hp⟩=some (.dat (.bool x.2),hp) :=
  ks (op:=.Eq) (ed (F2:=iC (-1)) (ag rfl h) rfl e0) rfl (by cases x.2<;>rfl)
 exact Bi (C:=bq .IsNot _ _) (dk (op:=.IsNot) (ag rfl h2) e1 rfl rfl (by cases x.2<;>rfl))
noncomputable def Qo:XF:=ah X_law_13_0.1 (ah X_law_13_1.1 (ah (gt (af (aa 17) B6) Qy Rj) aq))
noncomputable def qd (v:Vs) (S:LSt) (a1 a2 a3 a4 a5 a6 a7:Option PV):Vs:={ v with piece:=a1,verdict:=a2,small:=a3,great:=a4,name:=a5,place:=a6,mail:=a7,words:=some (.dat (j8 S.ws)),born:=some (.dat (.int (S.b:Nat))),many:=some (.dat (.int (S.Q.length:Nat))) }
theorem Ah {G H:XF} {b:Bool} (h:v.verdict=some (.dat (.bool b))):gt (af (aa 17) B6) G H ⟨v.loc,hp⟩=(if b then G ⟨v.loc,hp⟩ else H ⟨v.loc,hp⟩):=by
 unfold gt af
 rw [ag rfl h]
 rfl
theorem Ao {a1 a2 a3 a4 a5 a6 a7:Option PV} (h8:v.lexer=some (.obj 3)) (h6:x.1 < 6) (hk:okL S) (hb:x.2=true->S.b < 5) (hs:x.2=false->S.Q≠[]) (h5:S.b≤5) :
  ∃c2 c3 c4 c5 c6 c7,Qo ⟨(qd v S (some (.dat (sD (pc x)))) a2 a3 a4 a5 a6 a7).loc,hQ P fl wl s f n S.Q⟩=some (.next,⟨(qd v (fk S x) (some (.dat (sD (pc x)))) c2 c3 c4 c5 c6 c7).loc,hQ P fl wl s f n (fk S x).Q⟩):=by
 let v0:=qd v S (some (.dat (sD (pc x)))) a2 a3 a4 a5 a6 a7
 let v1:=qd v S (some (.dat (sD (pc x)))) (some (.dat (.bool x.2))) a3 a4 a5 a6 a7
 have e0:X_law_13_0.1 ⟨v0.loc,hQ P fl wl s f n S.Q⟩=some (.next,⟨v1.loc,hQ P fl wl s f n S.Q⟩):=b0 (v:=v0) rfl h6
 have e1:X_law_13_1.1 ⟨v1.loc,hQ P fl wl s f n S.Q⟩=some (.next,⟨v1.loc,hQ P fl wl s f n S.Q⟩):=b1 (v:=v1) (x:=x) rfl rfl
 have e2:=Ah (v:=v1) (hp:=hQ P fl wl s f n S.Q) (G:=Qy) (H:=Rj) (b:=x.2) rfl
 obtain ⟨i,b⟩:=x
 have hl5:=Nat.le_trans hk.l h5
 cases b with
 | true =>
  refine cps λ_ KK=>?_
  obtain ⟨c3,c4,c5,c6,c7,e3⟩:=Ko (v:=v1) (P:=P) (fl:=fl) (wl:=wl) (s:=s) (f:=f) (n:=n) (Q:=S.Q) h8 rfl rfl rfl hk.w (λj hj=>Nat.lt_succ_of_lt (hk.q j hj)) (hb rfl) (by have:=hk.l; have:=hb rfl; lia) (Nat.le_trans (Nat.pow_le_pow_right (by decide) h5) (by decide))
  refine KK ⟨some (.dat (.bool true)),c3,c4,c5,c6,c7,?_⟩
  exact (ae e0).trans <| (ae e1).trans <| (ae (e2.trans e3)).trans rfl
 | false =>
  cases hq:S.Q with
  | nil=>exact absurd hq (hs rfl)
  | cons j Q =>
   have e3:=Mf (v:=v1) (P:=P) (fl:=fl) (wl:=wl) (s:=s) (f:=f) (n:=n) (j:=j) (Q:=Q) h8 (congrArg (λl:List Nat=>some (PV.dat (.int (l.length:Nat)))) hq) (by rw [hq] at hl5; exact Nat.le_trans (Nat.le_of_succ_le hl5) (by decide))
   refine ⟨some (.dat (.bool false)),a3,a4,a5,a6,a7,?_⟩
   rw [hq] at e0 e1 e2
   have hst:fk S (i,false)=⟨S.ws,S.b,Q⟩:=by
    show LSt.mk S.ws S.b S.Q.tail=_
    rw [hq]; rfl
   rw [hst]
   exact (ae e0).trans <| (ae e1).trans <| (ae (e2.trans e3)).trans rfl
theorem Pd {d:PyData} {a1 a2 a3 a4 a5 a6 a7:Option PV}:bx 16 d (qd v S a1 a2 a3 a4 a5 a6 a7).loc=some (qd v S (some (.dat d)) a2 a3 a4 a5 a6 a7).loc:=rfl
theorem zm {o:Nat} {ps:List (Nat×Bool)} (ho:ue (x::ps) S.Q.length=some o):ue ps (fk S x).Q.length=some o:=by
 obtain ⟨i,b⟩:=x
 cases b with
 | true=>show ue ps (S.Q++[S.b]).length=_; rw [List.length_append]; exact ho
 | false =>
  show ue ps S.Q.tail.length=_
  rw [List.length_tail]
  cases hq:S.Q.length with
  | zero=>rw [hq] at ho; exact al ho
  | succ k=>rw [hq] at ho; exact ho
theorem ru {ps:List (Nat×Bool)} (hk:okL S) (hb:S.b+An (x::ps)≤5):okL (fk S x)∧(fk S x).b+An ps≤5∧(x.2=true->S.b < 5):=by
 obtain ⟨i,b⟩:=x
 cases b with
 | true =>
  have h5:S.b < 5:=Nat.lt_of_lt_of_le (Nat.lt_add_of_pos_right (Nat.succ_pos _)) hb
  exact ⟨hk.open h5 i,by show S.b+1+An ps≤5; rw [Nat.add_right_comm]; exact hb,λ_=>h5⟩
 | false=>exact ⟨hk.shut i,hb,λh=>nomatch h⟩
theorem M7 {o:Nat} {ps:List (Nat×Bool)} (ho:ue (x::ps) S.Q.length=some o) (hx:x.2=false):S.Q≠[]:=λhq=>by
 obtain ⟨i,b⟩:=x
 cases hx
 rw [hq] at ho
 exact al ho
theorem Op {o:Nat} (h8:v.lexer=some (.obj 3)) (ps:List (Nat×Bool)):∀(S:LSt) (m:Nat) (a1 a2 a3 a4 a5 a6 a7:Option PV),(∀p∈ps,p.1 < 6)->okL S->ue ps S.Q.length=some o->S.b+An ps≤5->ps.length < m ->
  ∃c1 c2 c3 c4 c5 c6 c7,bw ar (bx 16) Qo m (.rem (aw (ps.map pc))) ⟨(qd v S a1 a2 a3 a4 a5 a6 a7).loc,hQ P fl wl s f n S.Q⟩=some (.next,⟨(qd v (ps.foldl fk S) c1 c2 c3 c4 c5 c6 c7).loc,hQ P fl wl s f n (ps.foldl fk S).Q⟩):=by
 induction ps with
 | nil =>
  intro S m a1 a2 a3 a4 a5 a6 a7 _ _ _ _ hm
  cases m with
  | zero=>exact absurd hm (Nat.not_lt_zero _)
  | succ m=>exact ⟨a1,a2,a3,a4,a5,a6,a7,rfl⟩
 | cons x ps ih =>
  intro S m a1 a2 a3 a4 a5 a6 a7 h6 hk ho hb hm
  cases m with
  | zero=>exact absurd hm (Nat.not_lt_zero _)
  | succ m =>
   obtain ⟨k1,k2,k3⟩:=ru hk hb
   refine cps λ_ KK=>?_
   obtain ⟨c2,c3,c4,c5,c6,c7,e⟩:=Ao (v:=v) (P:=P) (fl:=fl) (wl:=wl) (s:=s) (f:=f) (n:=n) (x:=x) (a1:=a1) (a2:=a2) (a3:=a3) (a4:=a4) (a5:=a5) (a6:=a6) (a7:=a7) h8 (h6 x (List.mem_cons_self ..)) hk k3 (M7 ho) (Nat.le_trans (Nat.le_add_right ..) hb)
   obtain ⟨d1,d2,d3,d4,d5,d6,d7,e2⟩:=ih (fk S x) m (some (.dat (sD (pc x)))) c2 c3 c4 c5 c6 c7 (λp hp=>h6 p (List.mem_cons_of_mem _ hp)) k1 (zm ho) k2 (Nat.lt_of_succ_lt_succ hm)
   refine KK ⟨d1,d2,d3,d4,d5,d6,d7,?_⟩
   rw [show aw ((x::ps).map pc)=sD (pc x)::aw (ps.map pc) from rfl,List.foldl_cons]
   exact (bm (is':=.rem (aw (ps.map pc))) rfl Pd e).trans e2
end
noncomputable def Lr (t:List Nat) (c:List Nat) (len nt:Int):List (Nat×PV):=[(8,.dat (.bool (decide ((c.length:Int)≤1)))),(7,.dat (.tuple [.tuple (ao c),.int 0])),(6,.dat (.int nt)),(5,.dat (.int len)),(4,.dat (sD t))]
theorem g7 {Fe:EF} {L:bg} {hp:List MO} {i j:Nat} {pv:PV} {ats:List (Nat×PV)} (hL:eg L 0=some (.obj i)) (he:Fe ⟨L,hp⟩=some (pv,hp)) (hi:hp[i]?=some (.ins 180 ats)) (hj:j≤9) (ha:ats.length≤lim) (hb:ats.all (λp=>decide (p.1≤9))=true) :
  em (aa 0) Fe 180 j ⟨L,hp⟩=some (.next,⟨L,hp.set i (.ins 180 (ez ats j pv))⟩):=by
 unfold em au
 rw [he]
 dsimp only
 rw [fe hL]
 dsimp only
 unfold z8
 dsimp only
 rw [hi]
 dsimp only
 rw [if_pos ⟨rfl,hj,ha,hb⟩]
theorem nk {i j:Nat} {s:List Nat} {b n nt:Int} {ch:Option PV}:eg (df i s j b n nt ch) 0=some (.obj i):=rfl
section
variable {base:List MO} {i j:Nat} {t c:List Nat} {b n nt:Int} {ch:Option PV} {hp:List MO}
theorem F5 (c:List Nat):(ao c).length=c.length:=by simp [ao]
theorem Nv (h:InvW base i hp j c [(4,.dat (sD t))]) (hc:c.length≤lim):∃hp',Qw ⟨df i t j 0 n nt ch,hp⟩=some (.next,⟨df i t j 0 n nt ch,hp'⟩)∧InvW base i hp' j c (Lr t c n nt):=by
 have e1:=g7 (Fe:=aa 6) (j:=5) (pv:=.dat (.int n)) (nk (i:=i) (j:=j) (s:=t) (b:=0) (n:=n) (nt:=nt) (ch:=ch)) rfl h.self (by (exact Nat.le_add_left _ _)) (Nat.le_of_ble_eq_true rfl) (by rfl)
 have h1:=h.setS (ez [(4,.dat (sD t))] 5 (.dat (.int n)))
 have e2:=g7 (Fe:=aa 7) (j:=6) (pv:=.dat (.int nt)) (nk (i:=i) (j:=j) (s:=t) (b:=0) (n:=n) (nt:=nt) (ch:=ch)) rfl h1.self (by (exact Nat.le_add_left _ _)) (Nat.le_of_ble_eq_true rfl) (by rfl)
 have h2:=h1.setS (ez (ez [(4,.dat (sD t))] 5 (.dat (.int n))) 6 (.dat (.int nt)))
 have v3:am (Fp (ak (am (af (aa 4) (iw B1.tuple.f))) (ak (aa 5) ba))) ⟨df i t j 0 n nt ch,(hp.set i (.ins 180 (ez [(4,.dat (sD t))] 5 (.dat (.int n))))).set i (.ins 180 (ez (ez [(4,.dat (sD t))] 5 (.dat (.int n))) 6 (.dat (.int nt))))⟩
   = some (.dat (.tuple [.tuple (ao c),.int 0]),(hp.set i (.ins 180 (ez [(4,.dat (sD t))] 5 (.dat (.int n))))).set i (.ins 180 (ez (ez [(4,.dat (sD t))] 5 (.dat (.int n))) 6 (.dat (.int nt))))):=by
  have a1:am (af (aa 4) (iw B1.tuple.f)) ⟨df i t j 0 n nt ch,(hp.set i (.ins 180 (ez [(4,.dat (sD t))] 5 (.dat (.int n))))).set i (.ins 180 (ez (ez [(4,.dat (sD t))] 5 (.dat (.int n))) 6 (.dat (.int nt))))⟩
    = some (.dat (.tuple (ao c)),(hp.set i (.ins 180 (ez [(4,.dat (sD t))] 5 (.dat (.int n))))).set i (.ins 180 (ez (ez [(4,.dat (sD t))] 5 (.dat (.int n))) 6 (.dat (.int nt))))):=by
   unfold am af
   refine (fe (show eg (df i t j 0 n nt ch) 4=some (.obj j) from rfl)).symm▸?_
   skip
   unfold iw
   dsimp only
   refine (wj h2.at_).symm▸?_
   dsimp only
   exact (show B1.tuple.f (.list (ao c))=some (.tuple (ao c)) from if_pos (by rw [F5]; exact hc)).symm▸rfl
  exact J6 a1 rfl
 have e3:=g7 (j:=7) (nk (i:=i) (j:=j) (s:=t) (b:=0) (n:=n) (nt:=nt) (ch:=ch)) v3 h2.self (by (exact Nat.le_add_left _ _)) (Nat.le_of_ble_eq_true rfl) (by rfl)
 have h3:=h2.setS (ez (ez (ez [(4,.dat (sD t))] 5 (.dat (.int n))) 6 (.dat (.int nt))) 7 (.dat (.tuple [.tuple (ao c),.int 0])))
 have v4:∀hp:List MO,hp[j]?=some (.lst (ao c))->am (af (am (fb (aa 4))) λa=>af (iC 1) λb=>dw (λx y=>(di .LtE x y).map .bool) a b) ⟨df i t j 0 n nt ch,hp⟩=some (.dat (.bool (decide ((c.length:Int)≤1))),hp):=by
  intro hp hj
  have a1:am (fb (aa 4)) ⟨df i t j 0 n nt ch,hp⟩=some (.dat (.int c.length),hp):=by
   unfold am; rw [wm hj hc]
  unfold am at a1 ⊢
  unfold af
  dsimp only
  refine a1.symm▸?_
  rfl
 have e4:=g7 (j:=8) (nk (i:=i) (j:=j) (s:=t) (b:=0) (n:=n) (nt:=nt) (ch:=ch)) (v4 _ h3.at_) h3.self (by (exact Nat.le_add_left _ _)) (Nat.le_of_ble_eq_true rfl) (by rfl)
 have h4:=h3.setS (ez (ez (ez (ez [(4,.dat (sD t))] 5 (.dat (.int n))) 6 (.dat (.int nt))) 7 (.dat (.tuple [.tuple (ao c),.int 0]))) 8 (.dat (.bool (decide ((c.length:Int)≤1)))))
 refine ⟨_,?_,h4⟩
 unfold Qw
 rw [ae e1,ae e2,ae e3,bz]
 exact e4
theorem P1 {runs:List Nat} (hbase:base.all (MO.closed (base.length+1))=true) (hr:∀r∈runs,r+1≤1000) (hn:runs.length≤1000) (hlen:(cb runs).length≤100000) (hcl:(jv runs []).length≤lim) :
  nv [.obj base.length,.dat (sD (cb runs))] (base++[.ins 180 []])=some (.dat .none,base++[.ins 180 (Lr (cb runs) (jv runs []) (cb runs).length runs.length)]):=by
 let t:=cb runs
 let i:=base.length
 let L0:bg:=[some (.obj i),some (.dat (sD t)),none,none,none,none,none,none,none]
 let L1:bg:=[some (.obj i),some (.dat (sD t)),some (.dat (sD [32])),some (.dat (sD [9])),none,none,none,none,none]
 let L2:bg:=[some (.obj i),some (.dat (sD t)),some (.dat (sD [32])),some (.dat (sD [9])),some (.obj (i+1)),none,none,none,none]
 let hp1:List MO:=base++[.ins 180 [(4,.dat (sD t))]]
 let hp2:List MO:=hp1++[.lst (ao [])]
 have hs0:(base++[MO.ins 180 []])[i]?=some (.ins 180 []):=by simp [i]
 have e1:em (aa 0) (aa 1) 180 4 ⟨L0,base++[.ins 180 []]⟩=some (.next,⟨L0,hp1⟩):=by
  rw [g7 (i:=i) (pv:=.dat (sD t)) (L:=L0) rfl rfl hs0 (by (exact Nat.le_add_left _ _)) (Nat.le_of_ble_eq_true rfl) (by rfl),List.set_append_right _ _ (Nat.le_refl _),Nat.sub_self]
  rfl
 have e2:tt [2,3] (ak (sC [32]) (ak (sC [9]) ba)) ⟨L0,hp1⟩=some (.next,⟨L1,hp1⟩):=rfl
 have e3:au (ll (cw ba)) (c9 4) ⟨L1,hp1⟩=some (.next,⟨L2,hp2⟩):=by
  show some (Fl.next,(⟨L1.set 4 (some (.obj hp1.length)),hp1++[.lst []]⟩:St))=_
  have:hp1.length=i+1:=by simp [hp1,i]
  refine this.symm▸?_
  rfl
 have e4:Od 5 6 7 (iC 0) ⟨L2,hp2⟩=some (.next,⟨df i t (i+1) 0 0 0 none,hp2⟩):=rfl
 have hl1:hp1.length=i+1:=by simp [hp1,i]
 have h0:InvW base i hp2 (i+1) [] [(4,.dat (sD t))]:=⟨by
  skip
  rw [List.take_append_of_le_length (by (exact Nat.le_of_eq (Eq.symm (by assumption)))),List.take_of_length_le (by (exact Nat.le_of_eq (by assumption)))],rfl,by (exact Nat.le_refl _),by
  show (hp1++[MO.lst (ao [])])[i+1]?=_
  rw [← hl1]; simp⟩
 refine cps λ_ KK=>?_
 obtain ⟨j',hp3,ch',h3,q⟩:=zy (m:=1) (l:=[]) (s:=t) runs (i+1) [] 0 0 none hp2 h0 (λr hm=>by have:=hr r hm; unfold lim; (exact Nat.le_trans (by assumption) (by decide))) (by decide)
 have q0:bw ar (bx 8) Fb 1 (.rem (chars [])) ⟨df i t j' 0 (0+(cb runs).length) (0+runs.length) ch',hp3⟩=some (.next,⟨df i t j' 0 (0+(cb runs).length) (0+runs.length) ch',hp3⟩):=rfl
 rw [q0,List.append_nil] at q
 have e5:de (gb (af (aa 0) (bh 180 4))) (λis n=>bw ar (bx 8) Fb n is) ⟨df i t (i+1) 0 0 0 none,hp2⟩=some (.next,⟨df i t j' 0 (0+(cb runs).length) (0+runs.length) ch',hp3⟩):=by
  have a1:af (aa 0) (bh 180 4) ⟨df i t (i+1) 0 0 0 none,hp2⟩=some (.dat (sD t),hp2):=by
   unfold af
   refine (fe (nk (i:=i))).symm▸?_
   skip
   unfold bh
   dsimp only
   refine h0.self.symm▸?_
   rfl
  unfold de gb
  refine a1.symm▸?_
  dsimp only [Dj]
  have:(chars t).length+1=1+(cb runs).length:=by simp [chars,t]; lia
  skip
  refine this.symm▸?_
  exact q
 obtain ⟨hp4,e6,h4⟩:=Nv (n:=0+(cb runs).length) (nt:=0+runs.length) (ch:=ch') h3 hcl
 refine KK ?_
 refine W_init_eq.symm▸?_
 skip
 have hB:Qq ⟨az [.obj i,.dat (sD t)] 7,base++[.ins 180 []]⟩=some (.next,⟨df i t j' 0 (0+(cb runs).length) (0+runs.length) ch',hp4⟩):=by
  skip
  unfold Qq
  refine (ae e1).symm▸(ae e2).symm▸(ae e3).symm▸(ae e4).symm▸(ae e5).symm▸?_
  exact e6
 show (match Qq ⟨az [.obj i,.dat (sD t)] 7,base++[.ins 180 []]⟩ with
  | some (.ret pv,σ)=>if false then some (pv,σ.hp) else trunc (base++[MO.ins 180 []]).length pv σ.hp
  | some (.next,σ)=>if false then some (PV.dat .none,σ.hp) else trunc (base++[MO.ins 180 []]).length (.dat .none) σ.hp
  | _=>none)=_
 refine hB.symm▸?_
 dsimp only
 refine (if_neg Bool.false_ne_true).symm▸?_
 have hlen':(base++[MO.ins 180 []]).length=i+1:=by simp [i]
 refine hlen'.symm▸?_
 unfold trunc
 refine h4.pre.symm▸?_
 have hle:i+1≤hp4.length:=by have:=h4.jlt; have:=h4.lt; (exact Nat.lt_trans (by assumption) (by assumption))
 have hall:(base++[MO.ins 180 (Lr t (jv runs []) (0+(cb runs).length) (0+runs.length))]).all (MO.closed (i+1))=true:=by
  refine List.all_append.symm▸hbase.symm▸?_
  rfl
 rw [if_pos (by rw [hall]; simpa [PV.closed] using hle)]
 rw [Int.zero_add,Int.zero_add]
end
theorem B3:∀(runs c:List Nat) (M:Nat),(∀r∈runs,r < M)->c.length≤M->(jv runs c).length≤M
 | [],c,M,_,h=>h
 | r::runs,c,M,hr,h=>B3 runs (qf c r) M (λx hx=>hr x (List.mem_cons_of_mem _ hx)) (by rw [yw]; have:=hr r (List.mem_cons_self ..); lia)
noncomputable def zi (r:Nat):List Nat:=List.replicate r 32++[9]
theorem zb {r:Nat} (h:r≤50):(zi r).length≤51:=by
 unfold zi
 rw [List.length_append,List.length_replicate]
 exact Nat.add_le_add_right h 1
theorem Ho {runs:List Nat} (h:∀r∈runs,r≤50) (hl:runs.length≤100):(cb runs).length≤100000:=by
 refine Nat.le_trans (qs 51 (runs.map zi) λw hw=>(List.mem_map.mp hw).elim λr q=>q.2▸zb (h r q.1)) ?_
 rw [List.length_map]
 exact Nat.le_trans (Nat.mul_le_mul_right 51 hl) (by decide)
noncomputable abbrev wO (runs:List Nat):MO:=.ins 180 (Lr (cb runs) (jv runs []) (cb runs).length runs.length)
theorem tw {F:EF} {L:bg} {hp1 hp2:List MO} {p:PV} (h:F ⟨L,hp1⟩=some (p,hp2)):jm F ⟨L,hp1⟩=some (.ret p,⟨L,hp2⟩):=by
 unfold jm au
 exact h.symm▸rfl
noncomputable def Mo:XF:=jm (C6 180 (ak (am (Mine.meth1 .join (sC []) (du (gb (aa 0)) ar (bx 1) (λσ=>some (true,σ.hp)) (dj (am (bf .Add (am (bf .Mult (sC [32]) (aa 1))) (sC [9])))) [1]))) ba) nv)
theorem Ec:X_law_lead.1=ah Mo aq:=rfl
theorem K9 {runs:List Nat} {base:List MO} (hbase:base.all (MO.closed (base.length+1))=true) (hr:∀r∈runs,r≤50) (hl:runs.length≤100):bv [.dat (.list (ao runs))] base=some (.obj base.length,base++[wO runs]):=by
 have n0:aa 0 ⟨az [.dat (.list (ao runs))] 1,base⟩=some (.dat (.list (ao runs)),base):=rfl
 have e:=my (λr:Nat=>PyData.int (r:Nat)) (λloc=>∃a,loc=[some (.dat (.list (ao runs))),a]) (S:=gb (aa 0)) (T:=bx 1) (tests:=λσ=>some (true,σ.hp))
  (F:=am (bf .Add (am (bf .Mult (sC [32]) (aa 1))) (sC [9]))) (t:=λ_=>true) (r:=λr=>sD (zi r)) (hp:=base) (l:=runs) (loc:=az [.dat (.list (ao runs))] 1) (ts:=[1]) (n:=runs.length+1)
  (by
   unfold gb
   rw [n0]
   show some ((IS.rem (ao runs),(ao runs).length+1),base)=_
   rw [cntP_len]; rfl) (Nat.le_refl _) (λr hm loc ⟨a,hloc⟩=>by
   subst hloc
   refine ⟨_,⟨some (.dat (.int (r:Nat))),rfl⟩,rfl,rfl,λ_=>?_⟩
   have hk:=hr r hm
   have e3:Ou (sD [32]) (.int (r:Nat))=some (sD (List.replicate r 32)):=by
    show (if 1*((r:Nat):Int).toNat≤lim∧((r:Nat):Int).natAbs≤lim then some (PyData.str ⟨⟨(List.replicate ((r:Nat):Int).toNat [32]).flatten⟩⟩) else none)=_
    rw [if_pos ⟨by unfold lim; lia,by unfold lim; lia⟩,Int.toNat_natCast]
    have:∀r,(List.replicate r [32]).flatten=List.replicate r 32:=λr=>by
     induction r with
     | zero=>rfl
     | succ r ih=>rw [List.replicate_succ,List.flatten_cons,ih]; rfl
    rw [this]
   exact a9 (op:=.Add) (a9 (op:=.Mult) (F1:=sC [32]) rfl (ag rfl rfl) e3) (show sC [9] _=some (PV.dat (sD [9]),_) from rfl) (add_str (by
    rw [List.length_replicate]; exact Nat.le_trans (Nat.add_le_add_right hk 1) (by decide)))) ⟨none,rfl⟩ (Nat.le_trans hl (by decide))
 rw [List.filter_eq_self.mpr (λ_ _=>rfl)] at e
 have hj:n5 ⟨⟨[]⟩⟩ (runs.map λr=>sD (zi r))=some (sD (cb runs)):=by
  have h1:(runs.map λr=>sD (zi r))=aw (runs.map zi):=by unfold aw; rw [List.map_map]; rfl
  have hw:∀w∈runs.map zi,w.length≤51:=λw hw=>(List.mem_map.mp hw).elim λr q=>q.2▸zb (hr r q.1)
  rw [h1,qp (by
   refine Nat.le_trans (se (M:=51) (k:=0) _ hw) ?_
   rw [List.length_map]
   exact Nat.le_trans (Nat.mul_le_mul_right 51 hl) (by decide)) (λ_ h=>ck h) (λw hw c hc=>(List.mem_map.mp hw).elim λr q=>by
    rw [← q.2] at hc
    refine (List.mem_append.mp hc).elim (λh=>?_) λh=>?_
    ·rw [(List.mem_replicate.mp h).2]; decide
    ·rw [List.mem_singleton.mp h]; decide),kx]
  rfl
 have hnew:=P1 (base:=base) (runs:=runs) hbase (λr hm=>Nat.le_trans (Nat.add_le_add_right (hr r hm) 1) (by decide)) (Nat.le_trans hl (by decide)) (Ho hr hl) (Nat.le_trans (B3 runs [] 51 (λr hm=>Nat.lt_succ_of_le (hr r hm)) (Nat.zero_le _)) (by decide))
 have e5:Mo ⟨az [.dat (.list (ao runs))] 1,base⟩=some (.ret (.obj base.length),⟨az [.dat (.list (ao runs))] 1,base++[wO runs]⟩):=by
  refine tw ?_
  unfold C6 ak af
  rw [fq (m:=.join) (F1:=sC []) (x:=sD []) rfl rfl e hj]
  dsimp only [ba]
  rw [hnew]
 exact zw rfl ((congrFun Ec _).trans (dq e5))
noncomputable abbrev hR (f:Bool) (n:Int) (wl:List PyData) (Q:List Nat) (rs:List (List Nat)):List MO:=hQ 186 false wl [] f n Q++rs.map wO
section
variable {v:Vs} {f:Bool} {n:Int} {wl:List PyData} {Q:List Nat} {rs:List (List Nat)} {k:Nat}
theorem Ak:(hR f n wl Q rs).length=5+rs.length:=by
 unfold hR
 rw [List.length_append,List.length_map]
 rfl
theorem wd {k:Nat} (h:5≤k):(hR f n wl Q rs).all (MO.closed k)=true:=by
 obtain ⟨m,rfl⟩:=Nat.exists_eq_add_of_le' h
 unfold hR
 rw [List.all_append,List.all_map]
 have h1:(hQ 186 false wl [] f n Q).all (MO.closed (m+5))=true:=by
  have e2:decide (2 < m+5)=true:=decide_eq_true (by lia)
  have e4:decide (4 < m+5)=true:=decide_eq_true (by lia)
  cases f
  ·show (true&&(true&&(true&&((decide (4 < m+5)&&(true&&(decide (2 < m+5)&&(true&&true))))&&(true&&true)))))=true
   rw [e2,e4]; rfl
  ·show (true&&(true&&(true&&((true&&(decide (4 < m+5)&&(true&&(decide (2 < m+5)&&true))))&&(true&&true)))))=true
   rw [e2,e4]; rfl
 rw [h1]
 show (true&&rs.all λ_=>true)=true
 rw [List.all_eq_true.mpr (λ_ _=>rfl)]; rfl
theorem jy {F:EF} {L:bg} {runs:List Nat} (hF:F ⟨L,hR f n wl Q rs⟩=some (.dat (.list (ao runs)),hR f n wl Q rs)) (hr:∀r∈runs,r≤50) (hl:runs.length≤100) :
  cz (ak F ba) bv ⟨L,hR f n wl Q rs⟩=some (.obj (5+rs.length),hR f n wl Q (rs++[runs])):=by
 rw [fu hF (K9 (wd (Nat.le_succ_of_le (by rw [Ak]; exact Nat.le_add_right ..))) hr hl),Ak]
 unfold hR
 rw [List.map_append,← List.append_assoc]
 rfl
theorem Mz {i:Nat} {runs:List Nat} (h:rs[i]?=some runs):(hR f n wl Q rs)[5+i]?=some (wO runs):=by
 unfold hR
 rw [List.getElem?_append_right (Nat.le_add_right 5 i),show 5+i - (hQ 186 false wl [] f n Q).length=i from Nat.add_sub_cancel_left 5 i,List.getElem?_map,h]
 rfl
theorem yk:∀a b:List Nat,sk (ao a) (ao b)=(a==b)
 | [],[]=>rfl
 | [],_::_=>rfl
 | _::_,[]=>rfl
 | x::a,y::b=>by
  show (((x:Int)==(y:Int))&&sk (ao a) (ao b))=((x==y)&&(a==b))
  rw [yk a b]
  congr 1
  rw [Bool.eq_iff_iff,beq_iff_eq,beq_iff_eq]
  exact Int.ofNat_inj
theorem Ku (k:Nat) (c:List Nat):(ao c).all (uh k)=true:=by
 unfold ao
 rw [List.all_map]
 exact List.all_eq_true.mpr λ_ _=>by cases k<;>rfl
noncomputable abbrev Qp (r:List Nat):PyData:=.tuple [.tuple (ao (jv r [])),.int 0]
theorem Np (a b:List Nat):di .Eq (Qp a) (Qp b)=some (jv a []==jv b []):=by
 show (if ((((ao (jv a [])).all (uh 1))&&(true&&true))||uh 3 (Qp b))=true then some ((sk (ao (jv a [])) (ao (jv b [])))&&(((0:Int)==0)&&true)) else none)=_
 rw [Ku,if_pos (by rfl),yk]
 rw [show ((0:Int)==0)=true from rfl,Bool.and_true,Bool.and_true]
theorem Fm {i j:Nat} {a b:List Nat} (hi:rs[i]?=some a) (hj:rs[j]?=some b):k9 [.obj (5+i),.obj (5+j)] (hR f n wl Q rs)=some (.dat (.bool (jv a []==jv b [])),hR f n wl Q rs):=by
 let L:bg:=[some (.obj (5+i)),some (.obj (5+j))]
 have at7:∀{i k:Nat} {r:List Nat},eg L k=some (.obj (5+i))->rs[i]?=some r->af (aa k) (bh 180 7) ⟨L,hR f n wl Q rs⟩=some (.dat (Qp r),hR f n wl Q rs):=λ{i k r} hk h=>by
  unfold af
  rw [fe hk]
  show bh 180 7 (.obj (5+i)) ⟨L,hR f n wl Q rs⟩=_
  unfold bh
  dsimp only
  rw [Mz h]
  rfl
 have e:am (af (af (aa 0) (bh 180 7)) λa=>af (af (aa 1) (bh 180 7)) λb=>dw (λx y=>(di .Eq x y).map .bool) a b) ⟨L,hR f n wl Q rs⟩=some (.dat (.bool (jv a []==jv b [])),hR f n wl Q rs) :=
  ks (op:=.Eq) (at7 rfl hi) (at7 rfl hj) (Np a b)
 have e1:=tw e
 have e2:X_W_equal.1 ⟨az [.obj (5+i),.obj (5+j)] 0,hR f n wl Q rs⟩=_:=dq (G:=aq) e1
 show kq 2 0 false X_W_equal.1 [.obj (5+i),.obj (5+j)] (hR f n wl Q rs)=_
 unfold kq
 rw [if_pos (by rfl),e2]
 show trunc (hR f n wl Q rs).length (.dat (.bool (jv a []==jv b []))) (hR f n wl Q rs)=_
 unfold trunc
 rw [List.take_length,if_pos]
 rw [wd (by rw [Ak]; exact Nat.le_add_right ..),decide_eq_true (Nat.le_refl _)]
 rfl
theorem kr {F:EF} {G:LF} {L:bg} {hp1 hp2 hp3:List MO} {p:PV} {ps:List PV} (h1:F ⟨L,hp1⟩=some (p,hp2)) (h2:G ⟨L,hp2⟩=some (ps,hp3)):ak F G ⟨L,hp1⟩=some (p::ps,hp3):=by
 unfold ak af
 rw [h1]
 dsimp only
 rw [h2]
theorem C4 {F:EF} {L:bg} {hp1 hp2:List MO} {p:PV} (h1:F ⟨L,hp1⟩=some (p,hp2)):ak F ba ⟨L,hp1⟩=some ([p],hp2):=kr h1 rfl
theorem Om {i:Nat} {a:List Nat} (hi:rs[i]?=some a):ct 180 "equal" (5+i) (hR f n wl Q rs)=true:=by
 unfold ct
 rw [Mz hi]
 kernel_rfl
theorem Jm {F G:EF} {L:bg} {rs':List (List Nat)} {i j:Nat} {a b:List Nat} (hF:F ⟨L,hR f n wl Q rs⟩=some (.obj (5+i),hR f n wl Q rs)) (hG:G ⟨L,hR f n wl Q rs⟩=some (.obj (5+j),hR f n wl Q rs')) (hi:rs[i]?=some a) (hi':rs'[i]?=some a) (hj:rs'[j]?=some b) :
  ti F 180 "equal" (ak G ba) k9 ⟨L,hR f n wl Q rs⟩=some (.dat (.bool (jv a []==jv b [])),hR f n wl Q rs'):=by
 unfold ti af
 rw [hF]
 dsimp only
 rw [if_pos (Om hi),C4 hG]
 exact Fm hi' hj
theorem C0 {L:bg} {hp:List MO} {G:EF} {k:Nat} (h:eg L 23=some (.objs true [5,6,7])) (hG:G ⟨L,hp⟩=some (.dat (.int (k:Nat)),hp)) (hk:k < 3):(af (aa 23) λa=>af G λb=>y9 a b) ⟨L,hp⟩=some (.obj (5+k),hp):=by
 unfold af
 rw [fe h]
 dsimp only
 rw [hG]
 match k,hk with
 | 0,_ | 1,_ | 2,_=>rfl
theorem Tp {W p:List Nat} (h3:v.waits=some (.dat (.list (ao W)))) (h22:v.pairs=some (.dat (.list (ao p)))) (hW:∀r∈W,r≤50) (hp:∀r∈p,r≤50) (hWl:W.length≤100) (hpl:p.length≤100) :
  X_law_15.1 ⟨v.loc,hR f n wl Q []⟩=some (.next,⟨{ v with told:=some (.objs true [5,6,7]) }.loc,hR f n wl Q [[0],W,p]⟩):=by
 have e1:cz (ak (am (cw (ak (iC 0) ba))) ba) bv ⟨v.loc,hR f n wl Q []⟩=some (.obj 5,hR f n wl Q [[0]]):=jy (runs:=[0]) rfl (by decide) (by decide)
 have e2:cz (ak (aa 3) ba) bv ⟨v.loc,hR f n wl Q [[0]]⟩=some (.obj 6,hR f n wl Q [[0],W]):=jy (ag rfl h3) hW hWl
 have e3:cz (ak (aa 22) ba) bv ⟨v.loc,hR f n wl Q [[0],W]⟩=some (.obj 7,hR f n wl Q [[0],W,p]):=jy (ag rfl h22) hp hpl
 have e:tj true (ak (cz (ak (am (cw (ak (iC 0) ba))) ba) bv) (ak (cz (ak (aa 3) ba) bv) (ak (cz (ak (aa 22) ba) bv) ba))) ⟨v.loc,hR f n wl Q []⟩=some (.objs true [5,6,7],hR f n wl Q [[0],W,p]):=by
  unfold tj
  rw [show ak (cz (ak (am (cw (ak (iC 0) ba))) ba) bv) (ak (cz (ak (aa 3) ba) bv) (ak (cz (ak (aa 22) ba) bv) ba)) ⟨v.loc,hR f n wl Q []⟩=some ([.obj 5,.obj 6,.obj 7],hR f n wl Q [[0],W,p]) from kr e1 (kr e2 (kr e3 rfl))]
  rfl
 exact db e
end
noncomputable def Qn (w:Wd):Nat:=w.2.count true
noncomputable def i5 (ws:List Wd) (k:Nat):List Nat:=(ws.filter λw=>Qn w==k).map (·.1)
theorem q5:∀l:List Bool,(l.map xv).count 98=l.count true∧(l.map xv).count 46=0
 | []=>⟨rfl,rfl⟩
 | true::l=>by
  obtain ⟨h1,h2⟩:=q5 l
  refine ⟨?_,?_⟩
  ·rw [List.map_cons,List.count_cons,List.count_cons,h1]; rfl
  ·rw [List.map_cons,List.count_cons,h2]; rfl
 | false::l=>by
  obtain ⟨h1,h2⟩:=q5 l
  refine ⟨?_,?_⟩
  ·rw [List.map_cons,List.count_cons,List.count_cons,h1]; rfl
  ·rw [List.map_cons,List.count_cons,h2]; rfl
theorem P2 (w:Wd):Txt.count ⟨⟨wT w⟩⟩ ⟨⟨[98]⟩⟩=(Qn w:Nat):=by
 rw [show (⟨⟨[98]⟩⟩:Str)=⟨#[98]⟩ from rfl,count_cnt,ku]
 unfold wT Qn
 rw [List.count_append,List.count_replicate,(q5 w.2).1]
 show ((0+w.2.count true:Nat):Int)=_
 rw [Nat.zero_add]
theorem O3 (w:Wd):Txt.count ⟨⟨wT w⟩⟩ ⟨⟨[46]⟩⟩=((w.1+1:Nat):Int):=by
 rw [show (⟨⟨[46]⟩⟩:Str)=⟨#[46]⟩ from rfl,count_cnt,ku]
 unfold wT
 rw [List.count_append,List.count_replicate,(q5 w.2).2]
 rfl
theorem Nz (a b:Nat):di .Eq (.int (a:Nat)) (.int (b:Nat))=some (a==b):=by
 show some ((a:Int)==(b:Int))=_
 congr 1
 rw [Bool.eq_iff_iff,beq_iff_eq,beq_iff_eq]
 exact Int.ofNat_inj
section
variable {v:Vs} {f:Bool} {n:Int} {wl:List PyData} {Q:List Nat} {rs:List (List Nat)} {k K M N:Nat} {ws:List Wd} {hp:List MO}
noncomputable def Q5:EF:=du (gb (aa 13)) ar (bx 35) (bq .Eq (am (Mine.meth1 .count (aa 35) (sC [98]))) (aa 6)) (dj (am (bf .Sub (am (Mine.meth1 .count (aa 35) (sC [46]))) (iC 1)))) [35]
theorem Of (h:v.words=some (.dat (j8 ws))) (h6:v.k=some (.dat (.int (k:Nat)))) (hl:ws.length≤100):Q5 ⟨v.loc,hp⟩=some (.dat (.list (ao (i5 ws k))),hp):=by
 have e:=my (λw=>sD (wT w)) (λloc=>∃a,loc=v.loc.set 35 a) (S:=gb (aa 13)) (T:=bx 35) (tests:=bq .Eq (am (Mine.meth1 .count (aa 35) (sC [98]))) (aa 6)) (F:=am (bf .Sub (am (Mine.meth1 .count (aa 35) (sC [46]))) (iC 1))) (t:=λw=>Qn w==k) (r:=λw=>.int (w.1:Nat)) (hp:=hp) (l:=ws) (loc:=v.loc) (ts:=[35]) (n:=ws.length+1)
  (N6 (cg rfl h)) (Nat.le_refl _) (λw hm loc ⟨a,hloc⟩=>by
   subst hloc
   refine ⟨_,⟨some (.dat (sD (wT w))),rfl⟩,rfl,?_,λ_=>?_⟩
   ·exact dk (fq (m:=.count) (F2:=sC [98]) (ag rfl rfl) rfl rfl (congrArg (λk=>some (PyData.int k)) (P2 w))) (fe (cg rfl h6)) rfl rfl (Nz _ _)
   ·exact a9 (op:=.Sub) (F2:=iC 1) (fq (m:=.count) (F2:=sC [46]) (ag rfl rfl) rfl rfl (congrArg (λk=>some (PyData.int k)) (O3 w))) rfl (by
     show some (PyData.int (((w.1+1:Nat):Int) - 1))=_
     rw [Int.natCast_add,Int.natCast_one,Int.add_sub_cancel])) ⟨none,rfl⟩ (Nat.le_trans hl (by decide))
 refine e.trans ?_
 unfold i5 ao
 rw [List.map_map]
 rfl
theorem Cv (hw:okW K M N ws) (hM:M≤50) (hN1:N≤100):(∀r∈i5 ws k,r≤50)∧(i5 ws k).length≤100:=by
 refine ⟨λr hr=>(List.mem_map.mp hr).elim λw q=>q.2▸Nat.le_trans (hw.w w (List.mem_filter.mp q.1).1).2 hM,?_⟩
 unfold i5
 rw [List.length_map]
 exact Nat.le_trans (List.length_filter_le ..) (Nat.le_trans hw.l hN1)
theorem c0 (h:v.words=some (.dat (j8 ws))) (h6:v.k=some (.dat (.int (k:Nat)))) (hw:okW K M N ws) (hM:M≤50) (hN1:N≤100) :
  X_law_16_0.1 ⟨v.loc,hR f n wl Q rs⟩=some (.next,⟨{ v with heard:=some (.obj (5+rs.length)) }.loc,hR f n wl Q (rs++[i5 ws k])⟩) :=
 db (jy (Of h h6 (Nat.le_trans hw.l hN1)) (Cv hw hM hN1).1 (Cv hw hM hN1).2)
theorem Qb {b:BM} {G:LF} {L:bg} {ps:List PV} {ds:List PyData} {d:PyData} (h:G ⟨L,hp⟩=some (ps,hp)) (h2:fz ps=some ds) (h3:b.f ds=some d):am (O5 b G) ⟨L,hp⟩=some (.dat d,hp):=by
 unfold am O5
 rw [h]
 dsimp only
 rw [h2]
 dsimp only
 rw [h3]
noncomputable def l9 (k:Nat):Nat:=min k (5 - k)
noncomputable def Pe:EF:=am (O5 .mn (ak (aa 6) (ak (am (bf .Sub (iC 5) (aa 6))) ba)))
theorem N0 (h6:v.k=some (.dat (.int (k:Nat)))) (hk:k < 6):Pe ⟨v.loc,hp⟩=some (.dat (.int (l9 k:Nat)),hp):=by
 have e1:am (bf .Sub (iC 5) (aa 6)) ⟨v.loc,hp⟩=some (.dat (.int ((5 - k:Nat):Int)),hp):=a9 (op:=.Sub) (F1:=iC 5) rfl (ag rfl h6) (by
  show some (PyData.int (5 - (k:Int)))=_
  rw [Int.natCast_sub (Nat.le_of_lt_succ hk)]; rfl)
 refine Qb (Jr (ag rfl h6) e1) rfl ?_
 show some (PyData.int (min (k:Int) ((5 - k:Nat):Int)))=_
 unfold l9
 congr 2
 lia
theorem c1 {a b:List Nat} {i:Nat} (h23:v.told=some (.objs true [5,6,7])) (h24:v.heard=some (.obj (5+i))) (h6:v.k=some (.dat (.int (k:Nat)))) (hk:k < 6) (hi:rs[i]?=some a) (hj:rs[l9 k]?=some b) (hab:(jv a []==jv b [])=true) :
  X_law_16_1.1 ⟨v.loc,hR f n wl Q rs⟩=some (.next,⟨v.loc,hR f n wl Q rs⟩):=by
 have e:=Jm (F:=aa 24) (G:=af (aa 23) λa=>af Pe λb=>y9 a b) (L:=v.loc) (f:=f) (n:=n) (wl:=wl) (Q:=Q) (ag rfl h24) (C0 (cg rfl h23) (N0 h6 hk) (by unfold l9; lia)) hi hi hj
 rw [hab] at e
 exact Bi (C:=bq .IsNot _ _) (dk (op:=.IsNot) e rfl rfl rfl rfl)
theorem K2 {N k:Nat} {d:PyData} (h:(i0 0 1 N)[k]?=some d):k < N∧d=.int (k:Nat):=by
 have hk:k < N:=by
  have:=(List.getElem?_eq_some_iff.mp h).1
  rwa [cr] at this
 exact ⟨hk,(jz _ _ _ _ h).trans (by rw [Int.mul_one,Int.zero_add])⟩
theorem Tt {r0 r1 r2:List Nat} (h13:v.words=some (.dat (j8 ws))) (h23:v.told=some (.objs true [5,6,7])) (hw:okW K M N ws) (hM:M≤50) (hN1:N≤100)
  (hq:∀k,k < 6->∃b,[r0,r1,r2][l9 k]?=some b∧(jv (i5 ws k) []==jv b [])=true) :
  ∃a c,X_law_16.1 ⟨v.loc,hR f n wl Q [r0,r1,r2]⟩=some (.next,⟨{ v with k:=a,heard:=c }.loc,hR f n wl Q ([r0,r1,r2]++(List.range 6).map (i5 ws))⟩):=by
 refine cps λ_ KK=>?_
 obtain ⟨σ',e,hI⟩:=jc (T:=bx 6) (B:=ah X_law_16_0.1 (ah X_law_16_1.1 aq)) (its:=i0 0 1 6) (λk σ=>∃a c,σ=⟨{ v with k:=a,heard:=c }.loc,hR f n wl Q ([r0,r1,r2]++(List.range k).map (i5 ws))⟩) (λk d σ hd ⟨a,c,hσ⟩=>by
  obtain ⟨hk,hdk⟩:=K2 hd
  obtain ⟨b,hb,hab⟩:=hq k hk
  let rs:=[r0,r1,r2]++(List.range k).map (i5 ws)
  let v1:Vs:={ v with k:=some (.dat (.int (k:Nat))),heard:=c }
  let v2:Vs:={ v1 with heard:=some (.obj (5+rs.length)) }
  have e0:X_law_16_0.1 ⟨v1.loc,hR f n wl Q rs⟩=some (.next,⟨v2.loc,hR f n wl Q (rs++[i5 ws k])⟩):=c0 (v:=v1) h13 rfl hw hM hN1
  have hmin:l9 k < 3:=by unfold l9; lia
  have e1:X_law_16_1.1 ⟨v2.loc,hR f n wl Q (rs++[i5 ws k])⟩=some (.next,⟨v2.loc,hR f n wl Q (rs++[i5 ws k])⟩):=c1 (v:=v2) (i:=rs.length) h23 rfl rfl hk (List.getElem?_concat_length ..) (by
   rw [List.append_assoc,List.getElem?_append_left (show l9 k < [r0,r1,r2].length from hmin)]
   exact hb) hab
  have hr:[r0,r1,r2]++(List.range (k+1)).map (i5 ws)=rs++[i5 ws k]:=by
   rw [List.range_succ,List.map_append,← List.append_assoc]; rfl
  refine ⟨v1.loc,⟨v2.loc,hR f n wl Q (rs++[i5 ws k])⟩,by rw [hσ,hdk]; rfl,?_,some (.dat (.int (k:Nat))),some (.obj (5+rs.length)),by rw [hr]⟩
  rw [hσ]
  exact (ae e0).trans <| (ae e1).trans rfl) (i0 0 1 6) 0 7 ⟨v.loc,hR f n wl Q [r0,r1,r2]⟩ rfl (Nat.lt_succ_self _) ⟨v.k,v.heard,rfl⟩
 obtain ⟨a,c,hI⟩:=hI
 refine KK ⟨a,c,?_⟩
 show de (ey (ak (iC 6) ba)) (λis n=>bw ar (bx 6) (ah X_law_16_0.1 (ah X_law_16_1.1 aq)) n is) _=_
 unfold de
 rw [lg (N:=6) (by decide) (show iC 6 ⟨v.loc,hR f n wl Q [r0,r1,r2]⟩=some (.dat (.int ((6:Nat):Int)),_) from rfl)]
 exact e.trans (congrArg (λσ=>some (Fl.next,σ)) hI)
end
noncomputable def rl (l:List Nat):List Int:=j7 (l.map λ(x:Nat)=>(x:Int))
theorem vi:∀l:List Nat,intsS (ao l)=some (l.map λ(x:Nat)=>(x:Int))
 | []=>rfl
 | x::l=>by
  show (intsS (ao l)).map ((x:Int)::·)=_
  rw [vi l]; rfl
theorem Ia {l:List Nat} (h:l.length < 64):o3 (.list (ao l))=some (.list ((rl l).map .int)):=by
 show (if (ao l).length < 64 then (intsS (ao l)).map λis=>PyData.list ((j7 is).map .int) else none)=_
 rw [cntP_len,if_pos h,vi]; rfl
theorem zd:∀a b:List Int,sk (a.map .int) (b.map .int)=(a==b)
 | [],[]=>rfl
 | [],_::_=>rfl
 | _::_,[]=>rfl
 | x::a,y::b=>by
  show ((x==y)&&sk (a.map .int) (b.map .int))=((x==y)&&(a==b))
  rw [zd a b]
theorem Lg (k:Nat) (l:List Int):(l.map PyData.int).all (uh k)=true:=by
 rw [List.all_map]
 exact List.all_eq_true.mpr λ_ _=>by cases k<;>rfl
theorem Lh (a b:List Int):di .Eq (.list (a.map .int)) (.list (b.map .int))=some (a==b):=by
 show (if ((a.map PyData.int).all (uh 2)||uh 3 (.list (b.map .int)))=true then some (sk (a.map .int) (b.map .int)) else none)=_
 rw [Lg,if_pos (by rfl),zd]
section
variable {v:Vs} {f:Bool} {n:Int} {wl:List PyData} {Q:List Nat} {rs:List (List Nat)}
theorem Ty {W V:List Nat} (h23:v.told=some (.objs true [5,6,7])) (h3:v.waits=some (.dat (.list (ao W)))) (h4:v.within=some (.dat (.list (ao V)))) (h1:rs[1]?=some W) (hV:∀r∈V,r≤50) (hWl:W.length < 64) (hVl:V.length < 64)
  (hq:((jv W []==jv V [])==(rl W==rl V))=true):X_law_17.1 ⟨v.loc,hR f n wl Q rs⟩=some (.ret (.dat (.bool true)),⟨v.loc,hR f n wl Q (rs++[V])⟩):=by
 have e1:ti (af (aa 23) λa=>af (iC 1) λb=>y9 a b) 180 "equal" (ak (cz (ak (aa 4) ba) bv) ba) k9 ⟨v.loc,hR f n wl Q rs⟩=some (.dat (.bool (jv W []==jv V [])),hR f n wl Q (rs++[V])) :=
  Jm (i:=1) (j:=rs.length) (C0 (k:=1) (cg rfl h23) rfl (by decide)) (jy (ag rfl h4) hV (Nat.le_trans (Nat.le_of_lt hVl) (by decide))) h1 (by rw [List.getElem?_append_left (List.getElem?_eq_some_iff.mp h1).1]; exact h1) (List.getElem?_concat_length ..)
 have e2:am (af (am (af (aa 3) (iw o3))) λa=>af (am (af (aa 4) (iw o3))) λb=>dw (λx y=>(di .Eq x y).map .bool) a b) ⟨v.loc,hR f n wl Q (rs++[V])⟩=some (.dat (.bool (rl W==rl V)),hR f n wl Q (rs++[V])) :=
  ks (op:=.Eq) (nl (ag rfl h3) (Ia hWl)) (nl (ag rfl h4) (Ia hVl)) (Lh _ _)
 exact tw (ks (op:=.Is) e1 e2 (show some ((jv W []==jv V [])==(rl W==rl V))=_ from congrArg some hq))
end
theorem y4:∀(N a:Nat),i0 a 1 N=(List.range' a N).map λ(x:Nat)=>PyData.int (x:Int)
 | 0,a=>rfl
 | N+1,a=>by
  show PyData.int (a:Int)::i0 ((a:Int)+1) 1 N=_
  rw [List.range'_succ,List.map_cons,← y4 N (a+1)]
  rfl
theorem B4 (N:Nat):i0 0 1 N=(List.range N).map λ(x:Nat)=>PyData.int (x:Int):=(y4 N 0).trans (by rw [List.range_eq_range'])
noncomputable def sf (W:List Nat) (j i:Nat):Nat:=(W[j]?).getD 0+(W[i]?).getD 0 - (if j≤i+(W[j]?).getD 0 then 1 else 0)
noncomputable def mf (W:List Nat):List Nat:=(List.range 5).flatMap λj=>(List.range j).map (sf W j)
section
variable {v:Vs} {hp:List MO} {W:List Nat} {i j:Nat}
noncomputable abbrev ia (v:Vs) (a b:Option PV):bg:=(v.loc.set 33 a).set 34 b
noncomputable def Jd:EF:=am (bf .Sub (am (bf .Add (Ab (aa 3) (aa 33)) (Ab (aa 3) (aa 34)))) (am (af (am (af (aa 34) λa=>af (am (bf .Sub (aa 33) (Ab (aa 3) (aa 33)))) λb=>dw (λx y=>(di .GtE x y).map .bool) a b)) (iw B1.int.f))))
noncomputable def I8:CF:=u0 (ey (ak (aa 33) ba)) λn is=>dp ar (bx 34) (λσ=>some (true,σ.hp)) (dj Jd) n is
theorem Fj {S:SF} {L:Nat->IS->CF} {loc:bg} {hp hp':List MO} {is:IS} {n:Nat} (h:S ⟨loc,hp⟩=some ((is,n),hp')):u0 S L ⟨loc,hp⟩=L n is ⟨loc,hp'⟩:=by
 unfold u0
 rw [h]
theorem T0:X_law_14.1=au (du (ey (ak (iC 5) ba)) ar (bx 33) (λσ=>some (true,σ.hp)) I8 [33,34]) (c9 22):=rfl
theorem Md (h3:v.waits=some (.dat (.list (ao W)))) (hl:W.length=5) (hj:j < 5) (hi:i < j):Jd ⟨ia v (some (.dat (.int (j:Nat)))) (some (.dat (.int (i:Nat)))),hp⟩=some (.dat (.int (sf W j i:Nat)),hp):=by
 have g:∀k,k < 5->W[k]?=some ((W[k]?).getD 0):=λk hk=>by rw [List.getElem?_eq_getElem (hl.symm▸hk)]; rfl
 have n3:aa 3 ⟨ia v (some (.dat (.int (j:Nat)))) (some (.dat (.int (i:Nat)))),hp⟩=some (.dat (.list (ao W)),hp):=fe (cg rfl h3)
 have nj:aa 33 ⟨ia v (some (.dat (.int (j:Nat)))) (some (.dat (.int (i:Nat)))),hp⟩=some (.dat (.int (j:Nat)),hp):=rfl
 have ni:aa 34 ⟨ia v (some (.dat (.int (j:Nat)))) (some (.dat (.int (i:Nat)))),hp⟩=some (.dat (.int (i:Nat)),hp):=rfl
 have aj:=ed n3 nj (fg (ma (g j hj)) (Nat.le_trans (Nat.le_of_lt hj) (by decide)))
 have ai:=ed n3 ni (fg (ma (g i (Nat.lt_trans hi hj))) (Nat.le_trans (Nat.le_of_lt (Nat.lt_trans hi hj)) (by decide)))
 generalize hA:(W[j]?).getD 0=A at *
 generalize hB:(W[i]?).getD 0=B at *
 refine a9 (op:=.Sub) (a:=.int (A+B:Nat)) (b:=.int ((if j≤i+A then 1 else 0:Nat):Int)) (a9 (op:=.Add) aj ai rfl) (nl (a:=.bool (decide (j≤i+A))) (ks (op:=.GtE) ni (a9 (op:=.Sub) nj aj rfl) ?_) ?_) ?_
 ·show some (decide ((j:Int) - (A:Int)≤(i:Int)))=_
  congr 1
  rw [decide_eq_decide]
  lia
 ·by_cases h:j≤i+A
  ·rw [if_pos h,decide_eq_true h]; rfl
  ·rw [if_neg h,decide_eq_false h]; rfl
 ·show some (PyData.int (((A+B:Nat):Int) - ((if j≤i+A then 1 else 0:Nat):Int)))=_
  unfold sf
  rw [hA,hB]
  by_cases h:j≤i+A
  ·rw [if_pos h]
   congr 2
   lia
  ·rw [if_neg h]
   congr 2
theorem L3 (h3:v.waits=some (.dat (.list (ao W)))) (hl:W.length=5) (hj:j < 5) (b:Option PV):∃b',I8 ⟨ia v (some (.dat (.int (j:Nat)))) b,hp⟩=some (((List.range j).map λi=>PyData.int (sf W j i:Nat)),⟨ia v (some (.dat (.int (j:Nat)))) b',hp⟩):=by
 refine cps λ_ KK=>?_
 obtain ⟨loc',⟨b',hb⟩,e⟩:=n4 (λi:Nat=>PyData.int (i:Int)) (λloc=>∃b,loc=ia v (some (.dat (.int (j:Nat)))) b) (T:=bx 34) (tests:=λσ=>some (true,σ.hp)) (inner:=dj Jd) (t:=λ_=>true) (ds:=λi=>[PyData.int (sf W j i:Nat)]) (hp:=hp) (List.range j) (λi hi loc ⟨b,hloc⟩=>by
  subst hloc
  refine ⟨ia v (some (.dat (.int (j:Nat)))) (some (.dat (.int (i:Nat)))),⟨some (.dat (.int (i:Nat))),rfl⟩,by show some (((v.loc.set 33 _).set 34 _).set 34 _)=_; rw [List.set_set],rfl,λ_=>⟨ia v (some (.dat (.int (j:Nat)))) (some (.dat (.int (i:Nat)))),⟨some (.dat (.int (i:Nat))),rfl⟩,?_⟩⟩
  unfold dj
  rw [Md h3 hl hj (List.mem_range.mp hi)]) (ia v (some (.dat (.int (j:Nat)))) b) (j+1) ⟨b,rfl⟩ (by rw [List.length_range]; exact Nat.lt_succ_self _)
 refine KK ⟨b',?_⟩
 rw [List.filter_eq_self.mpr (λ_ _=>rfl),← List.map_eq_flatMap,hb] at e
 have hs:=lg (N:=j) (hp:=hp) (loc:=ia v (some (.dat (.int (j:Nat)))) b) (F:=aa 33) (Nat.le_trans (Nat.le_of_lt hj) (by decide)) rfl
 rw [B4] at hs
 exact (Fj hs).trans e
theorem zo (W:List Nat):(mf W).length=10:=by
 unfold mf
 simp [List.range_succ]
theorem T5 (h3:v.waits=some (.dat (.list (ao W)))) (hl:W.length=5):X_law_14.1 ⟨v.loc,hp⟩=some (.next,⟨{ v with pairs:=some (.dat (.list (ao (mf W)))) }.loc,hp⟩):=by
 refine cps λ_ KK=>?_
 obtain ⟨loc',_,e⟩:=n4 (λi:Nat=>PyData.int (i:Int)) (λloc=>∃a b,loc=ia v a b) (T:=bx 33) (tests:=λσ=>some (true,σ.hp)) (inner:=I8) (t:=λ_=>true) (ds:=λj=>(List.range j).map λi=>PyData.int (sf W j i:Nat)) (hp:=hp) (List.range 5) (λj hj loc ⟨a,b,hloc⟩=>by
  subst hloc
  refine cps λ_ KK=>?_
  obtain ⟨b',e⟩:=L3 (hp:=hp) h3 hl (List.mem_range.mp hj) b
  exact KK ⟨ia v (some (.dat (.int (j:Nat)))) b,⟨_,_,rfl⟩,rfl,rfl,λ_=>⟨_,⟨_,_,rfl⟩,e⟩⟩) v.loc 6 ⟨none,none,rfl⟩ (by decide)
 refine KK ?_
 rw [List.filter_eq_self.mpr (λ_ _=>rfl)] at e
 have hc:(List.range 5).flatMap (λj=>(List.range j).map λi=>PyData.int (sf W j i:Nat))=ao (mf W):=by
  unfold mf ao
  rw [List.map_flatMap]
  simp only [List.map_map]
  rfl
 rw [hc] at e
 rw [T0]
 refine db ?_
 unfold du
 rw [lg (N:=5) (by decide) (show iC 5 ⟨v.loc,hp⟩=some (.dat (.int ((5:Nat):Int)),_) from rfl),B4]
 dsimp only
 rw [show jb [33,34] v.loc=v.loc from rfl,e]
 dsimp only
 rw [if_pos (by rw [cntP_len,zo]; decide)]
end
structure FS where
 W:List Nat
 V:List Nat
 Qs:List Nat
 Qf:List Nat
 ws:List Wd
 k:Nat
noncomputable def G6 (s:FS) (c:Nat):FS:=⟨s.W++[s.Qs.length],iu s.V s.Qs,(s.Qs++[s.k]).take (s.Qs.length+1 - c),(s.Qf++[s.k]).drop c,nh s.Qf s.ws,s.k+1⟩
noncomputable def ib (ns:List Nat):Nat->FS
 | 0=>⟨[],[0,0,0,0,0],[],[],[(0,[])],0⟩
 | k+1=>G6 (ib ns k) (dl (ib ns k).k ((ns[k]?).getD 0) ((ib ns k).Qs.length+1))
theorem zx (ns:List Nat):∀k,(ib ns k).k=k
 | 0=>rfl
 | k+1=>congrArg (·+1) (zx ns k)
theorem xj (ns:List Nat):∀k,(b6 ns k).W=(ib ns k).W∧(b6 ns k).V=(ib ns k).V∧(b6 ns k).Q=(ib ns k).Qs
 | 0=>⟨rfl,rfl,rfl⟩
 | k+1=>by
  obtain ⟨h1,h2,h3⟩:=xj ns k
  have hk:=zx ns k
  refine ⟨?_,?_,?_⟩
  ·show (b6 ns k).W++[(b6 ns k).Q.length]=(ib ns k).W++[(ib ns k).Qs.length]
   rw [h1,h3]
  ·show iu (b6 ns k).V (b6 ns k).Q=iu (ib ns k).V (ib ns k).Qs
   rw [h2,h3]
  ·show ((b6 ns k).Q++[k]).take (((b6 ns k).Q++[k]).length - dl k ((ns[k]?).getD 0) ((b6 ns k).Q++[k]).length)=((ib ns k).Qs++[(ib ns k).k]).take ((ib ns k).Qs.length+1 - dl (ib ns k).k ((ns[k]?).getD 0) ((ib ns k).Qs.length+1))
   rw [h3,hk,List.length_append,List.length_singleton]
theorem u1 (f:Nat->Nat):∀(c:Nat) (S:LSt),((List.range c).map λs=>(f s,false)).foldl fk S=⟨S.ws,S.b,S.Q.drop c⟩
 | 0,S=>rfl
 | c+1,S=>by
  rw [List.range_succ,List.map_append,List.foldl_append,u1 f c S]
  show LSt.mk S.ws S.b (S.Q.drop c).tail=_
  rw [List.tail_drop]
theorem xl (ns:List Nat):∀k,(gm ns k).foldl fk ⟨[(0,[])],0,[]⟩=⟨(ib ns k).ws,(ib ns k).k,(ib ns k).Qf⟩
 | 0=>rfl
 | k+1=>by
  have hk:=zx ns k
  unfold gm
  rw [List.foldl_append,List.foldl_append,xl ns k,(xj ns k).2.2]
  show ((List.range _).map λs=>(((ns[k]?).getD 0 / 360+s) % 6,false)).foldl fk ⟨nh (ib ns k).Qf (ib ns k).ws,(ib ns k).k+1,(ib ns k).Qf++[(ib ns k).k]⟩=_
  rw [u1 λs=>((ns[k]?).getD 0 / 360+s) % 6]
  show _=LSt.mk (nh (ib ns k).Qf (ib ns k).ws) ((ib ns k).k+1) (((ib ns k).Qf++[(ib ns k).k]).drop (dl (ib ns k).k ((ns[k]?).getD 0) ((ib ns k).Qs.length+1)))
  rw [hk]
theorem qr:∀x y,An (x++y)=An x+An y
 | [],y=>(Nat.zero_add _).symm
 | (_,true)::r,y=>by show An (r++y)+1=An r+1+An y; rw [qr r y,Nat.add_right_comm]
 | (_,false)::r,y=>qr r y
theorem y5 (f:Nat->Nat):∀l:List Nat,An (l.map λs=>(f s,false))=0
 | []=>rfl
 | _::l=>y5 f l
theorem xu (ns:List Nat):∀k,An (gm ns k)=k
 | 0=>rfl
 | k+1=>by
  unfold gm
  rw [qr,qr,xu ns k,y5 λs=>((ns[k]?).getD 0 / 360+s) % 6]
  rfl
theorem Bq (ps:List (Nat×Bool)):∀(S:LSt) (o:Nat),okL S->ue ps S.Q.length=some o->S.b+An ps≤5->okL (ps.foldl fk S):=by
 induction ps with
 | nil=>exact λS o h _ _=>h
 | cons x ps ih=>exact λS o h ho hb=>ih (fk S x) o (ru h hb).1 (zm ho) (ru h hb).2.1
theorem Pg:okL ⟨[(0,[])],0,[]⟩:=⟨⟨Nat.le_refl 1,λw hw=>by rw [List.mem_singleton.mp hw]; exact ⟨rfl,Nat.zero_le _⟩⟩,λ_ h=>ck h,Nat.le_refl 0⟩
section
variable {v:Vs} {P:Addr} {fl f:Bool} {wl:List PyData} {s:List Nat} {n:Int} {ns:List Nat}
theorem Tc (h8:v.lexer=some (.obj 3)) (h2:v.row=some (.dat (.list (aw (b6 ns 5).R)))) (h13:v.words=some (.dat (.list (aw [[46]])))) (h14:v.born=some (.dat (.int (0:Nat)))) (h15:v.many=some (.dat (.int (0:Nat)))) :
  ∃c1 c2 c3 c4 c5 c6 c7,X_law_13.1 ⟨v.loc,hQ P fl wl s f n []⟩=some (.next,⟨(qd v ⟨(ib ns 5).ws,5,(ib ns 5).Qf⟩ c1 c2 c3 c4 c5 c6 c7).loc,hQ P fl wl s f n (ib ns 5).Qf⟩):=by
 have hf:(gm ns 5).foldl fk ⟨[(0,[])],0,[]⟩=⟨(ib ns 5).ws,5,(ib ns 5).Qf⟩:=(xl ns 5).trans (by rw [zx])
 have hv:(qd v ⟨[(0,[])],0,[]⟩ v.piece v.verdict v.small v.great v.name v.place v.mail).loc=v.loc:=by
  have e1:(some (PV.dat (j8 [(0,[])])):Option PV)=v.words:=h13.symm
  have e2:(some (PV.dat (.int ((0:Nat):Int))):Option PV)=v.born:=h14.symm
  have e3:(some (PV.dat (.int ((([]:List Nat).length:Nat):Int))):Option PV)=v.many:=h15.symm
  unfold qd
  dsimp only
  rw [e1,e2,e3]
 have hl:(gm ns 5).length≤30:=by
  have:=(qx ns 5 (Nat.le_refl 5)).R
  rw [zs,List.length_map] at this
  exact this
 refine cps λ_ KK=>?_
 obtain ⟨c1,c2,c3,c4,c5,c6,c7,e⟩:=Op (v:=v) (P:=P) (fl:=fl) (wl:=wl) (s:=s) (f:=f) (n:=n) h8 (gm ns 5) ⟨[(0,[])],0,[]⟩ ((gm ns 5).length+1) v.piece v.verdict v.small v.great v.name v.place v.mail (w4 ns 5) Pg (qj ns 5) (by rw [xu]; exact Nat.le_refl 5) (Nat.lt_succ_self _)
 refine KK ⟨c1,c2,c3,c4,c5,c6,c7,?_⟩
 rw [hf,hv] at e
 show de (gb (aa 2)) (λis n=>bw ar (bx 16) Qo n is) _=_
 unfold de gb
 rw [ag rfl h2,zs]
 show bw ar (bx 16) Qo ((aw ((gm ns 5).map pc)).length+1) (.rem (aw ((gm ns 5).map pc))) ⟨v.loc,hQ P fl wl s f n []⟩=_
 rw [show (aw ((gm ns 5).map pc)).length=(gm ns 5).length by unfold aw; rw [List.length_map,List.length_map]]
 exact e
theorem P5 (ns:List Nat):okW 5 25 32 (ib ns 5).ws:=by
 have:=(Bq (gm ns 5) ⟨[(0,[])],0,[]⟩ _ Pg (qj ns 5) (by rw [xu]; exact Nat.le_refl 5)).w
 rw [xl,zx] at this
 exact this
end
noncomputable def Qz (s:FS):List Nat:=if s.k < 4 then List.range (s.Qs.length+2) else [s.Qs.length+1]
noncomputable def Me (P:FS->Bool):Nat->FS->Bool
 | 0,s=>P s
 | m+1,s=>(Qz s).all λc=>Me P m (G6 s c)
theorem Hw (s:FS) (n:Nat):dl s.k n (s.Qs.length+1)∈Qz s:=by
 unfold dl Qz
 by_cases h:s.k < 4
 ·rw [if_pos h,if_pos h]
  exact List.mem_range.mpr (Nat.mod_lt _ (Nat.succ_pos _))
 ·rw [if_neg h,if_neg h]
  exact List.mem_singleton.mpr rfl
theorem xk (P:FS->Bool) (ns:List Nat):∀(m k:Nat),m+k=5->Me P m (ib ns k)=true->P (ib ns 5)=true
 | 0,k,hk,h=>by
  have:k=5:=(Nat.zero_add k).symm.trans hk
  exact this▸h
 | m+1,k,hk,h=>xk P ns m (k+1) (by rw [← hk,Nat.add_right_comm,Nat.add_assoc]) (List.all_eq_true.mp h _ (Hw (ib ns k) ((ns[k]?).getD 0)))
noncomputable def S9 (a b:List Nat):Bool:=jv a []==jv b []
noncomputable def Qe (s:FS):Bool :=
 (List.range 6).all λk=>S9 (i5 s.ws k) (([[0],s.W,mf s.W][l9 k]?).getD [])
noncomputable def N8 (s:FS):Bool :=
 (S9 s.W s.V==(rl s.W==rl s.V))&&(s.W.all λr=>Nat.ble r 50)&&(s.V.all λr=>Nat.ble r 50)&&((mf s.W).all λr=>Nat.ble r 50)&&(Nat.beq s.W.length 5)&&(Nat.beq s.V.length 5)
theorem Ig:Me N8 5 ⟨[],[0,0,0,0,0],[],[],[(0,[])],0⟩=true:=by decide +kernel
theorem Hk:Me Qe 5 ⟨[],[0,0,0,0,0],[],[],[(0,[])],0⟩=true:=by decide +kernel
structure Ot (s:FS):Prop where
 q:∀k,k < 6->∃b,[[0],s.W,mf s.W][l9 k]?=some b∧(jv (i5 s.ws k) []==jv b [])=true
 e:((jv s.W []==jv s.V [])==(rl s.W==rl s.V))=true
 W:∀r∈s.W,r≤50
 V:∀r∈s.V,r≤50
 p:∀r∈mf s.W,r≤50
 Wl:s.W.length=5
 Vl:s.V.length=5
theorem Hz {l:List Nat} (h:(l.all λr=>Nat.ble r 50)=true):∀r∈l,r≤50:=λr hr=>Nat.le_of_ble_eq_true (List.all_eq_true.mp h r hr)
theorem Hj (ns:List Nat):Ot (ib ns 5):=by
 have h1:=xk Qe ns 5 0 rfl Hk
 have h2:=xk N8 ns 5 0 rfl Ig
 unfold N8 at h2
 obtain ⟨h2,a6⟩:=Bool.and_eq_true_iff.mp h2
 obtain ⟨h2,a5⟩:=Bool.and_eq_true_iff.mp h2
 obtain ⟨h2,a4⟩:=Bool.and_eq_true_iff.mp h2
 obtain ⟨h2,a3⟩:=Bool.and_eq_true_iff.mp h2
 obtain ⟨a1,a2⟩:=Bool.and_eq_true_iff.mp h2
 refine ⟨λk hk=>?_,a1,Hz a2,Hz a3,Hz a4,Nat.eq_of_beq_eq_true a5,Nat.eq_of_beq_eq_true a6⟩
 have h3:=List.all_eq_true.mp h1 k (List.mem_range.mpr hk)
 have hm:l9 k < 3:=by unfold l9; lia
 have hg:[[0],(ib ns 5).W,mf (ib ns 5).W][l9 k]?=some (([[0],(ib ns 5).W,mf (ib ns 5).W][l9 k]?).getD []):=by
  match l9 k,hm with
  | 0,_ | 1,_ | 2,_=>rfl
 exact ⟨_,hg,h3⟩
noncomputable def BL:XF:=ah X_law_0.1 (ah X_law_1.1 (ah X_law_2.1 (ah X_law_3.1 (ah X_law_4.1 (ah X_law_5.1 (ah X_law_6.1 (ah X_law_7.1 (ah X_law_8.1 (ah X_law_9.1 (ah X_law_10.1 (ah X_law_11.1 (ah X_law_12.1 (ah X_law_13.1 (ah X_law_14.1 (ah X_law_15.1 (ah X_law_16.1 (ah X_law_17.1 aq)))))))))))))))))
theorem BL_eq:F_law=kq 1 35 false BL:=rfl
theorem Jv {v:Vs} {wl:List PyData} {f:Bool} {n:Int} {ns:List Nat} (h8:v.lexer=some (.obj 3)) (h2:v.row=some (.dat (.list (aw (b6 ns 5).R)))) (h3:v.waits=some (.dat (.list (ao (b6 ns 5).W)))) (h4:v.within=some (.dat (.list (ao (b6 ns 5).V))))
  (h13:v.words=some (.dat (.list (aw [[46]])))) (h14:v.born=some (.dat (.int (0:Nat)))) (h15:v.many=some (.dat (.int (0:Nat)))) :
  ∃L hp',ah X_law_13.1 (ah X_law_14.1 (ah X_law_15.1 (ah X_law_16.1 (ah X_law_17.1 aq)))) ⟨v.loc,hQ 186 false wl [] f n []⟩=some (.ret (.dat (.bool true)),⟨L,.tab 186 false::.lst wl::hp'⟩):=by
 have hF:=Hj ns
 obtain ⟨r1,r2,_⟩:=xj ns 5
 rw [r1] at h3
 rw [r2] at h4
 have hw:=P5 ns
 obtain ⟨c1,c2,c3,c4,c5,c6,c7,e13⟩:=Tc (v:=v) (P:=186) (fl:=false) (wl:=wl) (s:=[]) (f:=f) (n:=n) h8 h2 h13 h14 h15
 generalize ib ns 5=s at *
 let Q:=s.Qf
 let v1:=qd v ⟨s.ws,5,s.Qf⟩ c1 c2 c3 c4 c5 c6 c7
 let v2:Vs:={ v1 with pairs:=some (.dat (.list (ao (mf s.W)))) }
 let v3:Vs:={ v2 with told:=some (.objs true [5,6,7]) }
 replace e13:X_law_13.1 ⟨v.loc,hQ 186 false wl [] f n []⟩=some (.next,⟨v1.loc,hR f n wl Q []⟩):=e13
 have e14:X_law_14.1 ⟨v1.loc,hR f n wl Q []⟩=some (.next,⟨v2.loc,hR f n wl Q []⟩):=T5 (v:=v1) h3 hF.Wl
 have e15:X_law_15.1 ⟨v2.loc,hR f n wl Q []⟩=some (.next,⟨v3.loc,hR f n wl Q [[0],s.W,mf s.W]⟩):=Tp (v:=v2) h3 rfl hF.W hF.p (by rw [hF.Wl]; decide) (by rw [zo]; decide)
 obtain ⟨a,c,e16⟩:=Tt (v:=v3) (f:=f) (n:=n) (wl:=wl) (Q:=Q) (ws:=s.ws) rfl rfl hw (by decide) (by decide) hF.q
 let v4:Vs:={ v3 with k:=a,heard:=c }
 have e17:=Ty (v:=v4) (f:=f) (n:=n) (wl:=wl) (Q:=Q) (rs:=[[0],s.W,mf s.W]++(List.range 6).map (i5 s.ws)) rfl h3 h4 rfl hF.V (by rw [hF.Wl]; decide) (by rw [hF.Vl]; decide) hF.e
 refine ⟨v4.loc,(hR f n wl Q ([[0],s.W,mf s.W]++(List.range 6).map (i5 s.ws)++[s.V])).tail.tail,?_⟩
 exact (ae e13).trans <| (ae e14).trans <| (ae e15).trans <| (ae e16).trans <| dq e17
theorem Kh (script:List Int) (hs:script.length≤63):∃L hp',BL ⟨Vs.loc { script:=some (.dat (.list (script.map .int))) },[.tab 186 true]⟩=some (.ret (.dat (.bool true)),⟨L,.tab 186 false::hp'⟩):=by
 obtain ⟨ns,hns⟩:∃ns,ns=P6 script:=⟨_,rfl⟩
 have hl:ns.length=5:=hns.symm▸rfl
 let wl:=ao ns
 let H1:List MO:=[.tab 186 true,.lst wl]
 let v0:Vs:={ script:=some (.dat (.list (script.map .int))) }
 let v1:Vs:={ v0 with numbers:=some (.obj 1) }
 let v2:Vs:={ v1 with row:=some (.dat (.list (aw (b6 ns 5).R))),waits:=some (.dat (.list (ao (b6 ns 5).W))),within:=some (.dat (.list (ao (b6 ns 5).V))) }
 let v3:Vs:={ v2 with text:=some (.dat (sD [])) }
 have e0:X_law_0.1 ⟨v0.loc,[.tab 186 true]⟩=some (.next,⟨v1.loc,H1⟩):=by
  have:=s0 (v:=v0) (hp:=[.tab 186 true]) rfl hs
  rw [Mg,← hns] at this
  exact this
 have e1:X_law_1.1 ⟨v1.loc,H1⟩=some (.next,⟨v2.loc,H1⟩):=s1 (v:=v1) rfl hl
 have e2:X_law_2.1 ⟨v2.loc,H1⟩=some (.next,⟨v3.loc,H1⟩):=s2 (v:=v2)
 refine cps λ_ KK=>?_
 obtain ⟨c1,c2,e3⟩:=s3 (v:=v3) (hp:=H1) (ns:=ns) rfl rfl hl rfl
 obtain ⟨A,hA⟩:∃A,A=Ky ns:=⟨_,rfl⟩
 obtain ⟨B,hBd⟩:∃B,B=Mj ns:=⟨_,rfl⟩
 refine KK ?_
 have hB:∀k,B k < 4:=λk=>hBd.symm▸Nat.mod_lt _ (by decide)
 replace e3:=hBd.symm▸hA.symm▸e3
 let v4:Vs:={ v3 with k:=c1,name:=c2,text:=some (.dat (sD (kc A B 5))) }
 let v5:Vs:={ v4 with text:=some (.dat (sD (kl A B))) }
 let v6:Vs:={ v5 with lexer:=some (.obj 3) }
 have htl:(kl A B).length≤100:=by rw [sg]; exact Nat.le_trans (kv A B 4 0) (by decide)
 have e4:X_law_4.1 ⟨v4.loc,H1⟩=some (.next,⟨v5.loc,H1⟩):=s4 (v:=v4) rfl
 have e5:X_law_5.1 ⟨v5.loc,H1⟩=some (.next,⟨v6.loc,hN 186 false wl (kl A B) false 1 []⟩):=s5 (v:=v5) rfl (by unfold lim; (exact Nat.le_trans (by assumption) (by decide)))
 refine cps λ_ KK=>?_
 obtain ⟨f1,n1,g1,z1⟩:=mw (P:=186) (fl:=false) (wl:=wl) (s:=kl A B) (f:=false) (n:=1) (by unfold lim; lia)
 have hg:q7 (kl A B)=([97],some (if A 0=0 then E9 (B 0)::gp A B 3 1 else gp A B 3 1)):=by
  rw [sg]
  exact Ca (by decide) (Ce _ (hB 0)) (m8 A B 3 1)
 obtain ⟨r,hr⟩:∃r,r=(if A 0=0 then E9 (B 0)::gp A B 3 1 else gp A B 3 1):=⟨_,rfl⟩
 refine KK ?_
 replace hg:=hr.symm▸hg
 rw [hg] at g1 z1
 dsimp only [Option.getD] at g1 z1
 let d:PyData:=sD [97]
 let pb:List PyData:=[sD [],d,d,sD []]
 let v7:Vs:={ v6 with early:=some (.dat d) }
 have e6:X_law_6.1 ⟨v6.loc,hN 186 false wl (kl A B) false 1 []⟩=some (.next,⟨v7.loc,hN 186 false wl r f1 n1 []⟩):=s6 (v:=v6) rfl ky g1
 refine cps λ_ KK=>?_
 obtain ⟨a1,e7⟩:=s7 (v:=v7) (P:=186) (fl:=false) (wl:=wl) (s:=r) (f:=f1) (n:=n1) (d:=d) rfl rfl
 let v8:Vs:={ v7 with token:=a1 }
 obtain ⟨f2,n2,G,z2⟩:=vc (A:=A) (B:=B) (P:=186) (fl:=false) (wl:=wl) hB 3 1 r f1 n1 rfl (by
  refine hr.symm▸?_
  split
  ·exact Ft (Ce _ (hB 0)) (m8 A B 3 1)
  ·rfl) (by
  have:=kv A B 3 1
  refine hr.symm▸?_
  split<;>(try simp)<;>lia)
 refine KK ?_
 let v9:Vs:={ v8 with tokens:=some (.dat Fg) }
 have e8:X_law_8.1 ⟨v8.loc,hN 186 false wl r f1 n1 pb⟩=some (.next,⟨v9.loc,hN 186 false wl [] f2 n2 []⟩):=s8 (v:=v8) (ts:=pb++Bx 3 1) rfl rfl (Gets.append (xi pb (rest:=[]) (by decide)) G)
 have e9:X_law_9.1 ⟨v9.loc,hN 186 false wl [] f2 n2 []⟩=some (.next,⟨v9.loc,hN 186 false wl [] f2 n2 []⟩):=s9 (v:=v9) (t:=kl A B) rfl rfl rfl (by lia)
 refine cps λ_ KK=>?_
 obtain ⟨xs,i,hx,hi,h6,hb,hxl⟩:=Iz ns
 refine KK ?_
 have hrow:v9.row=some (.dat (.list (aw ((xs++[(i,false)]).map pc)))):=by
  rw [← hx,← zs]
 let v10:Vs:={ v9 with front:=some (.dat (sD (o5 xs i))) }
 let v11:Vs:={ v10 with words:=some (.dat (.list (aw [[46]]))),born:=some (.dat (.int (0:Nat))),many:=some (.dat (.int (0:Nat))) }
 let H2:=hN 186 false wl [] f2 n2 []
 have e10:X_law_10.1 ⟨v9.loc,H2⟩=some (.next,⟨v10.loc,H2⟩):=Tm (v:=v9) hrow h6 hi hxl
 have e11:X_law_11.1 ⟨v10.loc,H2⟩=some (.next,⟨v10.loc,H2⟩):=To (v:=v10) rfl h6 hi hxl hb
 have e12:X_law_12.1 ⟨v10.loc,H2⟩=some (.next,⟨v11.loc,H2⟩):=Th (v:=v10)
 obtain ⟨L,hp',e⟩:=Jv (v:=v11) (wl:=wl) (f:=f2) (n:=n2) (ns:=ns) rfl rfl rfl rfl rfl rfl rfl
 refine ⟨L,.lst wl::hp',?_⟩
 exact (ae e0).trans <| (ae e1).trans <| (ae e2).trans <| (ae e3).trans <| (ae e4).trans <| (ae e5).trans <| (ae e6).trans <| (ae e7).trans <| (ae e8).trans <| (ae e9).trans <| (ae e10).trans <| (ae e11).trans <| (ae e12).trans e
theorem law_true (script:List Int) (hs:script.length≤63):F_law [.dat (.list (script.map .int))] [.tab 186 true]=some (.dat (.bool true),[.tab 186 false]):=by
 obtain ⟨L,hp',e⟩:=Kh script hs
 refine BL_eq.symm▸?_
 skip
 show (match BL ⟨Vs.loc { script:=some (.dat (.list (script.map .int))) },[.tab 186 true]⟩ with
  | some (.ret pv,σ)=>if false=true then some (pv,σ.hp) else trunc 1 pv σ.hp
  | some (.next,σ)=>if false=true then some (.dat .none,σ.hp) else trunc 1 (.dat .none) σ.hp
  | _=>none)=_
 refine e.symm▸?_
 rfl
end Mine
end
theorem PySem.Challenge.cw_uc0022_02_holds : PySem.Challenge.rw_uc0022_02.Holds :=
  Mine.head2 ⟨Mine.F_law, fun T => (Mine.ok_law T).ok, Mine.law_true⟩
