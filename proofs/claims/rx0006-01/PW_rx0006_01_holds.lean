import PyProof.Rows.All
import Wide.All
import OpenK.AllK
import Wide.FinOn
import KE.BytesMake
import PySem.Table
import Open.Line
import PySem.Challenge.RW_rx0006_01
open PySem
set_option Elab.async false
set_option maxRecDepth 100000
set_option maxHeartbeats 80000000
set_option backward.match.sparseCases false
set_option genSizeOf false
set_option genInjectivity false
set_option linter.all false
set_option tactic.hygienic false
noncomputable section
namespace Internal
theorem aj{α β:Type}{M:Model}{A:Around}{E:Value->Shared->Prop}{s:Shared}{m:Sem α}{f:α->Sem β}{Q:β->Shared->Prop}(h:wpAny M A m (λa s'=>wpAny M A (f a) Q E s') E s):wpAny M A (m>>=f) Q E s:=PySem.wpAny_bind h
theorem aC{α:Type}{M:Model}{A:Around}{E:Value->Shared->Prop}{s:Shared}{a:α}{Q:α->Shared->Prop}(h:Q a s):wpAny M A (pure a) Q E s:=PySem.wpAny_pure h
theorem aX{h:Heap}{a:Addr}{o':Obj}(o:Obj)(e:h.get? a=some o'):(h.push o).get? a=some o':=PySem.Heap.get?_push_of_some o e
theorem bz(h:Heap){o:Obj}(e:o.isFreed=false):(h.push o).get? h.objs.size=some o:=PySem.Heap.get?_push_size h e
theorem aA{n m k:Nat}(h:n<=m)(g:m<=k):n<=k:=_root_.Nat.le_trans h g
theorem aV{α:Type u}{β:Type v}{as:List α}(f:α->β):(as.map f).length=as.length:=_root_.List.length_map f
theorem af{α:Sort u}{a b:α}(h:a=b):b=a:=h.symm
end Internal
namespace Internal
open PyProof.Rows PySem.W
noncomputable abbrev PW:Program:=PySem.Challenge.pw_rx0006_01
namespace SR
noncomputable def code:Array Nat:= #[14,14,4,1,1,9,0,64,0,1342177280,0,0,0,0,0,17,0,13,11,9,0,64,0,1342177280,0,0,0,0,0,17,1,1]
end SR
abbrev zD:=FuncBody×Arguments×Scope×Addr×List (Str×Addr)×Value×Value×Str×Addr
noncomputable def FD:Data->Option FuncData
 | .func fd=>some fd
 |_=>none
noncomputable def FE:Data->Option (Array Value)
 | .fields vs=>some vs
 |_=>none
noncomputable def Cm:Value->Option Str
 | .str q _=>some q
 |_=>none
def ir(h:Heap)(a:Addr):Option zD:=(h.get? a).bind λo=>(FD o.data).map λfd=>(fd.body,fd.params,fd.scope,fd.globals,fd.closure,fd.defaults,fd.code,fd.qualname,fd.builtins)
noncomputable def iq(p:Program)(x:Str)(df:Value)(cd:Addr):Option zD:=(p.theDef x).map λd=>(.stmts d.2.1,d.1,d.2.2,mainGlobals,[],df,.ref cd,x,builtinsNs)
def ix(h:Heap)(c:Addr):Option Str:=(h.get? c).bind λo=>(FE o.data).bind λvs=>(vs[1]?).bind Cm
noncomputable def fnL:List (Str×Nat×Nat×Value):=[(Str.ofString "reduce",40,39,.ref 33),
 (Str.ofString "translate",52,51,.none),
 (Str.ofString "escape",64,63,.none),
 (Str.ofString "_translate",71,70,.none),
 (Str.ofString "_join_translated_parts",78,77,.none),
 (Str.ofString "_byteswap",85,84,.none),
 (Str.ofString "_law_set",90,89,.none),
 (Str.ofString "_law_item",95,94,.none),
 (Str.ofString "_law_pattern",100,99,.none),
 (Str.ofString "_law_sign",107,106,.none),
 (Str.ofString "_law_judge",114,113,.none),
 (Str.ofString "_law_read",121,120,.none),
 (Str.ofString "_law_fits",126,125,.none),
 (Str.ofString "_law_table",131,130,.none),
 (Str.ofString "_law_told",136,135,.none),
 (Str.ofString "_law_moved",143,142,.none),
 (Str.ofString "law",148,147,.none)]
noncomputable def mgN:List (Str×Option Value):=[(Str.ofString "reduce",some (Value.ref 40)),(Str.ofString "translate",some (Value.ref 52)),(Str.ofString "escape",some (Value.ref 64)),(Str.ofString "_translate",some (Value.ref 71)),(Str.ofString "_join_translated_parts",some (Value.ref 78)),(Str.ofString "_byteswap",some (Value.ref 85)),(Str.ofString "_law_set",some (Value.ref 90)),(Str.ofString "_law_item",some (Value.ref 95)),(Str.ofString "_law_pattern",some (Value.ref 100)),(Str.ofString "_law_sign",some (Value.ref 107)),(Str.ofString "_law_judge",some (Value.ref 114)),(Str.ofString "_law_read",some (Value.ref 121)),(Str.ofString "_law_fits",some (Value.ref 126)),(Str.ofString "_law_table",some (Value.ref 131)),(Str.ofString "_law_told",some (Value.ref 136)),(Str.ofString "_law_moved",some (Value.ref 143)),(Str.ofString "law",some (Value.ref 148)),(Str.ofString "_initial_missing",some (Value.ref 32)),(Str.ofString "_twin_re_1",some (Value.ref 45)),(Str.ofString "_special_chars_map",some (Value.ref 54)),(Str.ofString "len",none),(Str.ofString "ord",none),(Str.ofString "chr",none),(Str.ofString "sum",none),(Str.ofString "sorted",none),(Str.ofString "int",none),(Str.ofString "bytes",none),(Str.ofString "range",none),(Str.ofString "enumerate",none),(Str.ofString "zip",none),(Str.ofString "bytearray",none),(Str.ofString "iter",none),(Str.ofString "object",none),(Str.ofString "isinstance",none),(Str.ofString "str",none)]
noncomputable def escO:Obj:={cls:=.type "dict",data:=.dict #[{hash:=40,key:=.int 40 349,val:=.str (Str.ofString "\\(") 353},
 {hash:=41,key:=.int 41 355,val:=.str (Str.ofString "\\)") 359},
 {hash:=91,key:=.int 91 361,val:=.str (Str.ofString "\\[") 365},
 {hash:=93,key:=.int 93 367,val:=.str (Str.ofString "\\]") 371},
 {hash:=123,key:=.int 123 373,val:=.str (Str.ofString "\\{") 377},
 {hash:=125,key:=.int 125 379,val:=.str (Str.ofString "\\}") 383},
 {hash:=63,key:=.int 63 385,val:=.str (Str.ofString "\\?") 389},
 {hash:=42,key:=.int 42 391,val:=.str (Str.ofString "\\*") 395},
 {hash:=43,key:=.int 43 397,val:=.str (Str.ofString "\\+") 401},
 {hash:=45,key:=.int 45 403,val:=.str (Str.ofString "\\-") 407},
 {hash:=124,key:=.int 124 409,val:=.str (Str.ofString "\\|") 413},
 {hash:=94,key:=.int 94 415,val:=.str (Str.ofString "\\^") 419},
 {hash:=36,key:=.int 36 421,val:=.str (Str.ofString "\\$") 425},
 {hash:=92,key:=.int 92 427,val:=.str (Str.ofString "\\\\") 431},
 {hash:=46,key:=.int 46 433,val:=.str (Str.ofString "\\.") 437},
 {hash:=38,key:=.int 38 439,val:=.str (Str.ofString "\\&") 443},
 {hash:=126,key:=.int 126 445,val:=.str (Str.ofString "\\~") 449},
 {hash:=35,key:=.int 35 451,val:=.str (Str.ofString "\\#") 455},
 {hash:=32,key:=.int 32 457,val:=.str (Str.ofString "\\ ") 461},
 {hash:=9,key:=.int 9 463,val:=.str (Str.ofString "\\\t") 467},
 {hash:=10,key:=.int 10 469,val:=.str (Str.ofString "\\\n") 473},
 {hash:=13,key:=.int 13 475,val:=.str (Str.ofString "\\\x0d") 479},
 {hash:=11,key:=.int 11 481,val:=.str (Str.ofString "\\\x0b") 485},
 {hash:=12,key:=.int 12 487,val:=.str (Str.ofString "\\\x0c") 491}] 24}
noncomputable def C1:Obj:={cls:=.type "re.Pattern",data:=.fields #[.str (Str.ofString "([&~|])") 300,.int 32 335,.int 1 0,.none,.none,.ref 44,.int 0 0]}
noncomputable def qZ:Obj:={cls:=.type "code",data:=.fields #[.str (Str.ofString "_translate") 503,.str (Str.ofString "_translate") 504,.str (Str.ofString "/claim/cut.py") 505,.int 31 0,.int 3 0,.int 0 0,.int 0 0,.int 3 0,.ref 65,.bool true,.int 276 0,.ref 66,.none,.ref 67,.ref 68,.ref 69,.int 519 0,.int 31 0,.str (Str.ofString "/claim/cut.py") 520]}
def obL:List (Addr×Obj):=[(33,{cls:=.type "tuple",data:=.seq #[.ref 32]}),(44,{cls:=.type "tuple",data:=.seq (SR.code.map λ(n:Nat)=>Value.int (n:Int) 0)}),(45,C1),(54,escO),(66,W.tabObj #[]),(70,qZ)]
abbrev FM:=Bool×List (Option zD)×List (Option Str)×List (Option Value)×List (Option Obj)
def m7(s:Shared):FM:=(decide (1<=s.toks),fnL.map (λq=>ir s.heap q.2.1),fnL.map (λq=>ix s.heap q.2.2.1),mgN.map (λq=>s.heap.nsMap mainGlobals q.1),obL.map (λq=>s.heap.get? q.1))
def mP(_:World):FM:=(true,fnL.map (λq=>iq PW q.1 q.2.2.2 q.2.2.1),fnL.map (λq=>some q.1),mgN.map (·.2),obL.map (λq=>some q.2))
def vw:Program:={PW with main:={PW.main with body:=[0,2,5,6,8,9,11,12,14,16,17,18,19,20,21,22,23,24,25,26].filterMap (PW.main.body[·]?)}}
noncomputable abbrev lo:List Str:=[Str.ofString "_initial_missing",Str.ofString "reduce",Str.ofString "_twin_re_1",Str.ofString "_special_chars_map"]
abbrev xt(s:Shared):Bool:=xlAt vw [] s&&recOk [] s
section
variable(P:Params)(u:Nat->Obj)
noncomputable def fM(k:Str)(t:Tok)(v:Value):DictEntry:={hash:=PyData.keyHash P k,key:=.str k t,val:=v}
noncomputable def D6(o:Obj)(es:List DictEntry):Obj:=match o.data with
 | .dict a n=>{o with data:=.dict ⟨a.toList++es⟩ (n+es.length)}
 |_=>o
noncomputable def Hi(o:Obj):List DictEntry:=match o.data with
 | .dict a _=>a.toList.drop 6
 |_=>[]
def FC:List Obj:=[boot_o_0 P,D6 (boot_o_1 P) [fM P "_sre" 244 (.ref 12)],
 D6 (boot_o_2 P) [fM P ⟨#[105,109,112,111,114,116,46,108,111,97,100,101,100,46,95,115,114,101]⟩ 183 (.bool true),fM P "class._frozen_importlib.BuiltinImporter" 185 (.ref 14),fM P ⟨#[119,97,116,99,104,101,100,46,105,109,112,111,114,116]⟩ 206 (.ref 18),fM P "class._frozen_importlib.ModuleSpec" 216 (.ref 22),
  fM P "sys.modules.booked-epoch" 245 (.int 3 0),fM P ⟨#[105,109,112,111,114,116,46,108,97,116,101,114,45,108,97,105,100,46,95,115,114,101]⟩ 270 (.bool true),fM P "watched.library" 272 (.ref 27),fM P "watched.library-objects" 0 (.str "\x0c" 0),
  fM P "watched.library-deep._sre" 273 (.str "\x04\x00\x00\x0b\x04\x00\x00\x0b\x04\x00\x00\x03\x04\x00\x00\x0b\x08\x04dict\x02" 0)],
 D6 (boot_o_3 P) [fM P "_sre" 275 (.ref 12)],boot_o_4 P,boot_o_5 P,boot_o_6 P,boot_o_7 P,boot_o_8 P,boot_o_9 P,boot_o_10 P,
 {cls:=.type "dict",data:=.dict ⟨[fM P "__name__" 247 (.str "_sre" 246),fM P "__doc__" 248 .none,fM P "__package__" 250 (.str "" 249),
 fM P "__loader__" 251 (.builtin "off-the-table:_sre.__loader__:shared#opaque"),fM P "__spec__" 252 (.builtin "off-the-table:_sre.__spec__:shared#opaque"),fM P "compile" 253 (.builtin "_sre.compile")]++Hi (u 11)⟩ 17},{cls:=.type "module",dict:=some 11},u 13,u 14,u 15,u 16,u 17,u 18,u 19,u 20,u 21,u 22,u 23,u 24,u 25,u 26,u 27]
end
noncomputable def Fw(s:Shared)(i:Nat):Obj:=(s.heap.objs[i]?).getD default
def Aq(w:World):Shared:=(fencedOpening treeTable PW w 3982).getD (start (opening PW)).1
noncomputable def kX(tb:String->Option Builtin)(p:Program)(w:World)(n₀:Nat)(ann:Option Value)(n:Nat):SharedT->Thread->Option SharedT:=
 Nat.rec (λU U=>none) (λU f s t=>cond (through t) (some s) (cond (stepOk n₀ ann t) ((stepT (denote tb) p w s t).bind λq=>f q.1 q.2) none)) n
noncomputable def sd:List Obj->Nat->BT->BT
 |[],_,t=>t
 |o::r,n,t=>sd r (n+1) (t.ins n o)
theorem Gu{s r:SharedT}{b c:Bool}{X:Option Shared}{Y:Option SharedT}(k:Y=some r->X=some r.abs)(h:cond b (some s) (cond c Y none)=some r):
 @Bool.rec (λU=>Option Shared) (@Bool.rec (λU=>Option Shared) none X c) (some s.abs) b=some r.abs:=by
 cases b with
 |true=>exact congrArg (Option.map SharedT.abs) h
 |false=>
  cases c with
  |true=>exact k h
  |false=>exact(Option.some_ne_none _ h.symm).elim
theorem pb{p:Program}{w:World}{n₀:Nat}{ann:Option Value}{r:SharedT}(n:Nat):∀{s t},kX tb p w n₀ ann n s t=some r->topRun tb p w n₀ ann n s.abs t=some r.abs:=by
 induction n with
 |zero=>exact λh=>(Option.some_ne_none _ h.symm).elim
 |succ n ih=>
  refine λ{s t} h=>Eq.trans (b:= @Bool.rec (λU=>Option Shared) (@Bool.rec (λU=>Option Shared) none (@Step.rec (λU=>Option Shared) (topRun tb p w n₀ ann n) (λU U=>none) (step (denote tb) p w s.abs t)) (stepOk n₀ ann t)) (some s.abs) (through t)) (by kernel_rfl) (Gu (λh=>?_) h)
  refine(Option.bind_eq_some_iff.mp h).elim λq h=>?_
  rw[stepT_spec (s':=q.1) (t':=q.2) h.1]
  exact ih h.2
def sk(P:Params)(u:Nat->Obj)(os:OsState):Shared:=⟨⟨⟨FC P u⟩,{}⟩,#[],{},276,os⟩
def Fv(P:Params)(u:Nat->Obj)(os:OsState):SharedT:=⟨sd (FC P u) 0 .nil,28,{},#[],{},276,os⟩
theorem Be(P:Params)(u:Nat->Obj)(os:OsState):(Fv P u os).abs=sk P u os:=by kernel_rfl
theorem opQ(w:World):fencedOpening treeTable PW w 3982=some (sk w.params (Fw (Aq w)) (Aq w).os):=by kernel_rfl
noncomputable abbrev wl(w:World)(a b:Bool):World:=(w.withFollow "special-get-raises" a).withFollow "comprehension-iter-twice" b
abbrev C6(s s':Shared):Bool:=staticsOk (importedModules PW.main.body) s.heap s'.heap&&namesBound PW s'.heap&&gensDone s'&&laidKept s.heap s'.heap
theorem Hj(w:World)(u:Nat->Obj)(os:OsState):topFrom treeTable PW w 3982 (sk w.params u os)=
 (topRun treeTable PW w 28 (some (.ref 6)) 3982 (sk w.params u os) (topStub PW)).bind λs'=>cond (C6 (sk w.params u os) s') (some s') none:=by kernel_rfl
def atEnd(w:World):Prop:=∀u os,(kX treeTable PW w 28 (some (.ref 6)) 3982 (Fv w.params u os) (topStub PW)).map (λr=>(C6 (sk w.params u os) r.abs,openSeen vw lo (importedModules PW.main.body) xt true r.abs,m7 r.abs))=some (true,openGood vw lo,mP w)
theorem l1(w:World):atEnd (wl w false false):=λu os=>by kernel_rfl
theorem l2(w:World):atEnd (wl w true false):=λu os=>by kernel_rfl
theorem l3(w:World):atEnd (wl w false true):=λu os=>by kernel_rfl
theorem l4(w:World):atEnd (wl w true true):=λu os=>by kernel_rfl
theorem CT{p:Program}{w:World}{n₀ n:Nat}{ann:Option Value}{s r:SharedT}{t:Thread}{s':Shared}(e:s.abs=s')(h:kX tb p w n₀ ann n s t=some r):topRun tb p w n₀ ann n s' t=some r.abs:=e▸pb n h
theorem DO{F R:Option Shared}{T:Shared->Option Shared}{C:Shared->Bool}{s r:Shared}(h1:F=some s)(h2:T s=R.bind λx=>cond (C x) (some x) none)(h3:R=some r)(h4:C r=true):F.bind T=some r:=by
 subst h1 h3
 exact h2.trans (congrArg (cond · (some r) none) h4)
theorem left:LeftO PW vw lo xt m7 mP 3982:=λw=>by
 refine(Option.map_eq_some_iff.mp (byRow2 (P:=atEnd) "comprehension-iter-twice" (byRow2 "special-get-raises" l1 l2) (byRow2 "special-get-raises" l3 l4) w (Fw (Aq w)) (Aq w).os)).elim λr h=>?_
 exact(congrArg (Option.map _) (DO (opQ w) (Hj w _ _) (CT (Be _ _ _) h.1) (congrArg Prod.fst h.2))).trans (congrArg some (congrArg Prod.snd h.2))
end Internal
namespace Internal
universe u
variable{P p0 p1 p2 p3 p4 p5 p6 p7:Prop}
theorem av{P:Prop}(h:∀G:Prop,(P->G)->G):P:=h P id
theorem aw(h:p0/\p1)(k:p0->p1->P):P:=k h.1 h.2
theorem bV(h:p0/\p1/\p2)(k:p0->p1->p2->P):P:=k h.1 h.2.1 h.2.2
theorem cq(h:p0/\p1/\p2/\p3)(k:p0->p1->p2->p3->P):P:=k h.1 h.2.1 h.2.2.1 h.2.2.2
theorem iw(h:p0/\p1/\p2/\p3/\p4)(k:p0->p1->p2->p3->p4->P):P:=k h.1 h.2.1 h.2.2.1 h.2.2.2.1 h.2.2.2.2
theorem aB{p0:α0->Prop}(h:∃x0,p0 x0)(k:∀x0,p0 x0->P):P:=h.elim λx0 h=>k x0 h
theorem ai{p0 p1:α0->Prop}(h:∃x0,p0 x0/\p1 x0)(k:∀x0,p0 x0->p1 x0->P):P:=h.elim λx0 h=>k x0 h.1 h.2
theorem aZ{p0 p1 p2:α0->Prop}(h:∃x0,p0 x0/\p1 x0/\p2 x0)(k:∀x0,p0 x0->p1 x0->p2 x0->P):P:=h.elim λx0 h=>k x0 h.1 h.2.1 h.2.2
theorem iu{p0 p1 p2 p3:α0->Prop}(h:∃x0,p0 x0/\p1 x0/\p2 x0/\p3 x0)(k:∀x0,p0 x0->p1 x0->p2 x0->p3 x0->P):P:=h.elim λx0 h=>k x0 h.1 h.2.1 h.2.2.1 h.2.2.2
theorem eQ{p0 p1 p2 p3 p4:α0->Prop}(h:∃x0,p0 x0/\p1 x0/\p2 x0/\p3 x0/\p4 x0)(k:∀x0,p0 x0->p1 x0->p2 x0->p3 x0->p4 x0->P):P:=h.elim λx0 h=>k x0 h.1 h.2.1 h.2.2.1 h.2.2.2.1 h.2.2.2.2
theorem dU{p0:α0->α1->Prop}(h:∃x0 x1,p0 x0 x1)(k:∀x0 x1,p0 x0 x1->P):P:=h.elim λx0 h=>h.elim λx1 h=>k x0 x1 h
theorem bK{p0 p1:α0->α1->Prop}(h:∃x0 x1,p0 x0 x1/\p1 x0 x1)(k:∀x0 x1,p0 x0 x1->p1 x0 x1->P):P:=h.elim λx0 h=>h.elim λx1 h=>k x0 x1 h.1 h.2
theorem bv{p0 p1 p2:α0->α1->Prop}(h:∃x0 x1,p0 x0 x1/\p1 x0 x1/\p2 x0 x1)(k:∀x0 x1,p0 x0 x1->p1 x0 x1->p2 x0 x1->P):P:=h.elim λx0 h=>h.elim λx1 h=>k x0 x1 h.1 h.2.1 h.2.2
theorem bY{p0 p1 p2 p3:α0->α1->Prop}(h:∃x0 x1,p0 x0 x1/\p1 x0 x1/\p2 x0 x1/\p3 x0 x1)(k:∀x0 x1,p0 x0 x1->p1 x0 x1->p2 x0 x1->p3 x0 x1->P):P:=h.elim λx0 h=>h.elim λx1 h=>k x0 x1 h.1 h.2.1 h.2.2.1 h.2.2.2
theorem bU{p0 p1 p2 p3 p4:α0->α1->Prop}(h:∃x0 x1,p0 x0 x1/\p1 x0 x1/\p2 x0 x1/\p3 x0 x1/\p4 x0 x1)(k:∀x0 x1,p0 x0 x1->p1 x0 x1->p2 x0 x1->p3 x0 x1->p4 x0 x1->P):P:=h.elim λx0 h=>h.elim λx1 h=>k x0 x1 h.1 h.2.1 h.2.2.1 h.2.2.2.1 h.2.2.2.2
theorem uO{p0 p1 p2 p3 p4 p5 p6 p7:α0->α1->Prop}(h:∃x0 x1,p0 x0 x1/\p1 x0 x1/\p2 x0 x1/\p3 x0 x1/\p4 x0 x1/\p5 x0 x1/\p6 x0 x1/\p7 x0 x1)(k:∀x0 x1,p0 x0 x1->p1 x0 x1->p2 x0 x1->p3 x0 x1->p4 x0 x1->p5 x0 x1->p6 x0 x1->p7 x0 x1->P):P:=h.elim λx0 h=>h.elim λx1 h=>k x0 x1 h.1 h.2.1 h.2.2.1 h.2.2.2.1 h.2.2.2.2.1 h.2.2.2.2.2.1 h.2.2.2.2.2.2.1 h.2.2.2.2.2.2.2
theorem qT{p0 p1:α0->α1->α2->Prop}(h:∃x0 x1 x2,p0 x0 x1 x2/\p1 x0 x1 x2)(k:∀x0 x1 x2,p0 x0 x1 x2->p1 x0 x1 x2->P):P:=h.elim λx0 h=>h.elim λx1 h=>h.elim λx2 h=>k x0 x1 x2 h.1 h.2
theorem qS{p0 p1 p2:α0->α1->α2->Prop}(h:∃x0 x1 x2,p0 x0 x1 x2/\p1 x0 x1 x2/\p2 x0 x1 x2)(k:∀x0 x1 x2,p0 x0 x1 x2->p1 x0 x1 x2->p2 x0 x1 x2->P):P:=h.elim λx0 h=>h.elim λx1 h=>h.elim λx2 h=>k x0 x1 x2 h.1 h.2.1 h.2.2
theorem uN{p0 p1 p2 p3:α0->α1->α2->Prop}(h:∃x0 x1 x2,p0 x0 x1 x2/\p1 x0 x1 x2/\p2 x0 x1 x2/\p3 x0 x1 x2)(k:∀x0 x1 x2,p0 x0 x1 x2->p1 x0 x1 x2->p2 x0 x1 x2->p3 x0 x1 x2->P):P:=h.elim λx0 h=>h.elim λx1 h=>h.elim λx2 h=>k x0 x1 x2 h.1 h.2.1 h.2.2.1 h.2.2.2
theorem G5{p0 p1 p2 p3 p4:α0->α1->α2->Prop}(h:∃x0 x1 x2,p0 x0 x1 x2/\p1 x0 x1 x2/\p2 x0 x1 x2/\p3 x0 x1 x2/\p4 x0 x1 x2)(k:∀x0 x1 x2,p0 x0 x1 x2->p1 x0 x1 x2->p2 x0 x1 x2->p3 x0 x1 x2->p4 x0 x1 x2->P):P:=h.elim λx0 h=>h.elim λx1 h=>h.elim λx2 h=>k x0 x1 x2 h.1 h.2.1 h.2.2.1 h.2.2.2.1 h.2.2.2.2
theorem ze{p0 p1 p2 p3 p4 p5:α0->α1->α2->Prop}(h:∃x0 x1 x2,p0 x0 x1 x2/\p1 x0 x1 x2/\p2 x0 x1 x2/\p3 x0 x1 x2/\p4 x0 x1 x2/\p5 x0 x1 x2)(k:∀x0 x1 x2,p0 x0 x1 x2->p1 x0 x1 x2->p2 x0 x1 x2->p3 x0 x1 x2->p4 x0 x1 x2->p5 x0 x1 x2->P):P:=h.elim λx0 h=>h.elim λx1 h=>h.elim λx2 h=>k x0 x1 x2 h.1 h.2.1 h.2.2.1 h.2.2.2.1 h.2.2.2.2.1 h.2.2.2.2.2
theorem G4{p0 p1 p2 p3 p4 p5 p6:α0->α1->α2->Prop}(h:∃x0 x1 x2,p0 x0 x1 x2/\p1 x0 x1 x2/\p2 x0 x1 x2/\p3 x0 x1 x2/\p4 x0 x1 x2/\p5 x0 x1 x2/\p6 x0 x1 x2)(k:∀x0 x1 x2,p0 x0 x1 x2->p1 x0 x1 x2->p2 x0 x1 x2->p3 x0 x1 x2->p4 x0 x1 x2->p5 x0 x1 x2->p6 x0 x1 x2->P):P:=h.elim λx0 h=>h.elim λx1 h=>h.elim λx2 h=>k x0 x1 x2 h.1 h.2.1 h.2.2.1 h.2.2.2.1 h.2.2.2.2.1 h.2.2.2.2.2.1 h.2.2.2.2.2.2
theorem G3{p0 p1 p2 p3 p4 p5 p6 p7:α0->α1->α2->Prop}(h:∃x0 x1 x2,p0 x0 x1 x2/\p1 x0 x1 x2/\p2 x0 x1 x2/\p3 x0 x1 x2/\p4 x0 x1 x2/\p5 x0 x1 x2/\p6 x0 x1 x2/\p7 x0 x1 x2)(k:∀x0 x1 x2,p0 x0 x1 x2->p1 x0 x1 x2->p2 x0 x1 x2->p3 x0 x1 x2->p4 x0 x1 x2->p5 x0 x1 x2->p6 x0 x1 x2->p7 x0 x1 x2->P):P:=h.elim λx0 h=>h.elim λx1 h=>h.elim λx2 h=>k x0 x1 x2 h.1 h.2.1 h.2.2.1 h.2.2.2.1 h.2.2.2.2.1 h.2.2.2.2.2.1 h.2.2.2.2.2.2.1 h.2.2.2.2.2.2.2
theorem G1{p0:α0->α1->α2->α3->Prop}(h:∃x0 x1 x2 x3,p0 x0 x1 x2 x3)(k:∀x0 x1 x2 x3,p0 x0 x1 x2 x3->P):P:=h.elim λx0 h=>h.elim λx1 h=>h.elim λx2 h=>h.elim λx3 h=>k x0 x1 x2 x3 h
theorem uM{p0 p1:α0->α1->α2->α3->Prop}(h:∃x0 x1 x2 x3,p0 x0 x1 x2 x3/\p1 x0 x1 x2 x3)(k:∀x0 x1 x2 x3,p0 x0 x1 x2 x3->p1 x0 x1 x2 x3->P):P:=h.elim λx0 h=>h.elim λx1 h=>h.elim λx2 h=>h.elim λx3 h=>k x0 x1 x2 x3 h.1 h.2
theorem qR{p0 p1 p2:α0->α1->α2->α3->Prop}(h:∃x0 x1 x2 x3,p0 x0 x1 x2 x3/\p1 x0 x1 x2 x3/\p2 x0 x1 x2 x3)(k:∀x0 x1 x2 x3,p0 x0 x1 x2 x3->p1 x0 x1 x2 x3->p2 x0 x1 x2 x3->P):P:=h.elim λx0 h=>h.elim λx1 h=>h.elim λx2 h=>h.elim λx3 h=>k x0 x1 x2 x3 h.1 h.2.1 h.2.2
theorem GZ{p0 p1 p2 p3:α0->α1->α2->α3->Prop}(h:∃x0 x1 x2 x3,p0 x0 x1 x2 x3/\p1 x0 x1 x2 x3/\p2 x0 x1 x2 x3/\p3 x0 x1 x2 x3)(k:∀x0 x1 x2 x3,p0 x0 x1 x2 x3->p1 x0 x1 x2 x3->p2 x0 x1 x2 x3->p3 x0 x1 x2 x3->P):P:=h.elim λx0 h=>h.elim λx1 h=>h.elim λx2 h=>h.elim λx3 h=>k x0 x1 x2 x3 h.1 h.2.1 h.2.2.1 h.2.2.2
theorem GY{p0 p1 p2 p3 p4 p5:α0->α1->α2->α3->Prop}(h:∃x0 x1 x2 x3,p0 x0 x1 x2 x3/\p1 x0 x1 x2 x3/\p2 x0 x1 x2 x3/\p3 x0 x1 x2 x3/\p4 x0 x1 x2 x3/\p5 x0 x1 x2 x3)(k:∀x0 x1 x2 x3,p0 x0 x1 x2 x3->p1 x0 x1 x2 x3->p2 x0 x1 x2 x3->p3 x0 x1 x2 x3->p4 x0 x1 x2 x3->p5 x0 x1 x2 x3->P):P:=h.elim λx0 h=>h.elim λx1 h=>h.elim λx2 h=>h.elim λx3 h=>k x0 x1 x2 x3 h.1 h.2.1 h.2.2.1 h.2.2.2.1 h.2.2.2.2.1 h.2.2.2.2.2
theorem GX{p0 p1 p2 p3 p4 p5 p6 p7:α0->α1->α2->α3->Prop}(h:∃x0 x1 x2 x3,p0 x0 x1 x2 x3/\p1 x0 x1 x2 x3/\p2 x0 x1 x2 x3/\p3 x0 x1 x2 x3/\p4 x0 x1 x2 x3/\p5 x0 x1 x2 x3/\p6 x0 x1 x2 x3/\p7 x0 x1 x2 x3)(k:∀x0 x1 x2 x3,p0 x0 x1 x2 x3->p1 x0 x1 x2 x3->p2 x0 x1 x2 x3->p3 x0 x1 x2 x3->p4 x0 x1 x2 x3->p5 x0 x1 x2 x3->p6 x0 x1 x2 x3->p7 x0 x1 x2 x3->P):P:=h.elim λx0 h=>h.elim λx1 h=>h.elim λx2 h=>h.elim λx3 h=>k x0 x1 x2 x3 h.1 h.2.1 h.2.2.1 h.2.2.2.1 h.2.2.2.2.1 h.2.2.2.2.2.1 h.2.2.2.2.2.2.1 h.2.2.2.2.2.2.2
theorem DD{p0 p1 p2 p3 p4 p5 p6:α0->α1->α2->α3->α4->Prop}(h:∃x0 x1 x2 x3 x4,p0 x0 x1 x2 x3 x4/\p1 x0 x1 x2 x3 x4/\p2 x0 x1 x2 x3 x4/\p3 x0 x1 x2 x3 x4/\p4 x0 x1 x2 x3 x4/\p5 x0 x1 x2 x3 x4/\p6 x0 x1 x2 x3 x4)(k:∀x0 x1 x2 x3 x4,p0 x0 x1 x2 x3 x4->p1 x0 x1 x2 x3 x4->p2 x0 x1 x2 x3 x4->p3 x0 x1 x2 x3 x4->p4 x0 x1 x2 x3 x4->p5 x0 x1 x2 x3 x4->p6 x0 x1 x2 x3 x4->P):P:=h.elim λx0 h=>h.elim λx1 h=>h.elim λx2 h=>h.elim λx3 h=>h.elim λx4 h=>k x0 x1 x2 x3 x4 h.1 h.2.1 h.2.2.1 h.2.2.2.1 h.2.2.2.2.1 h.2.2.2.2.2.1 h.2.2.2.2.2.2
theorem GW{p0 p1 p2 p3 p4 p5 p6:α0->α1->α2->α3->α4->α5->Prop}(h:∃x0 x1 x2 x3 x4 x5,p0 x0 x1 x2 x3 x4 x5/\p1 x0 x1 x2 x3 x4 x5/\p2 x0 x1 x2 x3 x4 x5/\p3 x0 x1 x2 x3 x4 x5/\p4 x0 x1 x2 x3 x4 x5/\p5 x0 x1 x2 x3 x4 x5/\p6 x0 x1 x2 x3 x4 x5)(k:∀x0 x1 x2 x3 x4 x5,p0 x0 x1 x2 x3 x4 x5->p1 x0 x1 x2 x3 x4 x5->p2 x0 x1 x2 x3 x4 x5->p3 x0 x1 x2 x3 x4 x5->p4 x0 x1 x2 x3 x4 x5->p5 x0 x1 x2 x3 x4 x5->p6 x0 x1 x2 x3 x4 x5->P):P:=h.elim λx0 h=>h.elim λx1 h=>h.elim λx2 h=>h.elim λx3 h=>h.elim λx4 h=>h.elim λx5 h=>k x0 x1 x2 x3 x4 x5 h.1 h.2.1 h.2.2.1 h.2.2.2.1 h.2.2.2.2.1 h.2.2.2.2.2.1 h.2.2.2.2.2.2
open PyProof.Rows in
theorem wm{M:Model}{A:Around}{α:Type}{t:Sem α}{Q Q':α->Shared->Prop}{E:Value->Shared->Prop}{s:Shared}(h:wpAny M A t Q E s)(k:∀a s,Q a s->Q' a s):wpAny M A t Q' E s:=wpAny_mono h k λU U x=>x
theorem a6(h0:p0)(h1:p1)(h2:p2):p0/\p1/\p2:=⟨h0,h1,h2⟩
theorem lu(h0:p0)(h1:p1)(h2:p2)(h3:p3):p0/\p1/\p2/\p3:=⟨h0,h1,h2,h3⟩
theorem Dn(h0:p0)(h1:p1)(h2:p2)(h3:p3)(h4:p4):p0/\p1/\p2/\p3/\p4:=⟨h0,h1,h2,h3,h4⟩
theorem am{p0 p1:α0->Prop}(x0:α0)(h0:p0 x0)(h1:p1 x0):∃x0,p0 x0/\p1 x0:=⟨x0,h0,h1⟩
theorem bc{p0 p1 p2:α0->Prop}(x0:α0)(h0:p0 x0)(h1:p1 x0)(h2:p2 x0):∃x0,p0 x0/\p1 x0/\p2 x0:=⟨x0,h0,h1,h2⟩
theorem fu{p0 p1 p2 p3:α0->Prop}(x0:α0)(h0:p0 x0)(h1:p1 x0)(h2:p2 x0)(h3:p3 x0):∃x0,p0 x0/\p1 x0/\p2 x0/\p3 x0:=⟨x0,h0,h1,h2,h3⟩
theorem fj{p0 p1 p2 p3 p4:α0->Prop}(x0:α0)(h0:p0 x0)(h1:p1 x0)(h2:p2 x0)(h3:p3 x0)(h4:p4 x0):∃x0,p0 x0/\p1 x0/\p2 x0/\p3 x0/\p4 x0:=⟨x0,h0,h1,h2,h3,h4⟩
theorem GH{p0 p1 p2 p3 p4 p5:α0->Prop}(x0:α0)(h0:p0 x0)(h1:p1 x0)(h2:p2 x0)(h3:p3 x0)(h4:p4 x0)(h5:p5 x0):∃x0,p0 x0/\p1 x0/\p2 x0/\p3 x0/\p4 x0/\p5 x0:=⟨x0,h0,h1,h2,h3,h4,h5⟩
theorem fT{p0:α0->α1->Prop}(x0:α0)(x1:α1)(h0:p0 x0 x1):∃x0 x1,p0 x0 x1:=⟨x0,x1,h0⟩
theorem bu{p0 p1:α0->α1->Prop}(x0:α0)(x1:α1)(h0:p0 x0 x1)(h1:p1 x0 x1):∃x0 x1,p0 x0 x1/\p1 x0 x1:=⟨x0,x1,h0,h1⟩
theorem ip{p0 p1 p2:α0->α1->Prop}(x0:α0)(x1:α1)(h0:p0 x0 x1)(h1:p1 x0 x1)(h2:p2 x0 x1):∃x0 x1,p0 x0 x1/\p1 x0 x1/\p2 x0 x1:=⟨x0,x1,h0,h1,h2⟩
theorem jL{p0 p1 p2 p3:α0->α1->Prop}(x0:α0)(x1:α1)(h0:p0 x0 x1)(h1:p1 x0 x1)(h2:p2 x0 x1)(h3:p3 x0 x1):∃x0 x1,p0 x0 x1/\p1 x0 x1/\p2 x0 x1/\p3 x0 x1:=⟨x0,x1,h0,h1,h2,h3⟩
theorem dD{p0 p1 p2 p3 p4:α0->α1->Prop}(x0:α0)(x1:α1)(h0:p0 x0 x1)(h1:p1 x0 x1)(h2:p2 x0 x1)(h3:p3 x0 x1)(h4:p4 x0 x1):∃x0 x1,p0 x0 x1/\p1 x0 x1/\p2 x0 x1/\p3 x0 x1/\p4 x0 x1:=⟨x0,x1,h0,h1,h2,h3,h4⟩
theorem Dm{p0 p1 p2 p3 p4 p5:α0->α1->Prop}(x0:α0)(x1:α1)(h0:p0 x0 x1)(h1:p1 x0 x1)(h2:p2 x0 x1)(h3:p3 x0 x1)(h4:p4 x0 x1)(h5:p5 x0 x1):∃x0 x1,p0 x0 x1/\p1 x0 x1/\p2 x0 x1/\p3 x0 x1/\p4 x0 x1/\p5 x0 x1:=⟨x0,x1,h0,h1,h2,h3,h4,h5⟩
theorem GF{p0:α0->α1->α2->Prop}(x0:α0)(x1:α1)(x2:α2)(h0:p0 x0 x1 x2):∃x0 x1 x2,p0 x0 x1 x2:=⟨x0,x1,x2,h0⟩
theorem iZ{p0 p1:α0->α1->α2->Prop}(x0:α0)(x1:α1)(x2:α2)(h0:p0 x0 x1 x2)(h1:p1 x0 x1 x2):∃x0 x1 x2,p0 x0 x1 x2/\p1 x0 x1 x2:=⟨x0,x1,x2,h0,h1⟩
theorem uF{p0 p1 p2 p3:α0->α1->α2->Prop}(x0:α0)(x1:α1)(x2:α2)(h0:p0 x0 x1 x2)(h1:p1 x0 x1 x2)(h2:p2 x0 x1 x2)(h3:p3 x0 x1 x2):∃x0 x1 x2,p0 x0 x1 x2/\p1 x0 x1 x2/\p2 x0 x1 x2/\p3 x0 x1 x2:=⟨x0,x1,x2,h0,h1,h2,h3⟩
theorem yU{p0 p1 p2 p3 p4:α0->α1->α2->Prop}(x0:α0)(x1:α1)(x2:α2)(h0:p0 x0 x1 x2)(h1:p1 x0 x1 x2)(h2:p2 x0 x1 x2)(h3:p3 x0 x1 x2)(h4:p4 x0 x1 x2):∃x0 x1 x2,p0 x0 x1 x2/\p1 x0 x1 x2/\p2 x0 x1 x2/\p3 x0 x1 x2/\p4 x0 x1 x2:=⟨x0,x1,x2,h0,h1,h2,h3,h4⟩
theorem uE{p0 p1 p2 p3 p4 p5:α0->α1->α2->Prop}(x0:α0)(x1:α1)(x2:α2)(h0:p0 x0 x1 x2)(h1:p1 x0 x1 x2)(h2:p2 x0 x1 x2)(h3:p3 x0 x1 x2)(h4:p4 x0 x1 x2)(h5:p5 x0 x1 x2):∃x0 x1 x2,p0 x0 x1 x2/\p1 x0 x1 x2/\p2 x0 x1 x2/\p3 x0 x1 x2/\p4 x0 x1 x2/\p5 x0 x1 x2:=⟨x0,x1,x2,h0,h1,h2,h3,h4,h5⟩
theorem GD{p0 p1 p2 p3 p4 p5 p6:α0->α1->α2->Prop}(x0:α0)(x1:α1)(x2:α2)(h0:p0 x0 x1 x2)(h1:p1 x0 x1 x2)(h2:p2 x0 x1 x2)(h3:p3 x0 x1 x2)(h4:p4 x0 x1 x2)(h5:p5 x0 x1 x2)(h6:p6 x0 x1 x2):∃x0 x1 x2,p0 x0 x1 x2/\p1 x0 x1 x2/\p2 x0 x1 x2/\p3 x0 x1 x2/\p4 x0 x1 x2/\p5 x0 x1 x2/\p6 x0 x1 x2:=⟨x0,x1,x2,h0,h1,h2,h3,h4,h5,h6⟩
theorem GC{p0 p1 p2 p3 p4 p5 p6 p7:α0->α1->α2->Prop}(x0:α0)(x1:α1)(x2:α2)(h0:p0 x0 x1 x2)(h1:p1 x0 x1 x2)(h2:p2 x0 x1 x2)(h3:p3 x0 x1 x2)(h4:p4 x0 x1 x2)(h5:p5 x0 x1 x2)(h6:p6 x0 x1 x2)(h7:p7 x0 x1 x2):∃x0 x1 x2,p0 x0 x1 x2/\p1 x0 x1 x2/\p2 x0 x1 x2/\p3 x0 x1 x2/\p4 x0 x1 x2/\p5 x0 x1 x2/\p6 x0 x1 x2/\p7 x0 x1 x2:=⟨x0,x1,x2,h0,h1,h2,h3,h4,h5,h6,h7⟩
theorem GB{p0:α0->α1->α2->α3->Prop}(x0:α0)(x1:α1)(x2:α2)(x3:α3)(h0:p0 x0 x1 x2 x3):∃x0 x1 x2 x3,p0 x0 x1 x2 x3:=⟨x0,x1,x2,x3,h0⟩
theorem GA{p0 p1:α0->α1->α2->α3->Prop}(x0:α0)(x1:α1)(x2:α2)(x3:α3)(h0:p0 x0 x1 x2 x3)(h1:p1 x0 x1 x2 x3):∃x0 x1 x2 x3,p0 x0 x1 x2 x3/\p1 x0 x1 x2 x3:=⟨x0,x1,x2,x3,h0,h1⟩
theorem Dl{p0 p1 p2:α0->α1->α2->α3->Prop}(x0:α0)(x1:α1)(x2:α2)(x3:α3)(h0:p0 x0 x1 x2 x3)(h1:p1 x0 x1 x2 x3)(h2:p2 x0 x1 x2 x3):∃x0 x1 x2 x3,p0 x0 x1 x2 x3/\p1 x0 x1 x2 x3/\p2 x0 x1 x2 x3:=⟨x0,x1,x2,x3,h0,h1,h2⟩
theorem Gz{p0 p1 p2 p3 p4 p5 p6 p7:α0->α1->α2->α3->Prop}(x0:α0)(x1:α1)(x2:α2)(x3:α3)(h0:p0 x0 x1 x2 x3)(h1:p1 x0 x1 x2 x3)(h2:p2 x0 x1 x2 x3)(h3:p3 x0 x1 x2 x3)(h4:p4 x0 x1 x2 x3)(h5:p5 x0 x1 x2 x3)(h6:p6 x0 x1 x2 x3)(h7:p7 x0 x1 x2 x3):∃x0 x1 x2 x3,p0 x0 x1 x2 x3/\p1 x0 x1 x2 x3/\p2 x0 x1 x2 x3/\p3 x0 x1 x2 x3/\p4 x0 x1 x2 x3/\p5 x0 x1 x2 x3/\p6 x0 x1 x2 x3/\p7 x0 x1 x2 x3:=⟨x0,x1,x2,x3,h0,h1,h2,h3,h4,h5,h6,h7⟩
theorem Dk{p0 p1 p2 p3 p4 p5 p6:α0->α1->α2->α3->α4->Prop}(x0:α0)(x1:α1)(x2:α2)(x3:α3)(x4:α4)(h0:p0 x0 x1 x2 x3 x4)(h1:p1 x0 x1 x2 x3 x4)(h2:p2 x0 x1 x2 x3 x4)(h3:p3 x0 x1 x2 x3 x4)(h4:p4 x0 x1 x2 x3 x4)(h5:p5 x0 x1 x2 x3 x4)(h6:p6 x0 x1 x2 x3 x4):∃x0 x1 x2 x3 x4,p0 x0 x1 x2 x3 x4/\p1 x0 x1 x2 x3 x4/\p2 x0 x1 x2 x3 x4/\p3 x0 x1 x2 x3 x4/\p4 x0 x1 x2 x3 x4/\p5 x0 x1 x2 x3 x4/\p6 x0 x1 x2 x3 x4:=⟨x0,x1,x2,x3,x4,h0,h1,h2,h3,h4,h5,h6⟩
theorem Dj{p0:α0->α1->α2->α3->α4->α5->Prop}(x0:α0)(x1:α1)(x2:α2)(x3:α3)(x4:α4)(x5:α5)(h0:p0 x0 x1 x2 x3 x4 x5):∃x0 x1 x2 x3 x4 x5,p0 x0 x1 x2 x3 x4 x5:=⟨x0,x1,x2,x3,x4,x5,h0⟩
theorem Gy{p0 p1 p2 p3 p4 p5 p6:α0->α1->α2->α3->α4->α5->Prop}(x0:α0)(x1:α1)(x2:α2)(x3:α3)(x4:α4)(x5:α5)(h0:p0 x0 x1 x2 x3 x4 x5)(h1:p1 x0 x1 x2 x3 x4 x5)(h2:p2 x0 x1 x2 x3 x4 x5)(h3:p3 x0 x1 x2 x3 x4 x5)(h4:p4 x0 x1 x2 x3 x4 x5)(h5:p5 x0 x1 x2 x3 x4 x5)(h6:p6 x0 x1 x2 x3 x4 x5):∃x0 x1 x2 x3 x4 x5,p0 x0 x1 x2 x3 x4 x5/\p1 x0 x1 x2 x3 x4 x5/\p2 x0 x1 x2 x3 x4 x5/\p3 x0 x1 x2 x3 x4 x5/\p4 x0 x1 x2 x3 x4 x5/\p5 x0 x1 x2 x3 x4 x5/\p6 x0 x1 x2 x3 x4 x5:=⟨x0,x1,x2,x3,x4,x5,h0,h1,h2,h3,h4,h5,h6⟩
theorem nn{α:Type _}{x:Option α}(h:∀o,x=some o->False):x=none:=Option.eq_none_iff_forall_ne_some.mpr h
open PyProof.Rows in
theorem eG{M:Model}{A:Around}{α:Type}{t:Sem α}{Q Q':α->Shared->Prop}{E:Value->Shared->Prop}{s:Shared}(h:wpAny M A t Q (λU U=>False) s)(k:∀a s,Q a s->Q' a s):wpAny M A t Q' E s:=wpAny_mono h k λU U x=>x.elim
theorem no{x:α}{P:Prop}(h:none=some x):P:=nomatch h
theorem so{α:Type _}{x y:α}(h:some x=some y):x=y:=Option.some.inj h
theorem dP(h:some (a,b)=some (c,d)):a=c/\b=d:=⟨congrArg Prod.fst (so h),congrArg Prod.snd (so h)⟩
theorem bo{x:α}(h:o=some x)(h2:f x=z):o.bind f=z:=h▸h2
theorem aK{x:α}(h:o=some x):o.map f=some (f x):=h▸rfl
theorem bi{b:β}{P:Prop}(h:o.bind f=some b)(k:∀a,o=some a->f a=some b->P):P:=by
 induction o with
 |none=>exact no h
 |some a=>exact k a rfl h
theorem mi{b:β}{P:Prop}(h:o.map f=some b)(k:∀a,o=some a->f a=b->P):P:=by
 induction o with
 |none=>exact no h
 |some a=>exact k a rfl (so h)
theorem cd [Decidable p]{z:α}{P:Prop}(h:(if p then o else none)=some z)(k:p->o=some z->P):P:=by
 by_cases hp:p
 ·rw[if_pos hp] at h;exact k hp h
 ·rw[if_neg hp] at h;exact no h
theorem ifs [Decidable p]{z:α}{P:Prop}(h:(if p then a else b)=some z)(k:p->a=some z->P)(k2:b=some z->P):P:=by
 by_cases hp:p
 ·rw[if_pos hp] at h;exact k hp h
 ·rw[if_neg hp] at h;exact k2 h
theorem Fz [Decidable p]{P:Prop}(h:(if p then a else b)=z)(k:p->a=z->P)(k2:¬p->b=z->P):P:=by
 by_cases hp:p
 ·exact k hp ((if_pos hp).symm.trans h)
 ·exact k2 hp ((if_neg hp).symm.trans h)
set_option genCtorIdx false in
set_option backward.linearNoConfusionType false in
inductive T where
 |v (n:Nat)
 |k (n:Nat)
 |a (x y:T)
 |m (c:Nat) (x:T)
 |w (x:T) (c:Nat)
noncomputable def wh:List Nat->Nat->Nat
 |[],_=>0
 |x::_,0=>x
 |_::l,n+1=>wh l n
noncomputable def T.d(σ:List Nat):T->Nat
 | .v n=>wh σ n
 | .k n=>n
 | .a x y=>x.d σ+y.d σ
 | .m c x=>c*x.d σ
 | .w x c=>x.d σ*c
noncomputable def cB:List Nat->List Nat->Nat
 |a::as,b::bs=>a*b+cB as bs
 |_,_=>0
noncomputable def fB:List Nat->List Nat->List Nat
 |a::as,b::bs=>(a+b)::fB as bs
 |[],l=>l
 |l,[]=>l
noncomputable def gG(c:Nat):List Nat->List Nat
 |a::as=>c*a::gG c as
 |[]=>[]
noncomputable def z7:List Nat->List Nat->Bool
 |a::as,b::bs=>Nat.ble a b&&z7 as bs
 |[],_=>true
 |a::as,[]=>Nat.beq a 0&&z7 as []
noncomputable def vx:Nat->List Nat
 |0=>[1]
 |n+1=>0::vx n
noncomputable def T.f:T->List Nat
 | .v n=>0::vx n
 | .k n=>[n]
 | .a x y=>fB x.f y.f
 | .m c x=>gG c x.f
 | .w x c=>gG c x.f
theorem dO(s:List Nat):cB s []=0:=by induction s<;>rfl
theorem eC:∀s p q:List Nat,cB s (fB p q)=cB s p+cB s q
 |s,[],q=>by rw[dO,Nat.zero_add];induction q<;>rfl
 |s,a::p,[]=>by rw[dO];rfl
 |[],_::_,_::_=>rfl
 |x::s,a::p,b::q=>by
  show x*(a+b)+cB s (fB p q)=x*a+cB s p+(x*b+cB s q)
  rw[eC s p q,Nat.mul_add];ac_rfl
theorem fy(c:Nat):∀s p:List Nat,cB s (gG c p)=c*cB s p
 |s,[]=>(dO s).trans (by rw[dO];rfl)
 |[],_::_=>rfl
 |x::s,a::p=>by
  show x*(c*a)+cB s (gG c p)=c*(x*a+cB s p)
  rw[fy c s p,Nat.mul_add];ac_rfl
theorem sY:∀(s:List Nat) (n:Nat),cB s (vx n)=wh s n
 |[],0=>rfl
 |[],_+1=>rfl
 |x::s,0=>by show x*1+cB s []=x;rw[dO,Nat.mul_one];rfl
 |x::s,n+1=>by show x*0+cB s (vx n)=wh s n;rw[sY s n,Nat.mul_zero,Nat.zero_add]
theorem qK:∀(s p q:List Nat),z7 p q=true->cB s p<=cB s q
 |s,[],q,_=>by rw[dO];exact Nat.zero_le _
 |[],_::_,[],_=>Nat.le_refl _
 |[],_::_,_::_,_=>Nat.le_refl _
 |x::s,a::p,[],h=>by
  obtain⟨h1,h2⟩:=Bool.and_eq_true_iff.mp h
  have:=qK s p [] h2
  rw[dO] at this ⊢
  have e:a=0:=Nat.eq_of_beq_eq_true h1
  subst e
  show x*0+cB s p<=0
  rw[Nat.mul_zero,Nat.zero_add];exact this
 |x::s,a::p,b::q,h=>by
  obtain⟨h1,h2⟩:=Bool.and_eq_true_iff.mp h
  exact Nat.add_le_add (Nat.mul_le_mul_left x (Nat.le_of_ble_eq_true h1)) (qK s p q h2)
theorem T.d_eq(σ:List Nat)(t:T):t.d σ=cB (1::σ) t.f:=by
 induction t with
 |v n=>show wh σ n=1*0+cB σ (vx n);rw[sY,Nat.zero_add]
 |k n=>show n=1*n+cB σ [];rw[dO,Nat.one_mul];rfl
 |a x y hx hy=>show x.d σ+y.d σ=cB _ (fB x.f y.f);rw[hx,hy,eC]
 |m c x hx=>show c*x.d σ=cB _ (gG c x.f);rw[hx,fy]
 |w x c hx=>show x.d σ*c=cB _ (gG c x.f);rw[hx,fy,Nat.mul_comm]
noncomputable def CF:List (Nat×T×T)->List Nat
 |[]=>[]
 |(c,l,_)::t=>fB (gG c l.f) (CF t)
noncomputable def CE:List (Nat×T×T)->List Nat
 |[]=>[]
 |(c,_,r)::t=>fB (gG c r.f) (CE t)
def C8(σ:List Nat)(G:Prop):List (Nat×T×T)->Prop
 |[]=>G
 |(_,l,r)::t=>l.d σ<=r.d σ->C8 σ G t
theorem zZ(σ:List Nat):∀cs,(cB (1::σ) (CF cs)<=cB (1::σ) (CE cs)->G)->C8 σ G cs
 |[],h=>h (Nat.le_refl _)
 |(c,l,r)::t,h=>λe=>zZ σ t λh2=>h (by
    show cB _ (fB _ _)<=cB _ (fB _ _)
    rw[eC,eC,fy,fy,<-T.d_eq,<-T.d_eq]
    exact Nat.add_le_add (Nat.mul_le_mul_left _ e) h2)
def Hx(cs:List (Nat×T×T))(l r:T)(m:Nat):Bool:=z7 (fB (fB (gG m l.f) (CE cs)) [1]) (fB (gG m (fB r.f [1])) (CF cs))
theorem ln(σ:List Nat)(cs:List (Nat×T×T))(l r:T)(m:Nat)(h:Hx cs l r m=true):C8 σ (l.d σ<=r.d σ) cs:=zZ σ cs λe=>Nat.le_of_not_lt λq=>by
 have:=qK (1::σ) _ _ h
 rw[eC,eC,eC,fy,fy,eC,<-T.d_eq,<-T.d_eq] at this
 have e1:cB (1::σ) [1]=1:=by show 1*1+cB σ []=1;rw[dO]
 rw[e1] at this
 exact Nat.lt_irrefl _ (Nat.lt_of_lt_of_le this (Nat.add_le_add (Nat.mul_le_mul_left m q) e))
theorem Cp(h:d<3):d=0\/d=1\/d=2:=by revert d;decide
inductive D where
 |none
 |bool (b:Bool)
 |int (i:Int)
 |str (cs:List Nat)
 |bytes (bs:List Nat)
 |list (ds:List D)
 |raw (ds:List D)
 |tuple (ds:List D)
 |fn (a:Nat)
 |obj
 deriving Inhabited
noncomputable def D.flat:D->Bool
 | .list _| .raw _| .tuple _=>false
 |_=>true
def PL(h:Heap)(a:Addr)(vs:Array Value):Prop:=h.IsList a vs/\∀o,h.get? a=some o->o.dict=none
theorem PL.at{vs}(x:PL h a vs)(e:∀o,h.get? a=some o->h'.get? a=some o):PL h' a vs:=by
 refine aw x λq1 d=>ai q1 λo ho r=>⟨(am o (e o ho) r),λo' ho'=>?_⟩
 replace ho':=(e o ho).symm.trans ho';refine(so ho')▸?_
 exact d _ ho
mutual
def Rep(X:Addr)(h:Heap)(Av:Addr->Prop):D->Value->Prop
 | .none,v=>v=.none
 | .bool b,v=>v=.bool b
 | .int i,v=>∃t,v=.int i t
 | .str cs,v=>cs.length<=4096/\∃t,v=.str ⟨cs.toArray⟩ t
 | .bytes bs,v=>(∃t,v=.bytes (bs.map Nat.toUInt8).toArray t)/\bs.length<=4096/\∀b∈bs,b<256
 | .fn a,v=>v=.ref a
 | .obj,v=>v=.ref X
 | .list ds,v=>∃a vs,v=.ref a/\PL h a vs.toArray/\¬Av a/\ds.length<=4096/\RepL X h Av ds vs
 | .raw ds,v=>∃a vs,v=.ref a/\h.IsList a vs.toArray/\¬Av a/\ds.length<=4096/\RepL X h Av ds vs
 | .tuple ds,v=>∃a vs,v=.ref a/\h.IsTuple a vs.toArray/\¬Av a/\ds.length<=4096/\RepL X h Av ds vs
def RepL(X:Addr)(h:Heap)(Av:Addr->Prop):List D->List Value->Prop
 |[],vs=>vs=[]
 |d::ds,vs=>∃v r,vs=v::r/\Rep X h Av d v/\RepL X h Av ds r
end
section
variable{h h':Heap}
theorem fN{a:Addr}{its}(x:h.IsList a its)(e:∀o,h.get? a=some o->h'.get? a=some o):h'.IsList a its:=ai x λo ho r=>(am o (e o ho) r)
theorem mI{a:Addr}{its}(x:h.IsTuple a its)(e:∀o,h.get? a=some o->h'.get? a=some o):h'.IsTuple a its:=ai x λo ho r=>(am o (e o ho) r)
def ef(o:Obj):Prop:=∃vs n,o.data=.seq vs n
mutual
theorem Rep.keepS(k:∀b o,¬Av b->ef o->h.get? b=some o->h'.get? b=some o)(l:∀a,Av' a->Av a\/∀o,h.get? a=some o->¬ef o):∀(d:D) (v:Value),Rep X h Av d v->Rep X h' Av' d v
 | .none,_,r=>r
 | .bool _,_,r=>r
 | .int _,_,r=>r
 | .str _,_,r=>r
 | .bytes _,_,r=>r
 | .fn _,_,r=>r
 | .obj,_,r=>r
 | .list ds,v,r=>by
   obtain⟨a,vs,e,hl,na,hn,rl⟩:=r
   refine⟨a,vs,e,hl.at λo ho=>k a o na (by obtain⟨⟨o',ho',_,n,hd⟩,_⟩:=hl;rw[ho] at ho';obtain rfl:=so ho';exact⟨_,_,hd⟩) ho,λq=>?_,hn,RepL.keepS k l ds vs rl⟩
   rcases l a q with q|q
   ·exact na q
   ·obtain⟨⟨o,ho,_,n,hd⟩,_⟩:=hl;exact q o ho ⟨_,_,hd⟩
 | .raw ds,v,r=>by
   obtain⟨a,vs,e,hl,na,hn,rl⟩:=r
   refine⟨a,vs,e,fN hl λo ho=>k a o na (by obtain⟨o',ho',_,n,hd⟩:=hl;rw[ho] at ho';obtain rfl:=so ho';exact⟨_,_,hd⟩) ho,λq=>?_,hn,RepL.keepS k l ds vs rl⟩
   rcases l a q with q|q
   ·exact na q
   ·obtain⟨o,ho,_,n,hd⟩:=hl;exact q o ho ⟨_,_,hd⟩
 | .tuple ds,v,r=>by
   obtain⟨a,vs,e,hl,na,hn,rl⟩:=r
   refine⟨a,vs,e,mI hl λo ho=>k a o na (by obtain⟨o',ho',_,n,hd⟩:=hl;rw[ho] at ho';obtain rfl:=so ho';exact⟨_,_,hd⟩) ho,λq=>?_,hn,RepL.keepS k l ds vs rl⟩
   rcases l a q with q|q
   ·exact na q
   ·obtain⟨o,ho,_,n,hd⟩:=hl;exact q o ho ⟨_,_,hd⟩
theorem RepL.keepS(k:∀b o,¬Av b->ef o->h.get? b=some o->h'.get? b=some o)(l:∀a,Av' a->Av a\/∀o,h.get? a=some o->¬ef o):∀(ds:List D) (vs:List Value),RepL X h Av ds vs->RepL X h' Av' ds vs
 |[],_,r=>r
 |d::ds,vs,r=>by
  obtain⟨v,rest,e,r1,r2⟩:=r
  exact⟨v,rest,e,Rep.keepS k l d v r1,RepL.keepS k l ds rest r2⟩
end
theorem Rep.keep(k:∀b o,¬Av b->h.get? b=some o->h'.get? b=some o)(l:∀a,Av' a->Av a\/h.get? a=.none)(d:D)(v:Value)(r:Rep X h Av d v):Rep X h' Av' d v:=Rep.keepS (λb o n U=>k b o n) (λa q=>(l a q).imp id λe o ho=>by rw[e] at ho;exact no ho) d v r
theorem RepL.keep(k:∀b o,¬Av b->h.get? b=some o->h'.get? b=some o)(l:∀a,Av' a->Av a\/h.get? a=.none)(ds:List D)(vs:List Value)(r:RepL X h Av ds vs):RepL X h' Av' ds vs:=RepL.keepS (λb o n U=>k b o n) (λa q=>(l a q).imp id λe o ho=>by rw[e] at ho;exact no ho) ds vs r
theorem Rep.flat_any{v:Value}(hf:d.flat=true)(r:Rep X h Av d v):Rep X h' Av' d v:=by
 cases d<;>first|exact r|((injection hf;done))
theorem RepL.length:∀{ds:List D} {vs:List Value},RepL X h Av ds vs->vs.length=ds.length
 |[],_,r=>by subst r;rfl
 |d::ds,_,r=>by
  refine bv r λv rest e U r2=>?_
  rw[e]
  simp[RepL.length r2]
theorem RepL.nil:RepL X h Av [] []:=rfl
theorem RepL.cons{vs:List Value}(a:Rep X h Av d v)(b:RepL X h Av ds vs):RepL X h Av (d::ds) (v::vs):=
 (ip v vs rfl a b)
theorem RepL.cons_inv{vs:List Value}(r:RepL X h Av (d::ds) (v::vs)):Rep X h Av d v/\RepL X h Av ds vs:=by
 refine bv r λU U e a b=>?_
 cases e;exact⟨a,b⟩
theorem RepL.get:∀{ds:List D} {vs:List Value},RepL X h Av ds vs->∀{i:Nat} {d:D},ds[i]? =some d->∃v,vs[i]? =some v/\Rep X h Av d v
 |[],_,_,i,d,e=>by simp at e
 |d::ds,_,r,i,d',e=>by
  refine bv r λv rest e2 r1 r2=>e2▸?_
  induction i with
  |zero=>simp at e;subst e;exact(am v rfl r1)
  |succ i=>exact RepL.get r2 (i:=i) (by simpa using e)
theorem RepL.append:∀{ds es:List D} {vs us:List Value},RepL X h Av ds vs->RepL X h Av es us->RepL X h Av (ds++es) (vs++us)
 |[],_,_,_,r,q=>by subst r;exact q
 |d::ds,es,_,us,r,q=>by
  refine bv r λv rest e2 r1 r2=>e2▸?_
  exact RepL.cons r1 (RepL.append r2 q)
theorem RepL.drop:∀{ds:List D} {vs:List Value} (n:Nat),RepL X h Av ds vs->RepL X h Av (ds.drop n) (vs.drop n)
 |ds,vs,0,r=>r
 |[],_,n+1,r=>by subst r;exact RepL.nil
 |d::ds,_,n+1,r=>by
  refine bv r λv rest e2 r1 r2=>?_
  simp only[e2]
  exact RepL.drop n r2
theorem RepL.take:∀{ds:List D} {vs:List Value} (n:Nat),RepL X h Av ds vs->RepL X h Av (ds.take n) (vs.take n)
 |ds,vs,0,r=>RepL.nil
 |[],_,n+1,r=>by subst r;exact RepL.nil
 |d::ds,_,n+1,r=>by
  refine bv r λv rest e2 r1 r2=>e2▸?_
  exact RepL.cons r1 (RepL.take n r2)
theorem RepL.set:∀{ds:List D} {vs:List Value} (i:Nat) {d:D} {v:Value},RepL X h Av ds vs->Rep X h Av d v->RepL X h Av (ds.set i d) (vs.set i v)
 |[],_,i,d,v,r,_=>by subst r;exact RepL.nil
 |e::ds,_,0,d,v,r,q=>by
  refine bv r λu rest e2 r1 r2=>?_
  subst e2
  exact RepL.cons q r2
 |e::ds,_,i+1,d,v,r,q=>by
  refine bv r λu rest e2 r1 r2=>?_
  subst e2
  exact RepL.cons r1 (RepL.set i r2 q)
theorem RepL.snoc{v:Value}(r:RepL X h Av ds vs)(q:Rep X h Av d v):RepL X h Av (ds++[d]) (vs++[v]):=r.append (.cons q .nil)
end
inductive IK where
 |of|range1|range2|range3|enum|zip2|zip3
 deriving DecidableEq,Inhabited
set_option genCtorIdx false in
set_option backward.linearNoConfusionType false in
inductive IE where
 |const (d:D)
 |var (k:Nat)
 |bin (op:Operator) (a b:IE)
 |neg (a:IE)
 |not (a:IE)
 |and (a b:IE)
 |or (a b:IE)
 |cmp (op:CmpOp) (a b:IE)
 |cmp2 (op₁ op₂:CmpOp) (a b c:IE)
 |ite (t a b:IE)
 |call (f:Nat) (args:IE)
 |prim (f:String) (args:IE)
 |meth (name:String) (o args:IE)
 |repl (o:IE) (c a b:Nat)
 |nil
 |cons (a r:IE)
 |lst (a:IE)
 |tup (a:IE)
 |sub (a i:IE)
 |slice (a lo hi:IE)
 |fstr (a:IE)
 |barr (k:Nat)
 |comp1 (n:Nat) (k:IK) (a b c t e:IE)
 |comp2 (n₁:Nat) (k₁:IK) (a₁ b₁ c₁:IE) (n₂:Nat) (k₂:IK) (a₂ b₂ c₂:IE) (t e:IE)
 deriving Inhabited
noncomputable def aE:D->Option Bool
 | .none=>some false
 | .bool b=>some b
 | .int i=>some (i !=0)
 | .str cs=>some (!cs.isEmpty)
 | .list ds=>some (!ds.isEmpty)
 |_=>Option.none
noncomputable abbrev ax:Nat:=4096
noncomputable def D.gI:D->Option Int
 | .int a=>some a
 |_=>Option.none
noncomputable def D.gB:D->Option Bool
 | .bool a=>some a
 |_=>Option.none
noncomputable def D.gS:D->Option (List Nat)
 | .str a=>some a
 |_=>Option.none
noncomputable def D.gY:D->Option (List Nat)
 | .bytes a=>some a
 |_=>Option.none
noncomputable def D.gL:D->Option (List D)
 | .list a=>some a
 |_=>Option.none
noncomputable def D.gN:D->Option Unit
 | .none=>some ()
 |_=>Option.none
noncomputable def D.gO:D->Option Unit
 | .obj=>some ()
 |_=>Option.none
noncomputable def ii{α:Type}(f:Int->Int->Option α)(x y:D):Option α:=x.gI.bind λa=>y.gI.bind λb=>f a b
def Ha(x y:D):Option D:=match x with
 | .int a=>y.gI.bind λb=>some (.int (a+b))
 | .str a=>y.gS.bind λb=>if a.length+b.length<=ax then some (.str (a++b)) else none
 | .list a=>y.gL.bind λb=>if a.length+b.length<=ax then some (.list (a++b)) else none
 |_=>none
noncomputable def Gk(a b:Int):Option D:=if a.natAbs<2^31/\b.natAbs<2^31 then some (.int (a*b)) else none
noncomputable def G6(a b:Int):Option D:=if 0<b/\b<1000000000 then some (.int (a.fdiv b)) else none
noncomputable def Gl(a b:Int):Option D:=if 0<b/\b<1000000000 then some (.int (a.fmod b)) else none
noncomputable def Gh(a b:Int):Option D:=if 0<=a/\a<=10/\0<=b/\b<=10 then some (.int (a^b.toNat)) else none
def nP(op:Operator)(x y:D):Option D:=match op with
 | .Add=>Ha x y
 | .Sub=>ii (λa b=>some (.int (a-b))) x y
 | .Mult=>ii Gk x y
 | .FloorDiv=>ii G6 x y
 | .Mod=>ii Gl x y
 | .Pow=>ii Gh x y
 |_=>none
noncomputable def sI(a b:List Nat):Bool:=decide (a<b)
noncomputable def Dy(a:List D):List D->Option Bool
 |[]=>some a.isEmpty
 |_=>none
def oG(x y:D):Option Bool:=match x with
 | .int a=>y.gI.bind λb=>some (a==b)
 | .bool a=>y.gB.bind λb=>some (a==b)
 | .str a=>y.gS.bind λb=>some (a==b)
 | .bytes a=>y.gY.bind λb=>some (a==b)
 | .list a=>y.gL.bind (Dy a)
 |_=>none
noncomputable def mm(x y:D):Option Bool:=match x with
 | .none=>y.gN.map λU=>true
 | .obj=>y.gO.map λU=>true
 | .str _=>y.gO.map λU=>false
 | .tuple _=>y.gN.map λU=>false
 |_=>none
noncomputable def mf:D->D->Bool
 | .int _,.int _=>true
 | .str _,.str _=>true
 |_,_=>false
noncomputable def tT:D->D->Bool
 | .int a,.int b=>b==a
 | .str a,.str b=>b==a
 |_,_=>false
def inD(x:D)(ds:List D):Option Bool:=if ds.all (mf x) then some (ds.any (tT x)) else none
def Hq(x y:D):Option Bool:=match x with
 | .int a=>y.gI.bind λb=>some (decide (a<=b))
 | .str a=>y.gS.bind λb=>some (!sI b a)
 |_=>none
def Hu(x y:D):Option Bool:=match x with
 | .int a=>y.gI.bind λb=>some (decide (a>b))
 | .str a=>y.gS.bind λb=>some (sI b a)
 |_=>none
noncomputable def hasC(ys:List Nat):List Nat->Option Bool
 |[c]=>some (ys.contains c)
 |_=>none
def memD(x y:D):Option Bool:=match y with
 | .list ys=>inD x ys
 | .tuple ys=>inD x ys
 | .str ys=>x.gS.bind (hasC ys)
 |_=>none
def cN(op:CmpOp)(x y:D):Option Bool:=match op with
 | .Eq=>oG x y
 | .NotEq=>(oG x y).map (!·)
 | .Lt=>ii (λa b=>some (decide (a<b))) x y
 | .LtE=>Hq x y
 | .Gt=>Hu x y
 | .GtE=>ii (λa b=>some (decide (a>=b))) x y
 | .Is=>mm x y
 | .IsNot=>(mm x y).map (!·)
 | .In=>memD x y
 | .NotIn=>(memD x y).map (!·)
noncomputable def intsOf:List D->Option (List Int)
 |[]=>some []
 |d::r=>d.gI.bind λi=>(intsOf r).map (i:: ·)
noncomputable def bytesOf:List D->Option (List Nat)
 |[]=>some []
 |d::r=>d.gI.bind λi=>if 0<=i/\i<256 then (bytesOf r).map (i.toNat:: ·) else none
noncomputable def gf(x:Int):List Int->List Int
 |[]=>[x]
 |y::r=>if x<=y then x::y::r else y::gf x r
noncomputable def sortI:List Int->List Int
 |[]=>[]
 |x::r=>gf x (sortI r)
noncomputable def Dc:D->Option D
 | .list ds=>some (.int ds.length)
 | .str cs=>some (.int cs.length)
 | .bytes bs=>some (.int bs.length)
 |_=>none
noncomputable def C2:List Nat->Option D
 |[c]=>some (.int c)
 |_=>none
noncomputable def DN(i:Int):Option D:=if 0<=i/\i<1000 then some (.str [i.toNat]) else none
def Cs(ds:List D):Option D:=(intsOf ds).map λis=>.int is.sum
def zO(ds:List D):Option D:=(intsOf ds).bind λis=>if is.length<64 then some (.list ((sortI is).map .int)) else none
def Ai(ds:List D):Option D:=(bytesOf ds).map .bytes
def eL(f:String)(x:D):Option D:=
 if f="len" then Dc x
 else if f="ord" then x.gS.bind C2
 else if f="chr" then x.gI.bind DN
 else if f="sum" then x.gL.bind Cs
 else if f="sorted" then x.gL.bind zO
 else if f="int" then x.gI.map .int
 else if f="bytes" then x.gL.bind Ai
 else none
def dJ(f:String)(args:List D):Option D:=match args with
 |[x]=>eL f x
 |_=>none
noncomputable def aP(c:Nat):List Nat->Nat->Nat->Nat->Int
 |[],_,_,_=> -1
 |x::r,i,lo,hi=>if lo<=i/\i<hi/\x=c then i else aP c r (i+1) lo hi
noncomputable def bC(c:Nat)(by_:List Nat):List Nat->List Nat
 |[]=>[]
 |x::r=>(if x=c then by_ else [x])++bC c by_ r
noncomputable def strsOf:List D->Option (List (List Nat))
 |[]=>some []
 |d::r=>d.gS.bind λs=>(strsOf r).map (s:: ·)
noncomputable def ck(sep:List Nat):List (List Nat)->List Nat
 |[]=>[]
 |[x]=>x
 |x::y::r=>x++sep++ck sep (y::r)
noncomputable def isNone:D->Bool
 | .none=>true
 |_=>false
noncomputable def cn:D->Bool
 | .none| .tuple _=>true
 |_=>false
noncomputable def dq{α:Type}:List α->Option α
 |[x]=>some x
 |_=>none
noncomputable def nj{α:Type}:List α->Option (α×α)
 |x::l=>(dq l).map λy=>(x,y)
 |[]=>none
noncomputable def uo{α:Type}:List α->Option (α×α×α)
 |x::l=>(nj l).map λy=>(x,y)
 |[]=>none
theorem cI(h:dq l=some x):l=[x]:=by
 rcases l with _|⟨y,r⟩
 ·exact no h
 ·induction r with
  |nil=>rw[so h]
  |cons=>exact no h
theorem ka(h:nj l=some x):l=[x.1,x.2]:=by
 induction l with
 |nil=>exact no h
 |cons y r=>
  induction e:dq r with
  |none=>exact no ((congrArg (Option.map λz=>(y,z)) e).symm.trans h)
  |some z=>rw[<-so ((congrArg (Option.map λz=>(y,z)) e).symm.trans h)];simp only[cI e]
theorem ni(h:uo l=some x):l=[x.1,x.2.1,x.2.2]:=by
 induction l with
 |nil=>exact no h
 |cons y r=>
  induction e:nj r with
  |none=>exact no ((congrArg (Option.map λz=>(y,z)) e).symm.trans h)
  |some z=>rw[<-so ((congrArg (Option.map λz=>(y,z)) e).symm.trans h)];simp only[ka e]
def d8(name:String)(o:D)(args:List D):Option D:=
 if name="find" then o.gS.bind λcs=>(uo args).bind λp=>p.1.gS.bind λs=>(dq s).bind λc=>p.2.1.gI.bind λi=>p.2.2.gI.bind λj=>
  if 0<=i/\0<=j/\i<2^20/\j<2^20 then some (.int (aP c cs 0 i.toNat j.toNat)) else none
 else if name="join" then o.gS.bind λs=>if s=[] then (dq args).bind λa=>a.gL.bind λds=>(strsOf ds).bind λss=>if (ck [] ss).length<=ax then some (.str (ck [] ss)) else none else none
 else if name="count" then o.gL.bind λds=>(dq args).bind λa=>a.gN.bind λU=>if ds.all cn then some (.int (ds.filter isNone).length) else none
 else if name="index" then o.gL.bind λds=>(dq args).bind λa=>a.gN.bind λU=>if ds.all cn then (ds.findIdx? isNone).map λ(i:Nat)=>.int (i:Int) else none
 else none
noncomputable def zS(c a b:Nat):D->Option D
 | .str cs=>if (bC c [a,b] cs).length<=ax then some (.str (bC c [a,b] cs)) else none
 |_=>none
noncomputable def eJ(x y:D):Option D:=y.gI.bind λi=>match x with
 | .list ds=>if 0<=i then ds[i.toNat]? else if i= -1 then ds.getLast? else none
 | .tuple ds=>if 0<=i then ds[i.toNat]? else none
 | .str cs=>if 0<=i then (cs[i.toNat]?).map λc=>.str [c] else if i= -1 then cs.getLast?.map λc=>.str [c] else none
 | .bytes bs=>if 0<=i then (bs[i.toNat]?).map λ(b:Nat)=>.int (b:Int) else none
 |_=>none
noncomputable def dR(n:Nat):D->Option Nat
 | .none=>some 0
 | .int i=>if 0<=i then some (min i.toNat n) else some (n-(-i).toNat)
 |_=>none
noncomputable def dS(n:Nat):D->Option Nat
 | .none=>some n
 | .int i=>if 0<=i then some (min i.toNat n) else some (n-(-i).toNat)
 |_=>none
noncomputable def cut{α:Type}(l:List α)(lo hi:Nat):List α:=(l.take hi).drop lo
def bI(o lo hi:D):Option D:=
 match o with
 | .list ds=>(dR ds.length lo).bind λa=>(dS ds.length hi).map λb=>.list (cut ds a b)
 | .raw ds=>(dR ds.length lo).bind λa=>(dS ds.length hi).map λb=>.list (cut ds a b)
 | .str cs=>(dR cs.length lo).bind λa=>(dS cs.length hi).map λb=>.str (cut cs a b)
 | .bytes bs=>(dR bs.length lo).bind λa=>(dS bs.length hi).map λb=>.bytes (cut bs a b)
 |_=>none
noncomputable def eK(a b c:Int):List Int:=(List.range (Builtin.Range.rangeSize a b c).toNat).map λ(i:Nat)=>a+(i:Int)*c
noncomputable def small(i:Int):Bool:=decide (-(2^12)<i)&&decide (i<2^12)
noncomputable def zP:D->Option (List D)
 | .list ds=>some ds
 | .str cs=>if cs.all (λc=>decide (c<128)) then some (cs.map λc=>.str [c]) else none
 | .bytes bs=>some (bs.map λ(b:Nat)=>.int (b:Int))
 |_=>none
noncomputable def pD:Int->List D->List D
 |_,[]=>[]
 |i,d::r=>.tuple [.int i,d]::pD (i+1) r
noncomputable def hG:List D->List D->List D
 |a::r,b::q=>.tuple [a,b]::hG r q
 |_,_=>[]
noncomputable def pu:List D->List D->List D->List D
 |a::r,b::q,c::t=>.tuple [a,b,c]::pu r q t
 |_,_,_=>[]
noncomputable def a9:IK->D->D->D->Option (List D)
 | .of,d,_,_=>zP d
 | .range1,.int b,_,_=>if small b then some ((eK 0 b 1).map .int) else none
 | .range2,.int a,.int b,_=>if small a&&small b then some ((eK a b 1).map .int) else none
 | .range3,.int a,.int b,.int c=>if small a&&small b&&small c&&c !=0 then some ((eK a b c).map .int) else none
 | .enum,.list ds,_,_=>some (pD 0 ds)
 | .zip2,.list a,.list b,_=>some (hG a b)
 | .zip2,.list a,.str b,_=>if b.all (λc=>decide (c<128)) then some (hG a (b.map λc=>.str [c])) else none
 | .zip3,.list a,.list b,.list c=>some (pu a b c)
 |_,_,_,_=>none
noncomputable def fG:List D->Option (List Nat)
 |[]=>some []
 |d::r=>d.gS.bind λs=>(fG r).bind λt=>if s.length+t.length<=ax then some (s++t) else none
def j5(i:Nat)(d:D):Option D:=
 if i=0 then d.gL.bind λds=>(strsOf ds).bind λss=>
  if ss.all (λs=>s.length<=64)/\ss.length<=15 then some (.str (ck [45] (ss.map λs=>bC 45 [92,45] (bC 92 [92,92] s)))) else none
 else if i=1 then d.gS.bind λcs=>if cs.length<=256 then some (.str (cs.flatMap λc=>if c=38\/c=126\/c=124 then [92,c] else [c])) else none
 else none
abbrev Hook:=Nat->List D->Option D
inductive Sl where
 |un
 |sh (d:D)
 |ow (ds:List D)
 |ob (bs:List Nat)
 |ap (k:Nat)
 deriving Inhabited
abbrev R:=List Sl
noncomputable def aY(n:Nat):R:=List.replicate n .un
noncomputable def Sl.inn:Sl->Sl
 | .ap _=>.un
 |s=>s
noncomputable def bL{α β:Type}(f:α->Option β):List α->Option (List β)
 |[]=>some []
 |a::r=>(f a).bind λb=>(bL f r).map (b:: ·)
noncomputable def bg(n:Nat)(d:D):Option R:=
 if n=1 then some [.sh d] else match d with
  | .tuple ds=>if ds.length=n then some (ds.map .sh) else none
  |_=>none
noncomputable def Sl.view(pk:Bool):Sl->Option D
 | .sh d=>some d
 | .ow ds=>if pk then some (.list ds) else none
 |_=>none
noncomputable def aq(ρ:R):IE->Option D->Option D
 | .var k,_=>(ρ[k]?).bind (Sl.view true)
 |_,o=>o
noncomputable def eN(n:Nat):List D->Option D:=λds=>if ds.length<=n then some (.list ds) else none
noncomputable def ev(H:Hook):IE->Bool->R->Option D
 | .const d,_,_=>some d
 | .var k,pk,ρ=>(ρ[k]?).bind (Sl.view pk)
 | .bin op a b,pk,ρ=>(aq ρ a (ev H a pk ρ)).bind λx=>(aq ρ b (ev H b pk ρ)).bind λy=>nP op x y
 | .neg a,_,ρ=>(ev H a true ρ).bind λx=>match x with| .int i=>some (.int (-i))|_=>none
 | .not a,_,ρ=>(ev H a true ρ).bind λx=>(aE x).map λt=>.bool (!t)
 | .and a b,pk,ρ=>(ev H a pk ρ).bind λx=>(aE x).bind λt=>if t then ev H b pk ρ else some x
 | .or a b,pk,ρ=>(ev H a pk ρ).bind λx=>(aE x).bind λt=>if t then some x else ev H b pk ρ
 | .cmp op a b,_,ρ=>(ev H a true ρ).bind λx=>(ev H b true ρ).bind λy=>(cN op x y).map .bool
 | .cmp2 o₁ o₂ a b c,_,ρ=>(ev H a true ρ).bind λx=>(ev H b true ρ).bind λy=>(cN o₁ x y).bind λt=>if t then (ev H c true ρ).bind λz=>(cN o₂ y z).map .bool else some (.bool false)
 | .ite t a b,pk,ρ=>(ev H t true ρ).bind λx=>(aE x).bind λu=>if u then ev H a pk ρ else ev H b pk ρ
 | .call f a,pk,ρ=>(ev H a true ρ).bind λx=>match x with
  | .tuple ds=>(H f ds).bind λd=>if pk||d.flat then some d else (ev H a false ρ).bind λx'=>match x' with
    | .tuple ds'=>H f ds'
    |_=>none
  |_=>none
 | .prim f a,_,ρ=>(ev H a true ρ).bind λx=>match x with| .tuple ds=>dJ f ds|_=>none
 | .meth m o a,_,ρ=>(ev H o true ρ).bind λx=>(ev H a true ρ).bind λy=>match y with| .tuple ds=>d8 m x ds|_=>none
 | .repl o c a b,_,ρ=>(ev H o true ρ).bind λx=>zS c a b x
 | .nil,_,_=>some (.tuple [])
 | .cons a r,pk,ρ=>(ev H a pk ρ).bind λx=>(ev H r pk ρ).bind λy=>match y with| .tuple ds=>some (.tuple (x::ds))|_=>none
 | .lst a,pk,ρ=>(ev H a pk ρ).bind λx=>match x with| .tuple ds=>eN ax ds|_=>none
 | .tup a,pk,ρ=>(ev H a pk ρ).bind λx=>match x with| .tuple ds=>if ds.length<=ax then some (.tuple ds) else none|_=>none
 | .sub a i,pk,ρ=>(aq ρ a (ev H a pk ρ)).bind λx=>(ev H i true ρ).bind λy=>eJ x y
 | .slice a l h,pk,ρ=>(aq ρ a (ev H a pk ρ)).bind λx=>(ev H l true ρ).bind λy=>(ev H h true ρ).bind λz=>bI x y z
 | .fstr a,_,ρ=>(ev H a true ρ).bind λx=>match x with| .tuple ds=>(fG ds).map .str|_=>none
 | .barr k,_,ρ=>match ρ[k]? with|some (.ob bs)=>some (.bytes bs)|_=>none
 | .comp1 n k a b c t e,pk,ρ=>(aq ρ a (ev H a false ρ)).bind λx=>(aq ρ b (ev H b false ρ)).bind λy=>(aq ρ c (ev H c false ρ)).bind λz=>(a9 k x y z).bind λds=>
  (bL (λd=>(bg n d).bind λbs=>(ev H t true (bs++ρ.map Sl.inn)).bind λu=>(aE u).bind λq=>if q then (ev H e pk (bs++ρ.map Sl.inn)).map λv=>[v] else some []) ds).bind λl=>
   eN ax l.flatten
 | .comp2 n₁ k₁ a₁ b₁ c₁ n₂ k₂ a₂ b₂ c₂ t e,pk,ρ=>(aq ρ a₁ (ev H a₁ false ρ)).bind λx=>(aq ρ b₁ (ev H b₁ false ρ)).bind λy=>(aq ρ c₁ (ev H c₁ false ρ)).bind λz=>(a9 k₁ x y z).bind λds=>
  (bL (λd=>(bg n₁ d).bind λbs=>(aq (aY n₂++(bs++ρ.map Sl.inn)) a₂ (ev H a₂ false (aY n₂++(bs++ρ.map Sl.inn)))).bind λx=>
   (aq (aY n₂++(bs++ρ.map Sl.inn)) b₂ (ev H b₂ false (aY n₂++(bs++ρ.map Sl.inn)))).bind λy=>(aq (aY n₂++(bs++ρ.map Sl.inn)) c₂ (ev H c₂ false (aY n₂++(bs++ρ.map Sl.inn)))).bind λz=>(a9 k₂ x y z).bind λds₂=>
   (bL (λd=>(bg n₂ d).bind λbs₂=>(ev H t true (bs₂++(bs++ρ.map Sl.inn))).bind λu=>(aE u).bind λq=>if q then (ev H e pk (bs₂++(bs++ρ.map Sl.inn))).map λv=>[v] else some []) ds₂).map List.flatten) ds).bind λl=>
   eN ax l.flatten
set_option genCtorIdx false in
set_option backward.linearNoConfusionType false in
inductive IS where
 |assign (k:Nat) (e:IE)
 |newOwn (k:Nat) (e:IE)
 |newBarr (k:Nat) (e:IE)
 |bindApp (k k':Nat)
 |append (k:Nat) (e:IE)
 |addCall (k:Nat) (e:IE)
 |multi (ks:List Nat) (e:IE)
 |multiD (ks:List Nat) (es:List (Option IE))
 |setItem (k:Nat) (i e:IE)
 |augItem (k:Nat) (i e:IE)
 |aug (k:Nat) (op:Operator) (e:IE)
 |ife (t:IE) (a b:List IS)
 |whl (t:IE) (body:List IS)
 |fr (ks:List Nat) (k:IK) (a b c:IE) (body:List IS)
 |ret (e:IE)
 |brk
 |asrt (e:IE)
 |spec (k i j:Nat)
 |bad
 deriving Inhabited
inductive Fl where
 |nx|br|rt (d:D)
 deriving Inhabited
noncomputable def aD(one:IS->R->Option (Fl×R)):List IS->R->Option (Fl×R)
 |[],ρ=>some (.nx,ρ)
 |s::r,ρ=>(one s ρ).bind λp=>match p.1 with
  | .nx=>aD one r p.2
  |f=>some (f,p.2)
noncomputable def dK(test:R->Option Bool)(body:R->Option (Fl×R)):Nat->R->Option (Fl×R)
 |0,_=>none
 |n+1,ρ=>(test ρ).bind λt=>if t then (body ρ).bind λp=>match p.1 with
   | .nx=>dK test body n p.2
   | .br=>some (.nx,p.2)
   | .rt d=>some (.rt d,p.2)
  else some (.nx,ρ)
noncomputable def d6(k:Nat)(s:Sl)(ρ:R):Option R:=if k<ρ.length then some (ρ.set k s) else none
noncomputable def Sl.kill(k:Nat):Sl->Sl
 | .ap j=>if j=k then .un else .ap j
 |s=>s
def bG(k:Nat)(s:Sl)(ρ:R):Option R:=if k<ρ.length then some ((ρ.map (Sl.kill k)).set k s) else none
noncomputable def fH:List Nat->List Sl->R->Option R
 |[],[],ρ=>some ρ
 |k::ks,d::ds,ρ=>(bG k d ρ).bind (fH ks ds)
 |_,_,_=>none
def bindTo(ks:List Nat)(d:D)(ρ:R):Option R:=(bg ks.length d).bind λbs=>fH ks bs ρ
noncomputable def cb(ks:List Nat)(body:R->Option (Fl×R)):List D->R->Option (Fl×R)
 |[],ρ=>some (.nx,ρ)
 |d::r,ρ=>(bindTo ks d ρ).bind λρ₁=>(body ρ₁).bind λp=>match p.1 with
   | .nx=>cb ks body r p.2
   | .br=>some (.nx,p.2)
   | .rt d=>some (.rt d,p.2)
noncomputable def cW:Nat:=256
noncomputable def lj(H:Hook)(ρ:R):Option IE->Option Sl
 |some e=>(ev H e false ρ).map .sh
 |none=>some (.ow [])
noncomputable def az(H:Hook):Nat->IS->R->Option (Fl×R)
 |0,_,_=>none
 |n+1,s,ρ=>match s with
  | .assign k e=>(ev H e false ρ).bind λd=>(bG k (.sh d) ρ).map λρ'=>(.nx,ρ')
  | .newOwn k e=>(ev H e false ρ).bind λd=>match d with
    | .tuple ds=>if ds.length<=ax then (bG k (.ow ds) ρ).map λρ'=>(.nx,ρ') else none
    |_=>none
  | .newBarr _ _=>none
  | .bindApp k k'=>match ρ[k']? with
    |some (.ow _)=>if k≠k' then (bG k (.ap k') ρ).map λρ'=>(.nx,ρ') else none
    |_=>none
  | .append k e=>(ev H e false ρ).bind λd=>match ρ[k]? with
    |some (.ow ds)=>if ds.length<ax then (d6 k (.ow (ds++[d])) ρ).map λρ'=>(.nx,ρ') else none
    |_=>none
  | .addCall k e=>match ρ[k]? with
    |some (.ap k')=>(ev H e false ρ).bind λd=>match ρ[k']? with
     |some (.ow ds)=>if ds.length<ax then (d6 k' (.ow (ds++[d])) ρ).map λρ'=>(.nx,ρ') else none
     |_=>none
    |_=>none
  | .multi ks e=>(ev H e false ρ).bind λd=>match d with
    | .tuple ds=>(fH ks (ds.map .sh) ρ).map λρ'=>(.nx,ρ')
    |_=>none
  | .multiD ks es=>(bL (lj H ρ) es).bind λds=>if ks.length=ds.length then (fH ks.reverse ds.reverse ρ).map λρ'=>(.nx,ρ') else none
  | .setItem k i e=>(ev H e true ρ).bind λd=>(ev H i true ρ).bind λj=>match ρ[k]?,j,d with
    |some (.ob bs),.int j,.int b=>if 0<=j/\j.toNat<bs.length/\0<=b/\b<256 then (d6 k (.ob (bs.set j.toNat b.toNat)) ρ).map λρ'=>(.nx,ρ') else none
    |_,_,_=>none
  | .augItem k i e=>(ev H i true ρ).bind λj=>match ρ[k]?,j with
    |some (.ow ds),.int j=>if j= -1 then match ds.getLast? with
     |some (.str old)=>(ev H e true ρ).bind λd=>match d with
      | .str d=>if old.length+d.length<=ax then (d6 k (.ow (ds.set (ds.length-1) (.str (old++d)))) ρ).map λρ'=>(.nx,ρ') else none
      |_=>none
     |_=>none
     else none
    |_,_=>none
  | .aug k op e=>match ρ[k]? with
    |some (.sh old)=>(ev H e true ρ).bind λd=>match old,d with
     | .int a,.int b=>if op=.Add then (bG k (.sh (.int (a+b))) ρ).map λρ'=>(.nx,ρ') else none
     | .str a,.str b=>if op=.Add/\a.length+b.length<=ax then (bG k (.sh (.str (a++b))) ρ).map λρ'=>(.nx,ρ') else none
     |_,_=>none
    |_=>none
  | .ife t a b=>(ev H t true ρ).bind λd=>(aE d).bind λu=>if u then aD (az H n) a ρ else aD (az H n) b ρ
  | .whl t body=>dK (λρ=>(ev H t true ρ).bind aE) (aD (az H n) body) cW ρ
  | .fr ks k a b c body=>
    (ev H a false ρ).bind λx=>(ev H b false ρ).bind λy=>(ev H c false ρ).bind λz=>(a9 k x y z).bind λds=>
     cb ks (aD (az H n) body) ds ρ
  | .ret e=>(ev H e true ρ).map λd=>(.rt d,ρ)
  | .brk=>some (.br,ρ)
  | .asrt e=>(ev H e true ρ).bind λd=>(aE d).bind λu=>if u then some (.nx,ρ) else none
  | .spec k i j=>((ρ[j]?).bind (Sl.view true)).bind λx=>(j5 i x).bind λd=>(bG k (.sh d) ρ).map λρ'=>(.nx,ρ')
  | .bad=>none
theorem D.gI_eq{x:D}(h:x.gI=some a):x=.int a:=by
 cases x with
 |int b=>rw[so h]
 |_=>exact no h
theorem D.gB_eq{x:D}(h:x.gB=some a):x=.bool a:=by
 cases x with
 |bool b=>rw[so h]
 |_=>exact no h
theorem D.gS_eq{x:D}(h:x.gS=some a):x=.str a:=by
 cases x with
 |str b=>rw[so h]
 |_=>exact no h
theorem D.gY_eq{x:D}(h:x.gY=some a):x=.bytes a:=by
 cases x with
 |bytes b=>rw[so h]
 |_=>exact no h
theorem D.gL_eq{x:D}(h:x.gL=some a):x=.list a:=by
 cases x with
 |list b=>rw[so h]
 |_=>exact no h
theorem D.gN_eq{x:D}(h:x.gN=some a):x=.none:=by
 cases x with
 |none=>rfl
 |_=>exact no h
theorem D.gO_eq{x:D}(h:x.gO=some a):x=.obj:=by
 cases x with
 |obj=>rfl
 |_=>exact no h
theorem gQ{z:α}{P:Prop}(h:ii f x y=some z)(k:∀a b,x=.int a->y=.int b->f a b=some z->P):P:=
 bi h λU h1 h=>bi h λU h2 h=>k _ _ (D.gI_eq h1) (D.gI_eq h2) h
end Internal
namespace Internal
open PyProof.Rows
structure Cx where
 prog:Program
 w:World
 g:Heap
 os:OsState
 mg:Str->Option Value
 mb:Str->Option Value
 places:List (Pos×Str)
structure Ok(C:Cx)(mt:Addr->Prop)(s:Shared):Prop where
 gk:∀b o,C.g.get? b=some o->s.heap.get? b=some o
 tb:∃ps,s.heap.get? 66=some (W.tabObj ps)/\TriplesOk ps.toList/\
  ∀q∈C.places,codeAmong q.1 ps.toList=none\/∃c',codeAmong q.1 ps.toList=some (.ref c')/\s.heap.CodeRec (.ref c') q.2/\¬mt c'/\c'≠66
 bare:AllBare s.gens
 os:s.os=C.os
 tk:1<=s.toks
 mtx:∀a,mt a->C.g.get? a=none/\a≠66/\∃o,s.heap.get? a=some o
def mL(h:Heap)(q:Pos)(c:Addr):Prop:=∃ps,h.get? 66=some (W.tabObj ps)/\codeAmong q ps.toList=some (.ref c)
structure Kp(h h':Heap):Prop where
 keep:∀b o,b≠66->h.get? b=some o->h'.get? b=some o
 code:∀q c,mL h' q c->mL h q c\/(c≠66->h.get? c=none)
theorem Kp.refl(h:Heap):Kp h h:=⟨λU U U e=>e,λU U e=>.inl e⟩
theorem Kp.trans(x:Kp h h')(y:Kp h' h''):Kp h h'' where
 keep:=λb o n e=>y.keep b o n (x.keep b o n e)
 code:=λq c e=>by
  rcases y.code q c e with e|e
  ·exact x.code q c e
  ·refine .inr λn=>?_
   refine nn λo q=>?_
   replace e:=(x.keep c o n q)▸e;exact no (af (e n))
theorem eS{h h':Heap}{q:Str}(x:h.CodeRec (.ref c) q)(k:∀o,h.get? c=some o->h'.get? c=some o):h'.CodeRec (.ref c) q:=
 qR x λc₂ o vs t e g r=>(Dl c₂ o vs t e (by cases e;exact k o g) r)
section
variable{mt mt':Addr->Prop}
theorem Ok.stepL(x:Ok C mt s)(hk:∀b o,¬mt b->s.heap.get? b=some o->s'.heap.get? b=some o)(hx:∀a,mt' a->mt a/\∃o,s'.heap.get? a=some o)
 (hg:AllBare s'.gens) (ho:s'.os=s.os) (ht:1<=s'.toks):Ok C mt' s' where
 gk:=λb o e=>hk b o (λm=>by have:=(x.mtx b m).1;replace e:=this.symm.trans e;exact no e) (x.gk b o e)
 tb:=by
  refine aZ x.tb λps h1 h2 h3=>(bc ps (hk _ _ (λm=>(x.mtx 66 m).2.1 rfl) h1) h2 (λq hq=>?_))
  rcases h3 q hq with h|⟨c',h,hr,hn,h6⟩
  ·exact .inl h
  ·exact .inr (fu c' h (eS hr λo=>hk c' o hn) (λm=>hn (hx _ m).1) h6)
 bare:=hg
 os:=ho.trans x.os
 tk:=ht
 mtx:=λa m=>(a6 ((x.mtx a (hx a m).1).1) ((x.mtx a (hx a m).1).2.1) ((hx a m).2))
theorem Ok.step(x:Ok C mt s)(hk:∀b o,¬mt b->s.heap.get? b=some o->s'.heap.get? b=some o)(hx:∀a,mt a->∃o,s'.heap.get? a=some o)
 (hg:AllBare s'.gens) (ho:s'.os=s.os) (ht:1<=s'.toks):Ok C mt s':=x.stepL hk (λa m=>⟨m,hx a m⟩) hg ho ht
theorem Ok.keep(x:Ok C mt s){tk:Nat}(ht:1<=tk)(hk:∀b o,s.heap.get? b=some o->h'.get? b=some o):Ok C mt {s with heap:=h',toks:=tk}:=
 x.step (s':={s with heap:=h',toks:=tk}) (λb o U e=>hk b o e) (λa m=>aB ((x.mtx a m).2.2) λo e=>⟨o,hk a o e⟩) x.bare rfl ht
theorem Ok.less(x:Ok C mt s)(h:∀a,mt' a->mt a):Ok C mt' s where
 gk:=x.gk
 tb:=by
  refine aZ x.tb λps h1 h2 h3=>(bc ps h1 h2 (λq hq=>?_))
  rcases h3 q hq with e|⟨c',e,hr,hn,h6⟩
  ·exact .inl e
  ·exact .inr (fu c' e hr (λm=>hn (h _ m)) h6)
 bare:=x.bare
 os:=x.os
 tk:=x.tk
 mtx:=λa m=>x.mtx a (h a m)
theorem Ok.more(x:Ok C mt s)(hk:∀b o,s.heap.get? b=some o->s'.heap.get? b=some o)(hm:∀a,mt' a->(mt a\/s.heap.get? a=none)/\∃o,s'.heap.get? a=some o)
 (hg:AllBare s'.gens) (ho:s'.os=s.os) (ht:1<=s'.toks):Ok C mt' s' where
 gk:=λb o e=>hk b o (x.gk b o e)
 tb:=by
  refine aZ x.tb λps h1 h2 h3=>(bc ps (hk _ _ h1) h2 (λq hq=>?_))
  rcases h3 q hq with e|⟨c',e,hr,hn,h6⟩
  ·exact .inl e
  ·refine .inr (fu c' e (eS hr λo=>hk c' o) (λm=>?_) h6)
   rcases(hm c' m).1 with m|m
   ·exact hn m
   ·refine qR hr λc₂ o U U e2 g U=>?_
    cases e2;rw[m] at g;exact no g
 bare:=hg
 os:=ho.trans x.os
 tk:=ht
 mtx:=λa m=>by
  refine aw (hm a m) λh1 h2=>?_
  rcases h1 with h1|h1
  ·exact⟨(x.mtx a h1).1,(x.mtx a h1).2.1,h2⟩
  ·refine⟨?_,λe=>?_,h2⟩
   ·refine nn λo q=>?_
    rw[x.gk a o q] at h1;exact no (af h1)
   ·refine ai x.tb λps h3 U=>?_
    rw[e,h3] at h1;exact no (af h1)
end
section
variable{mt mt':Addr->Prop}{s s':Shared}
theorem Ok.kp(x:Ok C mt s)(k:∀b o,s.heap.get? b=some o->s'.heap.get? b=some o):Kp s.heap s'.heap where
 keep:=λb o U e=>k b o e
 code:=λq c z6=>ai z6 λps e1 e2=>by
  refine ai x.tb λps' h1 U=>?_
  replace e1:=(k _ _ h1)▸e1
  cases e1
  exact .inl (am _ h1 e2)
theorem Ok.back(x:Ok C mt s)(y:Ok C mt' s')(k:Kp s.heap s'.heap):Ok C mt s' where
 gk:=y.gk
 tb:=by
  refine aZ y.tb λps h1 h2 h3=>(bc ps h1 h2 (λq hq=>?_))
  rcases h3 q hq with e|⟨c',e,hr,hn,h6⟩
  ·exact .inl e
  ·refine .inr (fu c' e hr (λm=>?_) h6)
   clear hr
   clear hn
   rcases k.code q.1 c' (am ps h1 e) with ⟨ps',e1,e2⟩|e1
   ·refine aZ x.tb λps₂ g1 U g3=>?_
    replace e1:=g1▸e1;clear e;cases e1
    rcases g3 q hq with g|⟨c₂,g,_,gn,_⟩
    ·rw[g] at e2;exact no e2
    ·rw[g] at e2;(injection e2 with e2;injection e2 with e2;subst e2);exact gn m
   ·obtain⟨_,_,o,ho⟩:=x.mtx c' m
    replace ho:=(e1 h6).symm.trans ho;exact no ho
 bare:=y.bare
 os:=y.os
 tk:=y.tk
 mtx:=λa m=>let⟨h1,h2,o,ho⟩:=x.mtx a m;⟨h1,h2,o,k.keep a o h2 ho⟩
end
def ValOf(env:Env)(h:Heap)(x:Str)(v:Value):Prop:=
 (env.kindOf x=some .local/\∃m,h.Ns env.locals m/\m x=some v)\/
 ((env.kindOf x=some .cell\/env.kindOf x=some .free)/\∃c,env.cells.lookup x=some c/\h.IsCell c (some v))
theorem eD{h:Heap}(x:h.Ns a m)(y:h.Ns a m'):m=m':=by
 refine uN x λo es ep h1 h2 U h4=>uN y λo' es' ep' h1' h2' U h4'=>?_
 rw[h1] at h1';clear h4';obtain rfl:=so h1'
 replace h2':=h2▸h2';cases h2'
 funext n
 exact Heap.Ns.agree x y n
theorem di{h:Heap}(x:h.IsCell c v)(y:h.IsCell c v'):v=v':=by
 refine ai x λo h1 h2=>ai y λo' h1' h2'=>?_
 replace h1':=h1▸h1';clear y;cases h1'
 replace h2':=h2▸h2';cases h2'
 rfl
theorem ValOf.unique{v v':Value}(a:ValOf env h x v)(b:ValOf env h x v'):v=v':=by
 rcases a with ⟨k,m,n,e⟩|⟨k,c,e,i⟩<;>rcases b with ⟨k',m',n',e'⟩|⟨k',c',e',i'⟩
 ·rw[eD n n'] at e;rw[e] at e';refine(so e')▸?_;rfl
 ·rw[k] at k';rcases k' with k'|k'<;>cases k'
 ·rw[k'] at k;rcases k with k|k<;>cases k
 ·rw[e] at e';obtain rfl:=so e'
  have:=di i i';refine(so this)▸?_;rfl
theorem ValOf.at{v:Value}(a:ValOf env h x v)(k:∀b o,h.get? b=some o->(b=env.locals\/∃c,env.cells.lookup x=some c/\b=c)->h'.get? b=some o):ValOf env h' x v:=by
 rcases a with ⟨k1,m,⟨o,es,ep,n,r⟩,e⟩|⟨k1,c,e,⟨o,i,r⟩⟩
 ·exact .inl ⟨k1,m,⟨o,es,ep,k _ _ n (.inl rfl),r⟩,e⟩
 ·exact .inr ⟨k1,c,e,⟨o,k _ _ i (.inr ⟨c,e,rfl⟩),r⟩⟩
def jf(h:Heap)(b a:Addr):Prop:=∃o vs,h.get? b=some o/\o.cls=.type "builtin_function_or_method"/\o.data=.fields vs/\vs= #[.builtin "list.append",.ref a]
def mJ(h:Heap)(a:Addr)(bs:List Nat):Prop:=h.get? a=some {cls:=.type "bytearray",data:=.bytearray (bs.map Nat.toUInt8).toArray}
def aJ(mB mo:Addr->Prop)(pk:Bool):Addr->Prop:=λa=>a=66\/mB a\/(pk=false/\mo a)
def SlotR(X:Addr)(env:Env)(Γ:List Str)(mB mo:Addr->Prop)(h:Heap):Sl->Value->Prop
 | .un,_=>True
 | .sh d,v=>Rep X h (aJ mB mo false) d v
 | .ow ds,v=>∃a vs,v=.ref a/\PL h a vs.toArray/\mo a/\ds.length<=4096/\RepL X h (aJ mB mo false) ds vs
 | .ob bs,v=>∃a,v=.ref a/\mJ h a bs/\mo a/\bs.length<=4096/\∀b∈bs,b<256
 | .ap k,v=>∃b a,v=.ref b/\jf h b a/\¬aJ mB mo false b/\∃y,Γ.idxOf? y=some k/\ValOf env h y (.ref a)
noncomputable def Sl.own:Sl->Bool
 | .ow _| .ob _=>true
 |_=>false
noncomputable def gW(ns:List (Str×NameKind))(x:Str):Bool:=match ns.lookup x with
 |some .local|some .cell|some .free=>true
 |_=>false
theorem kH{env:Env}(h:env.kindOf x=some .local\/env.kindOf x=some .cell\/env.kindOf x=some .free):gW env.scope.names x=true:=by
 rcases h with h|h|h<;>exact congrArg (λo:Option NameKind=>match o with|some .local|some .cell|some .free=>true|_=>false) h
structure Fm(C:Cx)(X:Addr)(env:Env)(Γ:List Str)(mB mo:Addr->Prop)(ρ:R)(s:Shared):Prop where
 ok:Ok C (λa=>mB a\/mo a) s
 kind:env.scope.kind=.function
 glob:env.globals=mainGlobals
 bi:env.builtins=builtinsNs
 ns:∃m,s.heap.Ns env.locals m
 mutL:mo env.locals
 apartB:∀a,mo a->¬mB a
 cells:∀x c,env.kindOf x=some .cell->env.cells.lookup x=some c->mo c/\∃v,s.heap.IsCell c v
 cellB:∀x c,env.cells.lookup x=some c->¬mB c
 cellE:∀x c,env.cells.lookup x=some c->∃v,s.heap.IsCell c v
 hasC:∀x,env.kindOf x=some .cell\/env.kindOf x=some .free->∃c,env.cells.lookup x=some c
 inj:∀x y c,env.cells.lookup x=some c->env.cells.lookup y=some c->x=y
 slots:∀k x sl,Γ.idxOf? x=some k->ρ[k]? =some sl->sl≠.un->gW env.scope.names x=true->∃v,ValOf env s.heap x v/\SlotR X env Γ mB mo s.heap sl v
 apart:∀k k' x x' sl sl' a,Γ.idxOf? x=some k->Γ.idxOf? x'=some k'->ρ[k]? =some sl->ρ[k']? =some sl'->sl.own=true->sl'.own=true->
  ValOf env s.heap x (.ref a)->ValOf env s.heap x' (.ref a)->k=k'
theorem kr{Γ:List Str}{k:Nat}(h:Γ.idxOf? x=some k)(h':Γ.idxOf? y=some k):x=y:=by
 refine ai (List.findIdx?_eq_some_iff_getElem.mp (show Γ.findIdx? (· ==x)=some k from h)) λh1 h2 U=>?_
 refine ai (List.findIdx?_eq_some_iff_getElem.mp (show Γ.findIdx? (· ==y)=some k from h')) λh3 h4 U=>?_
 rw[beq_iff_eq] at h2 h4
 simp only[<-h2,<-h4]
theorem SlotR.keep{mB mB' mo aK:Addr->Prop}{sl:Sl}(r:SlotR X env Γ mB mo h sl v)
 (k:∀b o,b≠66->¬mB b->h.get? b=some o->h'.get? b=some o) (lB:∀a,mB' a->mB a\/h.get? a=none)
 (l:∀a,aK a->mo a\/h.get? a=none) (l':∀a,mo a->aK a/\a≠66/\¬mB a) (hv:∀y a,ValOf env h y (.ref a)->ValOf env h' y (.ref a)):SlotR X env Γ mB' aK h' sl v:=by
 have kk:∀b o,¬aJ mB mo false b->h.get? b=some o->h'.get? b=some o:=λb o n e=>k b o (λq=>n (.inl q)) (λq=>n (.inr (.inl q))) e
 have ll:∀a,aJ mB' aK false a->aJ mB mo false a\/h.get? a=none:=λa q=>by
  rcases q with q|q|⟨q,m⟩
  ·exact .inl (.inl q)
  ·rcases lB a q with m|m
   ·exact .inl (.inr (.inl m))
   ·exact .inr m
  ·rcases l a m with m|m
   ·exact .inl (.inr (.inr ⟨q,m⟩))
   ·exact .inr m
 induction sl with
 |un=>trivial
 |sh d=>exact Rep.keep kk ll d v r
 |ow ds=>
  refine bU r λa vs e hl hm hn rl=>(dD a vs e (hl.at λo=>k a o (l' a hm).2.1 (l' a hm).2.2) ((l' a hm).1) hn (RepL.keep kk ll ds vs rl))
 |ob bs=>
  refine iu r λa e hl hm hb=>(fu a e (k _ _ (l' a hm).2.1 (l' a hm).2.2 hl) ((l' a hm).1) hb)
 |ap j=>
  refine av λGG kk=>?_
  obtain⟨b,a,e,⟨o,vs,h1,h2⟩,hn,y,hy,hva⟩:=r
  refine kk ?_;clear kk
  refine⟨b,a,e,⟨o,vs,kk _ _ hn h1,h2⟩,λq=>?_,y,hy,hv _ _ hva⟩
  rcases ll b q with q|q
  ·exact hn q
  ·replace h1:=q.symm.trans h1;exact no h1
theorem Fm.change{Γ:List Str}{mB mB' mo aK:Addr->Prop}(F:Fm C X env Γ mB mo ρ s)
 (k:∀b o,b≠66->¬mB b->s.heap.get? b=some o->s'.heap.get? b=some o) (lB:∀a,mB' a->mB a\/s.heap.get? a=none)
 (l:∀a,aK a->mo a\/s.heap.get? a=none) (l':∀a,mo a->aK a) (hap:∀a,aK a->¬mB' a) (ok:Ok C (λa=>mB' a\/aK a) s'):
 Fm C X env Γ mB' aK ρ s':=by
 have n66:=λa m=>(F.ok.mtx a (.inr m)).2.1
 have km:=λa o m e=>k a o (n66 a m) (F.apartB a m) e
 have nB:∀c v,(∃o,s.heap.get? c=some o/\o.data=.cell v)->c≠66:=λc v q e=>by
  refine ai q λo h1 h2=>ai F.ok.tb λps h3 U=>?_
  rw[e,h3] at h1;obtain rfl:=so h1;(injection h2;done)
 have kc:∀y v,(env.kindOf y=some .cell\/env.kindOf y=some .free)->∀c,env.cells.lookup y=some c->s.heap.IsCell c v->s'.heap.IsCell c v:=λy v h1 c h2 z1=>ai z1 λo h3 h4=>
  (am o (k c o (nB c v (am o h3 h4)) (F.cellB y c h2) h3) h4)
 have kv:∀y v,ValOf env s.heap y v->ValOf env s'.heap y v:=λy v r=>by
  rcases r with ⟨k1,m,⟨o,es,ep,n,r⟩,e⟩|⟨k1,c,e,i⟩
  ·exact .inl ⟨k1,m,⟨o,es,ep,km _ _ F.mutL n,r⟩,e⟩
  ·exact .inr ⟨k1,c,e,kc y _ k1 c e i⟩
 have kvi:∀k1 x sl y (v:Value),Γ.idxOf? x=some k1->ρ[k1]? =some sl->sl.own=true->ValOf env s'.heap x (.ref y)->ValOf env s.heap x (.ref y):=λk1 x sl y U h1 h2 h3 h4=>by
  have:=kH (h4.imp And.left And.left)
  refine ai (F.slots k1 x sl h1 h2 (by rintro rfl;(injection h3;done)) this) λv hv U=>?_
  have:=ValOf.unique (kv _ _ hv) h4
  refine this▸?_;exact hv
 exact {
  ok:=ok
  kind:=F.kind
  glob:=F.glob
  bi:=F.bi
  ns:=uM F.ns λm o es ep n r=>(GA m o es ep (km _ _ F.mutL n) r)
  mutL:=l' _ F.mutL
  apartB:=hap
  cells:=λx c h1 h2=>let⟨a,v,i⟩:=F.cells x c h1 h2;⟨l' _ a,v,kc x v (.inl h1) c h2 i⟩
  cellB:=λx c h q=>by
   rcases lB c q with q|q
   ·exact F.cellB x c h q
   ·refine bK (F.cellE x c h) λv o i U=>?_
    rw[q] at i;exact no i
  cellE:=λx c h=>bK (F.cellE x c h) λv o i j=>(bu v o (k c o (nB c v (am o i j)) (F.cellB x c h) i) j)
  hasC:=F.hasC
  inj:=F.inj
  slots:=λk1 x sl h1 h2 h3 h4=>by
   refine ai (F.slots k1 x sl h1 h2 h3 h4) λv hv hr=>⟨v,kv x v hv,SlotR.keep hr k lB l (λa m=>(a6 (l' a m) (n66 a m) (F.apartB a m))) λy a=>kv y _⟩
  apart:=λk1 k2 x x' sl sl' a h1 h2 h3 h4 h5 h6 h7 h8=>F.apart k1 k2 x x' sl sl' a h1 h2 h3 h4 h5 h6 (kvi k1 x sl a .none h1 h3 h5 h7) (kvi k2 x' sl' a .none h2 h4 h6 h8)}
theorem Fm.keep{Γ:List Str}(F:Fm C X env Γ mB mo ρ s)(k:Kp s.heap s'.heap)(ok:Ok C (λa=>mB a\/mo a) s'):
 Fm C X env Γ mB mo ρ s':=F.change (λb o n U=>k.keep b o n) (λU=>.inl) (λU=>.inl) (λU=>id) F.apartB ok
theorem Fm.weak{Γ:List Str}(F:Fm C X env Γ mB mo ρ s)(h:∀(k:Nat) (sl:Sl),ρ'[k]? =some sl->sl=.un\/ρ[k]? =some sl):
 Fm C X env Γ mB mo ρ' s:=
 {F with
  slots:=λk x sl h1 h2 h3 h4=>by
   rcases h k sl h2 with q|q
   ·exact absurd q h3
   ·exact F.slots k x sl h1 q h3 h4
  apart:=λk1 k2 x x' sl sl' a h1 h2 h3 h4 h5 h6=>by
   rcases h k1 sl h3 with q|q
   ·clear h3;subst q;(injection h5;done)
   rcases h k2 sl' h4 with q'|q'
   ·clear h4;subst q';(injection h6;done)
   exact F.apart k1 k2 x x' sl sl' a h1 h2 q q' h5 h6}
end Internal
namespace Internal
abbrev NS:=List (Str×NameKind)
noncomputable def globs:List (Str×Nat):=[("reduce",40),("translate",52),("escape",64),("_translate",71),("_join_translated_parts",78),("_byteswap",85),("_law_set",90),
 ("_law_item",95),("_law_pattern",100),("_law_sign",107),("_law_judge",114),("_law_read",121),("_law_fits",126),("_law_table",131),("_law_told",136),("_law_moved",143),("law",148)]
noncomputable def bltin:List (Str×String):=[("len","len"),("ord","ord"),("chr","chr"),("sum","sum"),("sorted","sorted"),("int","int"),("bytes","bytes")]
noncomputable def meths:List (Str×String):=[("find","find"),("join","join"),("count","count"),("index","index")]
noncomputable def baseOk:Expr->Bool
 | .Call .. =>false
 |_=>true
noncomputable def iC:D->Const->Bool
 | .none,.none=>true
 | .bool a,.bool b=>a==b
 | .int a,.int b=>a==b
 | .str cs,.str s=>s.cps.toList==cs&&decide (cs.length<=4096)
 |_,_=>false
noncomputable def isSlice:Expr->Bool
 | .Slice .. =>true
 |_=>false
noncomputable def Gx:Expr->Bool
 | .Name .. | .Subscript .. =>true
 |_=>false
noncomputable def fV(ns:NS)(x:Str):Bool:=ns.lookup x==some .globalImplicit
def sR(ns:NS)(x:Str)(f:Nat):Bool:=fV ns x&&globs.lookup x==some f
def blt(ns:NS)(x y:Str):Bool:=fV ns x&&x==y
def aO(ns:NS)(Γ:List Str)(x:Str)(k:Nat):Bool:=Γ.idxOf? x==some k&&gW ns x&&x !=("__debug__":Str)&&x !=("__classdict__":Str)
noncomputable def eg(ns:NS)(x:Str):Bool:=ns.lookup x==some .local||ns.lookup x==some .cell
def bw(ns:NS)(Γ:List Str)(x:Str)(k:Nat):Bool:=Γ.idxOf? x==some k&&eg ns x
noncomputable def cg(ns' ns:NS):NS:=
 ns'.map λ(n,k)=>if (k==.free&&ns.lookup n==some .cell) then (n,.cell) else (n,k)
noncomputable def j8(sc:Scope)(ts Γ:List Str)(ns:NS):Bool:=
 sc.kind==.function&&sc.names.all (λ(n,k)=>
  (match k with
   | .local=>sc.names.lookup n==some .local&&(ts.contains n|| !Γ.contains n)
   | .free=>(ns.lookup n==some .cell||ns.lookup n==some .free)&&sc.names.lookup n==some .free&& !ts.contains n
   | .cell=>ts.contains n&&sc.names.lookup n==some .cell
   |_=>true))&&
 ts.all (λt=>sc.names.lookup t==some .local||sc.names.lookup t==some .cell)
inductive Kd where|E|M|O
abbrev D8:Kd->Type| .E=>Expr| .M=>List Expr| .O=>Option Expr
set_option genCtorIdx false in
set_option backward.linearNoConfusionType false in
inductive AT where
 |one (x:Str) (p:Pos)
 |many (xs:List Str) (ps:List Pos) (k:Nat) (p:Pos)
noncomputable def AT.names:AT->List Str
 | .one x _=>[x]
 | .many xs .. =>xs
noncomputable def AT.tx:AT->Expr
 | .one x p=>.Name x p
 | .many xs ps k p=>.Tuple ((xs.zip ps).map λq=>.Name q.1 q.2) k p
noncomputable def dist:List Str->Bool
 |[]=>true
 |x::r=> !r.contains x&&dist r
noncomputable def AT.ok:AT->Bool
 | .one .. =>true
 | .many xs ps _ _=>decide (xs.length≠1)&&(decide (ps.length=xs.length)&&dist xs)
structure kT where
 x:Str
 q:Pos
 p:Pos
noncomputable def jJ(k:IK)(i:kT)(a:Expr)(b c:Option Expr):Expr:=match k with
 | .of=>a
 | .range1| .enum=>.Call (.Name i.x i.q) [a] [] i.p
 | .range2| .zip2=>.Call (.Name i.x i.q) [a,b.getD a] [] i.p
 | .range3| .zip3=>.Call (.Name i.x i.q) [a,b.getD a,c.getD a] [] i.p
def nu(n:Nat)(k:IK)(i:kT)(ns:NS)(a:Expr)(b c:Option Expr):Bool:=match k with
 | .of=>Gx a
 | .range1=>blt ns i.x "range"
 | .enum=>decide (n≠1)&&blt ns i.x "enumerate"
 | .range2=>blt ns i.x "range"&&b.isSome
 | .zip2=>decide (n≠1)&&(blt ns i.x "zip"&&b.isSome)
 | .range3=>blt ns i.x "range"&&(b.isSome&&c.isSome)
 | .zip3=>decide (n≠1)&&(blt ns i.x "zip"&&(b.isSome&&c.isSome))
set_option genCtorIdx false in
set_option backward.linearNoConfusionType false in
inductive AE:Kd->Type where
 |fn (f:Nat) (x:Str) (p:Pos):AE .E
 |const (d:D) (c:Const) (k:Nat) (p:Pos):AE .E
 |var (i:Nat) (x:Str) (p:Pos):AE .E
 |bin (op:Operator) (a b:AE .E) (p:Pos):AE .E
 |neg (a:AE .E) (p:Pos):AE .E
 |not (a:AE .E) (p:Pos):AE .E
 |and (a b:AE .E) (p:Pos):AE .E
 |and3 (a b c:AE .E) (p:Pos):AE .E
 |or (a b:AE .E) (p:Pos):AE .E
 |cmp (op:CmpOp) (a b:AE .E) (p:Pos):AE .E
 |cmp2 (o₁ o₂:CmpOp) (a b c:AE .E) (p:Pos):AE .E
 |ite (t a b:AE .E) (p:Pos):AE .E
 |call (f:Nat) (x:Str) (q:Pos) (a:AE .E) (r:AE .M) (p:Pos):AE .E
 |prim (f:String) (x:Str) (q:Pos) (a:AE .E) (p:Pos):AE .E
 |meth (m:String) (x:Str) (o:AE .E) (ap:Pos) (a:AE .E) (r:AE .M) (p:Pos):AE .E
 |repl (x:Str) (s₁ s₂:Str) (o:AE .E) (c a b:Nat) (ap:Pos) (k₁:Nat) (p₁:Pos) (k₂:Nat) (p₂ p:Pos):AE .E
 |nil:AE .M
 |cons (a:AE .E) (r:AE .M):AE .M
 |lst (a:AE .M) (p:Pos):AE .E
 |tup (a:AE .M) (k:Nat) (p:Pos):AE .E
 |sub (a i:AE .E) (p:Pos):AE .E
 |slice (a:AE .E) (lo hi:AE .O) (q p:Pos):AE .E
 |fstr (l:List Nat) (s:Str) (k:Nat) (q:Pos) (a:AE .E) (q':Pos) (l':List Nat) (s':Str) (k':Nat) (q'' p:Pos):AE .E
 |barr (i:Nat) (b:Str) (q:Pos) (x:Str) (r p:Pos):AE .E
 |comp1 (T:AT) (k:IK) (i:kT) (a:AE .E) (b c t:AE .O) (e:AE .E) (sc:Scope) (p:Pos):AE .E
 |comp2 (T₁:AT) (k₁:IK) (i₁:kT) (a₁:AE .E) (b₁ c₁:AE .O) (T₂:AT) (k₂:IK) (i₂:kT) (a₂:AE .E) (b₂ c₂ t:AE .O) (e:AE .E) (sc:Scope) (p:Pos):AE .E
 |no:AE .O
 |tt:AE .O
 |emp (p:Pos):AE .O
 |yes (a:AE .E):AE .O
noncomputable def AE.tx:{k:Kd}->AE k->D8 k
 |_,.fn _ x p=>Expr.Name x p
 |_,.const _ c k p=>Expr.Constant c k p
 |_,.var _ x p=>Expr.Name x p
 |_,.bin op a b p=>Expr.BinOp a.tx op b.tx p
 |_,.neg a p=>Expr.UnaryOp .USub a.tx p
 |_,.not a p=>Expr.UnaryOp .Not a.tx p
 |_,.and a b p=>Expr.BoolOp .And [a.tx,b.tx] p
 |_,.and3 a b c p=>Expr.BoolOp .And [a.tx,b.tx,c.tx] p
 |_,.or a b p=>Expr.BoolOp .Or [a.tx,b.tx] p
 |_,.cmp op a b p=>Expr.Compare a.tx [op] [b.tx] p
 |_,.cmp2 o₁ o₂ a b c p=>Expr.Compare a.tx [o₁,o₂] [b.tx,c.tx] p
 |_,.ite t a b p=>Expr.IfExp t.tx a.tx b.tx p
 |_,.call _ x q a r p=>Expr.Call (.Name x q) (a.tx::r.tx) [] p
 |_,.prim _ x q a p=>Expr.Call (.Name x q) [a.tx] [] p
 |_,.meth _ x o ap a r p=>Expr.Call (.Attribute o.tx x ap) (a.tx::r.tx) [] p
 |_,.repl x s₁ s₂ o _ _ _ ap k₁ p₁ k₂ p₂ p=>Expr.Call (.Attribute o.tx x ap) [.Constant (.str s₁) k₁ p₁,.Constant (.str s₂) k₂ p₂] [] p
 |_,.nil=>([]:List Expr)
 |_,.cons a r=>(a.tx::r.tx:List Expr)
 |_,.lst a p=>Expr.List a.tx p
 |_,.tup a k p=>Expr.Tuple a.tx k p
 |_,.sub a i p=>Expr.Subscript a.tx i.tx p
 |_,.slice a lo hi q p=>Expr.Subscript a.tx (.Slice lo.tx hi.tx none q) p
 |_,.fstr _ s k q a q' _ s' k' q'' p=>Expr.JoinedStr [.Constant (.str s) k q,.FormattedValue a.tx (-1) none q',.Constant (.str s') k' q''] p
 |_,.barr _ b q x r p=>Expr.Call (.Name b q) [.Name x r] [] p
 |_,.comp1 T k i a b c t e sc p=>Expr.ListComp e.tx [⟨T.tx,jJ k i a.tx b.tx c.tx,t.tx.toList,0⟩] sc p
 |_,.comp2 T₁ k₁ i₁ a₁ b₁ c₁ T₂ k₂ i₂ a₂ b₂ c₂ t e sc p=>Expr.ListComp e.tx [⟨T₁.tx,jJ k₁ i₁ a₁.tx b₁.tx c₁.tx,[],0⟩,⟨T₂.tx,jJ k₂ i₂ a₂.tx b₂.tx c₂.tx,t.tx.toList,0⟩] sc p
 |_,.no|_,.tt=>(none:Option Expr)
 |_,.emp p=>(some (.List [] p):Option Expr)
 |_,.yes a=>(some a.tx:Option Expr)
noncomputable def AE.er:{k:Kd}->AE k->IE
 |_,.fn f _ _=>.const (.fn f)
 |_,.const d _ _ _=>.const d
 |_,.var i _ _=>.var i
 |_,.bin op a b _=>.bin op a.er b.er
 |_,.neg a _=>.neg a.er
 |_,.not a _=>.not a.er
 |_,.and a b _=>.and a.er b.er
 |_,.and3 a b c _=>.and a.er (.and b.er c.er)
 |_,.or a b _=>.or a.er b.er
 |_,.cmp op a b _=>.cmp op a.er b.er
 |_,.cmp2 o₁ o₂ a b c _=>.cmp2 o₁ o₂ a.er b.er c.er
 |_,.ite t a b _=>.ite t.er a.er b.er
 |_,.call f _ _ a r _=>.call f (.cons a.er r.er)
 |_,.prim f _ _ a _=>.prim f (.cons a.er .nil)
 |_,.meth m _ o _ a r _=>.meth m o.er (.cons a.er r.er)
 |_,.repl _ _ _ o c a b _ _ _ _ _ _=>.repl o.er c a b
 |_,.nil=>.nil
 |_,.cons a r=>.cons a.er r.er
 |_,.lst a _=>.lst a.er
 |_,.tup a _ _=>.tup a.er
 |_,.sub a i _=>.sub a.er i.er
 |_,.slice a lo hi _ _=>.slice a.er lo.er hi.er
 |_,.fstr l _ _ _ a _ l' _ _ _ _=>.fstr (.cons (.const (.str l)) (.cons a.er (.cons (.const (.str l')) .nil)))
 |_,.barr i .. =>.barr i
 |_,.comp1 T k _ a b c t e _ _=>.comp1 T.names.length k a.er b.er c.er t.er e.er
 |_,.comp2 T₁ k₁ _ a₁ b₁ c₁ T₂ k₂ _ a₂ b₂ c₂ t e _ _=>.comp2 T₁.names.length k₁ a₁.er b₁.er c₁.er T₂.names.length k₂ a₂.er b₂.er c₂.er t.er e.er
 |_,.no=>.const .none
 |_,.tt=>.const (.bool true)
 |_,.emp _=>.nil
 |_,.yes a=>a.er
noncomputable def AE.o4{α:Type}(n t e:α)(y:AE .E->α):AE .O->α
 | .no=>n
 | .tt=>t
 | .emp _=>e
 | .yes a=>y a
def AE.part:AE .O->Bool:=AE.o4 true false false λU=>true
def AE.filt:AE .O->Bool:=AE.o4 false true false λU=>true
noncomputable def AE.ok:{k:Kd}->AE k->List Str->NS->Bool
 |_,.fn f x _=>λU ns=>sR ns x f&&x !=("__debug__":Str)
 |_,.const d c _ _=>λU U=>iC d c
 |_,.var i x _=>λΓ ns=>aO ns Γ x i
 |_,.bin _ a b _=>λΓ ns=>a.ok Γ ns&&b.ok Γ ns
 |_,.neg a _=>λΓ ns=>a.ok Γ ns
 |_,.not a _=>λΓ ns=>a.ok Γ ns
 |_,.and a b _=>λΓ ns=>a.ok Γ ns&&b.ok Γ ns
 |_,.and3 a b c _=>λΓ ns=>a.ok Γ ns&&(b.ok Γ ns&&c.ok Γ ns)
 |_,.or a b _=>λΓ ns=>a.ok Γ ns&&b.ok Γ ns
 |_,.cmp op a b _=>λΓ ns=> !behindInMarks op b.tx&&(a.ok Γ ns&&b.ok Γ ns)
 |_,.cmp2 o₁ o₂ a b c _=>λΓ ns=> !behindInMarks o₁ b.tx&&(!behindInMarks o₂ c.tx&&(a.ok Γ ns&&(b.ok Γ ns&&c.ok Γ ns)))
 |_,.ite t a b _=>λΓ ns=>t.ok Γ ns&&(a.ok Γ ns&&b.ok Γ ns)
 |_,.call f x _ a r _=>λΓ ns=>sR ns x f&&(x !=("__debug__":Str)&&(a.ok Γ ns&&r.ok Γ ns))
 |_,.prim f x _ a _=>λΓ ns=>fV ns x&&(bltin.lookup x==some f&&a.ok Γ ns)
 |_,.meth m x o ap a r p=>λΓ ns=>meths.lookup x==some m&&(ap.endLine==p.line&&(baseOk o.tx&&(decide ((a.tx::r.tx:List Expr).length<=8)&&(o.ok Γ ns&&(a.ok Γ ns&&r.ok Γ ns)))))
 |_,.repl x s₁ s₂ o c a b ap _ _ _ _ p=>λΓ ns=>x=="replace"&&(s₁.cps.toList==[c]&&(s₂.cps.toList==[a,b]&&(ap.endLine==p.line&&(baseOk o.tx&&o.ok Γ ns))))
 |_,.nil=>λU U=>true
 |_,.cons a r=>λΓ ns=>a.ok Γ ns&&r.ok Γ ns
 |_,.lst a _=>λΓ ns=>a.ok Γ ns
 |_,.tup a _ _=>λΓ ns=>a.ok Γ ns
 |_,.sub a i _=>λΓ ns=> !isSlice i.tx&&(a.ok Γ ns&&i.ok Γ ns)
 |_,.slice a lo hi _ _=>λΓ ns=>lo.part&&(hi.part&&(a.ok Γ ns&&(lo.ok Γ ns&&hi.ok Γ ns)))
 |_,.fstr l s _ _ a _ l' s' _ _ _=>λΓ ns=>iC (.str l) (.str s)&&(iC (.str l') (.str s')&&a.ok Γ ns)
 |_,.barr i b _ x _ _=>λΓ ns=>blt ns b "bytes"&&aO ns Γ x i
 |_,.comp1 T k i a b c t e sc _=>λΓ ns=>T.ok&&(j8 sc T.names Γ ns&&(nu T.names.length k i ns a.tx b.tx c.tx&&(a.ok Γ ns&&(b.ok Γ ns&&(c.ok Γ ns&&
  (t.filt&&(t.ok (T.names++Γ) (cg sc.names ns)&&e.ok (T.names++Γ) (cg sc.names ns))))))))
 |_,.comp2 T₁ k₁ i₁ a₁ b₁ c₁ T₂ k₂ i₂ a₂ b₂ c₂ t e sc _=>λΓ ns=>T₁.ok&&(T₂.ok&&(T₂.names.all (λx=> !T₁.names.contains x)&&(j8 sc (T₂.names++T₁.names) Γ ns&&
  (nu T₁.names.length k₁ i₁ ns a₁.tx b₁.tx c₁.tx&&(a₁.ok Γ ns&&(b₁.ok Γ ns&&(c₁.ok Γ ns&&(nu T₂.names.length k₂ i₂ (cg sc.names ns) a₂.tx b₂.tx c₂.tx&&
  (a₂.ok ((T₂.names++T₁.names)++Γ) (cg sc.names ns)&&(b₂.ok ((T₂.names++T₁.names)++Γ) (cg sc.names ns)&&(c₂.ok ((T₂.names++T₁.names)++Γ) (cg sc.names ns)&&
  (t.filt&&(t.ok ((T₂.names++T₁.names)++Γ) (cg sc.names ns)&&e.ok ((T₂.names++T₁.names)++Γ) (cg sc.names ns))))))))))))))
 |_,.no=>λU U=>true
 |_,.tt=>λU U=>true
 |_,.emp _=>λU U=>false
 |_,.yes a=>λΓ ns=>a.ok Γ ns
inductive Ks where|S|B
abbrev D9:Ks->Type| .S=>Stmt| .B=>List Stmt
abbrev Es:Ks->Type| .S=>IS| .B=>List IS
noncomputable def fL:Pos:=⟨76,37,76,98⟩
noncomputable def gJ:Pos:=⟨77,39,77,76⟩
noncomputable def genScope:Scope:={kind:=.function,names:=[(".0",.local),("s",.local)],isGenerator:=true,isCoroutine:=false,more:=[]}
noncomputable def lamScope:Scope:={kind:=.function,names:=[("_m",.local)],isGenerator:=false,isCoroutine:=false,more:=[]}
noncomputable def yL:Arguments:=⟨[],[⟨"_m",none,⟨77,46,77,48⟩⟩],none,[],[],none,[]⟩
noncomputable def C9:Expr:=.BinOp (.Constant (.str "\\") 0 ⟨77,50,77,54⟩) .Add (.BoolOp .Or [.Call (.Attribute (.Name "_m" ⟨77,58,77,60⟩) "group" ⟨77,58,77,66⟩) [.Constant (.int 1) 0 ⟨77,67,77,68⟩] [] ⟨77,58,77,69⟩,.Constant (.str "") 0 ⟨77,73,77,75⟩] ⟨77,58,77,75⟩) ⟨77,50,77,76⟩
noncomputable def E1:Expr:=.Call (.Attribute (.Call (.Attribute (.Name "s" ⟨76,38,76,39⟩) "replace" ⟨76,38,76,47⟩) [.Constant (.str "\\") 0 ⟨76,48,76,52⟩,.Constant (.str "\\\\") 0 ⟨76,54,76,60⟩] [] ⟨76,38,76,61⟩) "replace" ⟨76,38,76,69⟩)
 [.Constant (.str "-") 0 ⟨76,70,76,73⟩,.Constant (.str "\\-") 0 ⟨76,75,76,80⟩] [] ⟨76,38,76,81⟩
noncomputable def ED:Nat->Str->Pos->Expr
 |0,y,r=>.Call (.Attribute (.Constant (.str "-") 0 ⟨76,28,76,31⟩) "join" ⟨76,28,76,36⟩) [.GeneratorExp E1 [⟨.Name "s" ⟨76,86,76,87⟩,.Name y r,[],0⟩] genScope fL] [] ⟨76,28,76,99⟩
 |_,y,r=>.Call (.Attribute (.Name "_twin_re_1" ⟨77,24,77,34⟩) "sub" ⟨77,24,77,38⟩) [.Lambda yL C9 lamScope gJ,.Name y r] [] ⟨77,24,77,84⟩
set_option genCtorIdx false in
set_option backward.linearNoConfusionType false in
inductive AS:Ks->Type where
 |assign (k:Nat) (x:Str) (p:Pos) (e:AE .E) (q:Pos):AS .S
 |newOwn (k:Nat) (x:Str) (p:Pos) (e:AE .M) (r q:Pos):AS .S
 |newBarr (k:Nat) (x:Str) (p:Pos) (b:Str) (bp:Pos) (e:AE .E) (r q:Pos):AS .S
 |bindApp (k k':Nat) (x:Str) (p:Pos) (y:Str) (yp:Pos) (m:Str) (r q:Pos):AS .S
 |append (k:Nat) (y:Str) (yp:Pos) (m:Str) (ap:Pos) (e:AE .E) (r q:Pos):AS .S
 |addCall (k:Nat) (y:Str) (yp:Pos) (e:AE .E) (r q:Pos):AS .S
 |multi (ks:List Nat) (T:AT) (e:AE .E) (q:Pos):AS .S
 |multiD (k₁ k₂:Nat) (x₁:Str) (p₁:Pos) (x₂:Str) (p₂:Pos) (kt:Nat) (pt:Pos) (v₁ v₂:AE .O) (kv:Nat) (pv q:Pos):AS .S
 |setItem (k:Nat) (y:Str) (yp:Pos) (i:AE .E) (r:Pos) (e:AE .E) (q:Pos):AS .S
 |augItem (k:Nat) (y:Str) (yp:Pos) (i:AE .E) (r:Pos) (e:AE .E) (q:Pos):AS .S
 |aug (k:Nat) (y:Str) (yp:Pos) (op:Operator) (e:AE .E) (q:Pos):AS .S
 |ife (t:AE .E) (a b:AS .B) (q:Pos):AS .S
 |whl (t:AE .E) (a:AS .B) (q:Pos):AS .S
 |fr (ks:List Nat) (T:AT) (k:IK) (i:kT) (a:AE .E) (b c:AE .O) (s:AS .B) (q:Pos):AS .S
 |ret (e:AE .E) (q:Pos):AS .S
 |brk (q:Pos):AS .S
 |asrt (e:AE .E) (m:Option Expr) (q:Pos):AS .S
 |spec (k i j:Nat) (x:Str) (p:Pos) (y:Str) (r q:Pos):AS .S
 |bad (s:Stmt):AS .S
 |nil:AS .B
 |cons (s:AS .S) (r:AS .B):AS .B
def AE.get(a:AE .O):Expr:=(show Option Expr from a.tx).getD (.List [] ⟨0,0,0,0⟩)
def AE.ero:AE .O->Option IE:=AE.o4 none none none λa=>some a.er
def AE.dok:AE .O->List Str->NS->Bool:=AE.o4 (λU U=>false) (λU U=>false) (λU U=>true) λa Γ ns=>a.ok Γ ns
noncomputable def AS.tx:{k:Ks}->AS k->D9 k
 |_,.assign _ x p e q=>Stmt.Assign [.Name x p] e.tx q
 |_,.newOwn _ x p e r q=>Stmt.Assign [.Name x p] (.List e.tx r) q
 |_,.newBarr _ x p b bp e r q=>Stmt.Assign [.Name x p] (.Call (.Name b bp) [e.tx] [] r) q
 |_,.bindApp _ _ x p y yp m r q=>Stmt.Assign [.Name x p] (.Attribute (.Name y yp) m r) q
 |_,.append _ y yp m ap e r q=>Stmt.Expr (.Call (.Attribute (.Name y yp) m ap) [e.tx] [] r) q
 |_,.addCall _ y yp e r q=>Stmt.Expr (.Call (.Name y yp) [e.tx] [] r) q
 |_,.multi _ T e q=>Stmt.Assign [T.tx] e.tx q
 |_,.multiD _ _ x₁ p₁ x₂ p₂ kt pt v₁ v₂ kv pv q=>Stmt.Assign [.Tuple [.Name x₁ p₁,.Name x₂ p₂] kt pt] (.Tuple [v₁.get,v₂.get] kv pv) q
 |_,.setItem _ y yp i r e q=>Stmt.Assign [.Subscript (.Name y yp) i.tx r] e.tx q
 |_,.augItem _ y yp i r e q=>Stmt.AugAssign (.Subscript (.Name y yp) i.tx r) .Add e.tx q
 |_,.aug _ y yp op e q=>Stmt.AugAssign (.Name y yp) op e.tx q
 |_,.ife t a b q=>Stmt.If t.tx a.tx b.tx q
 |_,.whl t a q=>Stmt.While t.tx a.tx [] q
 |_,.fr _ T k i a b c s q=>Stmt.For T.tx (jJ k i a.tx b.tx c.tx) s.tx [] q
 |_,.ret e q=>Stmt.Return (some e.tx) q
 |_,.brk q=>Stmt.Break q
 |_,.asrt e m q=>Stmt.Assert e.tx m q
 |_,.spec _ i _ x p y r q=>Stmt.Assign [.Name x p] (ED i y r) q
 |_,.bad s=>s
 |_,.nil=>([]:List Stmt)
 |_,.cons s r=>(s.tx::r.tx:List Stmt)
noncomputable def AS.er:{k:Ks}->AS k->Es k
 |_,.assign k _ _ e _=>IS.assign k e.er
 |_,.newOwn k _ _ e _ _=>IS.newOwn k e.er
 |_,.newBarr k _ _ _ _ e _ _=>IS.newBarr k e.er
 |_,.bindApp k k' .. =>IS.bindApp k k'
 |_,.append k _ _ _ _ e _ _=>IS.append k e.er
 |_,.addCall k _ _ e _ _=>IS.addCall k e.er
 |_,.multi ks _ e _=>IS.multi ks e.er
 |_,.multiD k₁ k₂ _ _ _ _ _ _ v₁ v₂ _ _ _=>IS.multiD [k₁,k₂] [v₁.ero,v₂.ero]
 |_,.setItem k _ _ i _ e _=>IS.setItem k i.er e.er
 |_,.augItem k _ _ i _ e _=>IS.augItem k i.er e.er
 |_,.aug k _ _ op e _=>IS.aug k op e.er
 |_,.ife t a b _=>IS.ife t.er a.er b.er
 |_,.whl t a _=>IS.whl t.er a.er
 |_,.fr ks _ k _ a b c s _=>IS.fr ks k a.er b.er c.er s.er
 |_,.ret e _=>IS.ret e.er
 |_,.brk _=>IS.brk
 |_,.asrt e _ _=>IS.asrt e.er
 |_,.spec k i j .. =>IS.spec k i j
 |_,.bad _=>IS.bad
 |_,.nil=>([]:List IS)
 |_,.cons s r=>(s.er::r.er:List IS)
noncomputable def mO:Expr->Bool
 | .Tuple .. | .List .. | .ListComp .. | .SetComp .. | .DictComp .. =>false
 |_=>true
def tu(ns:NS)(Γ:List Str)(ks:List Nat)(T:AT):Bool:=T.ok&&(decide (T.names.length=ks.length)&&(T.names.zip ks).all λq=>bw ns Γ q.1 q.2)
noncomputable def AS.ok:{k:Ks}->AS k->List Str->NS->Bool
 |_,.assign k x _ e _=>λΓ ns=>bw ns Γ x k&&e.ok Γ ns
 |_,.newOwn k x _ e _ _=>λΓ ns=>bw ns Γ x k&&e.ok Γ ns
 |_,.newBarr k x _ b _ e _ _=>λΓ ns=>bw ns Γ x k&&(blt ns b "bytearray"&&e.ok Γ ns)
 |_,.bindApp k k' x _ y _ m _ _=>λΓ ns=>bw ns Γ x k&&(aO ns Γ y k'&&m=="append")
 |_,.append k y _ m ap e r _=>λΓ ns=>aO ns Γ y k&&(m=="append"&&(ap.endLine==r.line&&e.ok Γ ns))
 |_,.addCall k y _ e _ _=>λΓ ns=>aO ns Γ y k&&e.ok Γ ns
 |_,.multi ks T e _=>λΓ ns=>decide (T.names.length≠1)&&(mO e.tx&&(tu ns Γ ks T&&e.ok Γ ns))
 |_,.multiD k₁ k₂ x₁ p₁ x₂ p₂ _ _ v₁ v₂ _ _ _=>λΓ ns=>Γ.idxOf? x₁==some k₁&&(ns.lookup x₁==some .local&&(Γ.idxOf? x₂==some k₂&&(ns.lookup x₂==some .local&&(p₂.line==p₁.line&&(x₁ !=x₂&&
  (v₁.dok Γ ns&&(v₂.dok Γ ns&&(!(foldedForSure 8 v₁.get&&foldedForSure 8 v₂.get)&& !(constantsAlone 8 v₁.get&&constantsAlone 8 v₂.get)))))))))
 |_,.setItem k y _ i _ e _=>λΓ ns=>aO ns Γ y k&&(!isSlice i.tx&&(mO e.tx&&(i.ok Γ ns&&e.ok Γ ns)))
 |_,.augItem k y _ i _ e _=>λΓ ns=>aO ns Γ y k&&(!isSlice i.tx&&(i.ok Γ ns&&e.ok Γ ns))
 |_,.aug k y _ _ e _=>λΓ ns=>aO ns Γ y k&&(eg ns y&&e.ok Γ ns)
 |_,.ife t a b _=>λΓ ns=>t.ok Γ ns&&(a.ok Γ ns&&b.ok Γ ns)
 |_,.whl t a _=>λΓ ns=>t.ok Γ ns&&a.ok Γ ns
 |_,.fr ks T k i a b c s _=>λΓ ns=>tu ns Γ ks T&&(nu T.names.length k i ns a.tx b.tx c.tx&&(a.ok Γ ns&&(b.ok Γ ns&&(c.ok Γ ns&&s.ok Γ ns))))
 |_,.ret e _=>λΓ ns=>e.ok Γ ns
 |_,.brk _=>λU U=>true
 |_,.asrt e _ _=>λΓ ns=>e.ok Γ ns
 |_,.spec k i j x _ y _ _=>λΓ ns=>fV ns "_twin_re_1"&&(decide (i<=1)&&(bw ns Γ x k&&aO ns Γ y j))
 |_,.bad _=>λU U=>true
 |_,.nil=>λU U=>true
 |_,.cons s r=>λΓ ns=>s.ok Γ ns&&r.ok Γ ns
end Internal
namespace Internal
open PyProof.Rows
def cz(X:Addr)(h:Heap)(Av:Addr->Prop):D->Value->Prop
 | .list ds,v=>∃a vs,v=.ref a/\h.IsList a vs.toArray/\ds.length<=4096/\RepL X h Av ds vs
 |d,v=>Rep X h Av d v
section
theorem Rep.toE(r:Rep X h Av d v):cz X h Av d v:=by
 cases d with
 |list ds=>
  refine bU r λa vs e l U n q=>(jL a vs e l.1 n q)
 |_=>exact r
end
section
def Res(X:Addr)(Av:Addr->Prop)(s:Shared)(d:D)(v:Value)(s':Shared):Prop:=Keeps s s'/\Rep X s'.heap Av d v
theorem aR(s:Shared):Keeps s s:=(bu s.heap s.toks rfl (λU U e=>e))
theorem bj(s:Shared)(n:Nat):Keeps s {s with toks:=n}:=(bu s.heap n rfl (λU U e=>e))
theorem ki(s:Shared)(o:Obj):Keeps s {s with heap:=s.heap.push o}:=(bu _ s.toks rfl (λU U e=>aX _ e))
theorem fK(x:Keeps a b)(y:Keeps b c):Keeps a c:=by
 refine bK x λh t q40 k=>?_
 clear x
 subst q40
 refine bK y λh' t' q42 k'=>?_
 simp only[q42]
 exact(bu h' t' rfl (λb o e=>k' b o (k b o e)))
theorem ei(x:Keeps a b):∀c o,a.heap.get? c=some o->b.heap.get? c=some o:=by
 refine bK x λh t q43 k=>?_
 clear x
 subst q43;exact k
theorem Res.flat{d:D}{v:Value}{s':Shared}(hk:Keeps s s')(r:∀h,Rep X h Av d v):Res X Av s d v s':=⟨hk,r _⟩
theorem aI(h:Heap):h.get? h.objs.size=none:=Heap.get?_none_of_le (Nat.le_refl _)
theorem Res.newList(hAv:∀a,Av a->∃o,s.heap.get? a=some o)(hn:ds.length<=4096)(r:RepL X s.heap Av ds vs):
 Res X Av s (.list ds) (.ref s.heap.objs.size) {s with heap:=s.heap.push {cls:=.type "list",data:=.seq vs.toArray},toks:=tk}:=by
 refine⟨(bu _ tk rfl (λU U e=>aX _ e)),?_⟩
 refine(dD _ vs rfl ⟨⟨_,bz _ rfl,rfl,_,rfl⟩,λo e=>by rw[bz _ rfl] at e;refine(so e)▸?_;rfl⟩ (λq=>?_) hn (RepL.keep (λb o U e=>aX _ e) (λa=>.inl) ds vs r))
 refine aB (hAv _ q) λo e=>?_
 rw[aI] at e;exact no e
theorem Res.newTuple(hAv:∀a,Av a->∃o,s.heap.get? a=some o)(hn:ds.length<=4096)(r:RepL X s.heap Av ds vs):
 Res X Av s (.tuple ds) (.ref s.heap.objs.size) {s with heap:=s.heap.push {cls:=.type "tuple",data:=.seq vs.toArray},toks:=tk}:=by
 refine⟨(bu _ tk rfl (λU U e=>aX _ e)),?_⟩
 refine(dD _ vs rfl ⟨_,bz _ rfl,rfl,_,rfl⟩ (λq=>?_) hn (RepL.keep (λb o U e=>aX _ e) (λa=>.inl) ds vs r))
 refine aB (hAv _ q) λo e=>?_
 rw[aI] at e;exact no e
theorem ba{i:Int}{t:Tok}:Rep X h Av (.int i) (.int i t):=⟨t,rfl⟩
theorem iT{b:Bool}:Rep X h Av (.bool b) (.bool b):=rfl
theorem bZ{t:Tok}(hn:cs.length<=4096):Rep X h Av (.str cs) (.str ⟨cs.toArray⟩ t):=by exact⟨hn,t,rfl⟩
theorem cK(cs:List Nat):(⟨cs.toArray⟩:Str).length=cs.length:=by simp[Str.length]
theorem cG(a b:List Nat):(⟨a.toArray⟩:Str)++⟨b.toArray⟩=⟨(a++b).toArray⟩:=by
 apply Str.ext'
 exact List.append_toArray a b
theorem bh:ax<=sizeLine:=by rw[sizeLine_eq];decide
set_option tactic.hygienic true in
theorem zu(e:(if a.length+b.length<=ax then some (D.str (a++b)) else none)=some d)(r:cz X s.heap Av (.str a) v)(q:cz X s.heap Av (.str b) u):
 wpAny (model prog w) A (binaryOp .Add v u) (Res X Av s d) E s:=cd e λhl e=>by
 refine(so e)▸?_;obtain⟨n1,t,rfl⟩:=r;obtain⟨n2,t',rfl⟩:=q
 refine P.add_str ?_
 rw[cK,cK]
 split
 ·rename_i h0
  have:a=[]:=List.eq_nil_of_length_eq_zero (by simpa using h0)
  rw[this]
  exact .flat (aR _) λh=>bZ n2
 ·split
  ·rename_i h0
   have:b=[]:=List.eq_nil_of_length_eq_zero (by simpa using h0)
   refine af this▸?_
   refine .flat (aR _) λh=>?_
   rw[List.append_nil];exact bZ n1
  ·refine⟨?_,?_⟩
   ·simp only[cG,cK,List.length_append];exact aA hl bh
   ·simp only[cG];exact .flat (bj ..) λh=>bZ (by rw[List.length_append];exact hl)
theorem zv(hAv:∀a,Av a->∃o,s.heap.get? a=some o)(e:(if a.length+b.length<=ax then some (D.list (a++b)) else none)=some d)(r:cz X s.heap Av (.list a) v)(q:cz X s.heap Av (.list b) u):
 wpAny (model prog w) A (binaryOp .Add v u) (Res X Av s d) E s:=cd e λhl e=>by
 refine av λGG kk=>?_
 obtain rfl:=so e
 refine bY r λl vs q25 h1 n1 r1=>?_
 clear r n1
 subst q25
 refine bY q λl2 us q29 h2 n2' r2=>?_
 clear q
 subst q29
 obtain⟨⟨cls,dd,data,sl⟩,ho,hc,n,hd⟩:=id h1
 obtain⟨⟨cls2,dd2,data2,sl2⟩,ho2,hc2,n2,hd2⟩:=id h2
 simp only at hc hd hc2 hd2
 subst hc hd hc2 hd2
 refine kk ?_;clear kk
 refine concat_meets (am _ ho rfl) (am _ ho2 rfl) noFill_list_add seq_list_add PySem.F.slot_list_add PySem.F.entry_list_add (PySem.F.args_list_add_2 _ _)
  (list_addW l l2 vs.toArray us.toArray n n2 dd dd2 sl sl2 (by refine af List.size_toArray▸?_;refine af List.size_toArray▸?_;refine af r1.length▸?_;refine af r2.length▸?_;exact aA hl bh)) (a6 ho ho2 ?_)
 refine af ((show vs.toArray++us.toArray=(vs++us).toArray from by exact List.append_toArray vs us))▸?_
 exact Res.newList hAv (by refine af List.length_append▸?_;exact hl) (r1.append r2)
theorem qk(h:a.natAbs<2^31):Builtin.Int.intBits a<=64:=intBits_le_64 (Int.neg_lt_of_neg_lt (Int.lt_of_lt_of_le (Int.lt_of_le_of_lt (Int.natAbs_neg a▸Int.le_natAbs) (Int.ofNat_lt.mpr h)) (by decide))) (Int.lt_of_lt_of_le (Int.lt_of_le_of_lt Int.le_natAbs (Int.ofNat_lt.mpr h)) (by decide))
theorem xk(hAv:∀a,Av a->∃o,s.heap.get? a=some o)(e:nP op x y=some d)(r:cz X s.heap Av x v)(q:cz X s.heap Av y u):
 wpAny (model prog w) A (binaryOp op v u) (Res X Av s d) E s:=by
 induction op with
 |Add=>
  cases x with
  |int a=>
   refine av λGG kk=>bi e λb h e=>?_
   rw[D.gI_eq h] at q
   refine kk ?_;clear kk
   refine(so e)▸?_;obtain⟨t,rfl⟩:=r;obtain⟨t',rfl⟩:=q
   exact P.add_int (.flat (bj ..) λh=>ba)
  |str a=>
   refine bi e λb h e=>?_
   rw[D.gS_eq h] at q
   exact zu e r q
  |list a=>
   refine bi e λb h e=>?_
   rw[D.gL_eq h] at q
   exact zv hAv e r q
  |_=>exact no e
 |Sub=>
  refine gQ e λa b h1 h2 g=>?_
  subst h1 h2
  rw[<-so g];obtain⟨t,rfl⟩:=r;obtain⟨t',rfl⟩:=q
  exact P.sub_int (.flat (bj ..) λh=>ba)
 |Mult=>
  refine gQ e λa b h1 h2 g=>cd g λhl g=>?_
  subst h1 h2
  obtain rfl:=so g;obtain⟨t,rfl⟩:=r;obtain⟨t',rfl⟩:=q
  exact P.mul_int (hm:=IntMulOk.of_left (qk hl.1)) (.flat (bj ..) λh=>ba)
 |FloorDiv=>
  refine gQ e λa b h1 h2 g=>cd g λhl g=>?_
  subst h1 h2
  obtain rfl:=so g;obtain⟨t,rfl⟩:=r;obtain⟨t',rfl⟩:=q
  exact floordiv_int (Int.ne_of_gt hl.1) (.flat (bj ..) λh=>ba) (Or.inl (PyProof.noPylong_small (Int.ofNat_lt.mp (by rw[Int.natAbs_of_nonneg (Int.le_of_lt hl.1)];exact Int.lt_trans hl.2 (by decide)))))
 |Mod=>
  refine gQ e λa b h1 h2 g=>cd g λhl g=>?_
  subst h1 h2
  obtain rfl:=so g;obtain⟨t,rfl⟩:=r;obtain⟨t',rfl⟩:=q
  exact mod_int' (Int.ne_of_gt hl.1) (.flat (bj ..) λh=>ba)
 |Pow=>
  refine gQ e λa b h1 h2 g=>cd g λhl g=>?_
  subst h1 h2
  obtain rfl:=so g;obtain⟨t,rfl⟩:=r;obtain⟨t',rfl⟩:=q
  refine pow_int hl.2.2.1 ?_ (.flat (bj ..) λh=>ba)
  have:(Builtin.Int.intBits a:Int)<=64:=Int.ofNat_le.mpr (qk (by exact Int.ofNat_lt.mp (by rw[Int.natAbs_of_nonneg hl.1];exact Int.lt_of_le_of_lt hl.2.1 (by decide))))
  exact Int.le_trans (Int.mul_le_mul this hl.2.2.2 hl.2.2.1 (by decide)) (by decide)
 |_=>exact no e
end
section
theorem ju(e:aE d=some b)(r:cz X s.heap Av d v):
 wpAny (model prog w) A (truthy v) (λb' s'=>b'=b/\Keeps s s') E s:=by
 cases d with
 |none=>obtain rfl:=so e;subst r;exact truthy_none ⟨rfl,aR _⟩
 |bool b=>refine(so e)▸?_;subst r;exact wpAny_truthy_bool ⟨rfl,aR _⟩
 |int i=>refine(so e)▸?_;obtain⟨t,rfl⟩:=r;exact P.truthy_int ⟨rfl,aR _⟩
 |str cs=>
  refine(so e)▸?_
  obtain⟨n,t,rfl⟩:=r
  refine P.truthy_str (Int.not_le.mpr (Int.ofNat_lt.mpr (Nat.lt_of_le_of_lt n (by decide)))) ⟨?_,bj ..⟩
  rw[cK]
  induction cs with
  |nil=>rfl
  |cons=>simp;exact bi_ine.mp rfl
 |list ds=>
  obtain rfl:=so e
  refine bY r λa vs q3 hl' n rl=>?_
  clear r
  refine af q3▸?_
  refine wpAny_truthy_list hl' (Int.ofNat_lt.mpr (Nat.lt_of_le_of_lt (le_of_eq_of_le rl.length n) (by decide))) ⟨?_,bj ..⟩
  clear n
  induction ds with
  |nil=>rw[rl];rfl
  |cons=>refine bK rl λU U q7 U=>?_;rw[q7];rfl
 |_=>exact no e
end
end Internal
namespace Internal
open PyProof.Rows PySem.SeqAt
theorem wg(a b:List Nat):((⟨a.toArray⟩:Str)==⟨b.toArray⟩)=(a==b):=by
 rw[Bool.eq_iff_iff,beq_iff_eq,beq_iff_eq]
 constructor
 ·intro e;have:=congrArg (λx:Str=>x.cps.toList) e;simpa using this
 ·rintro rfl;rfl
noncomputable def eqv:D->Value->Bool
 | .int a,.int c _=>c==a
 | .str a,.str y _=>y==⟨a.toArray⟩
 | .none,.none=>true
 |_,_=>false
section
variable{s:Shared}
theorem yR{P:Prop}(h:mf x d=true)(k1:∀a b,x=.int a->d=.int b->P)(k2:∀a b,x=.str a->d=.str b->P):P:=by
 cases x with
 |int a=>
  cases d with
  |int b=>exact k1 a b rfl rfl
  |_=>exact(Bool.false_ne_true h).elim
 |str a=>
  clear k1
  cases d with
  |str b=>exact k2 a b rfl rfl
  |_=>exact(Bool.false_ne_true h).elim
 |_=>exact(Bool.false_ne_true h).elim
theorem Bc{v u:Value}(rx:Rep X s.heap Av x v)(r1:Rep X s.heap Av d u)(h:mf x d=true):eqv x u=tT x d/\∀A,EqAt A s u v (eqv x u):=
 yR h (λa b h1 h2=>by
  clear h
  subst h1 h2;obtain⟨t,rfl⟩:=rx;obtain⟨t',rfl⟩:=r1
  exact⟨rfl,λA=>EqAt.int_int _ _ _ _⟩) (λa b h1 h2=>by
  clear h
  subst h1 h2;obtain⟨_,t,rfl⟩:=rx;obtain⟨_,t',rfl⟩:=r1
  exact⟨wg ..,λA=>EqAt.str_str _ _ _ _⟩)
structure He(s:Shared)(x:D)(v:Value)(ds:List D)(vs:List Value):Prop where
 any:vs.any (eqv x)=ds.any (tT x)
 eq:∀(A:Around),∀y∈vs,EqAt A s y v (eqv x y)
theorem wN(rx:Rep X s.heap Av x v):∀{vs:List Value},ds.all (mf x)=true->RepL X s.heap Av ds vs->He s x v ds vs:=by
 induction ds with
 |nil=>
  intro vs h r
  subst r
  exact⟨rfl,λU U h=>nomatch h⟩
 |cons d ds ih=>
  intro vs h r
  refine bv r λu rest q76 r1 r2=>af q76▸?_
  rw[List.all_cons,Bool.and_eq_true] at h
  have i:=ih h.2 r2
  have key:=Bc rx r1 h.1
  refine⟨by rw[List.any_cons,List.any_cons,i.any,key.1],λA y hy=>?_⟩
  clear q76
  clear r1 r2
  rcases List.mem_cons.mp hy with rfl|hy
  ·exact key.2 A
  ·exact i.eq A y hy
abbrev je(s:Shared)(b:Bool)(v:Value)(s':Shared):Prop:=v=.bool b/\Keeps s s'
theorem sG:∀{a b:List Nat},(∀x∈a,x<256)->(∀x∈b,x<256)->a.map Nat.toUInt8=b.map Nat.toUInt8->a=b
 |[],[],_,_,_=>rfl
 |[],_::_,_,_,e=>by simp at e
 |_::_,[],_,_,e=>by simp at e
 |x::a,y::b,h1,h2,e=>by
  simp only[List.map_cons,List.cons.injEq] at e
  have:=sG (λz hz=>h1 z (.tail _ hz)) (λz hz=>h2 z (.tail _ hz)) e.2
  have e1:=congrArg UInt8.toNat e.1
  simp only[Nat.toUInt8,UInt8.toNat_ofNat'] at e1
  rw[Nat.mod_eq_of_lt (h1 x (.head _)),Nat.mod_eq_of_lt (h2 y (.head _))] at e1
  exact cons_eq_cons' e1 this
theorem oW{a b:List Nat}(h1:∀x∈a,x<256)(h2:∀x∈b,x<256):((a.map Nat.toUInt8).toArray.toList==(b.map Nat.toUInt8).toArray.toList)=(a==b):=by
 rw[Bool.eq_iff_iff,beq_iff_eq,beq_iff_eq]
 constructor
 ·intro e;exact sG h1 h2 e
 ·rintro rfl;rfl
structure Fs(P:D->D->Bool->Prop):Prop where
 int:∀a b,P (.int a) (.int b) (a==b)
 bool:∀a b,P (.bool a) (.bool b) (a==b)
 str:∀a b,P (.str a) (.str b) (a==b)
 bytes:∀a b,P (.bytes a) (.bytes b) (a==b)
 list:∀a,P (.list a) (.list []) a.isEmpty
theorem B1(e:oG x y=some b)(k:Fs P):P x y b:=by
 cases x with
 |int a=>exact bi e λc h e=>by refine af (D.gI_eq h)▸?_;refine(so e)▸?_;exact k.int a c
 |bool a=>exact bi e λc h e=>by refine af (D.gB_eq h)▸?_;refine(so e)▸?_;exact k.bool a c
 |str a=>exact bi e λc h e=>by refine af (D.gS_eq h)▸?_;refine(so e)▸?_;exact k.str a c
 |bytes a=>exact bi e λc h e=>by rw[D.gY_eq h,<-so e];exact k.bytes a c
 |list a=>
  refine bi e λc h e=>af (D.gL_eq h)▸?_
  clear h
  induction c with
  |nil=>refine(so e)▸?_;exact k.list a
  |cons _ _=>exact no e
 |_=>exact no e
theorem C7{vs:List Value}(r:RepL X s.heap Av [] vs):vs=[]:=r
theorem Ah(r:RepL X s.heap Av (d::ds) vs):vs≠[]:=by
 refine bK r λU U q81 U=>af q81▸?_
 exact λh=>nomatch h
theorem Af{b:Bool}(hu:A.units<cLine)(e:oG x y=some b)(r:cz X s.heap Av x v)(q:cz X s.heap Av y u):
 wpAny (model prog w) A (compareOp .Eq v u) (je s b) E s/\wpAny (model prog w) A (compareOp .NotEq v u) (je s (!b)) E s:=
 B1 (P:=λx y b=>∀{v u},cz X s.heap Av x v->cz X s.heap Av y u->wpAny (model prog w) A (compareOp .Eq v u) (je s b) E s/\wpAny (model prog w) A (compareOp .NotEq v u) (je s (!b)) E s) e {
  int:=λa b v u r q=>by
   obtain⟨t,rfl⟩:=r;obtain⟨t',rfl⟩:=q
   exact⟨P.eq_int ⟨rfl,aR _⟩,P.ne_int ⟨rfl,aR _⟩⟩
  bool:=λa b v u r q=>by
   subst r;subst q
   exact⟨eq_bool ⟨rfl,aR _⟩,ne_bool ⟨rfl,aR _⟩⟩
  str:=λa b v u r q=>by
   obtain⟨_,t,rfl⟩:=r;obtain⟨_,t',rfl⟩:=q
   exact⟨P.eq_str ⟨rfl,aR _⟩,P.ne_str ⟨rfl,aR _⟩⟩
  bytes:=λa b v u r q=>by
   obtain⟨⟨t,rfl⟩,_,h1⟩:=r;refine bV q λq30 U h2=>?_;obtain⟨t',rfl⟩:=q30
   exact⟨W.eq_bytes ⟨congrArg Value.bool (oW h1 h2),aR _⟩,W.ne_bytes ⟨congrArg (λb=>Value.bool (!b)) (oW h1 h2),aR _⟩⟩
  list:=λa v u r q=>by
   refine bY r λl vs q39 hl U r1=>af q39▸?_
   refine bY q λl2 us q47 hl2 U r2=>q47▸?_
   obtain rfl:=C7 r2
   induction a with
   |nil=>
    obtain rfl:=C7 r1
    exact⟨eq_listAt (e:=λU=>true) hl hl2 rfl hu (λj h=>nomatch h) ⟨rfl,aR _⟩,RcNeAt.lists (e:=λU=>true) hl hl2 rfl hu (λj h=>nomatch h) prog w E _ ⟨rfl,aR _⟩⟩
   |cons d ds=>
    exact⟨eq_list_lengthsAt hl hl2 (by simpa using(Ah r1)) hu ⟨rfl,aR _⟩,RcNeAt.lists_lengths hl hl2 (by simpa using(Ah r1)) hu prog w E _ ⟨rfl,aR _⟩⟩} r q
theorem Aa(e:mm x y=some b)(r:cz X s.heap Av x v)(q:cz X s.heap Av y u):
 wpAny (model prog w) A (compareOp .Is v u) (je s b) E s/\wpAny (model prog w) A (compareOp .IsNot v u) (je s (!b)) E s:=by
 cases x with
 |none=>
  refine mi e λU h e=>?_
  rw[D.gN_eq h] at q
  subst e;subst r;subst q
  exact⟨wpAny_is_self rfl ⟨rfl,aR _⟩,wpAny_isNot_self rfl ⟨rfl,aR _⟩⟩
 |obj=>
  refine mi e λU h e=>?_
  rw[D.gO_eq h] at q
  subst e;subst r;subst q
  exact⟨wpAny_is_ref_self ⟨rfl,aR _⟩,wpAny_isNot_ref_self ⟨rfl,aR _⟩⟩
 |str a=>
  refine mi e λU h e=>?_
  rw[D.gO_eq h] at q
  refine e▸?_;obtain⟨_,t,rfl⟩:=r;subst q
  exact⟨wpAny_is_other rfl (λx=>nomatch x) ⟨rfl,aR _⟩,wpAny_isNot_other rfl (λx=>nomatch x) ⟨rfl,aR _⟩⟩
 |tuple ds=>
  refine mi e λU h e=>?_
  rw[D.gN_eq h] at q
  refine e▸?_;refine bK r λa vs q73 U=>?_;rw[q73];subst q
  exact⟨wpAny_is_other rfl (λx=>nomatch x) ⟨rfl,aR _⟩,wpAny_isNot_other rfl (λx=>nomatch x) ⟨rfl,aR _⟩⟩
 |_=>exact no e
theorem wM{v:Value}(e:inD x ds=some b)(r:Rep X s.heap Av x v)(rl:RepL X s.heap Av ds vs):(∀(A:Around),∀y∈vs,EqAt A s y v (eqv x y))/\vs.any (eqv x)=b:=
 cd e λh e=>⟨(wN r h rl).eq,by rw[(wN r h rl).any];exact so e⟩
theorem Bt{P:Prop}(e:hasC ys l=some b)(k:∀c,l=[c]->ys.contains c=b->P):P:=by
 match l with
 |[c]=>exact k c rfl (so e)
 |[]|_::_::_=>exact no e
theorem kG{vs:List Value}(h:vs.any f=b):vs.toArray.any f=b:=by simp only[List.any_toArray,h]
theorem wq(e:memD x y=some b)(r:Rep X s.heap Av x v)(q:Rep X s.heap Av y u):
 wpAny (model prog w) A (compareOp .In v u) (je s b) E s/\wpAny (model prog w) A (compareOp .NotIn v u) (je s (!b)) E s:=by
 cases y with
 |list ys=>
  refine bU q λl vs q60 q61 U U rl=>?_
  subst q60
  obtain⟨hl,_⟩:=q61
  obtain⟨i2,i1⟩:=wM e r rl
  have h2:=λA y hy=>i2 A y (List.mem_toArray.mp hy)
  exact⟨in_listAt (eqv x) hl (h2 _) ⟨congrArg Value.bool (kG i1),aR _⟩,notIn_listAt (eqv x) hl (h2 _) ⟨congrArg (λb=>Value.bool (!b)) (kG i1),aR _⟩⟩
 |tuple ys=>
  refine bU q λl vs q65 hl U U rl=>?_
  subst q65
  obtain⟨i2,i1⟩:=wM e r rl
  have h2:=λA y hy=>i2 A y (List.mem_toArray.mp hy)
  exact⟨in_tupleAt (eqv x) hl (h2 _) ⟨congrArg Value.bool (kG i1),aR _⟩,notIn_tupleAt (eqv x) hl (h2 _) ⟨congrArg (λb=>Value.bool (!b)) (kG i1),aR _⟩⟩
 |str ys=>
  refine av λGG kk=>bi e λl h e=>Bt e λc hc e=>?_
  rw[D.gS_eq h,hc] at r
  obtain⟨_,t,rfl⟩:=r;obtain⟨_,t',rfl⟩:=q
  refine kk ?_;clear kk
  refine⟨P.in_str ⟨congrArg Value.bool ?_,aR _⟩,P.notIn_str ⟨congrArg (λb=>Value.bool (!b)) ?_,aR _⟩⟩<;>(simp only[StrLaws.found_one,<-e];exact af (List.contains_eq_mem c ys))
 |_=>exact no e
theorem DL{v u:Value}(hu:A.units<cLine)(e:cN op x y=some b)(r:Rep X s.heap Av x v)(q:Rep X s.heap Av y u):
 wpAny (model prog w) A (compareOp op v u) (je s b) E s:=by
 induction op with
 |Eq=>exact(Af hu e r.toE q.toE).1
 |NotEq=>exact mi e λc h g=>by subst g;exact(Af hu h r.toE q.toE).2
 |Is=>exact(Aa e r.toE q.toE).1
 |IsNot=>exact mi e λc h g=>by subst g;exact(Aa h r.toE q.toE).2
 |In=>exact(wq e r q).1
 |NotIn=>exact mi e λc h g=>by refine g▸?_;exact(wq h r q).2
 |Lt=>
  refine gQ e λa b h1 h2 g=>?_
  subst h1 h2;refine(so g)▸?_;obtain⟨t,rfl⟩:=r;obtain⟨t',rfl⟩:=q;exact P.lt_int ⟨rfl,aR _⟩
 |GtE=>
  refine gQ e λa b h1 h2 g=>?_
  subst h1 h2;refine(so g)▸?_;obtain⟨t,rfl⟩:=r;obtain⟨t',rfl⟩:=q;exact P.ge_int ⟨rfl,aR _⟩
 |LtE=>
  cases x with
  |int a=>
   refine bi e λc h g=>?_
   rw[D.gI_eq h] at q
   obtain rfl:=so g;obtain⟨t,rfl⟩:=r;obtain⟨t',rfl⟩:=q;exact P.le_int ⟨rfl,aR _⟩
  |str a=>
   refine bi e λc h g=>?_
   rw[D.gS_eq h] at q
   obtain rfl:=so g;obtain⟨_,t,rfl⟩:=r;obtain⟨_,t',rfl⟩:=q;exact P.le_str ⟨rfl,aR _⟩
  |_=>exact no e
 |Gt=>
  cases x with
  |int a=>
   refine bi e λc h g=>?_
   rw[D.gI_eq h] at q
   obtain rfl:=so g;obtain⟨t,rfl⟩:=r;obtain⟨t',rfl⟩:=q;exact P.gt_int ⟨rfl,aR _⟩
  |str a=>
   refine bi e λc h g=>?_
   rw[D.gS_eq h] at q
   obtain rfl:=so g;obtain⟨_,t,rfl⟩:=r;obtain⟨_,t',rfl⟩:=q;exact P.gt_str ⟨rfl,aR _⟩
  |_=>exact no e
end
end Internal
namespace Internal
open PyProof.Rows
theorem nI(n:Nat)(i:Int):clipAt n i=if 0<=i then min i.toNat n else n-(-i).toNat:=by
 refine Int.ofNat_inj.mp ((clipAt_cast n i).trans ?_)
 induction i with
 |ofNat k=>
  show max 0 (min (if (k:Int)<0 then (k:Int)+n else k) n)=((if (0:Int)<=(k:Int) then min k n else n-(-(k:Int)).toNat:Nat):Int)
  rw[if_neg (Int.not_lt.mpr (Int.natCast_nonneg k)),if_pos (Int.natCast_nonneg k)]
  exact(Int.max_eq_right (Int.le_min.mpr ⟨Int.natCast_nonneg _,Int.natCast_nonneg _⟩)).trans (Lean.Omega.Int.ofNat_min ..).symm
 |negSucc k=>
  rw[if_pos (Int.negSucc_lt_zero k),if_neg (Int.not_le.mpr (Int.negSucc_lt_zero k)),Int.add_comm,Int.min_eq_left (Int.add_le_of_le_sub_left (by rw[Int.sub_self];exact Int.le_of_lt (Int.negSucc_lt_zero k))),Int.max_comm,<-Int.ofNat_toNat]
  exact congrArg Int.ofNat (Int.toNat_sub n (k+1))
noncomputable def tZ:D->Option (Option Int)
 | .none=>some none
 | .int i=>some (some i)
 |_=>none
theorem nk{d:D}(h:dR n d=some a):∃p,tZ d=some p/\a=p.elim 0 (clipAt n):=by
 cases d with
 |none=>exact⟨none,rfl,(so h).symm⟩
 |int i=>exact⟨some i,rfl,(so ((apply_ite some (0<=i) _ _).trans h)).symm.trans (nI n i).symm⟩
 |_=>exact no h
theorem nz{d:D}(h:dS n d=some a):∃p,tZ d=some p/\a=p.elim n (clipAt n):=by
 cases d with
 |none=>exact⟨none,rfl,(so h).symm⟩
 |int i=>exact⟨some i,rfl,(so ((apply_ite some (0<=i) _ _).trans h)).symm.trans (nI n i).symm⟩
 |_=>exact no h
theorem jS{α:Type}(l:List α)(a b:Nat):cut l a b=(l.drop a).take (b-a):=by
 exact List.drop_take
theorem nG(l:List α)(a b:Nat):(cut l a b).length<=l.length:=by
 simp only[jS,List.length_take,List.length_drop];exact aA (Nat.min_le_right _ _) (Nat.sub_le _ _)
theorem RepL.cut{X:Addr}{h:Heap}{Av:Addr->Prop}{ds:List D}{vs:List Value}(r:RepL X h Av ds vs)(a b:Nat):RepL X h Av (cut ds a b) (cut vs a b):=(r.take b).drop a
theorem AN{o i:Value}(h:isSlice slice=false):subscripted slice false o i=operate [o,i] (getItem o i):=by
 cases slice<;>first|rfl|((injection h;done))
section
theorem tail_sub{T id:String}(hT:s.TypeIs o T)
 (hl:typeLookup (.type T) "__getitem__"=pure (some (.builtin id))) (hg:wpAny (model prog w) A (getItem o i) Q E s) (hs:isSlice slice=false):
 wpAny (model prog w) A (subscriptTail value slice o i) Q E s:=tail_any hT hl hg (AN hs)
theorem iK{o i:Value}{T id:String}(hT:s.TypeIs o T)
 (hl:typeLookup (.type T) "__getitem__"=pure (some (.builtin id))) (hg:wpAny (model prog w) A (getItem o i) Q E s):
 wpAny (model prog w) A (subscriptTail value (.Slice l u none p) o i) Q E s:=tail_any hT hl hg rfl
theorem i6:∀{l:List α} {x:α},l.getLast?=some x->l≠[]/\l[l.length-1]? =some x
 |[],_,h=>by simp at h
 |a::r,x,h=>⟨by simp,by refine(List.getLast?_eq_getElem?)▸?_;exact h⟩
theorem um{n:Nat}(h:0<n): -(n:Int)<= -1:=Int.neg_le_neg (Int.ofNat_le.mpr h)
theorem zX(h:0<n):(-1:Int)+(n:Nat)=((n-1:Nat):Int):=by
 induction n with
 |zero=>exact absurd h (Nat.lt_irrefl _)
 |succ m=>exact(Int.add_comm _ _).trans (Int.add_neg_cancel_right (m:Int) 1)
theorem qo{n:Nat}(h:0<n):((-1:Int)+(n:Nat)).toNat=n-1:=congrArg Int.toNat (zX h)
theorem CM{n:Nat}(h0:0<=i)(h:i.toNat<n):seqIndex? i n=some i.toNat:=by
 unfold seqIndex?
 refine af (if_neg (Int.not_lt.mpr h0))▸?_
 exact if_pos (Bool.and_eq_true_iff.mpr ⟨decide_eq_true h0,decide_eq_true ((Int.toNat_lt h0).mp h)⟩)
theorem Gb(h:0<n):seqIndex? (-1) n=some (n-1):=by
 unfold seqIndex?
 rw[if_pos (show(-1:Int)<0 from by decide),zX h]
 exact if_pos (Bool.and_eq_true_iff.mpr ⟨decide_eq_true (Int.natCast_nonneg _),decide_eq_true (Int.ofNat_lt.mpr (Nat.sub_lt h Nat.one_pos))⟩)
theorem rk{n:Nat}(h0:0<=i)(h:i.toNat<n)(hn:n<=ax): -(2^63:Int)<=i/\i<2^63:=
 ⟨Int.le_trans (by decide) h0,Int.lt_of_lt_of_le ((Int.toNat_lt h0).mp h) (Int.le_trans (Int.ofNat_le.mpr hn) (by decide))⟩
theorem sub_ok(hs:isSlice slice=false)(e:eJ x y=some d)(r:cz X s.heap Av x v)(q:Rep X s.heap Av y u):
 wpAny (model prog w) A (subscriptTail value slice v u) (Res X Av s d) E s:=by
 refine bi e λi hy e=>?_
 rw[D.gI_eq hy] at q
 clear hy
 obtain⟨t',rfl⟩:=q
 cases x with
 |list ds=>
  obtain⟨l,vs,rfl,hl,hn,rl⟩:=r
  refine ifs e (λh0 e=>?_) λe=>cd e λh1 e=>?_
  ·obtain⟨w1,hw,hr⟩:=rl.get e
   have hlt:i.toNat<ds.length:=(List.getElem?_eq_some_iff.mp e).1
   exact tail_sub hl.typeIs slot_list_getitem.lookup (wpAny_getItem_list hl h0 (rk h0 hlt hn).2 (by simpa using hw) ⟨aR _,hr⟩) hs
  ·subst h1
   obtain⟨hne,he⟩:=i6 e
   obtain⟨w1,hw,hr⟩:=rl.get he
   have hlen:=rl.length
   have hpos:0<ds.length:=List.length_pos_iff.mpr hne
   refine tail_sub hl.typeIs slot_list_getitem.lookup (wpAny_getItem_list_neg hl (by decide) (by rw[List.size_toArray,hlen];exact um hpos) (by decide) (x:=w1) ?_ ⟨aR _,hr⟩) hs
   rw[List.size_toArray,hlen,qo hpos];simpa using hw
 |tuple ds=>
  obtain⟨l,vs,rfl,hl,_,hn,rl⟩:=r
  refine cd e λh0 e=>?_
  obtain⟨w1,hw,hr⟩:=rl.get e
  have hlt:i.toNat<vs.length:=(List.getElem?_eq_some_iff.mp hw).1
  have hlen:=rl.length
  have hb:=rk h0 (hlen▸hlt) hn
  exact tail_sub hl.typeIs slot_tuple_getitem.lookup (getItem_tuple (j:=i.toNat) hl hb.1 hb.2 (CM h0 hlt) (by simpa using hw) ⟨aR _,hr⟩) hs
 |str cs=>
  obtain⟨hn,t,rfl⟩:=r
  refine ifs e (λh0 e=>mi e λc hc q3=>?_) λe=>cd e λh1 e=>mi e λc hc q3=>?_
  ·subst q3
   have hlt:i.toNat<cs.length:=(List.getElem?_eq_some_iff.mp hc).1
   refine tail_sub (typeIs_str s _ _) F.slot_str_getitem.lookup (P.getItem_str (c:=c) ?_ ?_ (.flat (bj ..) λh=>bZ (by simp))) hs
   ·have hb:=rk h0 hlt hn
    rw[decide_eq_false (Int.not_lt.mpr hb.1),decide_eq_false (Int.not_le.mpr hb.2)];rfl
   ·rw[cK,CM h0 hlt]
    simpa using hc
  ·subst h1;subst q3
   obtain⟨hne,he⟩:=i6 hc
   have hpos:0<cs.length:=List.length_pos_iff.mpr hne
   refine tail_sub (typeIs_str s _ _) F.slot_str_getitem.lookup (P.getItem_str (c:=c) (by decide) ?_ (.flat (bj ..) λh=>bZ (by simp))) hs
   rw[cK]
   rw[Gb hpos];simpa using he
 |bytes bs=>
  obtain⟨⟨t,rfl⟩,hn,hb⟩:=r
  refine cd e λh0 e=>mi e λc hc q3=>?_
  subst q3
  obtain⟨hlt,hce⟩:=List.getElem?_eq_some_iff.mp hc
  refine tail_sub (W.typeIs_bytes s _ _) W.FB.slot_bytes_getitem.lookup (W.getItem_bytes (by simp;exact aA ‹_› (by decide)) h0 (by simp;exact(Int.toNat_lt h0).mp hlt) (.flat (bj ..) λh=>?_)) hs
  have hcl:c<256:=hb c (hce▸List.getElem_mem hlt)
  have:((bs.map Nat.toUInt8).getD i.toNat 0).toNat=c:=by
   rw[List.getD_eq_getElem?_getD,List.getElem?_map,hc]
   simp[Nat.toUInt8,UInt8.toNat_ofNat',Nat.mod_eq_of_lt hcl]
  rw[this];exact ba
 |_=>exact no e
end
theorem gc{d:D}(e:tZ d=some p)(r:Rep X h Av d v):IsPart v p:=by
 cases d with
 |none=>rw[<-so e,show v=.none from r];exact .none
 |int i=>rw[<-so e];obtain⟨t,rfl⟩:=r;exact .int ..
 |_=>exact no e
theorem qd{p:Option Int}(h:IsPart v p):∃l:Option (Int×Tok),v=partValue l/\l.map (·.1)=p:=by
 induction h with
 |none=>exact(am none rfl rfl)
 |int i t=>exact⟨some (i,t),rfl,rfl⟩
theorem mZ(lo hi:Option Int)(n:Nat):Builtin.Str.strSliceIndices lo hi 1 n=(List.range (hi.elim n (clipAt n)-lo.elim 0 (clipAt n))).map (lo.elim 0 (clipAt n)+ ·):=by
 have e:∀(a b:Int),(((lo.elim 0 (clipAt n):Nat):Int),((hi.elim n (clipAt n):Nat):Int),(1:Int))=(a,b,1)->sliceRange a b 1=(List.range (hi.elim n (clipAt n)-lo.elim 0 (clipAt n))).map (lo.elim 0 (clipAt n)+ ·):=by
  intro a b e
  simp only[Prod.mk.injEq] at e
  simp only[<-e.1,<-e.2.1,sliceRange_one]
 refine e _ _ ?_
 refine((sliceBounds_plain lo hi n))▸?_
 rfl
theorem sZ{p:Option Int}(hz:z<=n):p.elim z (clipAt n)<=n:=by
 induction p with
 |none=>exact hz
 |some i=>show clipAt n i<=n;rw[nI];split;exact Nat.min_le_right _ _;exact Nat.sub_le _ _
theorem w9{l:List α}(hb:b<=l.length)(hw:b-a=l.length):cut l a b=l:=by
 rw[jS,hw]
 induction l with
 |nil=>simp
 |cons x l=>
  have hlt:a<=b:=Nat.le_of_lt (Nat.lt_of_sub_ne_zero (by rw[hw];exact Nat.succ_ne_zero _))
  have:=Nat.sub_add_cancel hlt
  rw[hw] at this
  clear hw
  clear hlt
  obtain rfl:a=0:=Nat.le_zero.mp (Nat.le_of_add_le_add_left (a:=(x::l).length) (this▸hb))
  exact List.take_of_length_le (Nat.le_refl _)
section
set_option tactic.hygienic true in
theorem slice_ok{x y z d:D}(hAv:∀a,Av a->∃o,s.heap.get? a=some o)(e:bI x y z=some d)
 (r:cz X s.heap Av x v) (ql:Rep X s.heap Av y vl) (qu:Rep X s.heap Av z vu) (hs:s.heap.IsSliceOf a vl vu .none):
 wpAny (model prog w) A (subscriptTail value (.Slice l u none p) v (.ref a)) (Res X Av s d) E s:=by
 have L:∀{ds:List D} {b:Addr} {vs:List Value},s.heap.IsList b vs.toArray->ds.length<=4096->RepL X s.heap Av ds vs->((dR ds.length y).bind λa=>(dS ds.length z).map λb=>D.list (cut ds a b))=some d->
  wpAny (model prog w) A (subscriptTail value (.Slice l u none p) (.ref b) (.ref a)) (Res X Av s d) E s:=λ{ds b vs} hl hn rl e=>by
  refine bi e λn1 h1 e=>mi e λn2 h2 q3=>?_
  subst q3
  obtain⟨p1,e1,rfl⟩:=nk h1
  obtain⟨p2,e2,rfl⟩:=nz h2
  refine iK hl.typeIs slot_list_getitem.lookup (wpAny_getItem_list_slice (st:=none) hl hs (gc e1 ql) (gc e2 qu) .none (by simp) ?_ ?_)
  ·rw[slicePick_plain]
   simp only[List.size_toArray,List.toList_toArray]
   rw[<-jS,rl.length]
   exact Res.newList hAv (aA (nG ..) hn) (rl.cut _ _)
  ·rw[List.size_toArray,rl.length,sizeLine_eq];exact aA ‹_› (by decide)
 cases x with
 |list ds=>obtain⟨l,vs,rfl,hl,hn,rl⟩:=r;exact L hl hn rl e
 |raw ds=>obtain⟨l,vs,rfl,hl,_,hn,rl⟩:=r;exact L hl hn rl e
 |str cs=>
  refine bi e λn1 h1 e=>mi e λn2 h2 q3=>?_
  subst q3
  obtain⟨p1,e1,rfl⟩:=nk h1
  obtain⟨p2,e2,rfl⟩:=nz h2
  obtain⟨hn,t,rfl⟩:=r
  refine ai (qd (gc e1 ql)) λl1 q30 q1=>?_
  subst q30
  refine ai (qd (gc e2 qu)) λl2 q47 q2=>?_
  subst q47
  refine iK (typeIs_str s _ _) F.slot_str_getitem.lookup (wpAny_getItem_str_slice (l:=l1) (u:=l2) (st:=none) hs rfl ?_)
  have ha:=sZ (p:=p1) (Nat.zero_le cs.length)
  have hb:=sZ (p:=p2) (Nat.le_refl cs.length)
  generalize hp1:p1.elim 0 (clipAt cs.length)=a1 at ha
  generalize hp2:p2.elim cs.length (clipAt cs.length)=a2 at hb
  have hp:slicePicked ⟨cs.toArray⟩ l1 l2 none=(List.range (a2-a1)).map (a1+ ·):=by
   unfold slicePicked
   rw[q1,q2,cK,<-hp1,<-hp2]
   exact mZ ..
  have hc:((List.range (a2-a1)).map (a1+ ·)).filterMap ((⟨cs.toArray⟩:Str).cps[·]?)=cut cs a1 a2:=by
   rw[pick_run,jS]
  have hl:=nG cs a1 a2
  unfold sliceMade
  rw[hp,hc]
  split
  ·rename_i hw
   simp only[Option.map_none,Option.getD_none,beq_self_eq_true,Bool.true_and,aV,List.length_range,beq_iff_eq,cK] at hw
   refine .flat (aR _) λh=>?_
   rw[w9 hb hw];exact bZ hn
  ·refine⟨?_,.flat (bj ..) λh=>bZ (aA hl hn)⟩
   rw[cK,sizeLine_eq]
   exact ln [_,_] [(1,.v 0,.k 4096),(1,.v 1,.v 0)] (.v 1) (.k 16777216) 1 rfl hn hl
 |bytes bs=>
  refine bi e λn1 h1 e=>mi e λn2 h2 q3=>?_
  subst q3
  obtain⟨p1,e1,rfl⟩:=nk h1
  obtain⟨p2,e2,rfl⟩:=nz h2
  obtain⟨⟨t,rfl⟩,hn,hb⟩:=r
  have hl:=nG bs (p1.elim 0 (clipAt bs.length)) (p2.elim bs.length (clipAt bs.length))
  have hpk:W.KBy.picked (bs.map Nat.toUInt8).toArray p1 p2=((cut bs (p1.elim 0 (clipAt bs.length)) (p2.elim bs.length (clipAt bs.length))).map Nat.toUInt8).toArray:=by
   rw[W.KBc.picked_eq]
   simp only[List.size_toArray,aV]
   rw[jS,List.map_take,List.map_drop]
  refine iK (W.typeIs_bytes s _ _) W.FB.slot_bytes_getitem.lookup (getItem_meets (W.typeIs_bytes s _ _) (by decide) W.FB.slot_bytes_getitem W.FB.entry_bytes_getitem (W.FB.args_bytes_getitem_2 _ _)
   (W.KBc.meets_slice2 _ t a (gc e1 ql) (gc e2 qu)) ⟨hs,?_,λt' k=>?_⟩)
  ·rw[hpk,List.size_toArray,aV,sizeLine_eq]
   exact ln [_,_] [(1,.v 0,.k 4096),(1,.v 1,.v 0)] (.v 1) (.k 16777216) 1 rfl hn hl
  ·rw[hpk]
   refine Res.flat ⟨s.heap,k,rfl,λU U e=>e⟩ λh=>⟨⟨t',rfl⟩,aA hl hn,λb hb'=>hb b (List.mem_of_mem_take (List.mem_of_mem_drop hb'))⟩
 |_=>exact no e
end
theorem sortI_perm:∀l:List Int,(sortI l).Perm l
 |[]=>.nil
 |x::r=>(ins x (sortI r)).trans ((sortI_perm r).cons x)
where
 ins (x:Int):∀l:List Int,(gf x l).Perm (x::l)
  |[]=>.refl _
  |y::r=>by
   show(if x<=y then x::y::r else y::gf x r).Perm _
   split
   ·exact .refl _
   ·exact((ins x r).cons y).trans (.swap x y r)
set_option tactic.hygienic true in
theorem jz:∀l:List Int,(sortI l).Pairwise (· <= ·)
 |[]=>.nil
 |x::r=>ins x (sortI r) (jz r)
where
 ins (x:Int):∀l:List Int,l.Pairwise (· <= ·)->(gf x l).Pairwise (· <= ·)
  |[],_=>List.pairwise_singleton ..
  |y::r,h=>by
   refine aw (List.pairwise_cons.mp h) λh1 h2=>?_
   show(if x<=y then x::y::r else y::gf x r).Pairwise _
   split
   ·rename_i hxy
    refine List.pairwise_cons.mpr ⟨λz hz=>?_,h⟩
    rcases List.mem_cons.mp hz with rfl|hz
    ·exact hxy
    ·exact Int.le_trans hxy (h1 z hz)
   ·rename_i hxy
    refine List.pairwise_cons.mpr ⟨λz hz=>?_,ins x r h2⟩
    rcases List.mem_cons.mp ((sortI_perm.ins x r).mem_iff.mp hz) with rfl|hz
    ·exact Int.le_of_not_le hxy
    ·exact h1 z hz
theorem jg:∀{a b:List Int},a.Perm b->a.Pairwise (· <= ·)->b.Pairwise (· <= ·)->a=b
 |[],b,p,_,_=>p.nil_eq
 |x::a,[],p,_,_=>p.symm.nil_eq.symm
 |x::a,y::b,p,h1,h2=>by
  obtain⟨q1,q2⟩:=List.pairwise_cons.mp h1
  obtain⟨r1,r2⟩:=List.pairwise_cons.mp h2
  have e:x=y:=by
   have m1:=p.mem_iff.mp (.head _)
   have m2:=p.mem_iff.mpr (.head _)
   rcases List.mem_cons.mp m1 with e|m1
   ·exact e
   ·rcases List.mem_cons.mp m2 with e|m2
    ·exact e.symm
    ·exact Int.le_antisymm (q1 y m2) (r1 x m1)
  clear r1
  subst e
  rw[jg (List.Perm.cons_inv p) q2 r2]
section
theorem ny:∀{ds:List D} {is:List Int} {vs:List Value},intsOf ds=some is->RepL X h Av ds vs->IntsAre vs is/\ds=is.map .int
 |[],is,vs,e,r=>by
  subst r
  refine(so e)▸?_
  exact⟨.nil,rfl⟩
 |d::ds,is,vs,e,r=>bi e λi h e=>mi e λjs h1 q4=>by
  rw[<-q4,D.gI_eq h]
  rw[D.gI_eq h] at r
  obtain⟨v,rest,rfl,⟨t,rfl⟩,r2⟩:=r
  exact aw (ny h1 r2) λi1 i2=>⟨.cons _ t i1,congrArg (D.int i:: ·) i2⟩
theorem yv{is:List Int}(z:IntsAre vs is):RepL X h Av (is.map .int) vs:=by
 induction z with
 |nil=>exact .nil
 |cons n t _ ih=>exact RepL.cons ba ih
theorem ri:∀{ds:List D} {bs:List Nat} {vs:List Value},bytesOf ds=some bs->RepL X h Av ds vs->
 ∃is:List Int,IntsAre vs is/\bs=is.map Int.toNat/\∀n∈is,0<=n/\n<256
 |[],is,vs,e,r=>by
  subst r
  obtain rfl:=so e
  exact⟨[],.nil,rfl,λn h=>nomatch h⟩
 |d::ds,is,vs,e,r=>bi e λi h e=>cd e λh0 e=>mi e λjs h1 q4=>by
  clear e
  rw[<-q4]
  rw[D.gI_eq h] at r
  clear e
  clear h
  clear q4
  obtain⟨v,rest,rfl,⟨t,rfl⟩,r2⟩:=r
  refine aZ (ri h1 r2) λis i1 i2 i3=>⟨i::is,.cons _ t i1,congrArg (i.toNat:: ·) i2,λn hn=>?_⟩
  rcases List.mem_cons.mp hn with rfl|hn
  ·exact h0
  ·exact i3 n hn
end
noncomputable def cY(f:String):Value:=if f="int" then .type "int" else if f="bytes" then .type "bytes" else .builtin f
section
section
theorem EO(e:Dc x=some d)(r:Rep X s.heap Av x v):wpAny (model prog w) A (call (cY "len") [v]) (Res X Av' s d) E s:=by
 cases x with
 |list ds=>
  refine(so e)▸?_
  refine bU r λl vs q10 q11 U hn rl=>q10▸?_
  obtain⟨hl,_⟩:=q11
  have hlen:=rl.length
  refine len_list hl (Int.ofNat_lt.mpr (Nat.lt_of_le_of_lt (le_of_eq_of_le hlen hn) (by decide))) (.flat (bj ..) λh=>?_)
  refine af List.size_toArray▸?_;refine af hlen▸?_;exact ba
 |str cs=>
  obtain rfl:=so e
  obtain⟨hn,t,rfl⟩:=r
  refine P.len_str (Int.not_le.mpr (Int.ofNat_lt.mpr (Nat.lt_of_le_of_lt ‹_› (by decide)))) (.flat (bj ..) λh=>?_)
  exact ba
 |bytes bs=>
  obtain rfl:=so e
  obtain⟨⟨t,rfl⟩,hn,_⟩:=r
  refine W.len_bytes (by simp;exact aA ‹_› (by decide)) (.flat (bj ..) λh=>?_)
  refine af (show(bs.map Nat.toUInt8).toArray.size=bs.length from by simp)▸?_;exact ba
 |_=>exact no e
theorem EN(e:C2 l=some d)(r:Rep X s.heap Av (.str l) v):wpAny (model prog w) A (call (cY "ord") [v]) (Res X Av' s d) E s:=by
 match l with
 |[c]=>
  obtain rfl:=so e
  obtain⟨hn,t,rfl⟩:=r
  exact P.ord_of_char (.flat (bj ..) λh=>ba)
 |[]|_::_::_=>exact no e
theorem EP(e:DN i=some d)(r:Rep X s.heap Av (.int i) v):wpAny (model prog w) A (call (cY "chr") [v]) (Res X Av' s d) E s:=cd e λh0 e=>by
 refine(so e)▸?_
 obtain⟨t,rfl⟩:=r
 exact chr_of_range h0.1 (Int.le_trans (Int.le_of_lt h0.2) (by decide)) (.flat (bj ..) λh=>bZ (by simp))
theorem EM(hh:A.handled=none)(e:Cs ds=some d)(r:Rep X s.heap Av (.list ds) v):wpAny (model prog w) A (call (cY "sum") [v]) (Res X Av' s d) E s:=mi e λis h1 e=>by
 refine e▸?_
 refine bU r λl vs q36 q37 U hn rl=>q36▸?_
 obtain⟨hl,_⟩:=q37
 refine aw (ny h1 rl) λi1 U=>aB i1.allInts.items λxs hxs=>?_
 rw[hxs] at hl
 refine sum_intListG hh hl λh' tk t' hk=>⟨(bu h' tk rfl hk),?_⟩
 have:=i1.numsOf
 rw[show vs=vs.toArray.toList from rfl,hxs,nums_intItems] at this
 rw[preSum_eq,List.take_of_length_le (by simp),this];exact ba
theorem yC(hAv:∀a,Av' a->∃o,s.heap.get? a=some o)(e:zO ds=some d)(r:Rep X s.heap Av (.list ds) v):wpAny (model prog w) A (call (cY "sorted") [v]) (Res X Av' s d) E s:=bi e λis h1 e=>cd e λhlt e=>by
 refine(so e)▸?_
 refine bU r λl vs q34 q35 U hn rl=>q34▸?_
 obtain⟨hl,_⟩:=q35
 refine aw (ny h1 rl) λi1 i2=>sorted_ints hl i1 (by rw[i1.length];exact hlt) λout ns' a1 a2 a3=>?_
 have e1:=jg (a2.trans (sortI_perm is).symm) a3 (jz is)
 clear a2
 clear a3
 subst e1
 obtain⟨e,he⟩:=sortedAll_at s.heap vs out
 refine⟨(bu _ s.toks rfl (λU U=>sortedAll_old)),?_⟩
 refine(dD _ out.toList rfl ⟨⟨_,he,rfl,e,rfl⟩,λo q=>by rw[he] at q;refine(so q)▸?_;rfl⟩ (λq=>?_) ?_ (yv a1))
 ·obtain⟨o,ho⟩:=hAv _ q
  exact absurd (Heap.lt_size ho) (Nat.not_lt.mpr (Nat.le_succ _))
 ·rw[aV,(sortI_perm is).length_eq];exact aA (Nat.le_of_lt hlt) (by decide)
theorem Bq(hh:A.handled=none)(e:Ai ds=some d)(r:Rep X s.heap Av (.list ds) v):wpAny (model prog w) A (call (cY "bytes") [v]) (Res X Av' s d) E s:=mi e λbs h1 e=>by
 refine e▸?_
 refine bU r λl vs q27 q28 U hn rl=>q27▸?_
 obtain⟨hl,_⟩:=q28
 refine aZ (ri h1 rl) λis i1 q31 i3=>q31▸?_
 refine call_bytes_ints hl i1 i3 (by simp only[(rl.length),sizeLine_eq];exact aA ‹_› (by decide)) hh λh' t k hk=>⟨(bu h' k rfl hk),?_⟩
 refine(a6 ⟨t,?_⟩ (by simp only[aV,<-i1.length,(rl.length)];exact hn) (λb hb=>?_))
 ·refine af List.map_map▸?_;rfl
 ·refine ai (List.mem_map.mp hb) λn hn q33=>?_
  clear hb
  subst q33
  exact(Int.toNat_lt (i3 n hn).1).mpr (i3 n hn).2
theorem yA{x:D}(hh:A.handled=none)(hAv:∀a,Av' a->∃o,s.heap.get? a=some o)(e:eL f x=some d)(r:Rep X s.heap Av x v):wpAny (model prog w) A (call (cY f) [v]) (Res X Av' s d) E s:=
 ifs e (λhf e=>by refine hf▸?_;exact EO e r) λe=>
 ifs e (λhf e=>by rw[hf];exact bi e λU h e=>EN e (D.gS_eq h▸r)) λe=>
 ifs e (λhf e=>by rw[hf];exact bi e λU h e=>EP e (D.gI_eq h▸r)) λe=>
 ifs e (λhf e=>by subst hf;exact bi e λU h e=>EM hh e (D.gL_eq h▸r)) λe=>
 ifs e (λhf e=>by rw[hf];exact bi e λU h e=>yC hAv e (D.gL_eq h▸r)) λe=>
 ifs e (λhf e=>by
  rw[hf]
  refine mi e λi h e=>?_
  rw[D.gI_eq h] at r
  subst e;obtain⟨t,rfl⟩:=r
  exact call_int_int (.flat (aR _) λh=>ba)) λe=>
 ifs e (λhf e=>by refine af hf▸?_;exact bi e λU h e=>Bq hh e (D.gL_eq h▸r)) λe=>no e
end
theorem Bn{vs:List Value}(hh:A.handled=none)(hAv:∀a,Av' a->∃o,s.heap.get? a=some o)(e:dJ f ds=some d)(r:RepL X s.heap Av ds vs):
 wpAny (model prog w) A (call (cY f) vs) (Res X Av' s d) E s:=by
 match ds with
 |[x]=>
  refine bv r λv U q39 r1 q40=>q39▸?_
  refine q40▸?_
  exact yA hh hAv e r1
 |[]|_::_::_=>exact no e
end
end Internal
namespace Internal
open Builtin Builtin.Str PyProof.Rows PySem.SeqAt PySem.StrLaws
theorem rT(x:Str)(c lo hi:Nat)(hhi:hi<=x.length):
 (occurrences x ⟨#[c]⟩ lo hi 1=[]/\∀i,lo<=i->i<hi->x.cps.toList[i]? ≠some c)\/
 ∃i r,occurrences x ⟨#[c]⟩ lo hi 1=i::r/\lo<=i/\i<hi/\x.cps.toList[i]? =some c/\∀k,lo<=k->k<i->x.cps.toList[k]? ≠some c:=by
 have one:∀i,At x ⟨#[c]⟩ hi i↔i<hi/\x.cps.toList[i]? =some c:=λi=>by
  constructor
  ·intro h
   have h1:=h.1
   exact⟨h1,(subAt_one x c i).mp ⟨aA h.1 hhi,h.2⟩⟩
  ·intro h
   exact⟨h.1,((subAt_one x c i).mpr h.2).2⟩
 rw[occ_eq]
 rcases occ_first x ⟨#[c]⟩ hi 1 (Nat.le_refl _) (List.range' lo (hi+1-lo)) lo (λi hi=>by have:=List.mem_range'_1.mp hi;exact this.1) with ⟨h0,hn⟩|⟨pre,a,post,e,h0,ha,hn⟩
 ·refine .inl ⟨by rw[h0],λi h1 h2 h3=>?_⟩
  exact hn i (by rw[List.mem_range'_1];exact⟨h1,ln [_,_,_,_] [(1,.a (.v 0) (.k 1),.v 1),(1,.a (.v 1) (.k 1),.a (.v 2) (.v 3))] (.a (.v 0) (.k 1)) (.a (.v 3) (.v 2)) 1 rfl h2 (Nat.le_of_eq (Nat.sub_add_cancel (ln [_,_,_] [(1,.v 0,.v 1),(1,.a (.v 1) (.k 1),.v 2)] (.v 0) (.a (.v 2) (.k 1)) 1 rfl h1 h2)).symm)⟩) ((one i).mpr ⟨h2,h3⟩)
 ·refine .inr (dD a (((forIn (List.range' lo (hi+1-lo)) ((#[]:Array Nat),lo) (occBody x ⟨#[c]⟩ hi 1)).run.fst.toList).tail) ?_ ((range'_split_from e).1) ((one a).mp ha).1 ((one a).mp ha).2 (λk hk0 hk h3=>
   hn k ((range'_split_from e).2 k hk0 hk) ((one k).mpr ⟨by exact ln [_,_,_] [(1,.a (.v 0) (.k 1),.v 1),(1,.a (.v 2) (.k 1),.v 0)] (.a (.v 2) (.k 1)) (.v 1) 1 rfl ((one a).mp ha).1 hk,h3⟩)))
  generalize (forIn (List.range' lo (hi+1-lo)) ((#[]:Array Nat),lo) (occBody x ⟨#[c]⟩ hi 1)).run.fst=arr at h0
  have h1:arr.toList[0]? =some a:=by simpa using h0
  induction hL:arr.toList with
  |nil=>rw[hL] at h1;exact no h1
  |cons b t=>rw[hL] at h1;simp at h1;refine af h1▸?_;rfl
theorem jj(c:Nat):∀(l:List Nat) (b lo hi:Nat),(∀i,lo<=b+i->b+i<hi->l[i]? ≠some c)->aP c l b lo hi= -1
 |[],_,_,_,_=>rfl
 |x::r,b,lo,hi,h=>by
  refine(if_neg (λq=>h 0 (ln [_,_] [(1,.v 0,.v 1)] (.v 0) (.a (.v 1) (.k 0)) 1 rfl q.1) (ln [_,_] [(1,.a (.v 0) (.k 1),.v 1)] (.a (.a (.v 0) (.k 0)) (.k 1)) (.v 1) 1 rfl q.2.1) (by simp[q.2.2]))).trans ?_
  exact jj c r (b+1) lo hi λi h1 h2 h3=>h (i+1) (ln [_,_,_] [(1,.v 0,.a (.a (.v 1) (.k 1)) (.v 2))] (.v 0) (.a (.v 1) (.a (.v 2) (.k 1))) 1 rfl h1) (ln [_,_,_] [(1,.a (.a (.a (.v 0) (.k 1)) (.v 1)) (.k 1),.v 2)] (.a (.a (.v 0) (.a (.v 1) (.k 1))) (.k 1)) (.v 2) 1 rfl h2) (by simpa using h3)
theorem ji(c:Nat):∀(l:List Nat) (b lo hi j:Nat),lo<=b+j->b+j<hi->l[j]? =some c->(∀k,lo<=b+k->k<j->l[k]? ≠some c)->aP c l b lo hi=((b+j:Nat):Int)
 |[],_,_,_,_,_,_,h,_=>no h
 |x::r,b,lo,hi,0,h1,h2,h3,_=>by
  exact if_pos ⟨h1,h2,so h3⟩
 |x::r,b,lo,hi,j+1,h1,h2,h3,h4=>by
  refine(if_neg (λq=>h4 0 (ln [_,_] [(1,.v 0,.v 1)] (.v 0) (.a (.v 1) (.k 0)) 1 rfl q.1) (Nat.succ_pos _) (by simp[q.2.2]))).trans ?_
  rw[ji c r (b+1) lo hi j (ln [_,_,_] [(1,.v 0,.a (.v 1) (.a (.v 2) (.k 1)))] (.v 0) (.a (.a (.v 1) (.k 1)) (.v 2)) 1 rfl h1) (ln [_,_,_] [(1,.a (.a (.v 0) (.a (.v 1) (.k 1))) (.k 1),.v 2)] (.a (.a (.a (.v 0) (.k 1)) (.v 1)) (.k 1)) (.v 2) 1 rfl h2) (by simpa using h3) λk k1 k2 k3=>h4 (k+1) (ln [_,_,_] [(1,.v 0,.a (.a (.v 1) (.k 1)) (.v 2))] (.v 0) (.a (.v 1) (.a (.v 2) (.k 1))) 1 rfl k1) (Nat.lt_succ_of_le ‹_›) (by simpa using k3)]
  exact congrArg _ (Nat.succ_add _ _)
theorem gE(c:Nat)(z:List Nat):∀a b:List Nat,bC c z (a++b)=bC c z a++bC c z b
 |[],_=>rfl
 |k::r,b=>by
  show(if k=c then z else [k])++bC c z (r++b)=_
  rw[gE c z r b,<-List.append_assoc];rfl
theorem iS(c:Nat)(z:List Nat):∀l:List Nat,c ∉ l->bC c z l=l
 |[],_=>rfl
 |k::r,h=>by
  have h1:¬k=c:=λe=>h (e▸List.mem_cons_self ..)
  show(if k=c then z else [k])++bC c z r=_
  rw[if_neg h1,iS c z r λm=>h (List.mem_cons_of_mem _ m)];rfl
theorem lW(c:Nat)(z:Str):∀parts:List Str,(∀p∈parts,c ∉ p.cps.toList)->bC c z.cps.toList (Str.join ⟨#[c]⟩ parts).cps.toList=(Str.join z parts).cps.toList
 |[],_=>rfl
 |[p],h=>iS c _ _ (h p (List.mem_singleton.mpr rfl))
 |p::q::r,h=>by
  show bC c _ (p++⟨#[c]⟩++Str.join ⟨#[c]⟩ (q::r)).cps.toList=(p++z++Str.join z (q::r)).cps.toList
  simp only[Str.cps_append,Array.toList_append]
  simp only[gE,gE,lW c z (q::r) λa ha=>h a (List.mem_cons_of_mem _ ha),iS c _ _ (h p (List.mem_cons_self ..))]
  rw[show bC c z.cps.toList [c]=z.cps.toList from(congrArg (· ++[]) (if_pos rfl)).trans (List.append_nil _)]
theorem pf(x z:Str)(c:Nat):(Txt.replace x ⟨#[c]⟩ z).cps.toList=bC c z.cps.toList x.cps.toList:=by
 simp only[replace_one,<-lW c z _ (split_free x c),join_split]
theorem iW(sep:List Nat):∀ss:List (List Nat),(Str.join ⟨sep.toArray⟩ (ss.map λs=>⟨s.toArray⟩))=⟨(ck sep ss).toArray⟩
 |[]=>rfl
 |[p]=>rfl
 |p::q::r=>by
  show(⟨p.toArray⟩:Str)++⟨sep.toArray⟩++Str.join ⟨sep.toArray⟩ ((q::r).map λs=>⟨s.toArray⟩)=_
  simp only[iW sep (q::r),cG,cG];rfl
theorem gM:∀ss:List (List Nat),(ck [] ss).length=(ss.map List.length).sum
 |[]=>rfl
 |[p]=>rfl
 |p::q::r=>by
  show(p++[]++ck [] (q::r)).length=p.length+((q::r).map List.length).sum
  rw[List.append_nil,List.length_append,gM (q::r)]
section
theorem mW:∀{ds:List D} {ss:List (List Nat)} {vs:List Value},strsOf ds=some ss->RepL X h Av ds vs->StrsAre vs (ss.map λs=>⟨s.toArray⟩)/\ds=ss.map .str
 |[],is,vs,e,r=>by
  subst r
  refine(so e)▸?_
  exact⟨.nil,rfl⟩
 |d::ds,is,vs,e,r=>bi e λx h e=>mi e λjs h1 q4=>by
  rw[<-q4,D.gS_eq h]
  rw[D.gS_eq h] at r
  obtain⟨v,rest,rfl,⟨_,t,rfl⟩,r2⟩:=r
  exact aw (mW h1 r2) λi1 i2=>⟨.cons _ t i1,congrArg (D.str x:: ·) i2⟩
end
noncomputable def ng(m:String):Value:=.builtin (if m="find" then "str.find" else if m="join" then "str.join" else if m="count" then "list.count" else "list.index")
section
theorem BS{t u v v':Tok}(h0:0<=i/\0<=j/\i<2^20/\j<2^20)(hn:cs.length<=4096):
 wpAny (model prog w) A (call (.builtin "str.find") [.str ⟨cs.toArray⟩ t,.str ⟨#[c]⟩ u,.int i v,.int j v']) (Res X Av s (.int (aP c cs 0 i.toNat j.toNat))) E s:=by
 have key:∀hi:Nat,hi=min j.toNat cs.length->
  Gives (match occurrences ⟨cs.toArray⟩ ⟨#[c]⟩ i.toNat hi 1 with|i::_=>retInt i|[]=>(do rule "str.find.not-found";retInt (-1))) (.int (aP c cs 0 i.toNat j.toNat)):=by
  intro hi hm
  rcases rT ⟨cs.toArray⟩ c i.toNat hi (hm▸Nat.min_le_right _ _) with ⟨e,hno⟩|⟨k,r,e,k1,k2,k3,k4⟩
  ·rw[e]
   have:aP c cs 0 i.toNat j.toNat= -1:=jj c cs 0 _ _ λk k1 k2 k3=>by
    have hk:=(List.getElem?_eq_some_iff.mp k3).1
    exact hno k (ln [_,_] [(1,.v 0,.a (.k 0) (.v 1))] (.v 0) (.v 1) 1 rfl k1) (hm▸Nat.lt_min.mpr ⟨Nat.zero_add k▸k2,hk⟩) (by simpa using k3)
   refine af this▸?_
   exact .rule (.of_eq rfl)
  ·rw[e]
   have:aP c cs 0 i.toNat j.toNat=((0+k:Nat):Int):=ji c cs 0 _ _ k (Nat.le_add_left_of_le k1) (Nat.lt_of_lt_of_le ((Nat.zero_add k).symm▸k2) (hm▸Nat.min_le_left _ _)) (by simpa using k3) λk' k1' k2' k3'=>k4 k' (ln [_,_] [(1,.v 0,.a (.k 0) (.v 1))] (.v 0) (.v 1) 1 rfl k1') k2' (by simpa using k3')
   simp only[this,Nat.zero_add]
   exact .of_eq rfl
 refine call_gives F.slot_str_find (typeIs_str _ _ _) F.entry_str_find (F.args_str_find_4 _ _ _ _) (m:=.int (aP c cs 0 i.toNat j.toNat)) ?_ (.flat (bj ..) λh=>ba)
 have e1:(max 0 (if i<0 then i+((⟨cs.toArray⟩:Str).length:Int) else i)).toNat=i.toNat:=by rw[if_neg (Int.not_lt.mpr h0.1),Int.max_eq_right h0.1]
 have e2:(max 0 (if j<0 then j+((⟨cs.toArray⟩:Str).length:Int) else j)).toNat=j.toNat:=by rw[if_neg (Int.not_lt.mpr h0.2.1),Int.max_eq_right h0.2.1]
 show Gives (match occurrences ⟨cs.toArray⟩ ⟨#[c]⟩ ((max 0 (if i<0 then i+((⟨cs.toArray⟩:Str).length:Int) else i)).toNat) (min (max 0 (if j<0 then j+((⟨cs.toArray⟩:Str).length:Int) else j)).toNat (⟨cs.toArray⟩:Str).length) 1 with
  |i::_=>retInt i|[]=>(do rule "str.find.not-found";retInt (-1))) _
 refine af e1▸?_;refine af e2▸?_
 exact key _ rfl
end
end Internal
namespace Internal
open PyProof.Rows PySem.SeqAt
noncomputable def eB:Value->Bool
 | .none=>true
 |_=>false
section
variable{A:Around}
theorem BC{v:Value}(e:strsOf ds=some ss)(hl:(ck [] ss).length<=4096)(r:Rep X s.heap Av (.list ds) v):
 wpAny (model prog w) A (call (.builtin "str.join") [.str ⟨([]:List Nat).toArray⟩ t,v]) (Res X Av' s (.str (ck [] ss))) E s:=by
 refine bU r λl vs q80 q81 U hn rl=>q80▸?_
 refine aw q81 λhl' U=>aw (mW e rl) λh1 h2=>join_list hl' (h1) ?_ λt' k=>?_
 ·have h5:(⟨([]:List Nat).toArray⟩:Str).length=0:=rfl
  refine af (show(ss.map λs=>(⟨s.toArray⟩:Str)).map (·.length)=ss.map List.length from by simp[Function.comp_def,cK])▸?_;refine af h5▸?_;exact ln [_,_,_] [(1,.v 0,.k 4096),(1,.v 1,.v 0)] (.a (.v 1) (.w (.v 2) 0)) (.k 16777216) 1 rfl hl (Nat.le_of_eq (gM ss).symm)
 ·have:Txt.join ⟨([]:List Nat).toArray⟩ (ss.map λs=>(⟨s.toArray⟩:Str))=⟨(ck [] ss).toArray⟩:=(StrLaws.glued_eq_join _ _).trans (iW [] ss)
  refine af this▸?_
  exact .flat (bu s.heap k rfl (λU U e=>e)) λh=>bZ hl
theorem lr(hu:A.units<cLine):∀{ds:List D} {vs:List Value},ds.all cn=true->RepL X s.heap Av ds vs->
 vs.countP eB=(ds.filter isNone).length/\(∀y∈vs,EqAt A s y .none (eB y))/\∀m:Nat,(vs[m]?).map eB=(ds[m]?).map isNone
 |[],vs,h,r=>by
  subst r
  exact(a6 rfl (by simp) (λm=>Option.map_congr λa=>congrFun rfl))
 |d::ds,vs,h,r=>by
  obtain⟨u,rest,rfl,r1,r2⟩:=r
  rw[List.all_cons,Bool.and_eq_true] at h
  refine bV (lr hu h.2 r2) λi1 i2 i3=>?_
  have key:eB u=isNone d/\EqAt A s u .none (eB u):=by
   cases d<;>first|((first|(injection (h.1);done)|cases (h.1));done)|skip
   ·subst r1;exact⟨rfl,.same _⟩
   ·refine bv r1 λa vs q66 ht U=>?_
    refine af q66▸?_
    exact⟨rfl,.tuple_none ht hu⟩
  refine(a6 ?_ (λy hy=>?_) (λm=>?_))
  ·simp only[List.countP_cons,List.filter_cons,i1,key.1]
   induction isNone d<;>rfl
  ·clear r1;rcases List.mem_cons.mp hy with rfl|hy
   ·exact key.2
   ·exact i2 y hy
  ·induction m with
   |zero=>simp[key.1]
   |succ m=>exact i3 m
theorem zf(hu:A.in1.units<cLine)(e:ds.all cn=true)(r:Rep X s.heap Av (.list ds) v):
 wpAny (model prog w) A (call (.builtin "list.count") [v,.none]) (Res X Av' s (.int (ds.filter isNone).length)) E s:=by
 refine av λGG kk=>bU r λl vs q75 q76 U hn rl=>?_
 clear r hn
 subst q75
 obtain⟨⟨⟨cls,dd,data,sl⟩,ho,hc,n,hd⟩,_⟩:=q76
 simp only at hc hd
 subst hc hd
 refine bV (lr (A:=A.in1) hu e rl) λi1 i2 U=>kk ?_;clear kk
 refine call_meets PySem.F.slot_list_count (am _ ho rfl) PySem.F.entry_list_count (PySem.F.args_list_count_2 _ _) (list_countAt l vs.toArray n dd sl .none eB) ⟨ho,λy hy=>i2 y (by simpa using hy),?_⟩
 show Res X Av' s _ _ _
 refine af (show vs.toArray.toList=vs from rfl)▸?_;refine af i1▸?_
 exact .flat (bj ..) λh=>ba
theorem yT{i:Nat}(hu:A.in1.units<cLine)(e:ds.all cn=true)(hi:ds.findIdx? isNone=some i)(r:Rep X s.heap Av (.list ds) v):
 wpAny (model prog w) A (call (.builtin "list.index") [v,.none]) (Res X Av' s (.int i)) E s:=by
 refine av λGG kk=>bU r λl vs q69 q70 U hn rl=>?_
 clear r
 subst q69
 obtain⟨⟨⟨cls,dd,data,sl⟩,ho,hc,n,hd⟩,_⟩:=q70
 simp only at hc hd
 subst hc hd
 refine bV (lr (A:=A.in1) hu e rl) λU i2 i3=>ai (List.findIdx?_eq_some_iff_getElem.mp hi) λhlt h1 h2=>?_
 have key:∀(m:Nat) (hm:m<vs.toArray.size) (hm':m<ds.length),eB vs.toArray[m]=isNone ds[m]:=λm hm hm'=>by
  have:=i3 m
  rw[List.getElem?_eq_getElem (by exact hm),List.getElem?_eq_getElem hm'] at this
  simpa using this
 refine kk ?_;clear kk
 refine call_meets PySem.F.slot_list_index (am _ ho rfl) PySem.F.entry_list_index (PySem.F.args_list_index_2 _ _) (list_indexAt l vs.toArray n dd sl .none eB i (Nat.lt_of_lt_of_eq hlt (id (af (rl.length)))) (Int.lt_trans (Int.ofNat_lt.mpr (Nat.lt_of_lt_of_le hlt hn)) (by decide)) ?_ ?_) (a6 ho (λy hy=>i2 y (by simpa using hy)) ?_)
 ·rw[key i _ hlt];exact h1
 ·intro m hm hmi
  rw[key m hm (Nat.lt_trans hmi hlt)]
  exact eq_false_of_ne_true (h2 m hmi)
 ·exact .flat (bj ..) λh=>ba
theorem sx{t u v:Tok}(hu:u≠0)(hv:v≠0)(huv:u≠v)(hn:cs.length<=4096)(hl:(bC c [a,b] cs).length<=4096):
 wpAny (model prog w) A (call (.builtin "str.replace") [.str ⟨cs.toArray⟩ t,.str ⟨#[c]⟩ u,.str ⟨#[a,b]⟩ v]) (Res X Av' s (.str (bC c [a,b] cs))) E s:=by
 refine SC.replaceW hu hv huv ?_ (aA ‹_› (by decide)) (Nat.le_add_left _ _) λt' k=>?_
 ·rw[beq_eq_false_iff_ne]
  intro e
  have:=congrArg (λx:Str=>x.cps.size) e
  simp at this
 ·have:Txt.replace ⟨cs.toArray⟩ ⟨#[c]⟩ ⟨#[a,b]⟩=⟨(bC c [a,b] cs).toArray⟩:=by
   apply Str.ext'
   have:=pf ⟨cs.toArray⟩ ⟨#[a,b]⟩ c
   apply Array.ext'
   simp only[this]
  refine af this▸?_
  exact .flat (bu s.heap k rfl (λU U e=>e)) λh=>bZ hl
theorem By{ds:List D}(hu:A.in1.units<cLine)(e:d8 m o ds=some d)(r:Rep X s.heap Av o v)(rl:RepL X s.heap Av ds vs):
 wpAny (model prog w) A (call (ng m) (v::vs)) (Res X Av' s d) E s:=by
 refine ifs e (λhm e=>?_) λe=>ifs e (λhm e=>?_) λe=>ifs e (λhm e=>?_) λe=>cd e λhm e=>?_
 ·refine bi e λcs h1 e=>bi e λp h2 e=>bi e λst h3 e=>bi e λc h4 e=>bi e λi h5 e=>bi e λj h6 e=>cd e λh0 e=>?_
  refine af hm▸?_;refine(so e)▸?_
  refine av λGG kk=>?_
  rw[D.gS_eq h1] at r
  rw[ni h2,D.gS_eq h3,cI h4,D.gI_eq h5,D.gI_eq h6] at rl
  obtain⟨_,_,rfl,⟨_,t1,rfl⟩,_,_,rfl,⟨t2,rfl⟩,_,_,rfl,⟨t3,rfl⟩,rfl⟩:=rl
  obtain⟨hn,t,rfl⟩:=r
  refine kk ?_;clear kk
  exact BS h0 hn
 ·refine bi e λs' h1 e=>cd e λh2 e=>bi e λa h3 e=>bi e λds' h4 e=>bi e λss h5 e=>cd e λh6 e=>?_
  rw[hm,<-so e]
  rw[D.gS_eq h1,h2] at r
  rw[cI h3,D.gL_eq h4] at rl
  refine bv rl λU U q9 r1 q10=>q9▸?_
  subst q10
  obtain⟨hn,t,rfl⟩:=r
  exact BC h5 h6 r1
 ·refine av λGG kk=>?_
  refine bi e λds' h1 e=>bi e λa h2 e=>bi e λu h3 e=>cd e λh4 e=>kk ?_;clear kk
  refine af hm▸?_;refine(so e)▸?_
  rw[D.gL_eq h1] at r
  replace rl:=(cI h2)▸rl;replace rl:=(D.gN_eq h3)▸rl
  refine bv rl λU U q27 q28 q29=>q27▸?_
  subst q28
  refine q29▸?_
  exact zf hu h4 r
 ·refine bi e λds' h1 e=>bi e λa h2 e=>bi e λu h3 e=>cd e λh4 e=>mi e λi hi e=>?_
  rw[hm,<-e]
  rw[D.gL_eq h1] at r
  rw[cI h2,D.gN_eq h3] at rl
  refine bv rl λU U q42 q43 q44=>?_
  refine q42▸?_
  subst q43
  refine q44▸?_
  exact yT hu h4 hi r
end
end Internal
namespace Internal
open PyProof.Rows
def Plot(h:Heap)(z:Addr):Prop:=∀o,h.get? z=some o->(∃es ep,o.data=.dict es ep)\/∃v,o.data=.cell v
theorem Plot.notSeq{z a:Addr}(p:Plot h z)(e:h.get? a=some o)(hd:∃vs n,o.data=.seq vs n):a≠z:=by
 rintro rfl
 refine dU hd λvs n hd=>?_
 rcases p o e with ⟨_,_,q⟩|⟨_,q⟩<;>(rw[hd] at q;(injection q;done))
section
variable{ρ:R}
theorem SlotR.plot{z:Addr}(r:SlotR X env Γ mB mo h sl v)(hz:mo z)(p:Plot h z)(k:∀b o,b≠z->h.get? b=some o->h'.get? b=some o)
 (hv:∀y a j,sl=.ap j->Γ.idxOf? y=some j->ValOf env h y (.ref a)->ValOf env h' y (.ref a)):SlotR X env Γ mB mo h' sl v:=by
 have kk:∀b o,¬aJ mB mo false b->h.get? b=some o->h'.get? b=some o:=λb o n e=>k b o (λq=>n (.inr (.inr ⟨rfl,q▸hz⟩))) e
 clear hz
 induction sl with
 |un=>trivial
 |sh d=>exact Rep.keep kk (λa=>.inl) d v r
 |ow ds=>
  refine bU r λa vs e hl hm hn rl=>(dD a vs e (hl.at λo e=>k a o ?_ e) hm hn (RepL.keep kk (λa=>.inl) ds vs rl))
  obtain⟨⟨o',ho',_,n,hd⟩,_⟩:=hl
  exact p.notSeq ho' (fT _ n hd)
 |ob bs=>
  refine iu r λa e hl hm hb=>(fu a e (k _ _ ?_ hl) hm hb)
  rintro rfl
  rcases p _ hl with ⟨_,_,q⟩|⟨_,q⟩<;>(injection q;done)
 |ap j=>
  refine av λGG kk=>?_
  obtain⟨b,a,e,⟨o,vs,h1,h2⟩,hn,y,hy,hva⟩:=r
  refine kk ?_;clear kk
  exact⟨b,a,e,⟨o,vs,kk _ _ hn h1,h2⟩,hn,y,hy,hv _ _ j rfl hy hva⟩
theorem gK{k j:Nat}:(ρ.map (Sl.kill k))[j]? =some sl->sl≠.un->ρ[j]? =some sl/\sl≠.ap k:=by
 intro h hn
 replace h:=(List.getElem?_map).symm.trans h
 refine mi h λs0 h1 h2=>?_
 induction s0 with
 |ap i=>
  replace h2:(if i=k then Sl.un else Sl.ap i)=sl:=h2
  by_cases hi:i=k
  ·rw[if_pos hi] at h2;exact absurd h2.symm hn
  ·replace h2:=(if_neg hi).symm.trans h2
   rw[<-h2]
   exact⟨h1,λe=>hi (by cases e;rfl)⟩
 |_=>exact⟨by refine af h1▸?_;exact congrArg some h2,by refine h2▸?_;intro e;cases e⟩
theorem Fm.bound{k:Nat}{x:Str}{z:Addr}(F:Fm C X env Γ mB mo ρ s)(hx:Γ.idxOf? x=some k)(hz:mo z)(p:Plot s.heap z)
 (kb:∀b o,b≠z->s.heap.get? b=some o->s'.heap.get? b=some o) (hns:∃m,s'.heap.Ns env.locals m) (hce:∀y c,env.cells.lookup y=some c->∃v,s'.heap.IsCell c v)
 (hzx:∃o,s'.heap.get? z=some o) (hg:s'.gens=s.gens) (ho:s'.os=s.os) (ht:s.toks<=s'.toks) (hv:ValOf env s'.heap x v)
 (hvo:∀y u,y≠x->(ValOf env s'.heap y u↔ValOf env s.heap y u))
 (hsl:SlotR X env Γ mB mo s.heap sl v) (hnap:sl≠.ap k)
 (hap:∀a,sl.own=true->v=.ref a->∀k' x' sl',k'≠k->Γ.idxOf? x'=some k'->ρ[k']? =some sl'->sl'.own=true->¬ValOf env s.heap x' (.ref a)):
 Fm C X env Γ mB mo ((ρ.map (Sl.kill k)).set k sl) s':=by
 have hsets:∀(j:Nat) (sl':Sl),((ρ.map (Sl.kill k)).set k sl)[j]? =some sl'->(j=k/\sl'=sl)\/(j≠k/\(ρ.map (Sl.kill k))[j]? =some sl'):=λj sl' h=>by
  by_cases hj:j=k
  ·cases hj
   left
   rw[List.getElem?_set] at h
   simp at h
   exact⟨rfl,h.2.symm⟩
  ·right
   rw[List.getElem?_set_ne (Ne.symm hj)] at h
   exact⟨hj,h⟩
 have hne:∀{j:Nat} {y:Str},Γ.idxOf? y=some j->j≠k->y≠x:=λh1 h2 e=>by
  subst e;rw[hx] at h1;obtain rfl:=so h1;exact h2 rfl
 exact {
  ok:=F.ok.step (λb o n e=>kb b o (λq=>n (.inr (q▸hz))) e) (λa m=>by
     by_cases q:a=z
     ·exact q▸hzx
     ·obtain⟨o,e⟩:=(F.ok.mtx a m).2.2
      exact⟨o,kb a o q e⟩) (hg▸F.ok.bare) ho (aA F.ok.tk ht)
  kind:=F.kind
  glob:=F.glob
  bi:=F.bi
  ns:=hns
  mutL:=F.mutL
  apartB:=F.apartB
  cells:=λy c h1 h2=>⟨(F.cells y c h1 h2).1,hce y c h2⟩
  cellB:=F.cellB
  cellE:=hce
  hasC:=F.hasC
  inj:=F.inj
  slots:=λj y sl' h1 h2 h3 h4=>by
   rcases hsets j sl' h2 with ⟨rfl,rfl⟩|⟨hj,h2⟩
   ·have:=kr hx h1
    refine this▸?_
    refine(am v hv (hsl.plot hz p kb λy a i e hy hva=>(hvo y _ λq=>?_).mpr hva))
    cases q;rw[hx] at hy;obtain rfl:=so hy;exact hnap e
   ·refine av λGG kk=>?_
    refine aw (gK h2 h3) λh5 h6=>ai (F.slots j y sl' h1 h5 h3 h4) λu hu hr=>kk ?_;clear kk
    refine(am u ((hvo y u (hne h1 hj)).mpr hu) (hr.plot hz p kb λy' a i e hy' hva=>(hvo y' _ λq=>?_).mpr hva))
    clear hva
    cases q;rw[hx] at hy';obtain rfl:=so hy';exact h6 e
  apart:=λk1 k2 y y' sl1 sl2 a h1 h2 h3 h4 h5 h6 h7 h8=>by
   have u1:sl1≠.un:=by rintro rfl;(injection h5;done)
   have u2:sl2≠.un:=by rintro rfl;(injection h6;done)
   rcases hsets k1 sl1 h3 with ⟨e1,q1⟩|⟨hj,g3⟩<;>rcases hsets k2 sl2 h4 with ⟨e2,q2⟩|⟨hj',g4⟩
   ·simp only[e1,e2]
   ·subst e1 q1
    have:=kr hx h1
    subst this
    have e:=ValOf.unique h7 hv
    refine aw (gK g4 u2) λh9 U=>absurd ((hvo y' _ (hne h2 hj')).mp h8) (hap a h5 e.symm k2 y' sl2 hj' h2 h9 h6)
   ·subst e2 q2
    have:=kr hx h2
    subst this
    have e:=ValOf.unique h8 hv
    refine aw (gK g3 u1) λh9 U=>?_
    exact absurd ((hvo y _ (hne h1 hj)).mp h7) (hap a h6 e.symm k1 y sl1 hj h1 h9 h5)
   ·refine aw (gK g3 u1) λh9 U=>?_
    refine aw (gK g4 u2) λh10 U=>F.apart k1 k2 y y' sl1 sl2 a h1 h2 h9 h10 h5 h6 ((hvo y _ (hne h1 hj)).mp h7) ((hvo y' _ (hne h2 hj')).mp h8)}
def Wz(env:Env)(xs:List Str)(s s':Shared):Prop:=∀b o,s.heap.get? b=some o->((b≠env.locals/\∀x∈xs,env.kindOf x=some .cell->env.cells.lookup x≠some b)\/ef o)->s'.heap.get? b=some o
theorem Wz.trans{s s' s'':Shared}(x:Wz env xs s s')(y:Wz env ys s' s''):Wz env (xs++ys) s s'':=λb o e n=>by
 exact y b o (x b o e (n.imp (λh=>⟨h.1,λz hz=>h.2 z (List.mem_append_left _ hz)⟩) id)) (n.imp (λh=>⟨h.1,λz hz=>h.2 z (List.mem_append_right _ hz)⟩) id)
theorem Wz.owned{s s':Shared}(x:Wz env xs s s')(F:Fm C X env Γ mB mo ρ s):∀b o,¬mo b->s.heap.get? b=some o->s'.heap.get? b=some o:=λb o n e=>
 x b o e (.inl ⟨λq=>n (q▸F.mutL),λy U hk hc=>n (F.cells y b hk hc).1⟩)
theorem lb{v:Value}(F:Fm C X env Γ mB mo ρ s)(hx:Γ.idxOf? x=some k)(hs:eg env.scope.names x=true)(hsl:SlotR X env Γ mB mo s.heap sl v)(hnap:sl≠.ap k)
 (hap:∀a,sl.own=true->v=.ref a->∀k' x' sl',k'≠k->Γ.idxOf? x'=some k'->ρ[k']? =some sl'->sl'.own=true->¬ValOf env s.heap x' (.ref a)):
 wpAny M A (storeName env x v) (λU s'=>Fm C X env Γ mB mo ((ρ.map (Sl.kill k)).set k sl) s'/\Wz env [x] s s') E s:=by
 refine aB F.ns λm hm=>?_
 have hkk:env.kindOf x=some .local\/env.kindOf x=some .cell:=by
  unfold eg at hs
  simpa [Env.kindOf] using hs
 rcases hkk with hk|hk
 ·refine wpAny_storeName_local hk hm (λh' hn hsb=>?_) (by simp[F.kind])
  have kb:∀b o,b≠env.locals->s.heap.get? b=some o->h'.get? b=some o:=λb o n e=>(hsb.2 b n).trans e
  have nL:∀c v,s.heap.IsCell c v->c≠env.locals:=λc v z1 e=>ai z1 λo ho hd=>by
   refine qS hm λo' es ep ho' hd' U=>?_
   rw[e,ho'] at ho;obtain rfl:=so ho;rw[hd'] at hd;(injection hd;done)
  have pz:Plot s.heap env.locals:=by
   intro o ho
   refine qS hm λo' es ep ho' hd' U=>?_
   rw[ho'] at ho;obtain rfl:=so ho
   exact .inl (fT es ep hd')
  refine⟨F.bound (z:=env.locals) hx F.mutL pz kb ⟨_,hn⟩ (λy c h=>?_) ?_ rfl rfl (Nat.le_succ _) (.inl ⟨hk,_,hn,by exact if_pos rfl⟩) (λy u hy=>?_) hsl hnap hap,
   λb o e n=>kb b o (by rcases n with n|n;exact n.1;exact pz.notSeq e n) e⟩
  ·obtain⟨v,i⟩:=F.cellE y c h
   exact⟨v,ai i λo ho hd=>(am o (kb c o (nL c v i) ho) hd)⟩
  ·refine qT hn λo U U ho U=>?_;exact⟨o,ho⟩
  ·constructor
   ·rintro(⟨k1,m',n',e⟩|⟨k1,c,e,i⟩)
    ·have:=eD n' hn
     subst this
     simp only[if_neg hy] at e
     exact .inl ⟨k1,m,hm,e⟩
    ·refine aB (F.cellE y c e) λv0 i0=>?_
     have:v0=some u:=di (show Heap.IsCell h' c v0 from ai i0 λo ho hd=>(am o (kb c o (nL c v0 i0) ho) hd)) i
     subst this
     exact .inr ⟨k1,c,e,i0⟩
   ·rintro(⟨k1,m',n',e⟩|⟨k1,c,e,i⟩)
    ·have:=eD n' hm
     subst this
     exact .inl ⟨k1,_,hn,by simp only[if_neg hy];exact e⟩
    ·exact .inr ⟨k1,c,e,ai i λo ho hd=>(am o (kb c o (nL c _ i) ho) hd)⟩
 ·refine aB (F.hasC x (.inl hk)) λc hc=>?_
  obtain⟨hmc,v0,hcell⟩:=F.cells x c hk hc
  refine wpAny_storeName_cell F.kind hk hc hcell λh' hn hsb=>?_
  have kb:∀b o,b≠c->s.heap.get? b=some o->h'.get? b=some o:=λb o n e=>(hsb.2 b n).trans e
  have nL:env.locals≠c:=λe=>by
   refine qS hm λo' es ep ho' hd' U=>ai hcell λo ho hd=>?_
   rw[<-e,ho'] at ho;obtain rfl:=so ho;rw[hd'] at hd;(injection hd;done)
  have hm':h'.Ns env.locals m:=qT hm λo' es ep ho' r=>(iZ o' es ep (kb _ _ nL ho') r)
  have pz:Plot s.heap c:=by
   intro o ho
   refine ai hcell λo' ho' hd=>?_
   rw[ho'] at ho;obtain rfl:=so ho
   exact .inr ⟨_,hd⟩
  refine⟨F.bound (z:=c) hx hmc pz kb ⟨_,hm'⟩ (λy c' h=>?_) ?_ rfl rfl (Nat.le_refl _) (.inr ⟨.inl hk,c,hc,hn⟩) (λy u hy=>?_) hsl hnap hap,
   λb o e n=>kb b o (by rcases n with n|n;exact λq=>n.2 x (.head _) hk (q▸hc);exact pz.notSeq e n) e⟩
  ·by_cases e:c'=c
   ·cases e;exact⟨_,hn⟩
   ·obtain⟨v,i⟩:=F.cellE y c' h
    exact⟨v,ai i λo ho hd=>(am o (kb c' o e ho) hd)⟩
  ·refine ai hn λo ho U=>?_;exact⟨o,ho⟩
  ·have hcc:∀c',env.cells.lookup y=some c'->c'≠c:=λc' h e=>by
    cases e;exact hy (F.inj _ _ _ h hc)
   constructor
   ·rintro(⟨k1,m',n',e⟩|⟨k1,c',e,i⟩)
    ·have:=eD n' hm'
     subst this
     exact .inl ⟨k1,_,hm,e⟩
    ·refine aB (F.cellE y c' e) λv0 i0=>?_
     have:v0=some u:=di (show Heap.IsCell h' c' v0 from ai i0 λo ho hd=>(am o (kb c' o (hcc _ e) ho) hd)) i
     subst this
     exact .inr ⟨k1,c',e,i0⟩
   ·rintro(⟨k1,m',n',e⟩|⟨k1,c',e,i⟩)
    ·have:=eD n' hm
     subst this
     exact .inl ⟨k1,_,hm',e⟩
    ·exact .inr ⟨k1,c',e,ai i λo ho hd=>(am o (kb c' o (hcc _ e) ho) hd)⟩
theorem bH{p:Pos}(F:Fm C X env Γ mB mo ρ s)(hx:aO env.scope.names Γ x k=true)(hk:ρ[k]? =some sl)(hn:sl≠.un):
 wpAny M A (eval (.Name x p) env) (λv s'=>s'=s/\ValOf env s.heap x v/\SlotR X env Γ mB mo s.heap sl v/\Γ.idxOf? x=some k) E s:=by
 refine av λGG kk=>?_
 unfold aO at hx
 simp only[Bool.and_eq_true,beq_iff_eq,bne_iff_ne,ne_eq] at hx
 refine aw hx λq10 h4=>aw q10 λq11 h3=>aw q11 λh1 h2=>ai (F.slots k x sl h1 hk hn h2) λv hv hr=>?_
 refine kk ?_;clear kk
 refine wpAny_Name ?_ (beq_false_of_ne h3)
 rcases id hv with ⟨k1,m,n,e⟩|⟨k1,c,e,i⟩
 ·exact wpAny_loadName_local F.kind k1 n e (lu rfl hv hr h1)
 ·rcases k1 with k1|k1
  ·exact wpAny_loadName_cell F.kind k1 e i ⟨rfl,hv,hr,h1⟩
  ·exact wpAny_loadName_free F.kind k1 e i ⟨rfl,hv,hr,h1⟩ (beq_false_of_ne h4)
end
def Kb(wr:Addr->Prop)(s s':Shared):Prop:=∃h' tk,s'={s with heap:=h',toks:=tk}/\∀b o,¬wr b->s.heap.get? b=some o->h'.get? b=some o
structure Src(prog:Program)(w:World)(A:Around)(X:Addr)(Av W wr:Addr->Prop)(n:Nat)(it:Value)(St:List D->Heap->Prop):Prop where
 frame:∀l h h',St l h->(∀b o,(¬W b\/(ef o/\¬Av b))->h.get? b=some o->h'.get? b=some o)->St l h'
 ex:∀l h,St l h->∀b,wr b->∃o,h.get? b=some o
 self:∀l (s:Shared) (Q:Value->Shared->Prop) (E:Value->Shared->Prop),St l s.heap->Q it s->wpAny (model prog w) A (pyIter it) Q E s
 done:∀(s:Shared) (E:Value->Shared->Prop),St [] s.heap->wpAny (model prog w) A (pyNext it) (λr s'=>r=none/\Kb wr s s') E s
 one:n=1->∀d l (s:Shared) (E:Value->Shared->Prop),St (d::l) s.heap->wpAny (model prog w) A (pyNext it) (λr s'=>∃v,r=some v/\Rep X s'.heap Av d v/\St l s'.heap/\Kb wr s s') E s
 many:n≠1->∀ds l (s:Shared) (E:Value->Shared->Prop),St (.tuple ds::l) s.heap->ds.length=n->wpAny (model prog w) A (pyNext it) (λr s'=>∃t,r=some (.ref t)/\Kb wr s s'/\
  ∀elts k pos (E':Value->Shared->Prop),wpAny (model prog w) A (letOwnedTupleGo (.Tuple elts k pos) it (.ref t)) (λU s''=>∃vs,s''.heap.IsTuple t vs.toArray/\RepL X s''.heap Av ds vs/\St l s''.heap/\Kb wr s' s'') E' s') E s
def SrcAt(prog:Program)(w:World)(A:Around)(X:Addr)(Av Wd:Addr->Prop)(n:Nat)(ds:List D)(s₀:Shared)(it:Value)(s:Shared):Prop:=
 ∃St wr,(∀W:Addr->Prop,(∀a,W a->Wd a\/s.heap.get? a=none)->Src prog w A X (λa=>Av a\/s₀.heap.get? a=none) W wr n it St)/\St ds s.heap/\Keeps s₀ s/\∀b,wr b->s₀.heap.get? b=none/\∃o,s.heap.get? b=some o
theorem bQ{h h':Heap}(k:∀b o,h.get? b=some o->h'.get? b=some o)(e:h'.get? a=none):h.get? a=none:=by
 refine nn λo q=>?_
 replace e:=(k a o q).symm.trans e;exact no (af e)
section
theorem ij{St:Nat->Heap->Prop}(W:Walks prog w A I [I] [I] N P St)(hn:ds.length=N)
 (hP:∀i v,i<N->P i v->∃d,ds[i]? =some d/\∀h Av,Rep X h Av d v) (hT:∀d∈ds,∀es,d≠.tuple es) (hst:St 0 s.heap) (hk:Keeps s₀ s) (hI:s₀.heap.get? I=none) (hI':∃o,s.heap.get? I=some o)
 (hWd:¬Wd I) (hex:∀i h,St i h->∃o,h.get? I=some o):SrcAt prog w A X Av Wd n ds s₀ (.ref I) s:=by
 refine⟨λl h=>∃i,i<=N/\l=ds.drop i/\St i h,(· =I),λV hV=>?_,⟨0,Nat.zero_le _,by exact⟨rfl,hst⟩⟩,hk,λb hb=>by cases hb;exact⟨hI,hI'⟩⟩
 have hVI:¬V I:=λq=>by
  rcases hV I q with q|q
  ·exact hWd q
  ·obtain⟨o,e⟩:=hI';rw[q] at e;exact no e
 refine⟨?_,?_,?_,?_,?_,?_⟩
 ·intro l h h' z27 k
  refine aZ z27 λi hi e st=>(bc i hi e (W.frame i h h' st λb hb o e=>k b o (by refine af (List.mem_singleton.mp hb)▸?_;exact .inl hVI) e))
 ·intro l h z34 b q35
  refine aZ z34 λi hi e st=>?_
  cases q35
  exact hex i h st
 ·intro l s Q E z40 hQ
  refine aZ z40 λi hi e st=>W.self i s Q E st hQ
 ·intro s E z44
  refine aZ z44 λi hi e st=>?_
  have:i=N:=by
   have:=congrArg List.length e
   simp at this
   exact Nat.le_antisymm (hi) (ln [_,_,_,_] [(1,.v 0,.v 1),(1,.v 2,.k 0),(1,.v 1,.a (.v 2) (.v 3))] (.v 0) (.v 3) 1 rfl (Nat.le_of_eq hn.symm) (Nat.le_of_eq this.symm) (Nat.le_of_eq (Nat.sub_add_cancel (ln [_,_,_] [(1,.v 0,.v 1),(1,.v 2,.v 0)] (.v 2) (.v 1) 1 rfl (Nat.le_of_eq hn.symm) hi)).symm))
  cases this
  exact W.done s _ E st λh' tk k=>⟨rfl,h',tk,rfl,λb o hb e=>k b o (notIn_one hb) e⟩
 ·rintro-d l s E ⟨i,hi,e,st⟩
  have hlt:i<N:=by
   have:=congrArg List.length e
   simp at this
   exact ln [_,_,_,_,_] [(1,.v 0,.v 1),(1,.a (.v 2) (.k 1),.v 3),(1,.a (.v 3) (.v 4),.v 0)] (.a (.v 4) (.k 1)) (.v 1) 1 rfl (Nat.le_of_eq hn) (Nat.le_of_eq this) (Nat.le_of_eq (Nat.sub_add_cancel (ln [_,_,_] [(1,.v 0,.v 1),(1,.v 2,.v 0)] (.v 2) (.v 1) 1 rfl (Nat.le_of_eq hn.symm) hi)))
  refine W.item i s _ E hlt st λv h' tk hp hs k=>ai (hP i v hlt hp) λd' hd' hr=>?_
  have hlt':i<ds.length:=by exact place_lt hd'
  replace e:=(List.drop_eq_getElem_cons hlt')▸e
  cases e
  rw[List.getElem?_eq_getElem hlt'] at hd'
  rw[so hd']
  exact⟨v,rfl,hr _ _,⟨i+1,hlt,rfl,hs⟩,h',tk,rfl,λb o hb e=>k b o (notIn_one hb) e⟩
 ·rintro-es l s E ⟨i,hi,e,st⟩-
  exact absurd rfl (hT (.tuple es) (List.mem_of_mem_drop (e▸List.mem_cons_self ..)) es)
theorem AZ{cs:List Nat}{Q:Value->Shared->Prop}(hh:A.handled=none)(ha:cs.all (λc=>decide (c<128))=true)(hWd:∀a,Wd a->∃o,s.heap.get? a=some o)
 (hQ:∀it s',SrcAt prog w A X Av Wd n (cs.map λc=>.str [c]) s it s'->Q it s'):wpAny (model prog w) A (pyIter (.str ⟨cs.toArray⟩ t)) Q E s:=by
 refine wpAny_pyIter_ascii (by simpa using ha) ?_
 refine hQ _ _ (ij (Walks.strAscii hh _ ⟨cs.toArray⟩ t) (by simp) ?_ ?_ (bc _ (bz _ rfl) rfl rfl) (ki s _) (aI _) ⟨_,bz _ rfl⟩ (λq=>?_) ?_)
 ·intro i v hi z60
  refine bK z60 λc u hc q59=>?_
  rw[q59]
  refine(am (.str [c]) ?_ (λh Av=>bZ (List.getElem?_eq_none_iff.mp rfl)))
  simp only[List.getElem?_map]
  refine af (show cs[i]? =some c by simpa using hc)▸?_
  rfl
 ·rintro d hd es rfl
  refine ai (List.mem_map.mp hd) λc U h=>?_
  (injection h;done)
 ·refine aB (hWd _ q) λo' e=>?_
  rw[aI] at e;exact no e
 ·intro i h z62
  refine ai z62 λo e U=>?_;exact⟨o,e⟩
theorem vN{bs:List Nat}{Q:Value->Shared->Prop}(hh:A.handled=none)(hb:∀b∈bs,b<256)(hWd:∀a,Wd a->∃o,s.heap.get? a=some o)
 (hQ:∀it s',SrcAt prog w A X Av Wd n (bs.map λ(b:Nat)=>.int (b:Int)) s it s'->Q it s'):wpAny (model prog w) A (pyIter (.bytes (bs.map Nat.toUInt8).toArray t)) Q E s:=by
 refine W.KBw.pyIter_bytes ?_
 refine hQ _ _ (ij (W.KBw.walks hh _ (bs.map Nat.toUInt8).toArray t) (by simp) ?_ ?_ (bc _ (bz _ rfl) rfl rfl) (ki s _) (aI _) ⟨_,bz _ rfl⟩ (λq=>?_) ?_)
 ·intro i v hi z56
  refine bK z56 λc u hc q55=>?_
  rw[q55]
  have hi':i<bs.length:=by simpa using hi
  refine(am (.int (bs[i]:Nat)) (by simp[hi']) (λh Av=>?_))
  have:c=bs[i].toUInt8:=by simpa [hi'] using hc.symm
  have e:((c.toNat:Nat):Int)=((bs[i]:Nat):Int):=by
   rw[this];simp[Nat.toUInt8,UInt8.toNat_ofNat',Nat.mod_eq_of_lt (hb _ (List.getElem_mem hi'))]
  refine af e▸?_;exact ba
 ·rintro d hd es rfl
  refine ai (List.mem_map.mp hd) λc U h=>?_
  (injection h;done)
 ·refine aB (hWd _ q) λo' e=>?_
  rw[aI] at e;exact no e
 ·intro i h z58
  refine ai z58 λo e U=>?_;exact⟨o,e⟩
theorem sr{x c:Int}(h0:0<=x)(hc:0<=c)(h:x<=8199):0<=x/c+1/\x/c+1<=8200:=
 ⟨Int.le_add_one (Int.ediv_nonneg h0 hc),Int.add_le_add_right (Int.le_trans (Int.ediv_le_self c h0) h) 1⟩
theorem wb{a b:Int}(h:a<b):0<=b-a-1:=Int.le_sub_one_of_lt (Int.sub_pos_of_lt h)
theorem zR(ha: -4096<a)(hb:b<4096):b-a-1<=8199:=by exact Int.le_trans (Int.sub_le_sub_right (Int.sub_le_sub (Int.le_of_lt hb) (Int.le_of_lt ha)) 1) (by decide)
theorem dA(h:small a=true): -4096<a/\a<4096:=(Bool.and_eq_true_iff.mp h).imp of_decide_eq_true of_decide_eq_true
theorem tV(ha:small a=true)(hb:small b=true):0<=Builtin.Range.rangeSize a b c/\Builtin.Range.rangeSize a b c<=8200:=by
 unfold Builtin.Range.rangeSize
 by_cases hc:c>0
 ·rw[if_pos hc]
  by_cases h:a<b
  ·rw[if_pos h];exact sr (wb h) (Int.le_of_lt hc) (zR (dA ha).1 (dA hb).2)
  ·rw[if_neg h];exact(by decide)
 ·rw[if_neg hc]
  by_cases h:a>b
  ·rw[if_pos h];exact sr (wb h) (Int.neg_nonneg_of_nonpos (Int.not_lt.mp hc)) (zR (dA hb).1 (dA ha).2)
  ·rw[if_neg h];exact(by decide)
theorem fits_of(h1: -8193<=a)(h2:a<=8200):Builtin.Range.rangeFitsLong a=true:=
 Bool.and_eq_true_iff.mpr ⟨decide_eq_true (Int.le_trans (by decide) h1),decide_eq_true (Int.lt_of_le_of_lt h2 (by decide))⟩
theorem i7(h:small a=true):Builtin.Range.rangeFitsLong a=true:=fits_of (Int.le_trans (by decide) (Int.le_of_lt (dA h).1)) (Int.le_trans (Int.le_of_lt (dA h).2) (by decide))
theorem yZ(ha: -4096<a/\a<4096)(hb: -4096<b/\b<4096):(-8193<=a+(b-1)/\a+(b-1)<=8200)/\ -8193<=a+(b+1)/\a+(b+1)<=8200:=by exact⟨⟨Int.le_trans (by decide) (Int.add_le_add (Int.le_of_lt ha.1) (Int.sub_le_sub_right (Int.le_of_lt hb.1) 1)),Int.le_trans (Int.add_le_add (Int.le_of_lt ha.2) (Int.sub_le_sub_right (Int.le_of_lt hb.2) 1)) (by decide)⟩,Int.le_trans (by decide) (Int.add_le_add (Int.le_of_lt ha.1) (Int.add_le_add_right (Int.le_of_lt hb.1) 1)),Int.le_trans (Int.add_le_add (Int.le_of_lt ha.2) (Int.add_le_add_right (Int.le_of_lt hb.2) 1)) (by decide)⟩
theorem src_range{Q:Value->Shared->Prop}(hh:A.handled=none)(ha:small a=true)(hb:small b=true)(hc':small c=true)(hc:c≠0)(hr:IsRange s.heap r a b c t u v)
 (hk:Keeps s₀ s) (hWd:∀a,Wd a->∃o,s.heap.get? a=some o)
 (hQ:∀it s',SrcAt prog w A X Av Wd n ((eK a b c).map .int) s₀ it s'->Q it s'):wpAny (model prog w) A (pyIter (.ref r)) Q E s:=by
 have tw:=yZ (dA hb) (dA hc')
 have hs:Builtin.Range.small a b c=true:=by
  unfold Builtin.Range.small
  simp only[i7 ha,i7 hb,i7 hc',fits_of (Int.le_trans (by decide) (tV (c:=c) ha hb).1) (tV (c:=c) ha hb).2,fits_of tw.1.1 tw.1.2,fits_of tw.2.1 tw.2.2,ite_self,Bool.or_true]
  rfl
 refine wpAny_pyIter_range hr hs ?_
 refine hQ _ _ (ij (Walks.range hh s.heap.objs.size a c (Builtin.Range.rangeSize a b c).toNat) (by unfold eK;simp) ?_ ?_ ?_ (fK hk (ki s _)) (bQ (ei hk) (aI _)) ⟨_,bz _ rfl⟩ (λq=>?_) ?_)
 ·rintro i v hi ⟨t,rfl⟩
  refine(am (.int (a+i*c)) ?_ (λh Av=>ba))
  unfold eK
  simp[hi]
 ·rintro d hd es rfl
  refine ai (List.mem_map.mp hd) λc U h=>?_
  (injection h;done)
 ·show IsRangeIter (s.heap.push _) s.heap.objs.size (a+((0:Nat):Int)*c) (((Builtin.Range.rangeSize a b c).toNat:Int)-((0:Nat):Int)) c
  refine af (show a+((0:Nat):Int)*c=a from by simp)▸?_;refine af ((Int.sub_zero _).trans (Int.toNat_of_nonneg (tV (c:=c) ha hb).1))▸?_
  exact bz _ rfl
 ·obtain⟨o',e⟩:=hWd _ q
  rw[aI] at e;exact no e
 ·rintro i h e;exact⟨_,e⟩
theorem jo{h h':Heap}{i}(x:h.IsListIter a l i)(e:∀o,h.get? a=some o->h'.get? a=some o):h'.IsListIter a l i:=ai x λo ho r=>(am o (e o ho) r)
theorem src_list{Q:Value->Shared->Prop}(hh:A.handled=none)(hl:s.heap.IsList a vs.toArray)(rl:RepL X s.heap Av ds vs)(hda:¬Wd a)
 (hWd:∀a,Wd a->∃o,s.heap.get? a=some o)
 (hQ:∀I s',SrcAt prog w A X Av Wd n ds s (.ref I) s'->Q (.ref I) s'):wpAny (model prog w) A (pyIter (.ref a)) Q E s:=by
 refine ai (id hl) λoa hoa U=>wpAny_pyIter_list hl (hQ _ _ ⟨λl h=>∃k,h.IsListIter s.heap.objs.size a k/\h.IsList a vs.toArray/\RepL X h (λa=>Av a\/s.heap.get? a=none) l (vs.drop k),(· =s.heap.objs.size),λV hV=>?_,?_,ki s _,?_⟩)
 ·have hVI:¬V s.heap.objs.size:=λq=>by
   rcases hV _ q with q|q
   ·obtain⟨o,e⟩:=hWd _ q;rw[aI] at e;exact no e
   ·rw[bz _ rfl] at q;exact no (af q)
  have hVa:¬V a:=λq=>by
   rcases hV _ q with q|q
   ·exact hda q
   ·rw[aX _ hoa] at q;exact no (af q)
  refine⟨?_,?_,?_,?_,?_,?_⟩
  ·intro l h h' z1 kk
   refine aZ z1 λk h1 h2 h3=>(bc k (jo h1 λo=>kk _ o (.inl hVI)) (fN h2 λo=>kk _ o (.inl hVa)) (RepL.keepS (λb o hb hq=>kk b o (.inr ⟨hq,hb⟩)) (λa=>.inl) l _ h3))
  ·intro l h z10 b q11
   refine aZ z10 λk q9 h2 h3=>ai q9 λo h1 U=>?_
   subst q11
   exact⟨o,h1⟩
  ·intro l s Q E z16 hq
   refine aZ z16 λk h1 h2 h3=>?_
   exact wpAny_pyIter_listiter h1 hq
  ·intro s1 E z20
   refine aZ z20 λk h1 h2 h3=>?_
   have h4:=h3.length
   refine wpAny_pyNext_list_end hh h1 h2 (by simp at h4 ⊢;exact List.drop_eq_nil_iff.mp h3) λh' k'=>⟨rfl,h',s1.toks,rfl,λb o hb e=>k' b o hb e⟩
  ·rintro-d l s1 E ⟨k,h1,h2,h3⟩
   have h4:=h3.length
   have hlt:k<vs.length:=by simp at h4;exact Nat.lt_of_sub_eq_succ h4
   replace h3:=(List.drop_eq_getElem_cons hlt)▸h3
   refine aw h3.cons_inv λr1 r2=>wpAny_pyNext_list_item h1 h2 (x:=vs[k]) (by simp[hlt]) λh' h1' sb=>?_
   have kk:∀b o,¬(Av b\/s.heap.get? b=none)->s1.heap.get? b=some o->h'.get? b=some o:=λb o hb e=>sb.extBut b o (λq=>hb (.inr (q▸aI _))) e
   exact⟨_,rfl,Rep.keep kk (λa=>.inl) _ _ r1,⟨k+1,h1',h2.extBut sb.extBut (Nat.ne_of_lt (Heap.lt_size hoa)),RepL.keep kk (λa=>.inl) _ _ r2⟩,h',s1.toks,rfl,λb o hb e=>sb.extBut b o hb e⟩
  ·rintro-es l s1 E ⟨k,h1,h2,h3⟩-
   have h4:=h3.length
   have hlt:k<vs.length:=by simp at h4;exact Nat.lt_of_sub_eq_succ h4
   rw[List.drop_eq_getElem_cons hlt] at h3
   refine aw h3.cons_inv λr1 r2=>wpAny_pyNext_list_item h1 h2 (x:=vs[k]) (by simp[hlt]) λh' h1' sb=>?_
   have kk:∀b o,¬(Av b\/s.heap.get? b=none)->s1.heap.get? b=some o->h'.get? b=some o:=λb o hb e=>sb.extBut b o (λq=>hb (.inr (q▸aI _))) e
   refine bU (Rep.keep kk (λa=>.inl) _ _ r1) λt us e ht U U hrl=>(bc t (by rw[e]) (bu h' s1.toks rfl (λb o hb e=>sb.extBut b o hb e)) (λelts kk' pos E'=>?_))
   exact wpAny_letOwnedTupleGo_listiter h1' ⟨us,ht,hrl,⟨k+1,h1',h2.extBut sb.extBut (Nat.ne_of_lt (Heap.lt_size hoa)),RepL.keep kk (λa=>.inl) _ _ r2⟩,h',s1.toks,rfl,λU U U e=>e⟩
 ·exact(bc 0 (bc _ (bz _ rfl) rfl rfl) (hl.at λo e=>aX _ e) (by
   exact RepL.keep (λb o U e=>aX _ e) (λa q=>by rcases q with q|q;exact .inl q;exact .inr q) _ _ rl))
 ·rintro b rfl
  exact⟨aI _,_,bz _ rfl⟩
end
def HP(X:Addr)(Av:Addr->Prop)(m a:Addr)(vs:List Value)(l:List D)(h:Heap):Prop:=∃k ds',k<=vs.length/\l=pD (k:Nat) ds'/\((∃old,IsEnum h (m+1) m k old)/\h.IsListIter m a k/\h.IsList a vs.toArray)/\RepL X h Av ds' (vs.drop k)
section
theorem xY{Q:Value->Shared->Prop}(hn:n≠1)(hh:A.handled=none)(hl:s.heap.IsList a vs.toArray)(rl:RepL X s.heap Av ds vs)(hda:¬Wd a)
 (hWd:∀a,Wd a->∃o,s.heap.get? a=some o)
 (hQ:∀it s',SrcAt prog w A X Av Wd n (pD 0 ds) s it s'->Q it s'):wpAny (model prog w) A (call (.type "enumerate") [.ref a]) (λxv s₁=>wpAny (model prog w) A (pyIter xv) Q E s₁) E s:=by
 refine ai (id hl) λoa hoa U=>?_
 have hlt:=Heap.lt_size hoa
 refine call_enumerate_list hl λh1 hE hI hsz hk1=>wpAny_pyIter_enum hE ?_
 have W:=WalksT.enumerate (prog:=prog) (w:=w) hh (s.heap.objs.size+1) s.heap.objs.size a (Nat.succ_ne_self _) (Nat.ne_of_lt (Nat.lt_succ_of_lt hlt)) (Nat.ne_of_lt hlt) vs.toArray
 have fr1:s.heap.get? (s.heap.objs.size+1)=none:=Heap.get?_none_of_le (Nat.le_succ _)
 have ex0:∃o,h1.get? s.heap.objs.size=some o:=ai hI λo e U=>⟨o,e⟩
 have wrAv:∀b,b∈[s.heap.objs.size+1,s.heap.objs.size]->s.heap.get? b=none:=λb hb=>by
  rcases List.mem_cons.mp hb with rfl|hb
  ·exact fr1
  ·refine af (List.mem_singleton.mp hb)▸?_;exact(aI _)
 refine hQ _ _ (jL (HP X (λa=>Av a\/s.heap.get? a=none) s.heap.objs.size a vs) (· ∈[s.heap.objs.size+1,s.heap.objs.size]) (λV hV=>?_) ?_ (bu h1 s.toks rfl hk1) ?_)
 ·have hVf:∀b,(∃o,h1.get? b=some o)->s.heap.get? b=none->¬V b:=λb z21 hb q=>aB z21 λo e=>by
   rcases hV _ q with q|q
   ·refine aB (hWd _ q) λo' e'=>?_;replace e':=hb.symm.trans e';exact no e'
   ·replace q:=e.symm.trans q;exact nomatch q
  have hVa:¬V a:=λq=>by
   rcases hV _ q with q|q
   ·exact hda q
   ·replace q:=(hk1 _ _ hoa).symm.trans q;exact nomatch q
  refine⟨?_,?_,?_,?_,?_,?_⟩
  ·intro l h h' z4 kk
   refine bY z4 λk ds' hkl e st h3=>(jL k ds' hkl e (W.frame _ _ _ st λb hb o=>kk b o (.inl ?_)) (RepL.keepS (λb o hb hq=>kk b o (.inr ⟨hq,hb⟩)) (λa=>.inl) _ _ h3))
   rcases List.mem_cons.mp hb with rfl|hb
   ·exact hVf _ ⟨_,hE⟩ fr1
   rcases List.mem_cons.mp hb with rfl|hb
   ·exact hVf _ ex0 (aI _)
   ·refine af (List.mem_singleton.mp hb)▸?_;exact hVa
  ·intro l h z11 b hb
   refine bY z11 λk ds' hkl e q10 h3=>bV q10 λq24 q25 U=>?_
   obtain⟨old,he⟩:=q24
   refine ai q25 λoi hi U=>?_
   rcases List.mem_cons.mp hb with rfl|hb
   ·exact⟨_,he⟩
   ·refine af (List.mem_singleton.mp hb)▸?_;exact⟨oi,hi⟩
  ·intro l s Q E z15 hq
   refine bY z15 λk ds' hkl e st h3=>W.self k s Q E st hq
  ·intro s1 E z18
   refine bY z18 λk ds' hkl e st h3=>?_
   have h4:=h3.length
   induction ds' with
   |cons d r=>cases e
   |nil=>
    have hkz:k=vs.toArray.size:=by simp at h4 ⊢;exact Nat.le_antisymm (hkl) (ln [_,_,_] [(1,.v 0,.k 0),(1,.v 1,.a (.v 0) (.v 2))] (.v 1) (.v 2) 1 rfl (Nat.le_of_eq h4) (Nat.le_of_eq (Nat.sub_add_cancel hkl).symm))
    subst hkz
    exact W.done s1 _ E st λh' tk kb=>⟨rfl,h',tk,rfl,kb⟩
  ·exact λh=>absurd h hn
  ·rintro-es l s1 E ⟨k,ds',hkl,e,st,h3⟩-
   rcases ds' with _|⟨d,r⟩
   ·exact nomatch e
   ·
    cases e
    have h4:=h3.length
    have hlt:k<vs.length:=by simp at h4;exact Nat.lt_of_sub_eq_succ h4
    rw[List.drop_eq_getElem_cons hlt] at h3
    refine aw h3.cons_inv λr1 r2=>?_
    refine W.item k s1 _ E (hlt) st λT vals h' tk hP hT hTu hm kb=>bK hP λt x hx q3=>?_
    clear hP hT
    subst q3
    have hx':vs[k]=x:=by simpa [hlt] using hx
    clear hx
    subst hx'
    have kk:∀b o,¬(Av b\/s.heap.get? b=none)->s1.heap.get? b=some o->h'.get? b=some o:=λb o hb e=>kb b o (λq=>hb (.inr (wrAv b q))) e
    refine(bc T rfl (bu h' tk rfl kb) (λelts kk' pos E'=>?_))
    refine W.go elts kk' pos k T _ _ _ hm λh'' hs'' kb'=>⟨[.int k t,vs[k]],?_,?_,⟨k+1,r,hlt,by simp,hs'',RepL.keep (λb o hb e=>kb' b o (λq=>hb (.inr (wrAv b q))) e) (λa=>.inl) _ _ (RepL.keep kk (λa=>.inl) _ _ r2)⟩,h'',tk,rfl,kb'⟩
    ·exact mI hTu λo e=>kb' T o (W.apart _ _ _ hm) e
    ·exact .cons ba (.cons (Rep.keep (λb o hb e=>kb' b o (λq=>hb (.inr (wrAv b q))) e) (λa=>.inl) _ _ (Rep.keep kk (λa=>.inl) _ _ r1)) .nil)
 ·exact(jL 0 ds (Nat.zero_le _) rfl (a6 ⟨_,hE⟩ hI (hl.at λo e=>hk1 _ _ e)) (by
   exact RepL.keep (λb o U e=>hk1 _ _ e) (λa q=>by rcases q with q|q;exact .inl q;exact .inr q) _ _ rl))
 ·intro b hb
  refine⟨wrAv b hb,?_⟩
  rcases List.mem_cons.mp hb with rfl|hb
  ·exact⟨_,hE⟩
  ·refine af (List.mem_singleton.mp hb)▸?_;exact ex0
end
abbrev iy(h:Heap)(T:Addr)(vs:Array Value):Prop:=h.get? T=some {cls:=.type "tuple",data:=.seq vs}
theorem ry{h h':Heap}{ty x t i}(y:h.IsStrIter a ty x t i)(e:∀o,h.get? a=some o->h'.get? a=some o):h'.IsStrIter a ty x t i:=ai y λo ho r=>(am o (e o ho) r)
section
theorem l9{i c:Nat}(hit:s.heap.IsStrIter it "str_ascii_iterator" x t i)(hx:x.cps[i]? =some c)
 (hQ:∀h',h'.IsStrIter it "str_ascii_iterator" x t (i+1)->Heap.SameBut it s.heap h'->Q (.str ⟨#[c]⟩ s.toks) {s with heap:=h',toks:=s.toks+1}):
 wpAny (model prog w) A (Builtin.SmallTypes.nextOf (.ref it)) Q E s:=by
 refine aZ (id hit) λo ho hc hd=>aj (wpAny_callSpecial?_slot (name:=Str.ofString "__next__") hit.typeIs F.slot_str_ascii_iterator_next
  (wpAny_call_entry F.slot_str_ascii_iterator_next hit.typeIs F.entry_str_ascii_iterator_next ?_ (F.args_str_ascii_iterator_next_1 _)))
 show wpAny _ _ (field (.ref it) 0>>=_) _ _ s
 refine aj (wpAny_field ho hd (x:=.str x t) rfl ?_)
 show wpAny _ _ (field (.ref it) 1>>=_) _ _ s
 refine aj (wpAny_field ho hd (x:=.int i 0) rfl ?_)
 simp only[Int.toNat_natCast,hx]
 refine aj (wpAny_setField ho hd (Nat.one_lt_succ_succ [].length) (aj (wpAny_mkStr (aC (am _ rfl (aC (hQ _ ?_ (Heap.SameBut.update ..))))) (by show 1<=sizeLine;decide))))
 exact(bc _ (Heap.get?_update_self _ ho (Obj.isFreed_of_fields (Obj.data_mapFields hd _))) ((Obj.cls_mapFields ..).trans hc) (by
  rw[Obj.data_mapFields hd];rfl))
theorem m9{i:Nat}(hh:A.handled=none)
 (hit:s.heap.IsStrIter it "str_ascii_iterator" x t i) (hx:x.cps[i]? =none)
 (hE:∀h' e,Heap.ExtBut it s.heap h'->(∃o,h'.get? e=some o/\o.cls=.type "StopIteration")->E (.ref e) {s with heap:=h'}):
 wpAny (model prog w) A (Builtin.SmallTypes.nextOf (.ref it)) Q E s:=by
 refine aZ (id hit) λo ho hc hd=>aj (wpAny_callSpecial?_slot (name:=Str.ofString "__next__") hit.typeIs F.slot_str_ascii_iterator_next
  (wpAny_call_entry F.slot_str_ascii_iterator_next hit.typeIs F.entry_str_ascii_iterator_next ?_ (F.args_str_ascii_iterator_next_1 _)))
 show wpAny _ _ (field (.ref it) 0>>=_) _ _ s
 refine aj (wpAny_field ho hd (x:=.str x t) rfl ?_)
 show wpAny _ _ (field (.ref it) 1>>=_) _ _ s
 refine aj (wpAny_field ho hd (x:=.int i 0) rfl ?_)
 simp only[Int.toNat_natCast,hx]
 refine aj (wpAny_rule (aj (wpAny_setField ho hd (size_pos_of_not_empty rfl) (aj (wpAny_letGo ?_)))))
 refine aj ?_
 refine aj (wpAny_newObj_type ?_ (by size_fits))
 refine aj (m:=firstArgMember _ _) (wpAny_of_eq (a:=Value.none) (by first|rfl|(rfl)) ?_)
 refine wpAny_newObj_type ?_ (by size_fits)
 refine aj (wpAny_handled ?_)
 first|rw[show A.in1.handled=none from hh]|rw[hh]
 refine aj (aC (wpAny_throw ?_))
 exact hE _ _ (((Heap.SameBut.update ..).extBut.push _).push _) (am _ (bz _ rfl) rfl)
def SubAt(X:Addr)(Av:Addr->Prop)(ok:Addr->Prop)(h:Heap)(i:Addr)(ds:List D):Prop:=
 (∃a k,∃vs:List Value,h.IsListIter i a k/\h.IsList a vs.toArray/\ok a/\RepL X h Av ds (vs.drop k))\/
 (∃cs t k,h.IsStrIter i "str_ascii_iterator" ⟨(cs:List Nat).toArray⟩ t k/\ds=(cs.drop k).map λc=>D.str [c])
theorem SubAt.keep{ds:List D}(x:SubAt X Av ok h i ds)(hi:∀o,h.get? i=some o->h'.get? i=some o)(ha:∀a o,ok a->h.get? a=some o->h'.get? a=some o)
 (kk:∀b o,¬Av b->ef o->h.get? b=some o->h'.get? b=some o):SubAt X Av ok h' i ds:=by
 rcases x with ⟨a,k,vs,h1,h2,h3,h4⟩|⟨cs,t,k,h1,h2⟩
 ·exact .inl (uF a k vs (jo h1 hi) (fN h2 λo=>ha a o h3) h3 (RepL.keepS kk (λa=>.inl) _ _ h4))
 ·exact .inr (iZ cs t k (ry h1 hi) h2)
theorem SubAt.get{ds:List D}(x:SubAt X Av ok h i ds):∃o,h.get? i=some o:=by
 rcases x with ⟨a,k,vs,⟨o,h1,_⟩,_⟩|⟨cs,t,k,⟨o,h1,_⟩,_⟩<;>exact⟨o,h1⟩
theorem pR{ds:List D}(x:SubAt X Av ok s.heap i (d::ds))(hAi:Av i)(hok:∀a,ok a->a≠i)
 (hQ:∀v h' tk,Rep X h' Av d v->SubAt X Av ok h' i ds->Heap.SameBut i s.heap h'->Q v {s with heap:=h',toks:=tk}):wpAny (model prog w) A (Builtin.SmallTypes.nextOf (.ref i)) Q E s:=by
 rcases x with ⟨a,k,vs,h1,h2,h3,h4⟩|⟨cs,t,k,h1,h2⟩
 ·have h5:=h4.length
  have hlt:k<vs.length:=by simp at h5;exact Nat.lt_of_sub_eq_succ h5
  rw[List.drop_eq_getElem_cons hlt] at h4
  refine aw h4.cons_inv λr1 r2=>wpAny_nextOf_list_item h1 h2 (x:=vs[k]) (Array.getElem_eq_iff.mp rfl) λh' h1' sb=>hQ _ h' s.toks (Rep.keep (λb o hb e=>sb.extBut b o (λq=>hb (q▸hAi)) e) (λa=>.inl) _ _ r1) (.inl (uF a (k+1) vs h1' (h2.extBut sb.extBut (hok a h3)) h3 (RepL.keep (λb o hb e=>sb.extBut b o (λq=>hb (q▸hAi)) e) (λa=>.inl) _ _ r2))) sb
 ·have hlt:k<cs.length:=by
   have:=congrArg List.length h2
   simp at this;exact Nat.lt_of_sub_eq_succ (id (af this))
  replace h2:=(List.drop_eq_getElem_cons hlt)▸h2
  cases h2
  refine l9 h1 (c:=cs[k]) (Array.getElem_eq_iff.mp rfl) λh' h1' sb=>hQ _ h' (s.toks+1) (bZ (List.getElem?_eq_none_iff.mp rfl)) (.inr (iZ cs t (k+1) h1' rfl)) sb
theorem AP(hh:A.handled=none)(x:SubAt X Av ok s.heap i [])
 (hE:∀h' e,Heap.ExtBut i s.heap h'->(∃o,h'.get? e=some o/\o.cls=.type "StopIteration")->E (.ref e) {s with heap:=h'}):wpAny (model prog w) A (Builtin.SmallTypes.nextOf (.ref i)) Q E s:=by
 rcases x with ⟨a,k,vs,h1,h2,h3,h4⟩|⟨cs,t,k,h1,h2⟩
 ·have h5:=h4.length
  exact wpAny_nextOf_list_end hh h1 h2 (by simp at h5 ⊢;exact List.drop_eq_nil_iff.mp h4) hE
 ·have:=congrArg List.length h2
  exact m9 hh h1 (by simp at this ⊢;exact Nat.le_of_sub_eq_zero (id (af this))) hE
def Subs(X:Addr)(Av ok:Addr->Prop)(h:Heap):List Addr->List (List D)->Prop
 |[],[]=>True
 |i::is,ds::dss=>SubAt X Av ok h i ds/\Subs X Av ok h is dss
 |_,_=>False
theorem Subs.keep(ha:∀a o,ok a->h.get? a=some o->h'.get? a=some o)(kk:∀b o,¬Av b->ef o->h.get? b=some o->h'.get? b=some o):∀{is:List Addr} {dss:List (List D)},Subs X Av ok h is dss->
 (∀i∈is,∀o,h.get? i=some o->h'.get? i=some o)->Subs X Av ok h' is dss
 |[],[],_,_=>trivial
 |i::is,ds::dss,x,hi=>⟨x.1.keep (hi i (.head _)) ha kk,Subs.keep ha kk x.2 λj hj=>hi j (.tail _ hj)⟩
theorem Subs.len:∀{is:List Addr} {dss:List (List D)},Subs X Av ok h is dss->dss.length=is.length
 |[],[],_=>rfl
 |_::_,_::_,x=>congrArg (· +1) (Subs.len x.2)
theorem Subs.zlen{heads:List D}(hl:heads.length=tails.length)(x:Subs X Av ok h is (List.zipWith (· :: ·) heads tails)):heads.length=is.length:=by
 simp only[<-x.len,List.length_zipWith,<-hl,Nat.min_self]
inductive lH:List (List D)->List D->Prop
 |stop {dss}:[]∈dss->lH dss []
 |turn {heads tails l}:heads.length=tails.length->lH tails l->lH (List.zipWith (· :: ·) heads tails) (.tuple heads::l)
theorem zF:∀a b:List D,lH [a,b] (hG a b)
 |[],b=>.stop (List.mem_cons_self)
 |x::a,[]=>.stop (List.mem_of_getLast? rfl)
 |x::a,y::b=>.turn (heads:=[x,y]) (tails:=[a,b]) rfl (zF a b)
theorem zE:∀a b c:List D,lH [a,b,c] (pu a b c)
 |[],b,c=>.stop (List.mem_cons_self)
 |x::a,[],c=>.stop (by simp)
 |x::a,y::b,[]=>.stop (List.mem_of_getLast? rfl)
 |x::a,y::b,z::c=>.turn (heads:=[x,y,z]) (tails:=[a,b,c]) rfl (zE a b c)
abbrev jn:=Option PySem.Fin×Unit
set_option backward.match.sparseCases true in
def u9(z TO:Addr)(f:Value×Nat->jn->Sem (ForInStep jn)):Prop:=
 ∀i k r,∃(el:Sem (ForInStep jn)) (other:Sem (ForInStep jn)),f (.ref i,k) r=(do
  let x<-((do return some (<-Builtin.SmallTypes.nextOf (.ref i))):Sem (Option Value)).onRaise (λU=>setField (.ref z) 0 .none)
  match x with
  |some x=>do
   let kept?<-seqItems? (.ref TO)
   match kept? with
   |some kept=>do
    updateSeq TO λxs=>xs.setIfInBounds k x
    letGo [kept.getD k .none]
    pure (ForInStep.yield (none,()))
   |_=>other
  |none=>el)
theorem j7(pre:List Value)(x y:Value)(post:List Value):(pre++x::post).toArray.setIfInBounds pre.length y=(pre++y::post).toArray:=by
 apply Array.ext'
 simp
theorem vq(hf:u9 z TO f)(hAT:Av TO)(hokT:∀a,ok a->a≠TO):∀(is:List Addr) (heads:List D) (tails:List (List D)) (pre post:List Value) (s:Shared) (Q:jn->Shared->Prop),
 heads.length=tails.length->Subs X Av ok s.heap is (List.zipWith (· :: ·) heads tails)->post.length=is.length->iy s.heap TO (pre++post).toArray->(pre++post).length<=64->
 is.Pairwise (· ≠ ·)->(∀i∈is,i≠TO/\Av i/\∀a,ok a->a≠i)->
 (∀h' tk xs,RepL X h' Av heads xs->Subs X Av ok h' is tails->iy h' TO (pre++xs).toArray->h'.objs.size=s.heap.objs.size->(∀c o,c≠TO->c ∉ is->s.heap.get? c=some o->h'.get? c=some o)->Q (none,()) {s with heap:=h',toks:=tk})->
 wpAny (model prog w) A (forIn ((is.map Value.ref).zipIdx pre.length) ((none,()):jn) f) Q E s:=by
 intro is
 induction is with
 |nil=>
  intro heads tails pre post s Q hl hs hp hT h64 hd hi hQ
  refine av λGG kk=>?_
  obtain rfl:=List.eq_nil_of_length_eq_zero (hs.zlen hl)
  obtain rfl:=List.eq_nil_of_length_eq_zero hl.symm
  obtain rfl:=List.eq_nil_of_length_eq_zero hp
  refine kk ?_;clear kk
  exact aC (hQ s.heap s.toks [] .nil trivial hT rfl λU U U U e=>e)
 |cons i is ih=>
  intro heads tails pre post s Q hl hs hp hT h64 hd hi hQ
  cases heads with
  |nil=>exact hs.elim
  |cons d heads=>
  induction tails with
  |nil=>exact nomatch hl
  |cons t tails=>
  induction post with
  |nil=>exact nomatch hp
  |cons p post=>
  obtain⟨hs1,hs2⟩:=hs
  refine bV (hi i (.head _)) λhi1 hi2 hi3=>aw (List.pairwise_cons.mp hd) λhd1 hd2=>?_
  simp only[List.map_cons,List.zipIdx_cons,List.forIn_cons]
  refine dU (hf i pre.length ((none,()):jn)) λel other hfe=>?_
  rw[hfe]
  refine aj (aj (wpAny_onRaise ?_))
  refine aj (pR hs1 hi2 hi3 λv h1 tk hr hsub sb=>aC ?_)
  refine aj (wpAny_seqItems (sb.extBut _ _ (Ne.symm hi1) hT) rfl ?_)
  refine aj (wpAny_updateSeq (sb.extBut _ _ (Ne.symm hi1) hT) rfl ?_ (aA ‹_› (by decide)) (by rw[j7];simp at h64 ⊢;exact aA ‹_› (by decide)))
  refine aj (wpAny_letGo (aC ?_))
  have sb2:=Heap.SameBut.update h1 TO (Obj.mapSeq λxs=>xs.setIfInBounds pre.length v)
  have hT2:iy (h1.update TO (Obj.mapSeq λxs=>xs.setIfInBounds pre.length v)) TO ((pre++[v])++post).toArray:=by
   show Heap.get? _ _=_
   rw[Heap.get?_update_self _ (sb.extBut _ _ (Ne.symm hi1) hT) rfl]
   simp only[Obj.mapSeq,j7]
   simp
  generalize h1.update TO (Obj.mapSeq λxs=>xs.setIfInBounds pre.length v)=h2 at sb2 hT2
  have kk2:∀b o,¬Av b->h1.get? b=some o->h2.get? b=some o:=λb o hb e=>sb2.extBut b o (λq=>hb (q▸hAT)) e
  have:=ih heads tails (pre++[v]) post {s with heap:=h2,toks:=tk} Q (Nat.add_right_cancel hl) (Subs.keep (λa o ha e=>sb2.extBut a o (hokT a ha) e) (λb o n U=>kk2 b o n) (Subs.keep (λa o ha e=>sb.extBut a o (hi3 a ha) e) (λb o n U=>(show∀b o,¬Av b->s.heap.get? b=some o->h1.get? b=some o from λb o hb e=>sb.extBut b o (λq=>hb (q▸hi2)) e) b o n) hs2 λj hj o e=>sb.extBut j o (Ne.symm (hd1 j hj)) e) λj hj o e=>sb2.extBut j o (hi j (.tail _ hj)).1 e) (by simpa using hp) hT2 (by simp at h64 ⊢;assumption) hd2 (λj hj=>hi j (.tail _ hj))
   (λh' tk' xs hx hsub2 hT3 hsz kp=>?_)
  ·simpa using this
  ·have kk3:∀b o,¬Av b->h2.get? b=some o->h'.get? b=some o:=λb o hb e=>kp b o (λq=>hb (q▸hAT)) (λq=>hb (hi b (.tail _ q)).2.1) e
   refine hQ h' tk' (v::xs) (.cons (Rep.keep kk3 (λa=>.inl) _ _ (Rep.keep kk2 (λa=>.inl) _ _ hr)) hx) ⟨(hsub.keep (λo e=>sb2.extBut i o hi1 e) (λa o ha e=>sb2.extBut a o (hokT a ha) e) (λb o n U=>kk2 b o n)).keep (λo e=>kp i o hi1 (λq=>hd1 i q rfl) e) (λa o ha e=>kp a o (hokT a ha) (λq=>(hi a (.tail _ q)).2.2 a ha rfl) e) (λb o n U=>kk3 b o n),hsub2⟩
    (by simpa using hT3) (by simp only[hsz,sb2.1,sb.1]) λc o c1 c2 e=>?_
   simp only[List.mem_cons,not_or] at c2
   exact kp c o c1 c2.2 (sb2.extBut c o c1 (sb.extBut c o c2.1 e))
theorem xE(hh:A.handled=none)(hf:u9 z TO f)(hAT:Av TO)(hokT:∀a,ok a->a≠TO)(hTz:TO≠z):∀(is:List Addr) (dss:List (List D)) (pre post:List Value) (s:Shared) (Q:jn->Shared->Prop),
 []∈dss->Subs X Av ok s.heap is dss->post.length=is.length->iy s.heap TO (pre++post).toArray->(pre++post).length<=64->IsZip s.heap z TI TO .ellipsis->
 is.Pairwise (· ≠ ·)->(∀i∈is,i≠TO/\i≠z/\Av i/\∀a,ok a->a≠i)->
 (∀h' tk e,(∀c o,c≠z->c≠TO->c ∉ is->s.heap.get? c=some o->h'.get? c=some o)->(∃o,h'.get? e=some o/\o.cls=.type "StopIteration")->E (.ref e) {s with heap:=h',toks:=tk})->
 wpAny (model prog w) A (forIn ((is.map Value.ref).zipIdx pre.length) ((none,()):jn) f) Q E s:=by
 intro is
 induction is with
 |nil=>
  intro dss pre post s Q hm hs hp hT h64 hz hd hi hE
  induction dss with
  |nil=>exact nomatch hm
  |cons _ _=>exact hs.elim
 |cons i is ih=>
  intro dss pre post s Q hm hs hp hT h64 hz hd hi hE
  induction dss with
  |nil=>exact nomatch hm
  |cons ds dss=>
  induction post with
  |nil=>exact nomatch hp
  |cons p post=>
  rcases ds with _|⟨d,t⟩
  ·
   refine av λGG kk=>aw hs λhs1 hs2=>?_
   obtain⟨hi1,hiz,hi2,hi3⟩:=hi i (.head _)
   refine kk ?_;clear kk
   simp only[List.map_cons,List.zipIdx_cons,List.forIn_cons]
   refine dU (hf i pre.length ((none,()):jn)) λel other hfe=>?_
   rw[hfe]
   refine aj (aj (wpAny_onRaise ?_))
   refine aj (AP hh hs1 λh1 e sb he=>?_)
   refine ai he λoe hoe hce=>?_
   have hz1:=sb _ _ (Ne.symm hiz) hz
   have hez:e≠z:=λx=>by cases x;rw[hz1] at hoe;obtain rfl:=so hoe;simp at hce
   refine wpAny_setField_rec hz1 (size_pos_of_not_empty rfl) λh3 U hs3=>hE h3 s.toks e (λc o c1 c2 c3 x=>hs3.extBut _ _ c1 (sb _ _ (λq=>c3 (q▸.head _)) x)) (am oe (hs3.extBut _ _ hez hoe) hce)
  ·
   obtain⟨hs1,hs2⟩:=hs
   refine cq (hi i (.head _)) λhi1 hiz hi2 hi3=>aw (List.pairwise_cons.mp hd) λhd1 hd2=>?_
   simp only[List.map_cons,List.zipIdx_cons,List.forIn_cons]
   refine dU (hf i pre.length ((none,()):jn)) λel other hfe=>?_
   rw[hfe]
   refine aj (aj (wpAny_onRaise ?_))
   refine aj (pR hs1 hi2 hi3 λv h1 tk hr hsub sb=>aC ?_)
   have hT1:=sb.extBut _ _ (Ne.symm hi1) hT
   have hz1:=sb.extBut _ _ (Ne.symm hiz) hz
   refine aj (wpAny_seqItems hT1 rfl ?_)
   refine aj (wpAny_updateSeq hT1 rfl ?_ (aA ‹_› (by decide)) (by rw[j7];simp at h64 ⊢;exact aA ‹_› (by decide)))
   refine aj (wpAny_letGo (aC ?_))
   have sb2:=Heap.SameBut.update h1 TO (Obj.mapSeq λxs=>xs.setIfInBounds pre.length v)
   have hT2:iy (h1.update TO (Obj.mapSeq λxs=>xs.setIfInBounds pre.length v)) TO ((pre++[v])++post).toArray:=by
    show Heap.get? _ _=_
    rw[Heap.get?_update_self _ hT1 rfl]
    simp only[Obj.mapSeq,j7]
    simp
   generalize h1.update TO (Obj.mapSeq λxs=>xs.setIfInBounds pre.length v)=h2 at sb2 hT2
   have:=ih dss (pre++[v]) post {s with heap:=h2,toks:=tk} Q (by simpa using hm) (Subs.keep (λa o ha e=>sb2.extBut a o (hokT a ha) e) (λb o n U=>(show∀b o,¬Av b->h1.get? b=some o->h2.get? b=some o from λb o hb e=>sb2.extBut b o (λq=>hb (q▸hAT)) e) b o n) (Subs.keep (λa o ha e=>sb.extBut a o (hi3 a ha) e) (λb o n U=>(show∀b o,¬Av b->s.heap.get? b=some o->h1.get? b=some o from λb o hb e=>sb.extBut b o (λq=>hb (q▸hi2)) e) b o n) hs2 λj hj o e=>sb.extBut j o (Ne.symm (hd1 j hj)) e) λj hj o e=>sb2.extBut j o (hi j (.tail _ hj)).1 e) (by simpa using hp) hT2 (by simp at h64 ⊢;assumption)
    (sb2.extBut _ _ (Ne.symm hTz) hz1) hd2 (λj hj=>hi j (.tail _ hj)) (λh' tk' e kp he=>?_)
   ·simpa using this
   ·refine hE h' tk' e (λc o c0 c1 c2 e=>?_) he
    simp only[List.mem_cons,not_or] at c2
    exact kp c o c0 c1 c2.2 (sb2.extBut c o c1 (sb.extBut c o c2.1 e))
structure rq(z TI TO:Addr)(is:List Addr):Prop where
 TIz:TI≠z
 TOz:TO≠z
 TITO:TI≠TO
 is1:∀i∈is,i≠z/\i≠TO/\i≠TI
 is2:is.Pairwise (· ≠ ·)
 ne:is≠[]
 few:is.length<=64
theorem pF
 (hz:IsZip s.heap z TI TO .none) (hTI:iy s.heap TI (is.map Value.ref).toArray) (hne:is≠[])
 (h:∀f,u9 z TO f->∀h₁,Heap.SameBut z s.heap h₁->IsZip h₁ z TI TO .ellipsis->wpAny (model prog w) A (forIn ((is.map Value.ref).zipIdx ([]:List Value).length) ((none,()):jn) f) (λa s'=>a=(none,())/\∃kept n,(∃o,s'.heap.get? TO=some o/\o.data=.seq kept n)/\
  wpAny (model prog w) A (do
   let result<-newTuple kept.toList
   Builtin.SmallTypes.ownedTupleHandOut (Value.ref z) result
   ret result) Q E s') E {s with heap:=h₁}):
 wpAny (model prog w) A (Builtin.«zip.__next__» ⟨[.ref z],[]⟩) Q E s:=by
 show wpAny _ _ (field (.ref z) 2>>=_) _ _ _
 refine aj (wpAny_field hz rfl (x:=.bool false) rfl ?_)
 refine aj (wpAny_field hz rfl (x:=.ref TI) rfl ?_)
 refine aj (wpAny_seqItems hTI rfl ?_)
 have hemp:(is.map Value.ref).toArray.isEmpty=false:=by clear hTI;induction is<;>simp_all
 refine wpAny_ite_false (decide_eq_false (by rw[hemp];exact Bool.false_ne_true)) ?_
 refine aj ?_
 refine aj (wpAny_field hz rfl (x:=.none) rfl (aC ?_))
 refine aj (wpAny_rule ?_)
 refine aj (wpAny_field hz rfl (x:=.ref TO) rfl ?_)
 refine aj (wpAny_setField_rec hz (size_pos_of_not_empty rfl) λh₁ hz₁ hs₁=>?_)
 replace hz₁:IsZip h₁ z TI TO .ellipsis:=hz₁
 refine aj (wm (h _ (λi k r=>(fT _ _ rfl)) h₁ hs₁ hz₁) (λa s' h'=>?_))
 refine av λGG kk=>?_
 obtain⟨rfl,kept,n,⟨o,ho,hd⟩,h'⟩:=h'
 refine kk ?_;clear kk
 exact aj (wpAny_seqItems ho hd h')
end
theorem mS(a b c:Value):checkTypeCall "zip" ⟨[a,b,c],[]⟩=pure ():=by kernel_rfl
theorem pg(a b c:Value):checkBuiltinCall "zip.__new__" ⟨[.type "zip",a,b,c],[]⟩=pure ():=by kernel_rfl
theorem jX(a b c d:Value):argsOk "object.__init__" ⟨[a,b,c,d],[]⟩:=by
 kernel_rfl
noncomputable abbrev lit(l:Addr):Obj:={cls:=.type "list_iterator",data:=.fields #[.ref l,.int 0 0]}
noncomputable abbrev Fu(x:Str)(t:Tok):Obj:={cls:=.type "str_ascii_iterator",data:=.fields #[.str x t,.int 0 0]}
noncomputable abbrev zH(h:Heap)(o1 o2:Obj):Heap:=(((h.push o1).push o2).push {cls:=.type "tuple",data:=.seq #[.ref h.objs.size,.ref (h.push o1).objs.size]}).push {cls:=.type "tuple",data:=.seq #[.none,.none]}
abbrev nT(h:Heap)(o1 o2:Obj):Heap:=(zH h o1 o2).push
 {cls:=.type "zip",data:=.fields #[.none,.bool false,.bool false,.ref ((h.push o1).push o2).objs.size,.ref (((h.push o1).push o2).push {cls:=.type "tuple",data:=.seq #[.ref h.objs.size,.ref (h.push o1).objs.size]}).objs.size]}
noncomputable abbrev zG(h:Heap)(o1 o2 o3:Obj):Heap:=
 ((((h.push o1).push o2).push o3).push {cls:=.type "tuple",data:=.seq #[.ref h.objs.size,.ref (h.push o1).objs.size,.ref ((h.push o1).push o2).objs.size]}).push {cls:=.type "tuple",data:=.seq #[.none,.none,.none]}
abbrev lK(h:Heap)(o1 o2 o3:Obj):Heap:=(zG h o1 o2 o3).push
 {cls:=.type "zip",data:=.fields #[.none,.bool false,.bool false,.ref (((h.push o1).push o2).push o3).objs.size,
  .ref ((((h.push o1).push o2).push o3).push {cls:=.type "tuple",data:=.seq #[.ref h.objs.size,.ref (h.push o1).objs.size,.ref ((h.push o1).push o2).objs.size]}).objs.size]}
inductive ZArg:Heap->Value->Obj->Prop
 |list {h a vs}:h.IsList a vs->ZArg h (.ref a) (lit a)
 |str {h x t}:(x.cps.all (· <128)=true)->ZArg h (.str x t) (Fu x t)
theorem ZArg.push{h v o o'}(x:ZArg h v o):ZArg (h.push o') v o:=by
 induction x with
 |list l=>exact .list (l.push _)
 |str e=>exact .str e
theorem ZArg.iter{E:Value->Shared->Prop}{v o}(x:ZArg s.heap v o)(hQ:Q (.ref s.heap.objs.size) {s with heap:=s.heap.push o}):
 wpAny (model prog w) A (pyIter v) Q E s:=by
 induction x with
 |list l=>exact wpAny_pyIter_list l hQ
 |str e=>exact wpAny_pyIter_ascii e hQ
theorem ui(v1 v2:Value)(o1 o2:Obj):
 Meets (Builtin.«zip.__new__» ⟨[.type "zip",v1,v2],[]⟩) (λU R s=>ZArg s.heap v1 o1/\ZArg s.heap v2 o2/\
  R (.ok (.ret (.ref (zH s.heap o1 o2).objs.size))) {s with heap:=nT s.heap o1 o2}):=
 .of_wp λprog w A R s h=>by
  obtain⟨hp,g,d,tk,os⟩:=s;refine bV h λhl1 hl2 h=>?_
  have hsub:=sub_zip
  wp_walk using ZArg.iter hl1,ZArg.iter (hl2.push)
  exact(am _ rfl h)
theorem uh(v1 v2 v3:Value)(o1 o2 o3:Obj):
 Meets (Builtin.«zip.__new__» ⟨[.type "zip",v1,v2,v3],[]⟩) (λU R s=>ZArg s.heap v1 o1/\ZArg s.heap v2 o2/\ZArg s.heap v3 o3/\
  R (.ok (.ret (.ref (zG s.heap o1 o2 o3).objs.size))) {s with heap:=lK s.heap o1 o2 o3}):=
 .of_wp λprog w A R s h=>by
  obtain⟨hp,g,d,tk,os⟩:=s;refine cq h λhl1 hl2 hl3 h=>?_
  have hsub:=sub_zip
  wp_walk using ZArg.iter hl1,ZArg.iter (hl2.push),ZArg.iter (hl3.push.push)
  exact(am _ rfl h)
def mG(X:Addr)(Av ok:Addr->Prop)(z TI TO:Addr)(is:List Addr)(f0:Value)(h:Heap)(dss:List (List D)):Prop:=
 IsZip h z TI TO f0/\iy h TI (is.map Value.ref).toArray/\(∃olds:List Value,olds.length=is.length/\iy h TO olds.toArray)/\Subs X Av ok h is dss
section
theorem kZ:∀{is:List Addr} {dss:List (List D)},Subs X Av ok h is dss->∀b∈is,∃o,h.get? b=some o
 |[],_,_,b,hb=>by cases hb
 |i::is,[],hs,b,hb=>hs.elim
 |i::is,d::dss,hs,b,hb=>by
  obtain⟨a1,a2⟩:=hs
  rcases List.mem_cons.mp hb with rfl|hb
  ·exact a1.get
  ·exact kZ a2 b hb
theorem xD{tails:List (List D)}(D:rq z TI TO is)(hz:mG X Av ok z TI TO is .none s.heap (List.zipWith (· :: ·) heads tails))
 (hlen:heads.length=tails.length) (hAz:Av z) (hAT:Av TO) (hAi:∀i∈is,Av i) (hok:∀a,ok a->a≠z/\a≠TO/\∀i∈is,a≠i)
 (hQ:∀h' tk xs,RepL X h' Av heads xs->iy h' s.heap.objs.size xs.toArray->mG X Av ok z TI TO is (rawInt s.heap.objs.size) h' tails->
  (∀c o,c≠z->c≠TO->c ∉ is->s.heap.get? c=some o->h'.get? c=some o)->Q (some (.ref s.heap.objs.size)) {s with heap:=h',toks:=tk}):
 wpAny (model prog w) A (pyNext (.ref z)) Q E s:=by
 refine cq hz λhz0 hTI q28 hs=>ai q28 λolds holds hTO=>aj (wpAny_attempt (wpAny_callSpecial?_slot (name:=Str.ofString "__next__") ⟨_,hz0,rfl⟩ PySem.F.slot_zip_next
  (wpAny_call_entry PySem.F.slot_zip_next ⟨_,hz0,rfl⟩ PySem.F.entry_zip_next ?_ (PySem.F.args_zip_next_1 _))))
 refine pF hz0 hTI D.ne λf hf h₁ hs₁ hz₁=>?_
 have hsub1:=Subs.keep (λa o ha e=>hs₁.extBut a o (hok a ha).1 e) (λb o n U=>(show∀b o,¬Av b->s.heap.get? b=some o->h₁.get? b=some o from λb o hb e=>hs₁.extBut b o (λq=>hb (q▸hAz)) e) b o n) hs λi hi o e=>hs₁.extBut i o (D.is1 i hi).1 e
 refine vq (s:={s with heap:=h₁}) hf hAT (λa ha=>(hok a ha).2.1) is heads tails [] olds _ hlen hsub1 holds (hs₁.extBut _ _ D.TOz hTO) (by have:=D.few;exact le_of_eq_of_le holds this) D.is2 (λi hi=>(a6 ((D.is1 i hi).2.1) (hAi i hi) (λa ha=>(hok a ha).2.2 i hi)))
  λh2 tk xs hx hsub2 hTO2 hsz2 kp2=>⟨rfl,xs.toArray,0,⟨_,hTO2,rfl⟩,?_⟩
 have hsz:h2.objs.size=s.heap.objs.size:=by simp only[hsz2];exact hs₁.1
 have hz2:=kp2 _ _ (Ne.symm D.TOz) (λq=>(D.is1 z q).1 rfl) hz₁
 refine aj (wpAny_newTuple ?_ (ln [_,_] [(1,.v 0,.k 64),(1,.v 1,.v 0)] (.v 1) (.k 16777216) 1 rfl (D.few) (Nat.le_of_eq ((hx.length).trans (hs.zlen hlen)))))
 refine aj ?_
 refine aj (wpAny_setField_rec (aX _ hz2) (size_pos_of_not_empty rfl) λh4 hz4 hs4=>?_)
 replace hz4:IsZip h4 z TI TO (rawInt h2.objs.size):=hz4
 refine wpAny_setField_rec hz4 (Nat.one_lt_succ_succ [Value.bool false,Value.ref TI,Value.ref TO].length) λh5 hz5 hs5=>?_
 replace hz5:IsZip h5 z TI TO (rawInt h2.objs.size):=hz5
 have zlt:z≠h2.objs.size:=by simp only[hsz];exact(λe=>Nat.ne_of_lt (Heap.lt_size e)) hz0
 have up:∀c o,c≠z->h2.get? c=some o->h5.get? c=some o:=λc o c1 e=>hs5.extBut _ _ c1 (hs4.extBut _ _ c1 (aX _ e))
 have hT5:iy h5 h2.objs.size xs.toArray:=hs5.extBut _ _ (Ne.symm zlt) (hs4.extBut _ _ (Ne.symm zlt) ((bz _ rfl)))
 rw[hsz] at hz5 hT5
 refine aC (am _ rfl (aC ?_))
 rw[hsz]
 have kk5:∀b o,¬Av b->h2.get? b=some o->h5.get? b=some o:=λb o hb e=>up b o (λq=>hb (q▸hAz)) e
 refine hQ h5 tk xs (RepL.keep kk5 (λa=>.inl) _ _ hx) hT5 (lu hz5 ?_ ⟨xs,((hx.length).trans (hs.zlen hlen)),up _ _ D.TOz (by simpa using hTO2)⟩ (Subs.keep (λa o ha e=>up a o (hok a ha).1 e) (λb o n U=>kk5 b o n) hsub2 λi hi o e=>up i o (D.is1 i hi).1 e)) λc o c1 c2 c3 e=>
  up c o c1 (kp2 c o c2 c3 (hs₁.extBut c o c1 e))
 exact up _ _ D.TIz (kp2 _ _ D.TITO (λq=>(D.is1 TI q).2.2 rfl) (hs₁.extBut _ _ D.TIz hTI))
theorem xB{Q:Option Value->Shared->Prop}(hh:A.handled=none)(D:rq z TI TO is)(hz:mG X Av ok z TI TO is .none s.heap dss)
 (hm:[]∈dss) (hAz:Av z) (hAT:Av TO) (hAi:∀i∈is,Av i) (hok:∀a,ok a->a≠z/\a≠TO/\∀i∈is,a≠i)
 (hQ:∀h' tk,(∀c o,c≠z->c≠TO->c ∉ is->s.heap.get? c=some o->h'.get? c=some o)->Q none {s with heap:=h',toks:=tk}):
 wpAny (model prog w) A (pyNext (.ref z)) Q E s:=by
 refine cq hz λhz0 hTI q29 hs=>ai q29 λolds holds hTO=>aj (wpAny_attempt (wpAny_callSpecial?_slot (name:=Str.ofString "__next__") ⟨_,hz0,rfl⟩ PySem.F.slot_zip_next
  (wpAny_call_entry PySem.F.slot_zip_next ⟨_,hz0,rfl⟩ PySem.F.entry_zip_next ?_ (PySem.F.args_zip_next_1 _))))
 refine pF hz0 hTI D.ne λf hf h₁ hs₁ hz₁=>xE (A:=A.in1) (s:={s with heap:=h₁}) (TI:=TI) hh hf hAT (λa ha=>(hok a ha).2.1) D.TOz is dss [] olds _ hm (Subs.keep (λa o ha e=>hs₁.extBut a o (hok a ha).1 e) (λb o n U=>(show∀b o,¬Av b->s.heap.get? b=some o->h₁.get? b=some o from λb o hb e=>hs₁.extBut b o (λq=>hb (q▸hAz)) e) b o n) hs λi hi o e=>hs₁.extBut i o (D.is1 i hi).1 e) holds (hs₁.extBut _ _ D.TOz hTO) (by have:=D.few;exact le_of_eq_of_le holds this) hz₁ D.is2
  (λi hi=>(lu ((D.is1 i hi).2.1) ((D.is1 i hi).1) (hAi i hi) (λa ha=>(hok a ha).2.2 i hi))) λh' tk e kp he=>?_
 refine ai he λo ho hc=>?_
 refine aj (wpAny_isInstance (T:="StopIteration") (b:=true) (am o ho hc) isSubtype_stop ?_)
 exact aC (hQ h' tk λc o c1 c2 c3 e=>kp c o c1 c2 c3 (hs₁.extBut c o c1 e))
set_option tactic.hygienic true in
theorem jy{is:List Addr}(hn:n≠1)(hh:A.handled=none)(D:rq z TI TO is)(hk:Keeps s s')
 (hnone:∀b,b=z\/b=TI\/b=TO\/b∈is->s.heap.get? b=none/\∃o,s'.heap.get? b=some o) (hWd:∀a,Wd a->∃o,s.heap.get? a=some o)
 (hz:mG X (λa=>Av a\/s.heap.get? a=none) (λa=>¬Wd a/\∃o,s.heap.get? a=some o) z TI TO is .none s'.heap dss) (hl:lH dss l):SrcAt prog w A X Av Wd n l s (.ref z) s':=by
 have hAz:Av z\/s.heap.get? z=none:=.inr (hnone z (.inl rfl)).1
 have hAi:∀i∈is,Av i\/s.heap.get? i=none:=λi hi=>.inr (hnone i (.inr (.inr (.inr hi)))).1
 have hok:∀a,(¬Wd a/\∃o,s.heap.get? a=some o)->a≠z/\a≠TO/\∀i∈is,a≠i:=λa ⟨_,o,e⟩=>by
  refine(a6 ?_ ?_ (λi hi=>?_))
  ·rintro rfl;rw[(hnone a (.inl rfl)).1] at e;exact no e
  ·rintro rfl;rw[(hnone a (.inr (.inr (.inl rfl)))).1] at e;exact no e
  ·rintro rfl;rw[(hnone a (.inr (.inr (.inr hi)))).1] at e;exact no e
 refine⟨λl h=>∃dss,lH dss l/\mG X (λa=>Av a\/s.heap.get? a=none) (λa=>¬Wd a/\∃o,s.heap.get? a=some o) z TI TO is .none h dss,(· ∈z::TO::is),λV hV=>?_,⟨dss,hl,hz⟩,hk,λb hb=>?_⟩
 ·have hVf:∀b,b=z\/b=TI\/b=TO\/b∈is->¬V b:=λb hb q=>by
   obtain⟨h1,o,h2⟩:=hnone b hb
   rcases hV b q with q|q
   ·obtain⟨o',e'⟩:=hWd _ q;rw[h1] at e';exact no e'
   ·rw[h2] at q;exact no (af q)
  have hVok:∀a,(¬Wd a/\∃o,s.heap.get? a=some o)->¬V a:=λa ⟨h1,o,e⟩ q=>by
   rcases hV a q with q|q
   ·exact h1 q
   ·rw[bQ (ei hk) q] at e;exact no e
  refine⟨?_,?_,?_,?_,?_,?_⟩
  ·intro l h h' z6 kk
   refine eQ z6 λdss h1 h2 h3 q5 h6=>ai q5 λolds h4 h5=>(fj dss h1 (kk _ _ (.inl (hVf _ (.inl rfl))) h2) (kk _ _ (.inl (hVf _ (.inr (.inl rfl)))) h3) (am olds h4 (kk _ _ (.inl (hVf _ (.inr (.inr (.inl rfl))))) h5)) (Subs.keep (λa o ha=>kk a o (.inl (hVok a ha))) (λb o hb hq=>kk b o (.inr ⟨hq,hb⟩)) h6 λi hi o=>kk i o (.inl (hVf i (.inr (.inr (.inr hi)))))))
  ·intro l h z13 b hb
   refine eQ z13 λdss h1 h2 h3 q12 h6=>?_
   obtain⟨olds,h4,h5⟩:=q12
   clear z13
   clear hVf
   rcases List.mem_cons.mp hb with rfl|hb
   ·exact⟨_,h2⟩
   rcases List.mem_cons.mp hb with rfl|hb
   ·exact⟨_,h5⟩
   ·exact kZ h6 b hb
  ·intro l s1 Q E z17 hq
   refine ai z17 λdss h1 h2=>wpAny_pyIter_zip h2.1 hq
  ·intro s1 E z20
   refine ai z20 λdss h1 h2=>?_
   cases h1 with
   |stop hm=>
    refine xB hh D h2 hm hAz (.inr (hnone TO (.inr (.inr (.inl rfl)))).1) hAi hok λh' tk kp=>⟨rfl,h',tk,rfl,λb o hb e=>?_⟩
    simp only[List.mem_cons,not_or] at hb
    exact kp b o hb.1 hb.2.1 hb.2.2 e
  ·exact λh=>absurd h hn
  ·rintro-es l s1 E ⟨dss,h1,h2⟩-
   cases h1 with
   |turn hlen h1=>
    rename_i tails
    have T1:∀b∈z::TO::is,b≠s1.heap.objs.size:=λb hb=>by
     have hx:∃o,s1.heap.get? b=some o:=by
      refine cq h2 λh3 h4 q1 h6=>?_
      refine ai q1 λolds U h5=>?_
      clear q1
      rcases List.mem_cons.mp hb with rfl|hb
      ·exact⟨_,h3⟩
      rcases List.mem_cons.mp hb with rfl|hb
      ·exact⟨_,h5⟩
      ·exact kZ h6 b hb
     obtain⟨o,e⟩:=hx
     exact Nat.ne_of_lt (Heap.lt_size e)
    refine xD D h2 hlen hAz (.inr (hnone TO (.inr (.inr (.inl rfl)))).1) hAi hok λh' tk xs hx hT hr kp=>(bc s1.heap.objs.size rfl (bu h' tk rfl (λb o hb e=>?_)) (λelts kk' pos E'=>?_))
    ·simp only[List.mem_cons,not_or] at hb
     exact kp b o hb.1 hb.2.1 hb.2.2 e
    ·refine av λGG kk=>?_
     refine cq hr λa1 a2 q4 a5=>ai q4 λolds a3 a4=>kk ?_;clear kk
     refine wpAny_letOwnedTupleGo_zip a1 λh'' hz'' sb=>?_
     have kk2:∀b o,¬(Av b\/s.heap.get? b=none)->h'.get? b=some o->h''.get? b=some o:=λb o hb e=>sb.extBut b o (λq=>hb (q▸hAz)) e
     refine⟨xs,⟨_,sb.extBut _ _ (Ne.symm (T1 z (.head _))) hT,rfl,0,rfl⟩,RepL.keep kk2 (λa=>.inl) _ _ hx,⟨tails,h1,hz'',sb.extBut _ _ D.TIz a2,⟨olds,a3,sb.extBut _ _ D.TOz a4⟩,
      Subs.keep (λa o ha e=>sb.extBut a o (hok a ha).1 e) (λb o n U=>kk2 b o n) a5 λi hi o e=>sb.extBut i o (D.is1 i hi).1 e⟩,h'',tk,rfl,λb o hb e=>sb.extBut b o (λq=>hb (q▸.head _)) e⟩
 ·refine hnone b ?_
  rcases List.mem_cons.mp hb with rfl|hb
  ·exact .inl rfl
  rcases List.mem_cons.mp hb with rfl|hb
  ·exact .inr (.inr (.inl rfl))
  ·exact .inr (.inr (.inr hb))
end
def ZD(X:Addr)(Av ok:Addr->Prop)(h:Heap)(v:Value)(ds:List D):Prop:=
 ∃o,ZArg h v o/\o.isFreed=false/\∀h' i,(∀b o,h.get? b=some o->h'.get? b=some o)->h'.get? i=some o->SubAt X (λa=>Av a\/h.get? a=none) ok h' i ds
section
theorem ZD.list{ds:List D}(hl:h.IsList a vs.toArray)(rl:RepL X h Av ds vs)(ho:ok a):ZD X Av ok h (.ref a) ds:=
 (bc (lit a) (.list hl) rfl (λh' i k e=>.inl (uF a 0 vs ⟨_,e,rfl,rfl⟩ (fN hl λo=>k a o) ho (by
  exact RepL.keep (λb o U=>k b o) (λa q=>by rcases q with q|q;exact .inl q;exact .inr q) _ _ rl))))
theorem ZD.str{cs:List Nat}(ha:cs.all (λc=>decide (c<128))=true):ZD X Av ok h (.str ⟨cs.toArray⟩ t) (cs.map λc=>.str [c]):=
 (bc (Fu ⟨cs.toArray⟩ t) (.str (by simpa using ha)) rfl (λh' i k e=>.inr (iZ cs t 0 ⟨_,e,rfl,rfl⟩ (List.drop_zero))))
theorem xX(hn:n≠1)(hh:A.handled=none)(hWd:∀a,Wd a->∃o,s.heap.get? a=some o)
 (x1:ZD X Av (λa=>¬Wd a/\∃o,s.heap.get? a=some o) s.heap v1 d1) (x2:ZD X Av (λa=>¬Wd a/\∃o,s.heap.get? a=some o) s.heap v2 d2)
 (hQ:∀it s',SrcAt prog w A X Av Wd n (hG d1 d2) s it s'->Q it s'):wpAny (model prog w) A (call (.type "zip") [v1,v2]) (λxv s₁=>wpAny (model prog w) A (pyIter xv) Q E s₁) E s:=by
 refine aZ x1 λo1 a1 f1 g1=>aZ x2 λo2 a2 f2 g2=>callType_new PySem.F.called_zip (by decide) (PySem.F.typeCall_zip_2 _ _) (PySem.F.newCall_zip_2 _ _) (λobj=>PySem.F.args_object_init_3 obj _ _) PySem.F.entry_zip_new
  (ui v1 v2 o1 o2) (a6 a1 a2 ?_)
 have e2:((s.heap.push o1).push o2).objs.size=s.heap.objs.size+2:=by rw[Heap.size_push,(Heap.size_push ..)]
 have e3:(((s.heap.push o1).push o2).push {cls:=.type "tuple",data:=.seq #[.ref s.heap.objs.size,.ref (s.heap.push o1).objs.size]}).objs.size=s.heap.objs.size+3:=by rw[Heap.size_push,e2]
 have e4:(zH s.heap o1 o2).objs.size=s.heap.objs.size+4:=by rw[Heap.size_push,e3]
 have z5:(nT s.heap o1 o2).get? (zH s.heap o1 o2).objs.size=some _:=bz _ rfl
 have z4:(nT s.heap o1 o2).get? (((s.heap.push o1).push o2).push {cls:=.type "tuple",data:=.seq #[.ref s.heap.objs.size,.ref (s.heap.push o1).objs.size]}).objs.size=some _:=aX _ (bz _ rfl)
 have z3:(nT s.heap o1 o2).get? ((s.heap.push o1).push o2).objs.size=some _:=aX _ (aX _ (bz _ rfl))
 have z2:(nT s.heap o1 o2).get? (s.heap.push o1).objs.size=some _:=aX _ (aX _ (aX _ (bz _ f2)))
 have z1:(nT s.heap o1 o2).get? s.heap.objs.size=some _:=aX _ (aX _ (aX _ (aX _ (bz _ f1))))
 have kk:∀b o,s.heap.get? b=some o->(nT s.heap o1 o2).get? b=some o:=λb o e=>aX _ (aX _ (aX _ (aX _ (aX _ e))))
 refine⟨(am _ z5 rfl),?_⟩
 rw[e3,e2] at z5
 rw[e4] at z5 ⊢
 rw[e3] at z4
 rw[e2] at z3
 rw[(Heap.size_push ..)] at z3 z2
 generalize nT s.heap o1 o2=H at z1 z2 z3 z4 z5 kk ⊢
 refine wpAny_pyIter_zip z5 (hQ _ _ (jy (z:=s.heap.objs.size+4) (TI:=s.heap.objs.size+2) (TO:=s.heap.objs.size+3) (is:=[s.heap.objs.size,s.heap.objs.size+1]) (dss:=[d1,d2]) hn hh ?_ (bu H s.toks rfl kk) ?_ hWd
  ⟨z5,z3,⟨[.none,.none],rfl,z4⟩,g1 _ _ kk z1,g2 _ _ kk z2,trivial⟩ (zF d1 d2)))
 ·have n0:∀k:Nat,k≠0->s.heap.objs.size≠s.heap.objs.size+k:=λk h e=>h (Nat.left_eq_add.mp e)
  constructor<;>simp
  all_goals first|omega|skip
 ·intro b hb
  have nn:∀k:Nat,s.heap.get? (s.heap.objs.size+k)=none:=λk=>Heap.get?_none_of_le (Nat.le_add_right _ _)
  simp only[List.mem_cons,List.not_mem_nil,or_false] at hb
  rcases hb with rfl|rfl|rfl|rfl|rfl
  ·exact⟨nn 4,_,z5⟩
  ·exact⟨nn 2,_,z3⟩
  ·exact⟨nn 3,_,z4⟩
  ·exact⟨nn 0,_,z1⟩
  ·exact⟨nn 1,_,z2⟩
theorem xW(hn:n≠1)(hh:A.handled=none)(hWd:∀a,Wd a->∃o,s.heap.get? a=some o)
 (x1:ZD X Av (λa=>¬Wd a/\∃o,s.heap.get? a=some o) s.heap v1 d1) (x2:ZD X Av (λa=>¬Wd a/\∃o,s.heap.get? a=some o) s.heap v2 d2)
 (x3:ZD X Av (λa=>¬Wd a/\∃o,s.heap.get? a=some o) s.heap v3 d3)
 (hQ:∀it s',SrcAt prog w A X Av Wd n (pu d1 d2 d3) s it s'->Q it s'):wpAny (model prog w) A (call (.type "zip") [v1,v2,v3]) (λxv s₁=>wpAny (model prog w) A (pyIter xv) Q E s₁) E s:=by
 refine av λGG kk=>aZ x1 λo1 a1 f1 g1=>aZ x2 λo2 a2 f2 g2=>aZ x3 λo3 a3 f3 g3=>?_
 refine kk ?_;clear kk
 refine callType_new PySem.F.called_zip (by decide) (mS _ _ _) (pg _ _ _) (λobj=>jX obj _ _ _) PySem.F.entry_zip_new
  (uh v1 v2 v3 o1 o2 o3) (lu a1 a2 a3 ?_)
 have e2:((s.heap.push o1).push o2).objs.size=s.heap.objs.size+2:=by rw[Heap.size_push,(Heap.size_push ..)]
 have e3:(((s.heap.push o1).push o2).push o3).objs.size=s.heap.objs.size+3:=by rw[Heap.size_push,e2]
 have e4:((((s.heap.push o1).push o2).push o3).push {cls:=.type "tuple",data:=.seq #[.ref s.heap.objs.size,.ref (s.heap.push o1).objs.size,.ref ((s.heap.push o1).push o2).objs.size]}).objs.size=s.heap.objs.size+4:=by rw[Heap.size_push,e3]
 have e5:(zG s.heap o1 o2 o3).objs.size=s.heap.objs.size+5:=by rw[Heap.size_push,e4]
 have z6:(lK s.heap o1 o2 o3).get? (zG s.heap o1 o2 o3).objs.size=some _:=bz _ rfl
 have z5:(lK s.heap o1 o2 o3).get? ((((s.heap.push o1).push o2).push o3).push {cls:=.type "tuple",data:=.seq #[.ref s.heap.objs.size,.ref (s.heap.push o1).objs.size,.ref ((s.heap.push o1).push o2).objs.size]}).objs.size=some _:=aX _ (bz _ rfl)
 have z4:(lK s.heap o1 o2 o3).get? (((s.heap.push o1).push o2).push o3).objs.size=some _:=aX _ (aX _ (bz _ rfl))
 have z3:(lK s.heap o1 o2 o3).get? ((s.heap.push o1).push o2).objs.size=some _:=aX _ (aX _ (aX _ (bz _ f3)))
 have z2:(lK s.heap o1 o2 o3).get? (s.heap.push o1).objs.size=some _:=aX _ (aX _ (aX _ (aX _ (bz _ f2))))
 have z1:(lK s.heap o1 o2 o3).get? s.heap.objs.size=some _:=aX _ (aX _ (aX _ (aX _ (aX _ (bz _ f1)))))
 have kk:∀b o,s.heap.get? b=some o->(lK s.heap o1 o2 o3).get? b=some o:=λb o e=>aX _ (aX _ (aX _ (aX _ (aX _ (aX _ e)))))
 refine⟨(am _ z6 rfl),?_⟩
 rw[e4,e3] at z6
 rw[e5] at z6 ⊢
 rw[e4] at z5
 rw[e3,e2,(Heap.size_push ..)] at z4
 rw[e2] at z3
 rw[(Heap.size_push ..)] at z2
 generalize lK s.heap o1 o2 o3=H at z1 z2 z3 z4 z5 z6 kk ⊢
 refine wpAny_pyIter_zip z6 (hQ _ _ (jy (z:=s.heap.objs.size+5) (TI:=s.heap.objs.size+3) (TO:=s.heap.objs.size+4) (is:=[s.heap.objs.size,s.heap.objs.size+1,s.heap.objs.size+2]) (dss:=[d1,d2,d3]) hn hh ?_ (bu H s.toks rfl kk) ?_ hWd
  ⟨z6,z4,⟨[.none,.none,.none],rfl,z5⟩,g1 _ _ kk z1,g2 _ _ kk z2,g3 _ _ kk z3,trivial⟩ (zE d1 d2 d3)))
 ·constructor<;>simp
  all_goals first|omega|skip
 ·intro b hb
  have nn:∀k:Nat,s.heap.get? (s.heap.objs.size+k)=none:=λk=>Heap.get?_none_of_le (Nat.le_add_right _ _)
  simp only[List.mem_cons,List.not_mem_nil,or_false] at hb
  rcases hb with rfl|rfl|rfl|rfl|rfl|rfl
  ·exact⟨nn 5,_,z6⟩
  ·exact⟨nn 3,_,z4⟩
  ·exact⟨nn 4,_,z5⟩
  ·exact⟨nn 0,_,z1⟩
  ·exact⟨nn 1,_,z2⟩
  ·exact⟨nn 2,_,z3⟩
end
noncomputable def typs:List (Str×String):=[("range","range"),("enumerate","enumerate"),("zip","zip"),("bytes","bytes"),("bytearray","bytearray")]
structure Gd(C:Cx):Prop where
 ns:C.g.Ns mainGlobals C.mg
 nb:C.g.Ns builtinsNs C.mb
 glob:∀x f,globs.lookup x=some f->C.mg x=some (.ref f)/\∃o fd,C.g.get? f=some o/\o.data=.func fd
 blt:∀x y,bltin.lookup x=some y->C.mg x=none/\C.mb x=some (cY y)
 typ:∀x y,typs.lookup x=some y->C.mg x=none/\C.mb x=some (.type y)
 lim:C.g.NoLimit
abbrev F0:Value->Shared->Prop:=λU U=>False
structure St'(C:Cx)(mB mo:Addr->Prop)(s s':Shared):Prop where
 k:Kp s.heap s'.heap
 ok:Ok C (λa=>mB a\/mo a) s'
theorem St'.trans(x:St' C mB mo s s')(y:St' C mB mo s' s''):St' C mB mo s s'':=⟨x.1.trans y.1,y.2⟩
structure bP(C:Cx)(X:Addr)(mt:Addr->Prop)(s:Shared)(d:D)(v:Value)(s':Shared):Prop where
 k:Kp s.heap s'.heap
 ok:Ok C mt s'
 r:Rep X s'.heap (λa=>a=66\/mt a) d v
def mK(C:Cx)(X:Addr)(H:Hook)(A:Around):Prop:=∀f ds d,H f ds=some d->∀(mt:Addr->Prop) s vs,Ok C mt s->RepL X s.heap (λa=>a=66\/mt a) ds vs->
 wpAny (model C.prog C.w) A (call (.ref f) vs) (bP C X mt s d) F0 s
structure Room(n:Nat)(A:Around):Prop where
 hh:A.handled=none
 dp:A.depth+n<=900
 un:A.units+8*n<=5000
structure ie(C:Cx)(X:Addr)(mB mo:Addr->Prop)(pk:Bool)(s:Shared)(d:D)(v:Value)(s':Shared):Prop where
 st:St' C mB mo s s'
 r:Rep X s'.heap (aJ mB mo pk) d v
structure D7(C:Cx)(mB mo:Addr->Prop)(s:Shared)(b c:Bool)(s':Shared):Prop where
 e:c=b
 st:St' C mB mo s s'
def kJ(C:Cx)(X:Addr)(A:Around)(env:Env)(mB mo:Addr->Prop)(pk:Bool)(s:Shared)(d:D)(ex:Expr):Prop:=
 wpAny (model C.prog C.w) A (eval ex env) (ie C X mB mo pk s d) F0 s
def rr(C:Cx)(A:Around)(env:Env)(mB mo:Addr->Prop)(s:Shared)(b:Bool)(ex:Expr):Prop:=
 wpAny (model C.prog C.w) A (isTrue ex env (eval ex env)) (D7 C mB mo s b) F0 s
structure iH(C:Cx)(X:Addr)(A:Around)(env:Env)(mB mo:Addr->Prop)(pk:Bool)(s:Shared)(d:D)(ex:Expr):Prop where
 one:kJ C X A env mB mo pk s d ex
 tr:∀b,aE d=some b->rr C A env mB mo s b ex
def Hd(X:Addr)(h:Heap)(Av:Addr->Prop)(vs:List Value):D->Prop
 | .tuple ds=>RepL X h Av ds vs
 |_=>False
structure FN(C:Cx)(X:Addr)(mB mo:Addr->Prop)(pk:Bool)(s:Shared)(d:D)(vs:List Value)(s':Shared):Prop where
 st:St' C mB mo s s'
 r:Hd X s'.heap (aJ mB mo pk) vs d
def Hb(C:Cx)(X:Addr)(A:Around)(env:Env)(mB mo:Addr->Prop)(pk:Bool)(s:Shared)(d:D):(k:Kd)->D8 k->Prop
 | .E,ex=>iH C X A env mB mo pk s d ex
 | .M,es=>∀pos,wpAny (model C.prog C.w) A (spliced (backTo pos (starEach es env))) (FN C X mB mo pk s d) F0 s
 | .O,o=>∀e,o=some e->iH C X A env mB mo pk s d e
def ah(C:Cx)(X:Addr)(H:Hook)(A:Around){k:Kd}(a:AE k):Prop:=
 ∀{pk:Bool} {Γ:List Str} {ρ:R} {d:D} {env:Env} {mB mo:Addr->Prop} {s:Shared},
  a.ok Γ env.scope.names=true->ev H a.er pk ρ=some d->Fm C X env Γ mB mo ρ s->Hb C X A env mB mo pk s d k a.tx
section
theorem iE(ok:Ok C (λa=>mB a\/mo a) s):∀a,aJ mB mo pk a->∃o,s.heap.get? a=some o:=λa h=>by
 rcases h with rfl|h|⟨_,h⟩
 ·refine ai ok.tb λps h1 U=>?_;exact⟨_,h1⟩
 ·exact(ok.mtx a (.inl h)).2.2
 ·exact(ok.mtx a (.inr h)).2.2
theorem pA(k:Kp h h'):∀b o,¬aJ mB mo pk b->h.get? b=some o->h'.get? b=some o:=λb o n e=>k.keep b o (λq=>n (.inl q)) e
theorem iB(k:Kp h h')(r:Rep X h (aJ mB mo pk) d v):Rep X h' (aJ mB mo pk) d v:=Rep.keep (pA k) (λU=>.inl) d v r
theorem eW(k:Kp h h')(r:RepL X h (aJ mB mo pk) ds vs):RepL X h' (aJ mB mo pk) ds vs:=RepL.keep (pA k) (λU=>.inl) ds vs r
theorem j9(ht:h.get? 66=some (W.tabObj ps))(k:Kp h h'){v:Value}(r:cz X h (aJ mB mo pk) d v):cz X h' (aJ mB mo pk) d v:=by
 cases d with
 |list ds=>
  refine bY r λa vs e l n q=>(jL a vs e (fN l λo ho=>k.keep a o (λq=>?_) ho) n (eW k q))
  clear e
  clear ho
  subst q
  refine aZ l λo' ho' hc U=>?_
  rw[ht] at ho';obtain rfl:=so ho';(injection hc;done)
 |_=>exact Rep.keep (pA k) (λU=>.inl) _ _ r
theorem Ok.tab{mt:Addr->Prop}(ok:Ok C mt s):∃ps,s.heap.get? 66=some (W.tabObj ps):=ai ok.tb λps h U=>⟨ps,h⟩
theorem iA(r:Rep X h (aJ mB mo false) d v):Rep X h (aJ mB mo pk) d v:=
 Rep.keep (λU U U e=>e) (λa q=>.inl (by rcases q with q|q|⟨_,q⟩;exact .inl q;exact .inr (.inl q);exact .inr (.inr ⟨rfl,q⟩))) d v r
theorem sy(r:RepL X h (aJ mB mo false) ds vs):RepL X h (aJ mB mo pk) ds vs:=
 RepL.keep (λU U U e=>e) (λa q=>.inl (by rcases q with q|q|⟨_,q⟩;exact .inl q;exact .inr (.inl q);exact .inr (.inr ⟨rfl,q⟩))) ds vs r
theorem gC{t:Sem α}{P:α->Shared->Prop}(ok:Ok C (λa=>mB a\/mo a) s)(h:wpAny (model C.prog C.w) A t (λv s'=>Keeps s s'/\P v s') F0 s):
 wpAny (model C.prog C.w) A t (λv s'=>St' C mB mo s s'/\P v s') F0 s:=
 wpAny_with_toks ok.tk (eG h (λv s' hr tk=>by
  obtain⟨⟨h',n,rfl,k⟩,r⟩:=hr
  exact⟨⟨ok.kp (s':={s with heap:=h',toks:=n}) k,ok.keep tk k⟩,r⟩))
theorem lk(ok:Ok C (λa=>mB a\/mo a) s)(h:wpAny (model C.prog C.w) A t (Res X (aJ mB mo pk) s d) F0 s):
 wpAny (model C.prog C.w) A t (ie C X mB mo pk s d) F0 s:=wm (gC ok h) λU U h=>⟨h.1,h.2⟩
theorem tp(h:kJ C X A env mB mo pk s d ex)(he:isTrue ex env (eval ex env)=(do let v<-eval ex env;standAt ex.pos;holding [v] (truthy v))){b:Bool}(hb:aE d=some b):
 rr C A env mB mo s b ex:=by
 refine isTrue_plain (wm h λv s' hv=>?_) he
 refine wpAny_mono (gC hv.1.2 (wpAny_mono (ju hb hv.2.toE) (λc s'' h=>⟨h.2,h.1⟩) λU U x=>x)) (λc s'' h=>⟨h.2,hv.1.trans h.1⟩) λU U x=>x
theorem dj(F:Fm C X env Γ mB mo ρ s):St' C mB mo s s:=⟨Kp.refl _,F.ok⟩
theorem w6{x:D}(hc:aO env.scope.names Γ y i=true)(he:(ρ[i]?).bind (Sl.view true)=some x)(F:Fm C X env Γ mB mo ρ s):
 wpAny (model C.prog C.w) A (eval (.Name y p) env) (λv s'=>St' C mB mo s s'/\cz X s'.heap (aJ mB mo pk) x v/\∀ds,x=.list ds->∀l,v=.ref l->¬mB l/\l≠66) F0 s:=by
 refine bi he λsl h1 h2=>wm (bH F hc h1 (by rintro rfl;exact no h2)) λv s' hv=>?_
 clear h1
 obtain⟨rfl,_,hr,_⟩:=hv
 refine⟨dj F,?_⟩
 induction sl with
 |sh d=>
  rw[<-so h2]
  refine⟨(iA hr).toE,λds hd l hl=>?_⟩
  refine av λGG kk=>?_
  subst hd
  refine bY hr λa vs e U hn U=>?_
  replace e:=hl▸e;cases e
  refine kk ?_;clear kk
  exact⟨λq=>hn (.inr (.inl q)),λq=>hn (.inl q)⟩
 |ow ds=>
  rw[<-so h2]
  refine bU hr λa vs e hl hm hn rl=>⟨(jL a vs e hl.1 hn (sy rl)),λds hd l hl=>?_⟩
  replace e:=hl▸e;clear hl;cases e
  exact⟨F.apartB _ hm,(F.ok.mtx _ (.inr hm)).2.1⟩
 |_=>exact no h2
theorem zb{a:AE .E}(ha:ah C X H A a)(hc:a.ok Γ env.scope.names=true)(he:ev H a.er pk ρ=some x)(F:Fm C X env Γ mB mo ρ s):
 wpAny (model C.prog C.w) A (eval a.tx env) (λv s'=>St' C mB mo s s'/\cz X s'.heap (aJ mB mo pk) x v/\∀ds,x=.list ds->∀l,v=.ref l->¬mB l/\l≠66) F0 s:=by
 refine wpAny_mono (ha hc he F).1 (λv s' hv=>(a6 hv.1 hv.2.toE (λds hd l hl=>?_))) λU U x=>x
 refine av λGG kk=>?_
 clear he
 subst hd
 refine bY hv.2 λa vs e U hn U=>?_
 replace e:=hl▸e;cases e
 refine kk ?_;clear kk
 exact⟨λq=>hn (.inr (.inl q)),λq=>hn (.inl q)⟩
theorem oH{a:AE .E}(ha:ah C X H A a)(hc:a.ok Γ env.scope.names=true)(he:aq ρ a.er (ev H a.er pk ρ)=some x)(F:Fm C X env Γ mB mo ρ s):
 wpAny (model C.prog C.w) A (eval a.tx env) (λv s'=>St' C mB mo s s'/\cz X s'.heap (aJ mB mo pk) x v/\∀ds,x=.list ds->∀l,v=.ref l->¬mB l/\l≠66) F0 s:=by
 cases a<;>first|exact zb ha hc he F|exact w6 hc he F
theorem ja{a:AE .E}(ha:ah C X H A a)(hc:a.ok Γ env.scope.names=true)(he:aq ρ a.er (ev H a.er pk ρ)=some x)(F:Fm C X env Γ mB mo ρ s):
 wpAny (model C.prog C.w) A (eval a.tx env) (λv s'=>St' C mB mo s s'/\cz X s'.heap (aJ mB mo pk) x v) F0 s:=wm (oH ha hc he F) λU U h=>⟨h.1,h.2.1⟩
set_option tactic.hygienic true in
theorem AE.plain(a:AE .E)(rest:List Expr)(env:Env):starEach (a.tx::rest) env=(false,eval a.tx env)::starEach rest env:=by cases a<;>first|rfl|(rename_i k i a b c t e sc p;cases k<;>first|rfl|skip)
def Ea:(k:Kd)->D8 k->Prop
 | .M,es=>∀pos env,(backTo pos (starEach es env)).any (·.1)=false
 |_,_=>True
theorem AE.plainK(a:AE k):Ea k a.tx:=by
 induction a with
 |nil=>exact λU U=>rfl
 |cons a r _ ih=>
  intro pos env
  show(backTo pos (starEach (a.tx::r.tx) env)).any (·.1)=false
  rw[a.plain]
  exact ih pos env
 |_=>trivial
theorem AE.plainM(a:AE .M)(pos:Pos)(env:Env):(backTo pos (starEach a.tx env)).any (·.1)=false:=a.plainK pos env
theorem cF{y:D}{f:List D->Option β}(h:(match y with| .tuple ds=>f ds|_=>none)=some b):∃ds,y=.tuple ds/\f ds=some b:=by
 cases y<;>first|exact(am _ rfl h)|exact no h
theorem int_inv{y:D}{f:Int->Option β}(h:(match y with| .int i=>f i|_=>none)=some b):∃i,y=.int i/\f i=some b:=by
 cases y<;>first|exact(am _ rfl h)|exact no h
theorem str_inv{y:D}{f:List Nat->Option β}(h:(match y with| .str i=>f i|_=>none)=some b):∃i,y=.str i/\f i=some b:=by
 cases y<;>first|exact(am _ rfl h)|exact no h
theorem bE [Decidable c]{b:β}(h:(if c then x else none)=some b):c/\x=some b:=by
 by_cases q:c
 ·rw[if_pos q] at h;exact⟨q,h⟩
 ·rw[if_neg q] at h;exact no h
theorem ae{a b:Bool}(h:(a&&b)=true):a=true:=by induction a<;>first|rfl|(injection h;done)
theorem ag{a b:Bool}(h:(a&&b)=true):b=true:=by induction a<;>first|exact h|(injection h;done)
theorem DX(h:(!b)=true):b=false:=by induction b<;>first|rfl|exact nomatch h
end
section
theorem ly(G:Gd C)(F:Fm C X env Γ mB mo ρ s)(h:sR env.scope.names x f=true)(hd:(x==("__debug__":Str))=false){Q:Value->Shared->Prop}(hQ:Q (.ref f) s):
 wpAny (model C.prog C.w) A (eval (.Name x q) env) Q E s:=by
 unfold sR fV at h
 simp only[Bool.and_eq_true,beq_iff_eq] at h
 refine Calls.Name_function_global F.kind h.1 (Calls.loadGlobal_global (mg:=C.mg) ?_ (G.glob x f h.2).1 hQ) hd
 refine af F.glob▸?_
 exact G.ns.at' λo e=>F.ok.gk _ _ e
theorem dG(G:Gd C)(F:Fm C X env Γ mB mo ρ s)(h:fV env.scope.names x=true)(h1:C.mg x=none)(h2:C.mb x=some v)(hd:(x==("__debug__":Str))=false){Q:Value->Shared->Prop}(hQ:Q v s):
 wpAny (model C.prog C.w) A (eval (.Name x q) env) Q E s:=by
 unfold fV at h
 rw[beq_iff_eq] at h
 refine Calls.Name_function_global F.kind h (Calls.loadGlobal_builtin (mg:=C.mg) (mb:=C.mb) ?_ h1 ?_ h2 hQ) hd
 ·rw[F.glob];exact G.ns.at' λo e=>F.ok.gk _ _ e
 ·rw[F.bi];exact G.nb.at' λo e=>F.ok.gk _ _ e
theorem r5{y:String}(h:bltin.lookup x=some y):(x==("__debug__":Str))=false:=by
 induction e:x==("__debug__":Str) with
 |false=>rfl
 |true=>
  have:=eq_of_beq e
  subst this
  exact no h
theorem bF{a:AE .E}(h:∀{pk Γ ρ d env mB mo s},a.ok Γ env.scope.names=true->ev H a.er pk ρ=some d->Fm C X env Γ mB mo ρ s->kJ C X A env mB mo pk s d a.tx)
 (hp:∀(env:Env) ex,a.tx=ex->isTrue ex env (eval ex env)=(do let v<-eval ex env;standAt ex.pos;holding [v] (truthy v))):ah C X H A a:=λhc he F=>⟨h hc he F,λU hb=>tp (h hc he F) (hp _ _ rfl) hb⟩
theorem aQ{Q:Value->Shared->Prop}(h:kJ C X A env mB mo pk s d ex)(k:∀v s1,St' C mB mo s s1->Rep X s1.heap (aJ mB mo pk) d v->Q v s1):wpAny (model C.prog C.w) A (eval ex env) Q F0 s:=
 wm h λv s1 hv=>k v s1 hv.1 hv.2
theorem dB{s1:Shared}(st:St' C mB mo s s1)(h:wpAny (model C.prog C.w) A t (Res X (aJ mB mo pk) s1 d) F0 s1):wpAny (model C.prog C.w) A t (ie C X mB mo pk s d) F0 s1:=
 wm (lk st.2 h) λU U h=>⟨st.trans h.1,h.2⟩
set_option tactic.hygienic true in
theorem xa{k':Const}{p:Pos}(h:iC c k'=true)(F:Fm C X env Γ mB mo ρ s):kJ C X A env mB mo pk s c (.Constant k' kk p):=by
 cases c<;>induction k'<;>first|(exact absurd h Bool.false_ne_true)|skip
 ·exact Constant_none ⟨dj F,rfl⟩
 ·refine(eq_of_beq h)▸?_;exact Constant_bool ⟨dj F,rfl⟩
 ·obtain rfl:=eq_of_beq h;exact lk F.ok (wpAny_Constant_int (.flat (bj ..) λh=>ba))
 ·rename_i cs s0
  have e1:s0=⟨cs.toArray⟩:=by apply Str.ext';apply Array.ext';exact eq_of_beq (ae h)
  rw[e1]
  exact lk F.ok (Calls.Constant_str (.flat (bj ..) λU=>bZ (of_decide_eq_true (ag h))))
theorem rL{k':Const}{p:Pos}:ah C X H A (.const c k' kk p):=bF (λhc he F=>by
 refine(so he)▸?_;exact xa hc F) λU U h=>by subst h;rfl
theorem yb(G:Gd C):ah C X H A (.fn f x p):=λhc he F=>by
 refine(so he)▸?_
 exact⟨ly G F (ae hc) (by simpa using ag hc) ⟨dj F,rfl⟩,λb hb=>no hb⟩
theorem vO:ah C X H A (.var k x p):=bF (λ{pk _ _ _ _ _ _ _} hc he F=>by
 refine bi he λsl h1 h2=>wm (bH F hc h1 (by rintro rfl;exact no h2)) λv s' hv=>?_
 clear h1
 clear he
 obtain⟨rfl,_,hr,_⟩:=hv
 refine⟨dj F,?_⟩
 induction sl with
 |sh d=>refine(so h2)▸?_;exact iA hr
 |ow ds=>
  induction pk with
  |false=>exact no h2
  |true=>
   rw[<-so h2]
   refine bU hr λa vs e hl hm hn rl=>(dD a vs e hl (λq=>?_) hn (sy rl))
   rcases q with q|q|⟨q,_⟩
   ·exact(F.ok.mtx a (.inr hm)).2.1 q
   ·exact F.apartB a hm q
   ·(injection q;done)
 |_=>exact no h2) λU U h=>by subst h;rfl
theorem vX(ha:ah C X H A a)(hb:ah C X H A b):ah C X H A (.bin op a b p):=bF (λhc he F=>by
 refine bi he λx e1 e=>bi e λy e2 e=>wpAny_BinOp (wm (ja ha (ae hc) e1 F) λv s1 hv=>?_)
 refine wm (ja hb (ag hc) e2 (F.keep hv.1.1 hv.1.2)) λu s2 hu=>aB hv.1.2.tab λps ht=>?_
 exact dB (hv.1.trans hu.1) (xk (iE hu.1.2) e (j9 ht hu.1.1 hv.2) hu.2)) λU U h=>by subst h;rfl
theorem vT(ha:ah C X H A a):ah C X H A (.neg a p):=bF (λ{pk _ _ _ _ _ _ _} hc he F=>by
 refine bi he λy e1 e=>ai (int_inv e) λi q7 e=>?_
 subst q7
 refine(so e)▸?_
 refine UnaryOp_ (aQ (ha hc e1 F).1 λv s1 hs hv=>?_)
 obtain⟨t,rfl⟩:=hv
 exact dB hs (P.neg_int (.flat (bj ..) λh=>ba))) λU U h=>by subst h;rfl
theorem iI{Q:Bool->Shared->Prop}(st:St' C mB mo s s1)(hr:Rep X s1.heap (aJ mB mo pk) d v)(hb:aE d=some b)(hQ:∀s',ie C X mB mo pk s d v s'->Q b s'):wpAny (model C.prog C.w) A (truthy v) Q F0 s1:=
 wpAny_mono (gC st.2 (wpAny_mono (ju hb hr.toE) (λU U h=>⟨h.2,h.1⟩) λU U x=>x)) (λU U h=>by refine af h.2▸?_;exact hQ _ ⟨st.trans h.1,iB h.1.1 hr⟩) λU U x=>x
theorem cm(h:rr C A env mB mo s b ex)(hQ:∀s',St' C mB mo s s'->Q b s'):wpAny (model C.prog C.w) A (isTrue ex env (eval ex env)) Q F0 s:=
 wm h λU U h=>by refine af h.e▸?_;exact hQ _ h.st
theorem lq{s2:Shared}(st:St' C mB mo s s2)(h:kJ C X A env mB mo pk s2 d ex):wpAny (model C.prog C.w) A (eval ex env) (ie C X mB mo pk s d) F0 s2:=aQ h λU U x y=>⟨st.trans x,y⟩
theorem jw{w:Sem Value}(st:St' C mB mo s s2)(h:wpAny (model C.prog C.w) A (isTrue ex env w) (D7 C mB mo s2 b) F0 s2):wpAny (model C.prog C.w) A (isTrue ex env w) (D7 C mB mo s b) F0 s2:=
 wm h λU U x=>⟨x.e,st.trans x.st⟩
theorem vR(ha:ah C X H A a):ah C X H A (.not a p):=λhc he F=>by
 refine bi he λy e1 e=>mi e λt e2 q12=>q12▸?_
 exact⟨UnaryOp_ (aQ (ha hc e1 F).1 λv s1 hs hv=>not_of (iI hs hv e2 λs2 h=>⟨h.1,iT⟩)),λb hb=>by
  refine(so hb)▸?_
  exact isTrue_not (cm ((ha hc e1 F).2 t e2) λs1 h=>⟨rfl,h⟩)⟩
end
section
theorem te(h:iH C X A env mB mo pk s d y):iH C X A env mB mo pk s d (.BoolOp .And [y] p):=⟨BoolOp_one h.1,λb hb=>isTrue_and (cm (h.2 b hb) λs2 h=>by
 clear hb
 induction b
 ·exact⟨rfl,h⟩
 ·exact isTrue_and_nil ⟨rfl,h⟩)⟩
theorem C3(h:iH C X A env mB mo pk s d y):iH C X A env mB mo pk s d (.BoolOp .Or [y] p):=⟨BoolOp_one h.1,λb hb=>isTrue_or (cm (h.2 b hb) λs2 h=>by
 clear hb
 induction b
 ·exact isTrue_or_nil ⟨rfl,h⟩
 ·exact⟨rfl,h⟩)⟩
theorem lG{r:List Expr}(h1:iH C X A env mB mo pk s z e₁)(ht:aE z=some t)(hd:t=false->d=z)(h2:∀s2,St' C mB mo s s2->t=true->iH C X A env mB mo pk s2 d (.BoolOp .And (e₂::r) p)):
 iH C X A env mB mo pk s d (.BoolOp .And (e₁::e₂::r) p):=by
 refine⟨BoolOp_and (aQ h1.1 λv s1 hs hv=>iI hs hv ht λs2 h=>?_),λb hb=>isTrue_and (cm (h1.2 t ht) λs2 h=>?_)⟩
 ·induction t
  ·refine af (hd rfl)▸?_;exact h
  ·exact lq h.1 (h2 s2 h.1 rfl).1
 ·clear h1;induction t
  ·obtain rfl:=hd rfl;rw[ht] at hb;obtain rfl:=so hb;exact⟨rfl,h⟩
  ·exact jw h ((h2 s2 h rfl).2 b hb)
theorem Br{r:List Expr}(h1:iH C X A env mB mo pk s z e₁)(ht:aE z=some t)(hd:t=true->d=z)(h2:∀s2,St' C mB mo s s2->t=false->iH C X A env mB mo pk s2 d (.BoolOp .Or (e₂::r) p)):
 iH C X A env mB mo pk s d (.BoolOp .Or (e₁::e₂::r) p):=by
 refine⟨BoolOp_or (aQ h1.1 λv s1 hs hv=>iI hs hv ht λs2 h=>?_),λb hb=>isTrue_or (cm (h1.2 t ht) λs2 h=>?_)⟩
 ·induction t
  ·exact lq h.1 (h2 s2 h.1 rfl).1
  ·refine af (hd rfl)▸?_;exact h
 ·clear h1;induction t
  ·exact jw h ((h2 s2 h rfl).2 b hb)
  ·obtain rfl:=hd rfl;rw[ht] at hb;obtain rfl:=so hb;exact⟨rfl,h⟩
theorem nD(h:ev H (.and a b) pk ρ=some d):∃z t,ev H a pk ρ=some z/\aE z=some t/\(t=false->d=z)/\(t=true->ev H b pk ρ=some d):=by
 refine bi h λz e1 e=>bi e λt e2 e=>(ip z t e1 e2 ?_)
 clear e2
 induction t
 ·refine(so e)▸?_;exact⟨λU=>rfl,λh=>(nomatch h)⟩
 ·exact⟨λh=>(nomatch h),λU=>e⟩
theorem Dw(h:ev H (.or a b) pk ρ=some d):∃z t,ev H a pk ρ=some z/\aE z=some t/\(t=true->d=z)/\(t=false->ev H b pk ρ=some d):=by
 refine bi h λz e1 e=>bi e λt e2 e=>(ip z t e1 e2 ?_)
 clear e2
 induction t
 ·exact⟨λh=>(nomatch h),λU=>e⟩
 ·refine(so e)▸?_;exact⟨λU=>rfl,λh=>(nomatch h)⟩
theorem vY(ha:ah C X H A a)(hb:ah C X H A b):ah C X H A (.and a b p):=λhc he F=>by
 refine bY (nD he) λz t e1 e2 e3 e4=>lG (ha (ae hc) e1 F) e2 e3 λs2 hs ht=>te (hb (ag hc) (e4 ht) (F.keep hs.1 hs.2))
theorem tN(ha:ah C X H A a)(hb:ah C X H A b)(hc':ah C X H A c):ah C X H A (.and3 a b c p):=λhc he F=>by
 refine bY (nD he) λz t e1 e2 e3 e4=>lG (ha (ae hc) e1 F) e2 e3 λs2 hs ht=>bY (nD (e4 ht)) λz' t' f1 f2 f3 f4=>lG (hb (ae (ag hc)) f1 (F.keep hs.1 hs.2)) f2 f3 λs3 hs3 ht=>te (hc' (ag (ag hc)) (f4 ht) ((F.keep hs.1 hs.2).keep hs3.1 hs3.2))
theorem ya(ha:ah C X H A a)(hb:ah C X H A b):ah C X H A (.or a b p):=λhc he F=>by
 refine bY (Dw he) λz t e1 e2 e3 e4=>Br (ha (ae hc) e1 F) e2 e3 λs2 hs ht=>C3 (hb (ag hc) (e4 ht) (F.keep hs.1 hs.2))
theorem vV{t a b:AE .E}(ht:ah C X H A t)(ha:ah C X H A a)(hb:ah C X H A b):ah C X H A (.ite t a b p):=λhc he F=>by
 refine bi he λx e1 e=>bi e λu e2 e=>?_
 have key:=λs2 (hs:St' C _ _ _ s2)=>(show iH C X A _ _ _ _ s2 _ (if u then a.tx else b.tx) by
  induction u
  ·exact hb (ag (ag hc)) e (F.keep hs.1 hs.2)
  ·exact ha (ae (ag hc)) e (F.keep hs.1 hs.2))
 refine⟨IfExp_ (cm ((ht (ae hc) e1 F).2 u e2) λs1 hs=>?_),λb' hb'=>isTrue_IfExp (cm ((ht (ae hc) e1 F).2 u e2) λs1 hs=>?_)⟩
 ·clear e2;clear e;induction u<;>exact lq hs (key s1 hs).1
 ·clear e2;clear e;induction u<;>exact jw hs ((key s1 hs).2 b' hb')
theorem lF{s1 s2:Shared}(hu:A.units<cLine)(e:cN op x y=some t)(hv:Rep X s1.heap (aJ mB mo true) x v)(st:St' C mB mo s s1)(st2:St' C mB mo s1 s2)(hr:Rep X s2.heap (aJ mB mo true) y u)
 (hQ:∀s',St' C mB mo s s'->Rep X s'.heap (aJ mB mo true) y u->Q (.bool t) s'):wpAny (model C.prog C.w) A (compareOp op v u) Q F0 s2:=
 wpAny_mono (gC st2.2 (wpAny_mono (DL hu e (iB st2.1 hv) hr) (λU U h=>⟨h.2,h.1⟩) λU U x=>x)) (λc s3 h=>by refine af h.2▸?_;exact hQ _ (st.trans (st2.trans h.1)) (iB h.1.1 hr)) λU U x=>x
theorem ta(hu:A.units<cLine){a b:AE .E}(ha:ah C X H A a)(hb:ah C X H A b)(h1:a.ok Γ env.scope.names=true)(h2:b.ok Γ env.scope.names=true)(e1:ev H a.er true ρ=some x)(e2:ev H b.er true ρ=some y)(e3:cN op x y=some t)
 (F:Fm C X env Γ mB mo ρ s) (Q:Value->Value->Shared->Prop) (hQ:∀u s',St' C mB mo s s'->Rep X s'.heap (aJ mB mo true) y u->Q u (.bool t) s'):
 wpAny (model C.prog C.w) A (eval a.tx env) (λv s₁=>wpAny (model C.prog C.w) A (eval b.tx env) (λu s₂=>wpAny (model C.prog C.w) A (compareOp op v u) (Q u) F0 s₂) F0 s₁) F0 s:=
 aQ (ha h1 e1 F).1 λv s1 st hv=>aQ (hb h2 e2 (F.keep st.1 st.2)).1 λu s2 st2 hr=>lF hu e3 hv st st2 hr λs'=>hQ u s'
theorem vW(hu:A.units<cLine)(ha:ah C X H A a)(hb:ah C X H A b):ah C X H A (.cmp op a b p):=λhc he F=>by
 refine av λGG kk=>bi he λx e1 e=>bi e λy e2 e=>mi e λt e3 q8=>?_
 refine kk ?_;clear kk
 refine q8▸?_
 have hm:behindInMarks op b.tx=false:=by simpa using ae hc
 have key:=ta hu ha hb (ae (ag hc)) (ag (ag hc)) e1 e2 e3 F
 exact⟨wpAny_Compare1 (key _ λU s' h U=>⟨h,iT⟩) hm,λc hc=>by
  refine(so hc)▸?_
  exact wpAny_isTrue_Compare1 (key _ λU s' h U=>wpAny_truthy_bool ⟨rfl,h⟩) hm⟩
theorem tL(hu:A.units<cLine)(ha:ah C X H A a)(hb:ah C X H A b)(hc':ah C X H A c):ah C X H A (.cmp2 op op' a b c p):=λhc he F=>by
 refine av λGG kk=>bi he λx e1 e=>bi e λy e2 e=>bi e λt e3 e=>?_
 have hlm:lastMarks [op,op'] [b.tx,c.tx]=false:=by simpa [lastMarks] using ae (ag hc)
 have ho:=ag (ag hc)
 have key:=ta hu ha hb (ae ho) (ae (ag ho)) e1 e2 e3 F
 refine kk ?_;clear kk
 clear e3
 induction t with
 |false=>
  rw[<-so e]
  exact⟨Compare_chain (wm (key _ λu s' hs hr=>wpAny_truthy_bool ⟨hs,iT⟩) λa s1 h=>chain_link h) hlm,λb hb=>by
   obtain rfl:=so hb
   exact isTrue_chain (wm (key _ λu s' hs hr=>wpAny_truthy_bool ⟨rfl,hs⟩) λa s1 h=>test_link h) hlm⟩
 |true=>
  refine bi e λz e4 e=>?_
  refine mi e λt' e5 q5=>q5▸?_
  have key2:=λu s2 (hs:St' C _ _ _ s2) hr=>aQ (Q:=λb s₂=>wpAny _ A (compareOp op' u b) _ F0 s₂) (hc' (ag (ag ho)) e4 (F.keep hs.1 hs.2)).1 λw' s3 st hw=>lF (X:=X) (Q:=λr s'=>r=.bool t'/\St' C _ _ _ s') hu e5 hr hs st hw λs' h U=>⟨rfl,h⟩
  exact⟨Compare_chain (wm (key _ λu s' hs hr=>wpAny_truthy_bool (chain_last (wm (key2 u s' hs hr) λU U h=>wm h (λU U h=>by refine h.1▸?_;exact⟨h.2,iT⟩)))) λa s1 h=>chain_link h) hlm,λb hb=>by
   rw[<-so hb]
   exact isTrue_chain (wm (key _ λu s' hs hr=>wpAny_truthy_bool (test_last (wm (key2 u s' hs hr) λU U h=>wm h λU U h=>by obtain rfl:=h.1;exact wpAny_truthy_bool ⟨rfl,h.2⟩))) λa s1 h=>test_link h) hlm⟩
end
section
variable{C:Cx}
theorem vS:ah C X H A .nil:=λhc he F pos=>by
 refine(so he)▸?_
 exact Calls.spliced_nil ⟨dj F,rfl⟩
theorem gU(h:ev H (.cons a r) pk ρ=some d):∃x ds,d=.tuple (x::ds)/\ev H a pk ρ=some x/\ev H r pk ρ=some (.tuple ds):=by
 refine av λGG kk=>bi h λx e1 e=>bi e λy e2 e=>ai (cF e) λds q32 e=>?_
 clear h
 subst q32
 obtain rfl:=so e
 refine kk ?_;clear kk
 exact(ip x ds rfl e1 e2)
theorem iQ{r:AE .M}(ha:ah C X H A a)(hr:ah C X H A r):ah C X H A (.cons a r):=λhc he F pos=>by
 refine bv (gU he) λx ds q29 e1 e2=>?_
 rw[q29]
 exact args_cons (aQ (ha (ae hc) e1 F).1 λv s1 hs hv=>wm (hr (ag hc) e2 (F.keep hs.1 hs.2) pos) λvs s2 h=>⟨hs.trans h.1,v,vs,rfl,iB h.1.1 hv,h.2⟩) (a.plain _ _)
theorem y7(h:ev H (.call f a) pk ρ=some d):∃q ds,ev H a q ρ=some (.tuple ds)/\H f ds=some d/\(q=true->pk=true\/d.flat=true):=by
 refine av λGG kk=>bi h λy e1 e=>ai (cF e) λds q24 e=>?_
 subst q24
 refine bi e λd' e2 e=>kk ?_;clear kk
 by_cases hp:(pk||d'.flat)=true
 ·rw[if_pos hp] at e
  refine(so e)▸?_
  exact(ip true _ e1 e2 (λU=>by simpa using hp))
 ·rw[if_neg hp] at e
  refine bi e λy' e3 e=>?_
  refine ai (cF e) λds' q28 e=>?_
  subst q28
  exact(ip false _ e3 e (λh=>(nomatch h)))
theorem tM(G:Gd C)(HS:mK C X H A)(ha:ah C X H A a)(hr:ah C X H A r):ah C X H A (.call f x q a r p):=bF (λ{pk Γ ρ d env mB mo s} hc he F=>by
 refine av λGG kk=>bv (y7 he) λq ds e1 e2 hq=>?_
 obtain⟨_,o,fd,ho,hdat⟩:=G.glob x f (eq_of_beq (ag (ae hc)))
 refine kk ?_;clear kk
 refine Call_ (ly G F (ae hc) (by simpa using ae (ag hc)) (callWith_def hdat (wm (iQ ha hr (ag (ag hc)) e1 F p) λvs s1 hv=>⟨hv.1.2.gk _ _ ho,?_⟩) (a.plain _ _)))
 refine wm (HS f ds d e2 (λa=>mB a\/q=false/\mo a) s1 vs (hv.1.2.less λa h=>h.imp id And.right) hv.2) λv s2 h=>⟨hv.1.trans ⟨h.k,hv.1.2.back h.ok h.k⟩,?_⟩
 clear hv
 induction q with
 |false=>exact iA h.r
 |true=>rcases hq rfl with rfl|hf
        ·exact h.r
        ·exact Rep.flat_any hf h.r) λU U h=>by subst h;rfl
def DI{α β:Type}(P:α->β->Prop):List (α×β)->Prop
 |[]=>True
 |p::r=>P p.1 p.2/\DI P r
theorem lookup_all [BEq α] [LawfulBEq α]{v:β}:∀{l:List (α×β)},l.lookup k=some v->DI P l->P k v
 |[],h,_=>no h
 |(a,b)::r,h,c=>by
  rw[List.lookup_cons] at h
  induction e:k==a with
  |true=>rw[e] at h;rw[eq_of_beq e,<-so h];exact c.1
  |false=>rw[e] at h;exact lookup_all h c.2
theorem rZ{f:String}(h:bltin.lookup x=some f):cY f=.builtin f\/cY f=.type f:=
 lookup_all (P:=λU f=>cY f=.builtin f\/cY f=.type f) h (by unfold bltin;refine⟨?_,?_,?_,?_,?_,?_,?_,trivial⟩<;>first|exact .inl rfl|exact .inr rfl)
theorem tH(G:Gd C)(hh:A.handled=none)(ha:ah C X H A a):ah C X H A (.prim f x q a p):=bF (λ{pk Γ ρ d env mB mo s} hc he F=>by
 refine av λGG kk=>?_
 have hb:=eq_of_beq (ae (ag hc))
 refine aw (G.blt x f hb) λh1 h2=>bi he λy e1 e=>bv (gU e1) λz ds q21 e2 e3=>?_
 clear e1
 subst q21
 refine kk ?_;clear kk
 (injection e3 with e3;injection e3 with e3;subst e3)
 have key:wpAny (model C.prog C.w) A (spliced (backTo p (starEach [a.tx] env))) (λvs s₁=>wpAny (model C.prog C.w) A (call (cY f) vs) (ie C X mB mo pk s d) F0 s₁) F0 s:=
  args_cons (aQ (ha (ag (ag hc)) e2 F).1 λv s1 hs hv=>args_nil (dB hs (Bn hh (iE hs.2) e (.cons hv .nil)))) (a.plain _ _)
 refine Call_ (dG G F (ae hc) h1 h2 (r5 hb) ?_)
 rcases rZ hb with hk|hk<;>rw[hk] at key ⊢
 ·exact callWith_builtin1 key (a.plain _ _)
 ·rw[show starEach [a.tx] env=_ from a.plain _ _] at key ⊢
  exact PySem.callWith_type rfl (Calls.evalArgs_plain key)) λU U h=>by subst h;rfl
theorem td{x:Str}(h:baseOk o=true):attributeBase o x env (eval o env)=eval o env:=by
 cases o<;>first|rfl|exact absurd h Bool.false_ne_true
theorem all_plain{args:List (Bool×Sem Value)}(h:args.any (·.1)=false):args.all (λx=> !x.1)=true:=by
 rw[List.all_eq_not_any_not]
 simp only[Bool.not_not]
 rw[h];rfl
theorem cU{ap p:Pos}{id:String}(hbase:attributeBase e0 x env (eval e0 env)=eval e0 env)(hline:(ap.endLine==p.line)=true)
 (h8:as.length<=8) (hpl:(backTo p (starEach as env)).any (·.1)=false) (pa:PlainAttrs ty) (slot:Slot ty x id) (hty:typeOf (.builtin id)=pure (.type "method_descriptor"))
 (ho:wpAny (model C.prog C.w) A (eval e0 env) (λov s₁=>s₁.TypeIs ov ty/\(∀a,ov=.ref a->∃ob,s₁.heap.get? a=some ob/\ob.dict=none)/\
  wpAny (model C.prog C.w) A (spliced (backTo p (starEach as env))) (λvs s₂=>wpAny (model C.prog C.w) A (call (.builtin id) (ov::vs)) P F0 s₂) F0 s₁) F0 s) (hst:∃e es,as=e::es/\starEach as env=(false,eval e env)::starEach es env):
 wpAny (model C.prog C.w) A (eval (.Call (.Attribute e0 x ap) as [] p) env) P F0 s:=by
 refine wpAny_Call_method_lateS hbase ?_ hline (wm ho λov s1 h=>?_)
 ·refine af (all_plain hpl)▸?_
  exact decide_eq_true (show as.length<30 from Nat.lt_of_le_of_lt h8 (by decide))
 ·refine bV h λhT hdn hc=>?_
  refine(Dm ty id pa slot hty hT hdn ?_)
  refine bK hst λe es q18 he=>?_
  rw[he] at hc hpl ⊢
  exact Calls.callWith_builtin hpl (Calls.evalArgs_plain hc)
theorem t6{ds:List D}(h:meths.lookup x=some m)(e:d8 m y ds=some d):∃ty id,ng m=.builtin id/\PlainAttrs ty/\Slot ty x id/\typeOf (.builtin id)=pure (.type "method_descriptor")/\
 ((ty="str"/\∃cs,y=.str cs)\/(ty="list"/\∃es,y=.list es)):=by
 refine lookup_all (P:=λx m=>d8 m y ds=some d->∃ty id,ng m=.builtin id/\PlainAttrs ty/\Slot ty x id/\typeOf (.builtin id)=pure (.type "method_descriptor")/\((ty="str"/\∃cs,y=.str cs)\/(ty="list"/\∃es,y=.list es))) h ?_ e
 exact⟨λe=>⟨"str","str.find",rfl,PySem.F.plainAttrs_str,PySem.F.slot_str_find,PySem.F.type_str_find,.inl ⟨rfl,bi e λcs h U=>⟨cs,D.gS_eq h⟩⟩⟩,
  λe=>⟨"str","str.join",rfl,PySem.F.plainAttrs_str,PySem.F.slot_str_join,PySem.F.type_str_join,.inl ⟨rfl,bi e λcs h U=>⟨cs,D.gS_eq h⟩⟩⟩,
  λe=>⟨"list","list.count",rfl,PySem.F.plainAttrs_list,PySem.F.slot_list_count,PySem.F.type_list_count,.inr ⟨rfl,bi e λcs h U=>⟨cs,D.gL_eq h⟩⟩⟩,
  λe=>⟨"list","list.index",rfl,PySem.F.plainAttrs_list,PySem.F.slot_list_index,PySem.F.type_list_index,.inr ⟨rfl,bi e λcs h U=>⟨cs,D.gL_eq h⟩⟩⟩,trivial⟩
theorem tJ(hu:A.in1.units<cLine){r:AE .M}(ho:ah C X H A o)(ha:ah C X H A a)(hr:ah C X H A r):ah C X H A (.meth m x o ap a r p):=bF (λ{pk Γ ρ d env mB mo s} hc he F=>by
 refine av λGG kk=>bi he λy e1 e=>bi e λz e2 e=>ai (cF e) λds q7 e=>?_
 subst q7
 have h5:=ag (ag (ag (ag hc)))
 refine bU (t6 (eq_of_beq (ae hc)) e) λty id hid pa sl hty hk=>?_
 refine kk ?_;clear kk
 refine cU (td (ae (ag (ag hc)))) (ae (ag hc)) (of_decide_eq_true (ae (ag (ag (ag hc))))) ((AE.cons a r).plainM _ _) pa sl hty (aQ (ho (ae h5) e1 F).1 λv s1 hs hv=>?_) (bu _ _ rfl (a.plain _ _))
 have key:wpAny (model C.prog C.w) A (spliced (backTo p (starEach (a.tx::r.tx) env))) (λvs s₂=>wpAny (model C.prog C.w) A (call (.builtin id) (v::vs)) (ie C X mB mo pk s d) F0 s₂) F0 s1:=wm (iQ ha hr (ag h5) e2 (F.keep hs.1 hs.2) p) λvs s2 h=>by refine hid▸?_;exact dB (pk:=pk) (hs.trans h.1) (By hu e (iB h.1.1 hv) h.2)
 clear sl
 clear pa
 rcases hk with ⟨rfl,cs,rfl⟩|⟨rfl,es,rfl⟩
 ·refine av λGG kk=>?_
  obtain⟨_,t,rfl⟩:=hv
  refine kk ?_;clear kk
  exact(a6 (typeIs_str _ _ _) (λU e=>(nomatch e)) key)
 ·refine bv hv λb vs q13 hl U=>?_
  clear hv
  subst q13
  refine(a6 hl.1.typeIs (λb' e=>?_) key)
  cases e
  refine ai hl.1 λo ho U=>⟨o,ho,hl.2 o ho⟩) λU U h=>by subst h;rfl
end
section
theorem St'.toks(st:St' C mB mo s s₀)(n:Nat):St' C mB mo s {s₀ with toks:=s₀.toks+n}:=st.trans ⟨st.2.kp (s':={s₀ with toks:=s₀.toks+n}) λU U e=>e,st.2.keep (h':=s₀.heap) (tk:=s₀.toks+n) (Nat.le_add_right_of_le st.2.tk) λU U e=>e⟩
theorem mX{s₁:Str}{cs:List Nat}(h:(s₁.cps.toList==cs)=true):s₁=⟨cs.toArray⟩:=by apply Str.ext';apply Array.ext';simpa using eq_of_beq h
theorem tG{o:AE .E}(ho:ah C X H A o):ah C X H A (.repl x s₁ s₂ o c a b ap k₁ p₁ k₂ p₂ p):=bF (λ{pk Γ ρ d env mB mo s} hc he F=>by
 refine ai (Option.bind_eq_some_iff.mp he) λy ey e=>ai (str_inv e) λcs q48 e=>?_
 clear he
 subst q48
 obtain⟨hl,e⟩:=bE e
 obtain rfl:=so e
 have h2:=ag hc
 have h3:=ag h2
 have h4:=ag h3
 have h5:=ag h4
 obtain rfl:=eq_of_beq (ae hc)
 clear hc
 obtain rfl:=mX (ae h2)
 clear h2
 obtain rfl:=mX (ae h3)
 refine cU (td (ae h5)) (ae h4) (by simp) rfl PySem.F.plainAttrs_str PySem.F.slot_str_replace PySem.F.type_str_replace (aQ (ho (ag h5) ey F).1 λv s1 hs hv=>?_) ⟨_,_,rfl,rfl⟩
 obtain⟨hn,t,rfl⟩:=hv
 have htk:=hs.2.tk
 exact⟨typeIs_str _ _ _,λU e=>(nomatch e),args_cons (Calls.Constant_str (args_cons (Calls.Constant_str (args_nil (dB (hs.toks 2) (sx (Nat.ne_of_gt ‹_›) (Nat.succ_ne_zero _) (Nat.ne_add_one s1.toks) hn hl))))))⟩)
 λU U h=>by subst h;rfl
theorem lst_inv{ds:List D}(h:eN n ds=some d):ds.length<=n/\d=.list ds:=by
 refine aw (bE h) λh1 e=>?_
 clear h
 obtain rfl:=so e
 exact⟨h1,rfl⟩
theorem vU(ha:ah C X H A a):ah C X H A (.lst a p):=bF (λhc he F=>by
 refine ai (Option.bind_eq_some_iff.mp he) λy ey e=>ai (cF e) λds q56 e=>?_
 clear he
 subst q56
 obtain⟨hl,rfl⟩:=lst_inv e
 refine wpAny_List (wpAny_mono (ha hc ey F p) (λvs s1 hv=>?_) λU U x=>x.elim)
 have hr:=hv.2
 refine⟨by refine af hr.length▸?_;exact aA hl bh,?_⟩
 refine aw (Res.newList (iE hv.1.2) hl hr (tk:=s1.toks)) λk1 r1=>⟨hv.1.trans ⟨hv.1.2.kp (ei k1),hv.1.2.keep hv.1.2.tk (ei k1)⟩,r1⟩) λU U h=>by subst h;rfl
theorem vP(ha:ah C X H A a):ah C X H A (.tup a k p):=bF (λhc he F=>by
 refine ai (Option.bind_eq_some_iff.mp he) λy ey e=>ai (cF e) λds q53 e=>?_
 clear he
 subst q53
 obtain⟨hl,e⟩:=bE e
 obtain rfl:=so e
 refine wpAny_Tuple (wpAny_mono (ha hc ey F p) (λvs s1 hv=>?_) λU U x=>x.elim)
 have hr:=hv.2
 refine⟨by refine af hr.length▸?_;exact aA hl bh,?_⟩
 refine aw (Res.newTuple (iE hv.1.2) hl hr (tk:=s1.toks)) λk1 r1=>⟨hv.1.trans ⟨hv.1.2.kp (ei k1),hv.1.2.keep hv.1.2.tk (ei k1)⟩,r1⟩) λU U h=>by subst h;rfl
theorem xR{x y:D}(h:eJ x y=some d):y.flat=true:=bi h λi hy U=>by rw[D.gI_eq hy];rfl
theorem vQ(ha:ah C X H A a)(hi:ah C X H A i):ah C X H A (.sub a i p):=bF (λhc he F=>by
 refine ai (Option.bind_eq_some_iff.mp he) λx e1 e=>ai (Option.bind_eq_some_iff.mp e) λy e2 e=>?_
 have h2:=ag hc
 refine Subscript_ (wm (ja ha (ae h2) e1 F) λvv s1 hv=>aQ (hi (ag h2) e2 (F.keep hv.1.1 hv.1.2)).1 λu s2 hs hu=>?_)
 refine aB hv.1.2.tab λps ht=>dB (hv.1.trans hs) (sub_ok (by simpa using ae hc) e (j9 ht hs.1 hv.2) (Rep.flat_any (xR e) hu))) λU U h=>by subst h;rfl
theorem od{z:D}(h:dR n z=some k\/dS n z=some k):z.flat=true:=by
 cases z<;>first|rfl|(rcases h with h|h<;>exact no h)
theorem sD(ha:ah C X H A a){y:D}(hp:a.part=true)(hc:a.ok Γ env.scope.names=true)(he:ev H a.er true ρ=some y)(F:Fm C X env Γ mB mo ρ s):
 wpAny (model C.prog C.w) A (evalPart a.tx env) (ie C X mB mo true s y) F0 s:=by
 cases a with
 |no=>
  obtain rfl:=so he
  exact aC ⟨dj F,rfl⟩
 |yes a=>
  exact(ha hc he F _ rfl).1
 |tt=>(injection hp;done)
 |emp=>(injection hp;done)
theorem n9{Q:Value->Shared->Prop}(h:wpAny (model C.prog C.w) A t (ie C X mB mo pk s d) F0 s)(k:∀v s1,St' C mB mo s s1->Rep X s1.heap (aJ mB mo pk) d v->Q v s1):wpAny (model C.prog C.w) A t Q F0 s:=
 wm h λv s1 hv=>k v s1 hv.1 hv.2
theorem tR{x y z:D}(h:bI x y z=some d):y.flat=true/\z.flat=true:=by
 cases x<;>first|exact no h|exact bi h λn1 g1 e=>mi e λn2 g2 U=>⟨od (.inl g1),od (.inr g2)⟩
theorem rK{lo hi:AE .O}(ha:ah C X H A a)(hlo:ah C X H A lo)(hhi:ah C X H A hi):ah C X H A (.slice a lo hi q p):=bF (λ{pk Γ ρ d env mB mo s} hc he F=>by
 refine av λGG kk=>ai (Option.bind_eq_some_iff.mp he) λx e1 e=>ai (Option.bind_eq_some_iff.mp e) λy e2 e=>ai (Option.bind_eq_some_iff.mp e) λz e3 e=>?_
 have h2:=ag hc
 have h3:=ag h2
 have h4:=ag h3
 refine kk ?_;clear kk
 refine Subscript_ (wm (ja ha (ae h3) e1 F) λvv s1 hv=>?_)
 have F1:=F.keep hv.1.1 hv.1.2
 refine wpAny_Slice (n9 (sD hlo (ae hc) (ae h4) e2 F1) λvl s2 hs2 hl=>n9 (sD hhi (ae h2) (ag h4) e3 (F1.keep hs2.1 hs2.2)) λvu s3 hs3 hu=>?_)
 refine aC ?_
 have k4:=ki s3 {cls:=.type "slice",data:=.fields #[vl,vu,.none]}
 have st4:St' C mB mo s3 {s3 with heap:=s3.heap.push {cls:=.type "slice",data:=.fields #[vl,vu,.none]}}:=⟨hs3.2.kp (ei k4),hs3.2.keep hs3.2.tk (ei k4)⟩
 refine aB hv.1.2.tab λps ht=>?_
 have st13:=hs2.trans (hs3.trans st4)
 refine aw (tR e) λf1 f2=>?_
 exact dB (hv.1.trans st13) (slice_ok (iE st4.2) e (j9 ht st13.1 hv.2) (Rep.flat_any f1 hl) (Rep.flat_any f2 hu) ⟨_,bz _ rfl,rfl,rfl⟩)) λU U h=>by subst h;rfl
theorem nM{x:D}{t:List Nat}(h:fG (x::r)=some t):∃a t',x=.str a/\fG r=some t'/\a.length+t'.length<=4096/\t=a++t':=bi h λa hx h=>bi h λt' h1 h=>cd h λh2 e=>⟨a,t',D.gS_eq hx,h1,h2,(so e).symm⟩
theorem tK{s₁ s₂:Str}{k k':Nat}{q' q'':Pos}(ha:ah C X H A a):ah C X H A (.fstr l s₁ k q a q' l' s₂ k' q'' p):=bF (λ{pk Γ ρ d env mB mo s} hc he F=>by
 refine av λGG kk=>ai (Option.bind_eq_some_iff.mp he) λy ey e=>bv (gU ey) λx1 ds1 q8 f1 g1=>?_
 subst q8
 obtain rfl:=so f1
 refine bv (gU g1) λx2 ds2 e2 f2 g2=>kk ?_;clear kk
 cases e2
 refine bv (gU g2) λx3 ds3 e3 f3 g3=>?_
 cases e3;obtain rfl:=so f3;(injection g3 with g3;injection g3 with g3;subst g3)
 refine ai (Option.map_eq_some_iff.mp e) λt ht q27=>?_
 subst q27
 refine bY (nM ht) λa1 t1 e1 ht1 hl1 q33=>?_
 subst q33
 cases e1
 refine bY (nM ht1) λa2 t2 q38 ht2 hl2 q39=>?_
 subst q38
 subst q39
 refine bY (nM ht2) λa3 t3 e3 ht3 hl3 q42=>?_
 subst q42
 cases e3;obtain rfl:=so ht3
 have h2:=ag hc
 simp only[List.length_append,List.length_nil] at hl1 hl2 hl3
 have str:∀{m:List Nat} {u:Str} {kk:Nat} {pp:Pos} {s1:Shared} {Q:Value->Shared->Prop},iC (.str m) (.str u)=true->St' C mB mo s s1->(∀t s2,St' C mB mo s s2->Q (.str ⟨m.toArray⟩ t) s2)->wpAny (model C.prog C.w) A (eval (.Constant (.str u) kk pp) env) Q F0 s1:=λ{m u kk pp s1 Q} hi st hQ=>by
  obtain rfl:=mX (ae hi)
  exact Calls.Constant_str (hQ _ _ (st.toks 1))
 have ln:∀{m n:List Nat},m.length+n.length<=4096->((⟨m.toArray⟩:Str)++⟨n.toArray⟩).length<=sizeLine:=λh=>by simp only[cG,cK,List.length_append];exact aA h bh
 refine wpAny_JoinedStr (str (ae hc) (dj F) λu1 s1 st1=>⟨_,_,rfl,ln (m:=[]) (by simp;exact Nat.le_of_add_right_le hl1),?_⟩)
 rw[show(Str.empty++(⟨l.toArray⟩:Str))=⟨l.toArray⟩ from by rw[show Str.empty=⟨([]:List Nat).toArray⟩ from rfl,cG];rfl]
 refine wpAny_FormattedValue_plain (aQ (ha (ag h2) f2 (F.keep st1.1 st1.2)).1 λv s2 st2 hv=>?_)
 obtain⟨hn,t',rfl⟩:=hv
 have st12:=st1.trans st2
 have tail:∀s3,St' C mB mo s s3->Joins (model C.prog C.w) A F0 (evalEach [.Constant (.str s₂) k' q''] env) ((⟨l.toArray⟩:Str)++⟨a2.toArray⟩) (λx s'=>x.length<=sizeLine/\ie C X mB mo pk s (.str (l++(a2++(l'++[])))) (.str x s'.toks) {s' with toks:=s'.toks+1}) s3:=λs3 st3=>by
  refine str (ae h2) st3 λu3 s4 st4=>⟨_,_,rfl,?_,?_⟩
  ·rw[cG,cG,cK];simp only[List.length_append];exact aA (show _<=4096 by exact le_of_eq_of_le (Nat.add_assoc ..) hl1) bh
  ·rw[cG,cG]
   refine⟨by rw[cK];simp only[List.length_append];exact aA (show _<=4096 by exact le_of_eq_of_le (Nat.add_assoc ..) hl1) bh,st4.toks 1,?_⟩
   rw[List.append_assoc,List.append_nil]
   exact bZ (by simp only[List.length_append];exact hl1)
 exact wpAny_formatField_str ⟨_,_,rfl,ln (aA (Nat.add_le_add_left (Nat.le_add_right _ _) _) hl1),tail _ st12⟩ ⟨_,_,rfl,ln (aA (Nat.add_le_add_left (Nat.le_add_right _ _) _) hl1),tail _ (st12.toks 1)⟩ (aA hn bh)) λU U h=>by subst h;rfl
end
theorem kP{f:Str->NameKind->NameKind}:∀{l:List (Str×NameKind)} {n:Str},(l.map λ(n,k)=>(n,f n k)).lookup n=(l.lookup n).map (f n)
 |[],_=>rfl
 |(m,k)::r,n=>by
  show List.lookup n ((m,f m k)::_)=_
  simp only[List.lookup_cons]
  induction e:n==m with
  |true=>refine af (beq_iff_eq.mp e)▸?_;rfl
  |false=>exact kP
theorem rR(l ns:List (Str×NameKind)):cg l ns=l.map λ(n,k)=>(n,if (k==.free&&ns.lookup n==some .cell) then .cell else k):=by
 apply List.map_congr_left
 rintro⟨n,k⟩ _
 show(if _ then _ else _)=(n,if _ then _ else _)
 split<;>simp_all
theorem fQ{env:Env}(hk:env.scope.kind=.function):(relabel scope env).names=cg scope.names env.scope.names:=by
 apply List.map_congr_left
 rintro⟨n,k⟩ _
 simp[hk,Env.kindOf]
theorem lX:(cg l ns).lookup n=(l.lookup n).map λk=>if (k==.free&&ns.lookup n==some .cell) then .cell else k:=by
 simp only[rR]
 exact kP (f:=λn k=>if (k==.free&&ns.lookup n==some .cell) then .cell else k)
noncomputable def clo(env:Env)(p:Str×NameKind)(acc:List (Str×Addr)):List (Str×Addr):=if p.2==.free then (env.cells.lookup p.1).elim acc λc=>(p.1,c)::acc else acc
theorem xc(env:Env)(p:Str×NameKind)(acc:List (Str×Addr)):clo env p acc=acc\/∃c,p.2=.free/\env.cells.lookup p.1=some c/\clo env p acc=(p.1,c)::acc:=by
 unfold clo
 induction hk:p.2==.free with
 |false=>exact .inl rfl
 |true=>
  induction env.cells.lookup p.1 with
  |none=>exact .inl rfl
  |some c=>exact .inr ⟨c,eq_of_beq hk,rfl,rfl⟩
theorem rf{acc:List (Str×Addr)}(h:env.cells.lookup n=some c):clo env (n,.free) acc=(n,c)::acc:=by
 show(env.cells.lookup n).elim acc _=_
 rw[h];rfl
noncomputable def bT(env:Env):List (Str×NameKind)->List (Str×Addr)->List (Str×Addr)
 |[],acc=>acc
 |p::r,acc=>bT env r (clo env p acc)
theorem oR(env:Env):∀(l:List (Str×NameKind)) (acc:List (Str×Addr)),(∀n,(n,NameKind.free)∈l->∃c,env.cells.lookup n=some c)->
 (forIn l acc λx r=>match x with
  |(name,kind)=>if (kind==NameKind.free)=true then (do let c<-cellOf env name;pure (ForInStep.yield ((name,c)::r))) else pure (ForInStep.yield r):Sem (List (Str×Addr)))=pure (bT env l acc)
 |[],acc,_=>rfl
 |(n,k)::r,acc,h=>by
  have e:(if (k==NameKind.free)=true then (do let c<-cellOf env n;pure (ForInStep.yield ((n,c)::acc))) else pure (ForInStep.yield acc):Sem (ForInStep (List (Str×Addr))))=pure (ForInStep.yield (clo env (n,k) acc)):=by
   induction hk:k==NameKind.free with
   |false=>rw[show clo env (n,k) acc=acc from if_neg (by rw[hk];exact Bool.false_ne_true)];rfl
   |true=>
    obtain rfl:=eq_of_beq hk
    refine aB (h n (.head _)) λc hc=>?_
    rw[rf hc,if_pos rfl,show cellOf env n=pure c by unfold cellOf;rw[hc]];rfl
  rw[List.forIn_cons]
  show(if (k==NameKind.free)=true then (do let c<-cellOf env n;pure (ForInStep.yield ((n,c)::acc))) else pure (ForInStep.yield acc):Sem (ForInStep (List (Str×Addr))))>>=_=_
  rw[e]
  exact oR env r _ λm hm=>h m (.tail _ hm)
theorem B6{env:Env}(h:∀n,(n,NameKind.free)∈scope.names->∃c,env.cells.lookup n=some c):closureFor scope env=pure (bT env scope.names []):=by
 unfold closureFor
 have:=oR env scope.names [] h
 simpa using this
theorem B7{P:Str×Addr->Prop}(h:∀q∈acc,P q)(h2:∀c,p.2=.free->env.cells.lookup p.1=some c->P (p.1,c)):∀q∈clo env p acc,P q:=by
 rcases xc env p acc with e|⟨c,hf,hc,e⟩<;>rw[e]
 ·exact h
 ·exact List.forall_mem_cons.mpr ⟨h2 c hf hc,h⟩
theorem rd{P:Str×Addr->Prop}:∀{l:List (Str×NameKind)} {acc:List (Str×Addr)},(∀q∈acc,P q)->(∀p∈l,∀c,p.2=.free->env.cells.lookup p.1=some c->P (p.1,c))->∀q∈bT env l acc,P q
 |[],_,h,_=>h
 |p::r,acc,h,h2=>rd (l:=r) (acc:=clo env p acc) (B7 h (h2 _ (.head _))) λp hp=>h2 p (.tail _ hp)
theorem ra(env:Env)(l:List (Str×NameKind))(acc:List (Str×Addr))(h:∀p∈acc,env.cells.lookup p.1=some p.2):∀p∈bT env l acc,env.cells.lookup p.1=some p.2:=rd h λU U U U h=>h
theorem oS(env:Env):∀(l:List (Str×NameKind)) (acc:List (Str×Addr)),∀p∈acc,p∈bT env l acc
 |[],_,_,hp=>hp
 |q::r,acc,p,hp=>oS env r _ p (by rcases xc env q acc with e|⟨c,_,_,e⟩<;>rw[e];exact hp;exact .tail _ hp)
theorem rb(env:Env):∀(l:List (Str×NameKind)) (acc:List (Str×Addr)) (n:Str) (c:Addr),(n,NameKind.free)∈l->env.cells.lookup n=some c->(n,c)∈bT env l acc
 |[],_,_,_,h,_=>nomatch h
 |q::r,acc,n,c,h,hc=>(List.mem_cons.mp h).elim (λe=>oS env r _ _ (by rw[<-e,rf hc];exact .head _)) λh=>rb env r _ n c h hc
theorem ph{α:Type}{l:List (Str×α)}{c:α}(h:(n,c)∈l)(hu:∀c',(n,c')∈l->c'=c):l.lookup n=some c:=by
 induction l with
 |nil=>cases h
 |cons p r ih=>
  obtain⟨m,k⟩:=p
  simp only[List.lookup_cons]
  induction e:n==m with
  |true=>
   refine av λGG kk=>?_
   have:=beq_iff_eq.mp e
   subst this
   refine kk ?_;clear kk
   simp only[hu k (.head _)]
  |false=>
   rcases List.mem_cons.mp h with e'|h
   ·cases e';simp at e
   ·exact ih h λc' hc'=>hu c' (.tail _ hc')
theorem rY{l:List (Str×NameKind)}{c:Addr}(h:(n,NameKind.free)∈l)(hc:env.cells.lookup n=some c):(bT env l []).lookup n=some c:=
 ph (rb env l [] n c h hc) λc' hc'=>by
  have:=ra env l [] (by simp) _ hc'
  replace this:=hc.symm.trans this;refine(so this)▸?_;rfl
theorem cu:∀(names:List (Str×NameKind)) (n:Nat) (acc:List (Str×Addr)),cellsFrom n names acc=cellsFrom n names []++acc
 |[],_,_=>rfl
 |(name,kind)::r,n,acc=>by
  show(if _ then _ else _)=(if _ then _ else _)++acc
  split
  ·rw[cu r (n+1) ((name,n)::acc),cu r (n+1) [(name,n)],List.append_assoc];rfl
  ·exact cu r n acc
set_option tactic.hygienic true in
theorem cellsFrom_names:∀(names:List (Str×NameKind)) (n:Nat) (p:Str×Addr),p∈cellsFrom n names []->(p.1,NameKind.cell)∈names
 |[],_,p,h=>by cases h
 |(name,kind)::r,n,p,h=>by
  unfold cellsFrom at h
  split at h
  ·rename_i hk
   refine af (of_decide_eq_true hk)▸?_
   rw[cu] at h
   rcases List.mem_append.mp h with h|h
   ·exact .tail _ (cellsFrom_names r (n+1) p h)
   ·refine af (List.mem_singleton.mp h)▸?_;exact .head _
  ·exact .tail _ (cellsFrom_names r n p h)
theorem d9:∀(names:List (Str×NameKind)) (n:Nat) (x:Str),(x,NameKind.cell)∈names->∃c,(x,c)∈cellsFrom n names []
 |[],_,x,h=>by cases h
 |(name,kind)::r,n,x,h=>by
  unfold cellsFrom
  rcases List.mem_cons.mp h with e|h
  ·cases e
   rw[cu]
   exact⟨n,List.mem_append_right _ (.head _)⟩
  ·split
   ·rw[cu]
    refine aB (d9 r (n+1) x h) λc hc=>⟨c,List.mem_append_left _ hc⟩
   ·exact d9 r n x h
theorem uD{Γ Γ':List Str}(h:(Γ++Γ').idxOf? x=some k):(Γ.idxOf? x=some k/\k<Γ.length)\/(x ∉ Γ/\Γ.length<=k/\Γ'.idxOf? x=some (k-Γ.length)):=by
 have h':(Γ++Γ').findIdx? (· ==x)=some k:=h
 replace h':=(List.findIdx?_append)▸h'
 induction e:Γ.findIdx? (· ==x) with
 |some j=>
  replace h':=e▸h'
  replace h':some j=some k:=h'
  refine(so h')▸?_
  exact .inl ⟨e,(List.findIdx?_eq_some_iff_getElem.mp e).1⟩
 |none=>
  replace h':=e▸h'
  refine mi h' λj hj q24=>q24▸?_
  refine .inr ⟨λhm=>?_,by exact Nat.le_add_left _ _,?_⟩
  ·have:=List.findIdx?_eq_none_iff.mp e x hm
   simp at this
  ·show Γ'.findIdx? _=_
   refine af hj▸?_;congr 1;exact Nat.eq_sub_of_add_eq rfl
section
structure vb(sc:Scope)(ts Γ:List Str)(ns:List (Str×NameKind)):Prop where
 kind:sc.kind=.function
 loc:∀n,(n,NameKind.local)∈sc.names->sc.names.lookup n=some .local/\(n∈ts\/n ∉ Γ)
 free:∀n,(n,NameKind.free)∈sc.names->(ns.lookup n=some .cell\/ns.lookup n=some .free)/\sc.names.lookup n=some .free/\n ∉ ts
 cell:∀n,(n,NameKind.cell)∈sc.names->n∈ts/\sc.names.lookup n=some .cell
 tgt:∀t∈ts,sc.names.lookup t=some .local\/sc.names.lookup t=some .cell
theorem CO(h:j8 sc ts Γ ns=true):vb sc ts Γ ns:=by
 unfold j8 at h
 simp only[Bool.and_eq_true,beq_iff_eq,List.all_eq_true,Bool.or_eq_true] at h
 refine aw h λq23 h3=>aw q23 λh1 h2=>⟨h1,λn hn=>?_,λn hn=>?_,λn hn=>?_,h3⟩
 ·have:=h2 _ hn
  simpa using this
 ·have:=h2 _ hn
  simp only[Bool.and_eq_true,Bool.or_eq_true,beq_iff_eq,Bool.not_eq_true'] at this
  exact(a6 this.1.1 this.1.2 (by simpa using this.2))
 ·have:=h2 _ hn
  simpa using this
theorem u7(h:gW ns x=true):ns.lookup x=some .local\/ns.lookup x=some .cell\/ns.lookup x=some .free:=by
 revert h
 show(match ns.lookup x with|some .local|some .cell|some .free=>true|_=>false)=true->_
 generalize ns.lookup x=o
 rcases o with _|k
 ·exact λh=>(Bool.false_ne_true h).elim
 ·induction k<;>first|exact λU=>.inl rfl|exact λU=>.inr (.inl rfl)|exact λU=>.inr (.inr rfl)|exact λh=>(Bool.false_ne_true h).elim
theorem uR(F:Fm C X env Γ mB mo ρ s)(S:vb sc ts Γ env.scope.names)
 (hQ:∀D s' aK,D.scope=relabel sc env->D.scope.names=cg sc.names env.scope.names->Fm C X D (ts++Γ) mB aK (aY ts.length++ρ.map Sl.inn) s'->Keeps s s'->(∀a,aK a->mo a\/s.heap.get? a=none)->(∀a,mo a->aK a)->
  ∀cenv,D={cenv with scope:=relabel sc env}->D.locals=cenv.locals->aK D.locals->s.heap.get? D.locals=none->(∀x c,x∈ts->D.kindOf x=some .cell->D.cells.lookup x=some c->s.heap.get? c=none)->(∀x∈ts,eg D.scope.names x=true)->Q cenv s'):
 wpAny M A (newFunctionEnv sc env.globals (bT env sc.names []) [] env.qual none .none (some env)) Q E s:=by
 refine aj (wpAny_alloc (o:={cls:=.type "dict",data:=.dict #[]}) ?_)
 refine aj (wpAny_layCells _ (λU U U=>rfl) _ _ _ _ ?_)
 refine aj (aC (aC ?_))
 refine af (show({s with heap:=s.heap.push {cls:=.type "dict",data:=.dict #[]}}:Shared).heap.objs.size=s.heap.objs.size+1 from Heap.size_push ..)▸?_
 have ok:=cellsFrom_ok sc.names (s.heap.push {cls:=.type "dict",data:=.dict #[]}) (s.heap.objs.size+1) [] ⟨λU U hm=>(nomatch hm),List.Pairwise.nil⟩ (by simp only[Heap.size_push];exact Nat.le_refl _)
 rw[Heap.size_push] at ok
 have kh:∀b o,s.heap.get? b=some o->(pushCells (s.heap.push {cls:=.type "dict",data:=.dict #[]}) sc.names).get? b=some o:=λb o e=>pushCells_keeps _ _ b o (aX _ e)
 have hC:(pushCells (s.heap.push {cls:=.type "dict",data:=.dict #[]}) sc.names).Ns s.heap.objs.size (λU=>none):=(Heap.Ns.new s.heap (.type "dict")).keeps (pushCells_keeps _ _)
 generalize pushCells (s.heap.push {cls:=.type "dict",data:=.dict #[]}) sc.names=H at ok kh hC ⊢
 have hcl:=ra env sc.names [] (by simp)
 have how:=cellsFrom_names sc.names (s.heap.objs.size+1)
 rw[cu]
 generalize hown:cellsFrom (s.heap.objs.size+1) sc.names []=own at ok how ⊢
 have hhas:=λx hx=>hown▸d9 sc.names _ x hx
 have own_fresh:=λn c h=>Heap.get?_none_of_le (Nat.le_of_succ_le ((ok.empty n c h).2))
 have look:∀x c,(own++bT env sc.names []).lookup x=some c->(x,c)∈own\/(x ∉ own.map (·.1)/\(x,c)∈bT env sc.names []):=λx c h=>by
  rw[List.lookup_append] at h
  induction e:own.lookup x with
  |some c'=>
   rw[e] at h
   replace h:some c'=some c:=h
   refine(so h)▸?_
   exact .inl (mem_of_lookup e)
  |none=>
   rw[e] at h
   replace h:(bT env sc.names []).lookup x=some c:=h
   refine .inr ⟨λhm=>?_,mem_of_lookup h⟩
   refine ai (List.mem_map.mp hm) λq1 hp hy=>?_
   obtain⟨y,c'⟩:=q1
   replace hy:y=x:=hy
   subst hy
   rw[List.lookup_eq_none_iff] at e
   have:=e _ hp
   simp at this
 have lookO:∀x,(x,NameKind.cell)∈sc.names->∃c,(own++bT env sc.names []).lookup x=some c/\(x,c)∈own:=λx hx=>by
  refine aB (hhas x hx) λc hc=>?_
  rw[List.lookup_append]
  cases e:own.lookup x with
  |some c'=>exact(am c' rfl (mem_of_lookup e))
  |none=>
   rw[List.lookup_eq_none_iff] at e
   have:=e _ hc
   simp at this
 have lookF:∀x c,(x,NameKind.free)∈sc.names->env.cells.lookup x=some c->(own++bT env sc.names []).lookup x=some c:=λx c hx hc=>by
  rw[List.lookup_append]
  have hn:own.lookup x=none:=by
   rw[List.lookup_eq_none_iff]
   rintro⟨y,c'⟩ hp
   simp only[bne_iff_ne,ne_eq,beq_eq_false_iff_ne]
   rintro rfl
   exact(S.free _ hx).2.2 (S.cell _ (how _ hp)).1
  refine af hn▸?_
  exact rY hx hc
 have hlast:∀a,(a=s.heap.objs.size\/∃n,(n,a)∈own)->s.heap.get? a=none:=λa h=>by
  rcases h with rfl|⟨n,h⟩
  ·exact aI _
  ·exact own_fresh n a h
 have hex:∀a,(a=s.heap.objs.size\/∃n,(n,a)∈own)->∃o,H.get? a=some o:=λa h=>by
  rcases h with rfl|⟨n,h⟩
  ·refine qT hC λo U U ho U=>?_;exact⟨o,ho⟩
  ·obtain⟨⟨o,ho,_⟩,_⟩:=ok.empty n a h;exact⟨o,ho⟩
 have ok':Ok C (λa=>mB a\/(mo a\/a=s.heap.objs.size\/∃n,(n,a)∈own)) {s with heap:=H}:=F.ok.more (s':={s with heap:=H}) kh (λa h=>by
  rcases h with h|h|h
  ·refine av λGG kk=>?_
   obtain⟨o,e⟩:=(F.ok.mtx a (.inl h)).2.2
   refine kk ?_;clear kk
   exact⟨.inl (.inl h),o,kh a o e⟩
  ·refine aB ((F.ok.mtx a (.inr h)).2.2) λo e=>?_
   exact⟨.inl (.inr h),o,kh a o e⟩
  ·exact⟨.inr (hlast a h),hex a h⟩) F.ok.bare rfl F.ok.tk
 have kD:∀x k',(relabel sc env).names.lookup x=some k'->∃k,sc.names.lookup x=some k/\((k=.free/\env.scope.names.lookup x=some .cell/\k'=.cell)\/(¬(k=.free/\env.scope.names.lookup x=some .cell)/\k'=k)):=λx k' h=>by
  rw[(fQ F.kind),lX] at h
  refine mi h λk hk e=>(am k hk ?_)
  by_cases hc:k=.free/\env.scope.names.lookup x=some .cell
  ·rw[if_pos (by simp[hc.1,hc.2])] at e
   exact .inl ⟨hc.1,hc.2,e.symm⟩
  ·rw[if_neg (by simpa using hc)] at e
   exact .inr ⟨hc,e.symm⟩
 have nB:∀a,(a=s.heap.objs.size\/∃n,(n,a)∈own)->¬mB a:=λa h hb=>by
  obtain⟨o,e⟩:=(F.ok.mtx a (.inl hb)).2.2
  rw[hlast a h] at e;exact no e
 have kcell:∀c v,s.heap.IsCell c v->H.IsCell c v:=λc v z22=>ai z22 λo h1 h2=>(am o (kh c o h1) h2)
 have outer:∀x,gW (relabel sc env).names x=true->x ∉ ts->x∈Γ->(x,NameKind.free)∈sc.names/\(env.kindOf x=some .cell\/env.kindOf x=some .free)/\
  ∃c,env.cells.lookup x=some c/\(own++bT env sc.names []).lookup x=some c/\((relabel sc env).names.lookup x=some .cell\/(relabel sc env).names.lookup x=some .free):=λx hx ht hg=>by
  have hx:=u7 hx
  have fr:sc.names.lookup x=some .free->((relabel sc env).names.lookup x=some .cell\/(relabel sc env).names.lookup x=some .free)->(x,NameKind.free)∈sc.names/\(env.kindOf x=some .cell\/env.kindOf x=some .free)/\
   ∃c,env.cells.lookup x=some c/\(own++bT env sc.names []).lookup x=some c/\((relabel sc env).names.lookup x=some .cell\/(relabel sc env).names.lookup x=some .free):=λh h2=>by
   have hm:=mem_of_lookup h
   have hk:=(S.free x hm).1
   refine aB (F.hasC x hk) λc hc=>⟨hm,hk,c,hc,lookF x c hm hc,h2⟩
  rcases hx with h|h|h
  ·refine av λGG kk=>?_
   obtain⟨k,h1,⟨_,_,h2⟩|⟨_,h2⟩⟩:=kD x _ h
   refine kk ?_;clear kk
   ·(injection h2;done)
   ·subst h2
    rcases(S.loc x (mem_of_lookup h1)).2 with h3|h3
    ·exact absurd h3 ht
    ·exact absurd hg h3
  ·obtain⟨k,h1,⟨rfl,_,_⟩|⟨_,h2⟩⟩:=kD x _ h
   ·exact fr h1 (.inl h)
   ·subst h2
    exact absurd (S.cell x (mem_of_lookup h1)).1 ht
  ·obtain⟨k,h1,⟨_,_,h2⟩|⟨_,h2⟩⟩:=kD x _ h
   ·(injection h2;done)
   ·subst h2;exact fr h1 (.inr h)
 have slot:∀k x sl,(ts++Γ).idxOf? x=some k->(aY ts.length++ρ.map Sl.inn)[k]? =some sl->sl≠.un->x ∉ ts/\Γ.idxOf? x=some (k-ts.length)/\ts.length<=k/\ρ[k-ts.length]? =some sl/\∀j,sl≠.ap j:=λk x sl h1 h2 h3=>by
  rcases uD h1 with ⟨_,hlt⟩|⟨a1,a2,a3⟩
  ·exfalso
   rw[List.getElem?_append_left (by simp[aY];exact hlt)] at h2
   rw[show aY ts.length=List.replicate ts.length .un from rfl,List.getElem?_replicate,if_pos hlt] at h2
   obtain rfl:=so h2;exact h3 rfl
  ·rw[List.getElem?_append_right (by simp[aY];exact a2),List.getElem?_map] at h2
   rw[show(aY ts.length).length=ts.length by simp[aY]] at h2
   refine mi h2 λs0 e1 e2=>?_
   have:sl=s0/\∀j,sl≠.ap j:=by
    induction s0<;>first|(refine⟨e2.symm,λj e=>?_⟩;rw[e] at e2;(injection e2;done))|(exfalso;exact h3 e2.symm)
   refine(Dn a1 a3 a2 ?_ this.2)
   rw[this.1];exact e1
 have hin:∀{x k},Γ.idxOf? x=some k->x∈Γ:=λ{x k} h=>by
  refine ai (List.findIdx?_eq_some_iff_getElem.mp (show Γ.findIdx? (· ==x)=some k from h)) λh1 h2 U=>?_
  rw[beq_iff_eq] at h2
  refine h2▸?_;exact List.getElem_mem h1
 refine hQ {scope:=relabel sc env,locals:=s.heap.objs.size,globals:=env.globals,cells:=own++bT env sc.names [],qual:=env.qual,func:=none,code:=env.code,frame:=env.frame,builtins:=env.builtins}
  _ (λa=>mo a\/a=s.heap.objs.size\/∃n,(n,a)∈own) rfl (fQ F.kind) ?_ ⟨H,s.toks,rfl,kh⟩ (λa h=>h.imp id (hlast a)) (λa=>.inl) _ rfl rfl (.inr (.inl rfl)) (aI _) ?_ ?_
 case refine_1=>exact {
  ok:=ok'
  kind:=S.kind
  glob:=F.glob
  bi:=F.bi
  ns:=⟨_,hC⟩
  mutL:=.inr (.inl rfl)
  apartB:=λa h=>by
   rcases h with h|h
   ·exact F.apartB a h
   ·exact nB a h
  cells:=λx c h1 h2=>by
   obtain⟨k,h3,⟨rfl,h4,_⟩|⟨_,h4⟩⟩:=kD x _ h1
   ·refine av λGG kk=>?_
    have hm:=mem_of_lookup h3
    refine aB (F.hasC x (.inl h4)) λc' hc'=>?_
    have:=lookF x c' hm hc'
    rw[show(own++bT env sc.names []).lookup x=some c from h2] at this
    obtain rfl:=so this
    obtain⟨a1,v,a2⟩:=F.cells x c h4 hc'
    refine kk ?_;clear kk
    exact⟨.inl a1,v,kcell c v a2⟩
   ·subst h4
    refine ai (lookO x (mem_of_lookup h3)) λc' hc' hm=>?_
    rw[show(own++bT env sc.names []).lookup x=some c from h2] at hc'
    obtain rfl:=so hc'
    exact⟨.inr (.inr ⟨x,hm⟩),none,(ok.empty x c hm).1⟩
  cellB:=λx c h=>by
   rcases look x c h with h|⟨_,h⟩
   ·exact nB c (.inr ⟨x,h⟩)
   ·exact F.cellB x c (hcl _ h)
  cellE:=λx c h=>by
   rcases look x c h with h|⟨_,h⟩
   ·exact⟨none,(ok.empty x c h).1⟩
   ·obtain⟨v,hv⟩:=F.cellE x c (hcl _ h)
    exact⟨v,kcell c v hv⟩
  hasC:=λx h=>by
   rcases h with h|h
   ·obtain⟨k,h3,⟨rfl,h4,_⟩|⟨_,h4⟩⟩:=kD x _ h
    ·obtain⟨c',hc'⟩:=F.hasC x (.inl h4)
     exact⟨c',lookF x c' (mem_of_lookup h3) hc'⟩
    ·subst h4
     refine ai (lookO x (mem_of_lookup h3)) λc hc U=>⟨c,hc⟩
   ·obtain⟨k,h3,⟨_,_,h4⟩|⟨_,h4⟩⟩:=kD x _ h
    ·(injection h4;done)
    ·subst h4
     have hm:=mem_of_lookup h3
     obtain⟨c',hc'⟩:=F.hasC x (S.free x hm).1
     exact⟨c',lookF x c' hm hc'⟩
  inj:=λx y c h1 h2=>by
   rcases look x c h1 with h1|⟨_,h1⟩<;>rcases look y c h2 with h2|⟨_,h2⟩
   ·exact name_of_addr ok.apart h1 h2
   ·exfalso
    obtain⟨v,o,e,_⟩:=F.cellE y c (hcl _ h2)
    rw[own_fresh x c h1] at e;exact no e
   ·exfalso
    obtain⟨v,o,e,_⟩:=F.cellE x c (hcl _ h1)
    rw[own_fresh y c h2] at e;exact no e
   ·exact F.inj x y c (hcl _ h1) (hcl _ h2)
  slots:=λk x sl h1 h2 h3 h4=>by
   refine av λGG kk=>?_
   refine iw (slot k x sl h1 h2 h3) λa1 a2 a3 a4 a5=>?_
   obtain⟨b1,b2,c,b3,b4,b5⟩:=outer x h4 a1 (hin a2)
   refine ai (F.slots _ x sl a2 a4 h3 (kH (.inr b2))) λv hv hr=>kk ?_;clear kk
   refine(am v ?_ ?_)
   ·rcases hv with ⟨q,_⟩|⟨_,c',q,i⟩
    ·rcases b2 with b2|b2<;>(replace q:=b2▸q;exact nomatch q)
    ·rw[b3] at q;obtain rfl:=so q
     exact .inr ⟨b5,c,b4,kcell c _ i⟩
   ·have kk:∀b o,¬aJ mB mo false b->s.heap.get? b=some o->H.get? b=some o:=λb o U e=>kh b o e
    have ll:∀a,aJ mB (λa=>mo a\/a=s.heap.objs.size\/∃n,(n,a)∈own) false a->aJ mB mo false a\/s.heap.get? a=none:=λa q=>by
     rcases q with q|q|⟨q,m⟩
     ·exact .inl (.inl q)
     ·exact .inl (.inr (.inl q))
     ·rcases m with m|m
      ·exact .inl (.inr (.inr ⟨q,m⟩))
      ·exact .inr (hlast a m)
    cases sl with
    |un=>trivial
    |sh d=>exact Rep.keep kk ll d v hr
    |ow ds=>
     refine bU hr λa vs e hl hm hn rl=>(dD a vs e (hl.at λo=>kh a o) (.inl hm) hn (RepL.keep kk ll ds vs rl))
    |ob bs=>
     refine av λGG kk=>iu hr λa e hl hm hb=>?_
     refine kk ?_;clear kk
     exact⟨a,e,kh _ _ hl,.inl hm,hb⟩
    |ap j=>exact absurd rfl (a5 j)
  apart:=λk1 k2 x y sl1 sl2 a h1 h2 h3 h4 h5 h6 h7 h8=>by
   have u1:sl1≠.un:=by rintro rfl;(injection h5;done)
   have u2:sl2≠.un:=by rintro rfl;(injection h6;done)
   refine iw (slot k1 x sl1 h1 h3 u1) λa1 a2 a3 a4 U=>iw (slot k2 y sl2 h2 h4 u2) λb1 b2 b3 b4 U=>?_
   have back:∀z k sl,z ∉ ts->Γ.idxOf? z=some k->ρ[k]? =some sl->sl≠.un->ValOf {scope:=relabel sc env,locals:=s.heap.objs.size,globals:=env.globals,cells:=own++bT env sc.names [],qual:=env.qual,func:=none,code:=env.code,frame:=env.frame,builtins:=env.builtins} H z (.ref a)->ValOf env s.heap z (.ref a):=λz k sl hz hk hr hu hv=>by
    refine av λGG kk=>?_
    have acc:gW (relabel sc env).names z=true:=by
     have:=kH (hv.imp And.left And.left)
     exact this
    obtain⟨_,c2,c,c3,c4,c5⟩:=outer z acc hz (hin hk)
    refine ai (F.slots k z sl hk hr hu (kH (.inr c2))) λv hv' U=>kk ?_;clear kk
    rcases hv with ⟨q,_⟩|⟨_,c',q,i⟩
    ·exfalso
     rcases c5 with c5|c5<;>(rw[show Env.kindOf _ z=(relabel sc env).names.lookup z from rfl,c5] at q;exact nomatch q)
    ·rw[show List.lookup z (own++bT env sc.names [])=some c from c4] at q;obtain rfl:=so q
     rcases hv' with ⟨q,_⟩|⟨q1,c'',q,i'⟩
     ·rcases c2 with c2|c2<;>(replace q:=c2▸q;exact nomatch q)
     ·rw[c3] at q;obtain rfl:=so q
      have:=di i (kcell c _ i')
      rw[so this]
      exact .inr ⟨c2,c,c3,i'⟩
   have:=F.apart _ _ x y sl1 sl2 a a2 b2 a4 b4 h5 h6 (back x _ sl1 a1 a2 a4 u1 h7) (back y _ sl2 b1 b2 b4 u2 h8)
   exact(Nat.sub_add_cancel a3).symm.trans ((congrArg (· +ts.length) this).trans (Nat.sub_add_cancel b3))}
 case refine_2=>
  intro x c hx hk hc
  obtain⟨k,h3,⟨rfl,_,_⟩|⟨_,h4⟩⟩:=kD x _ hk
  ·exact absurd hx (S.free x (mem_of_lookup h3)).2.2
  ·subst h4
   refine ai (lookO x (mem_of_lookup h3)) λc' hc' hm=>?_
   rw[show(own++bT env sc.names []).lookup x=some c from hc] at hc'
   obtain rfl:=so hc'
   exact own_fresh x c hm
 case refine_3=>
  intro x hx
  unfold eg
  refine af (fQ F.kind)▸?_;refine af lX▸?_
  rcases S.tgt x hx with h|h<;>(rw[h];rfl)
end
noncomputable def cQ:List Nat->List Sl->R->R
 |k::ks,s::ss,ρ=>cQ ks ss ((ρ.map (Sl.kill k)).set k s)
 |_,_,ρ=>ρ
def Bd(X:Addr)(h:Heap)(Av:Addr->Prop)(n:Nat)(d:D)(v:Value):Prop:=
 (n=1/\Rep X h Av d v)\/(n≠1/\∃ds t vs,d=.tuple ds/\ds.length=n/\v=.ref t/\h.IsTuple t (vs:List Value).toArray/\RepL X h Av ds vs)
theorem fA{d:D}(h:bg n d=some bs):(n=1/\bs=[.sh d])\/(n≠1/\∃ds,d=.tuple ds/\ds.length=n/\bs=ds.map .sh):=by
 by_cases hn:n=1
 ·exact .inl ⟨hn,(so ((if_pos hn).symm.trans h)).symm⟩
 ·replace h:=(if_neg hn).symm.trans h
  cases d with
  |tuple ds=>exact .inr ⟨hn,cd h λhl h=>⟨ds,rfl,hl,(so h).symm⟩⟩
  |_=>exact no h
section
theorem Bh(F:Fm C X env Γ mB mo ρ s)(k:Wz env xs s s'){vs:List Value}(r:RepL X s.heap Av ds vs):RepL X s'.heap Av ds vs:=RepL.keepS (λb o U q e=>k b o e (.inr q)) (λU=>.inl) ds vs r
theorem pS{d:D}(F:Fm C X env Γ mB mo ρ s)(hx:Γ.idxOf? x=some k)(hs:eg env.scope.names x=true)(hr:Rep X s.heap (aJ mB mo false) d v):
 wpAny (model prog w) A (assign (.Name x p) env v) (λU s'=>Fm C X env Γ mB mo ((ρ.map (Sl.kill k)).set k (.sh d)) s'/\Wz env [x] s s') E s:=
 wpAny_assign_Name (lb F hx hs hr (by rintro⟨⟩) (λa h=>by(injection h;done)))
theorem nW:∀(xs:List Str) (ps:List Pos) (ks:List Nat) (ds:List D) (vs:List Value) (s:Shared) (ρ:R),Fm C X env Γ mB mo ρ s->xs.length=ks.length->ps.length=xs.length->ds.length=xs.length->
 (∀p∈xs.zip ks,Γ.idxOf? p.1=some p.2/\eg env.scope.names p.1=true)->RepL X s.heap (aJ mB mo false) ds vs->
 wpAny (model prog w) A (assignInOrder ((assignEach ((xs.zip ps).map λp=>.Name p.1 p.2) env).map (·.2)) vs) (λU s'=>Fm C X env Γ mB mo (cQ ks (ds.map .sh) ρ) s'/\Wz env xs s s') E s
 |[],ps,ks,ds,vs,s,ρ,F,h1,h2,h3,hz,hr=>by
  induction ks with
  |nil=>exact assignInOrder_nil ⟨F,λU U e U=>e⟩
  |cons _ _=>exact nomatch h1
 |x::xs,[],ks,ds,vs,s,ρ,F,h1,h2,h3,hz,hr=>nomatch h2
 |x::xs,p::ps,[],ds,vs,s,ρ,F,h1,h2,h3,hz,hr=>nomatch h1
 |x::xs,p::ps,k::ks,[],vs,s,ρ,F,h1,h2,h3,hz,hr=>nomatch h3
 |x::xs,p::ps,k::ks,d::ds,vs,s,ρ,F,h1,h2,h3,hz,hr=>by
  refine bv hr λv vs' q1 r1 r2=>?_
  subst q1
  obtain⟨z1,z2⟩:=hz (x,k) (.head _)
  refine assignInOrder_cons (wm (pS F z1 z2 r1) λU s1 h=>?_)
  refine wm (nW xs ps ks ds vs' s1 _ h.1 (Nat.succ.inj h1) (Nat.succ.inj h2) (Nat.succ.inj h3) (λq hq=>hz q (.tail _ hq)) (Bh F h.2 r2)) λU s2 h'=>⟨h'.1,h.2.trans h'.2⟩
def TgtOf(t:Expr)(ts:List Str):Prop:=(∃x p,t=.Name x p/\ts=[x])\/(ts.Nodup/\ts.length≠1/\∃ps k p,t=.Tuple ((ts.zip ps).map λq=>.Name q.1 q.2) k p/\ps.length=ts.length)
theorem nE:∀{l:List Str},dist l=true->l.Nodup
 |[],_=>List.nodup_nil
 |x::r,h=>List.nodup_cons.mpr ⟨by have:=ae h;simpa using this,nE (ag h)⟩
theorem AT.of{T:AT}(h:T.ok=true):TgtOf T.tx T.names:=by
 induction T with
 |one x p=>exact .inl (bu x p rfl rfl)
 |many xs ps k p=>exact .inr ⟨nE (ag (ag h)),of_decide_eq_true (ae h),ps,k,p,rfl,of_decide_eq_true (ae (ag h))⟩
theorem zc(ts:List Str)(ps:List Pos)(h:ps.length=ts.length):(assignEach ((ts.zip ps).map λq=>.Name q.1 q.2) env).length=ts.length/\(assignEach ((ts.zip ps).map λq=>.Name q.1 q.2) env).findIdx? (·.1)=none:=by
 induction ts generalizing ps with
 |nil=>exact⟨rfl,rfl⟩
 |cons t ts ih=>
  induction ps with
  |nil=>exact nomatch h
  |cons p ps=>
   refine aw (ih ps (Nat.succ.inj h)) λi1 i2=>⟨congrArg (· +1) i1,?_⟩
   show(((false,_):Bool×(Value->Sem Unit))::assignEach ((ts.zip ps).map λq=>.Name q.1 q.2) env).findIdx? (·.1)=none
   rw[List.findIdx?_cons,i2];rfl
theorem jV(hh:A.handled=none){d:D}(ht:TgtOf t ts)(hl:ts.length=ks.length)
 (hz:∀p∈ts.zip ks,Γ.idxOf? p.1=some p.2/\eg env.scope.names p.1=true) (hb:bg ts.length d=some bs) (F:Fm C X env Γ mB mo ρ s) (hv:Bd X s.heap (aJ mB mo false) ts.length d v):
 wpAny (model prog w) A (assign t env v) (λU s'=>Fm C X env Γ mB mo (cQ ks bs ρ) s'/\Wz env ts s s') E s:=by
 rcases ht with ⟨x,p,rfl,rfl⟩|⟨_,h1,ps,k,p,rfl,hps⟩
 ·rcases fA hb with ⟨_,rfl⟩|⟨h,_⟩
  ·rcases hv with ⟨_,hr⟩|⟨h,_⟩
   ·match ks,hl with
    |[k],_=>
     refine aw (hz (x,k) (.head _)) λz1 z2=>pS F z1 z2 hr
   ·exact absurd rfl h
  ·exact absurd rfl h
 ·rcases fA hb with ⟨h,_⟩|⟨_,ds,rfl,hdl,rfl⟩
  ·exact absurd h h1
  ·rcases hv with ⟨h,_⟩|⟨_,ds',t,vs,e,_,rfl,htup,hr⟩
   ·exact absurd h h1
   ·cases e
    obtain⟨l1,l2⟩:=zc (env:=env) ts ps hps
    refine PySem.wpAny_assign_Tuple hh htup (by simp only[l1,List.size_toArray,hr.length,hdl]) l2 λh' he=>?_
    have kk:=λb o e=>he b o (Nat.ne_of_lt (Heap.lt_size e)) e
    refine wm (nW ts ps ks ds vs {s with heap:=h'} ρ (F.keep (s':={s with heap:=h'}) (F.ok.kp (s':={s with heap:=h'}) kk) (F.ok.keep (h':=h') (tk:=s.toks) F.ok.tk kk)) hl hps hdl hz (RepL.keep (λb o U e=>kk b o e) (λU=>.inl) _ _ hr)) λU s2 h=>⟨h.1,λb o e n=>h.2 b o (kk b o e) n⟩
def gX(ρ:R):Prop:=∀sl∈ρ,∀j,sl≠.ap j
theorem wi(h:gX ρ)(k:Nat):ρ.map (Sl.kill k)=ρ:=by
 conv=>rhs;rw[<-List.map_id ρ]
 apply List.map_congr_left
 intro sl hs
 induction sl<;>first|rfl|exact absurd rfl (h _ hs _)
theorem qj(ρ:R):gX (ρ.map Sl.inn):=λsl hs j e=>by
 subst e
 refine ai (List.mem_map.mp hs) λs0 U h=>?_
 induction s0<;>(injection h;done)
theorem iU(x:gX a)(y:gX b):gX (a++b):=λsl hs=>by
 rcases List.mem_append.mp hs with h|h
 ·exact x sl h
 ·exact y sl h
theorem qi(n:Nat):gX (aY n):=λsl hs j e=>by
 replace e:=((List.mem_replicate.mp hs).2).symm.trans e;(injection e;done)
theorem jF{d:D}(h:bg n d=some bs):gX bs:=λsl hs j e=>by
 subst e
 rcases fA h with ⟨_,rfl⟩|⟨_,ds,_,_,rfl⟩
 ·(injection (List.mem_singleton.mp hs);done)
 ·refine ai (List.mem_map.mp hs) λU U h=>?_;(injection h;done)
theorem gr:∀(bs:R) (pre:R) (n:Nat) (ρ:R),n=pre.length->gX pre->gX bs->gX ρ->cQ (List.range' n bs.length) bs (pre++(aY bs.length++ρ))=pre++(bs++ρ)
 |[],pre,n,ρ,_,_,_,_=>rfl
 |b::bs,pre,n,ρ,hn,h1,h2,h3=>by
  have e:List.range' n (b::bs).length=n::List.range' (n+1) bs.length:=by simp[List.range'_succ]
  refine af e▸?_
  show cQ (List.range' (n+1) bs.length) bs (((pre++(aY (b::bs).length++ρ)).map (Sl.kill n)).set n b)=_
  clear e
  rw[wi (iU h1 (iU (qi _) h3))]
  have e2:(pre++(aY (b::bs).length++ρ)).set n b=(pre++[b])++(aY bs.length++ρ):=by
   subst hn
   simp[aY,List.replicate_succ]
  simp only[e2,gr bs (pre++[b]) (n+1) ρ (by simp[hn]) (iU h1 λsl hs=>h2 sl (by refine af (List.mem_singleton.mp hs)▸?_;exact .head _)) (λsl hs=>h2 sl (.tail _ hs)) h3]
  exact List.append_assoc pre [b] (bs++ρ)
theorem oq:∀(ts:List Str) (Γ:List Str),ts.Nodup->∀p∈ts.zip (List.range' 0 ts.length),(ts++Γ).idxOf? p.1=some p.2:=by
 intro ts Γ hn p hp
 obtain⟨i,hi,e⟩:=List.mem_iff_getElem.mp hp
 have hi':i<ts.length:=by simp at hi;exact hi
 have e1:p=(ts[i],i):=by refine e▸?_;simp
 refine af e1▸?_
 show(ts++Γ).findIdx? (· ==ts[i])=some i
 rw[List.findIdx?_eq_some_iff_getElem]
 refine(am (by simp;exact Nat.lt_add_right Γ.length hi') (by simp[List.getElem_append_left hi']) (λj hj=>?_))
 rw[List.getElem_append_left (Nat.lt_trans hj hi')]
 simp only[beq_iff_eq]
 intro e
 exact List.pairwise_iff_getElem.mp hn j i (Nat.lt_trans hj hi') hi' hj e
end
theorem items_int(hk:k=.range1\/k=.range2\/k=.range3)(h:a9 k x y z=some ds):∃a,x=.int a:=by
 rcases hk with rfl|rfl|rfl<;>cases x<;>first|exact⟨_,rfl⟩|exact no h
theorem iX(hk:k=.enum\/k=.zip2\/k=.zip3)(h:a9 k x y z=some ds):∃a,x=.list a:=by
 rcases hk with rfl|rfl|rfl<;>cases x<;>first|exact⟨_,rfl⟩|exact no h
theorem xq(h: -4096<c/\c<4096):c.natAbs<1073741824:=by
 induction c with
 |ofNat n=>exact Nat.lt_trans (Int.ofNat_lt.mp h.2:n<4096) (by decide)
 |negSucc n=>exact Nat.lt_trans (Int.ofNat_lt.mp (Int.lt_of_neg_lt_neg (a:=((n+1:Nat):Int)) (b:=((4096:Nat):Int)) h.1)) (by decide)
section
variable{C:Cx}{d x y z:D}{Wd:Addr->Prop}
structure ItV(C:Cx)(X:Addr)(mB mo:Addr->Prop)(pk:Bool)(Wd:Addr->Prop)(s:Shared)(x:D)(v:Value)(s':Shared):Prop where
 st:St' C mB mo s s'
 r:cz X s'.heap (aJ mB mo pk) x v
 wd:∀ds,x=.list ds->∀l,v=.ref l->¬Wd l
theorem ItV.more(h:ItV C X mB mo pk Wd s x v s1)(st:St' C mB mo s1 s2):ItV C X mB mo pk Wd s x v s2:=⟨h.st.trans st,aB h.st.2.tab λU ht=>j9 ht st.1 h.r,h.wd⟩
theorem ItV.from(h:ItV C X mB mo pk Wd s1 x v s2)(st:St' C mB mo s s1):ItV C X mB mo pk Wd s x v s2:=⟨st.trans h.st,h.r,h.wd⟩
theorem ItV.lst(h:ItV C X mB mo pk Wd s (.list ds) v s1):∃l vs,v=.ref l/\s1.heap.IsList l (vs:List Value).toArray/\¬Wd l/\RepL X s1.heap (aJ mB mo pk) ds vs/\∃o,s1.heap.get? l=some o:=by
 refine bY h.r λl vs q254 hl U rl=>?_
 subst q254
 exact(dD l vs rfl hl (h.wd _ rfl l rfl) rl (ai hl λo e U=>⟨o,e⟩))
structure fC(C:Cx)(X:Addr)(A:Around)(env:Env)(Γ:List Str)(mB mo:Addr->Prop)(ρ:R)(pk:Bool)(Wd:Addr->Prop)(ex:Expr)(x:D):Prop where
 ev:∀s,Fm C X env Γ mB mo ρ s->wpAny (model C.prog C.w) A (eval ex env) (ItV C X mB mo pk Wd s x) F0 s
 plain:∀rest,starEach (ex::rest) env=(false,eval ex env)::starEach rest env
theorem pL(G:Gd C)(F:Fm C X env Γ mB mo ρ s){T:String}(hb:fV env.scope.names f=true)(hT:typs.lookup f=some T)(hd:(f==("__debug__":Str))=false)
 {P:Value->Shared->Prop} (hst:starEach (e::es) env=(false,eval e env)::starEach es env) (hpl:(backTo p (starEach es env)).any (·.1)=false)
 (h:wpAny (model C.prog C.w) A (spliced (backTo p (starEach (e::es) env))) (λvs s₁=>wpAny (model C.prog C.w) A (call (.type T) vs) P E s₁) E s):
 wpAny (model C.prog C.w) A (eval (.Call (.Name f q) (e::es) [] p) env) P E s:=by
 refine aw (G.typ f T hT) λh1 h2=>Call_ (dG G F hb h1 h2 hd ?_)
 rw[hst] at h ⊢
 exact PySem.callWith_type (by refine af hpl▸?_;rfl) (Calls.evalArgs_plain h)
theorem wj{f:Value->Sem Value}(hn:1<=s.toks)(h:wpAny (model prog w) A t (λxv s1=>wpAny (model prog w) A (f xv) Q F0 s1) F0 s):
 wpAny (model prog w) A t (λxv s1=>wpAny (model prog w) A (f xv) (λr s2=>Q r s2/\1<=s2.toks) F0 s1) F0 s:=
 wpAny_mono (wpAny_toks_of hn h) (λU U x=>wpAny_mono (wpAny_toks_of x.1 x.2) (λU U y=>⟨y.2,y.1⟩) λU U y=>y.2) λU U x=>x.2
def mH(C:Cx)(X:Addr)(A:Around)(mB mo:Addr->Prop)(pk:Bool)(Wd:Addr->Prop)(n:Nat)(ds:List D)(s:Shared)(itv:Value)(s2:Shared):Prop:=
 ∃s₀,St' C mB mo s s₀/\SrcAt C.prog C.w A X (aJ mB mo pk) Wd n ds s₀ itv s2/\1<=s2.toks
abbrev ru(C:Cx)(X:Addr)(A:Around)(env:Env)(mB mo:Addr->Prop)(pk:Bool)(Wd:Addr->Prop)(n:Nat)(ds:List D)(ex:Expr)(s:Shared):Prop:=
 wpAny (model C.prog C.w) A (eval ex env) (λxv s1=>wpAny (model C.prog C.w) A (pyIter xv) (mH C X A mB mo pk Wd n ds s) F0 s1) F0 s
theorem wJ{ds:List D}(hs:St' C mB mo s s1)(h:wpAny (model C.prog C.w) A t (λxv s2=>wpAny (model C.prog C.w) A (pyIter xv) (SrcAt C.prog C.w A X (aJ mB mo pk) Wd n ds s1) F0 s2) F0 s1):
 wpAny (model C.prog C.w) A t (λxv s2=>wpAny (model C.prog C.w) A (pyIter xv) (mH C X A mB mo pk Wd n ds s) F0 s2) F0 s1:=
 wm (wj hs.2.tk h) λU U h=>wm h λU U h=>(bc s1 hs h.1 h.2)
theorem u5(ha:fC C X A env Γ mB mo ρ pk Wd a x)(F:Fm C X env Γ mB mo ρ s)(hP:∀v s2,ItV C X mB mo pk Wd s x v s2->P [v] s2):
 wpAny (model C.prog C.w) A (spliced (backTo q (starEach [a] env))) P F0 s:=args_cons (wm (ha.ev s F) λv s1 hv=>args_nil (hP v s1 hv)) (ha.plain _)
theorem u0(ha:fC C X A env Γ mB mo ρ pk Wd a x)(hb:fC C X A env Γ mB mo ρ pk Wd b y)(F:Fm C X env Γ mB mo ρ s)(hP:∀v u s2,ItV C X mB mo pk Wd s x v s2->ItV C X mB mo pk Wd s y u s2->P [v,u] s2):
 wpAny (model C.prog C.w) A (spliced (backTo q (starEach [a,b] env))) P F0 s:=
 args_cons (wm (ha.ev s F) λv s1 hv=>u5 hb (F.keep hv.st.1 hv.st.2) λu s2 hu=>hP v u s2 (hv.more hu.st) (hu.from hv.st)) (ha.plain _)
theorem Am(ha:fC C X A env Γ mB mo ρ pk Wd a x)(hb:fC C X A env Γ mB mo ρ pk Wd b y)(hc:fC C X A env Γ mB mo ρ pk Wd c z)(F:Fm C X env Γ mB mo ρ s)
 (hP:∀v u t s2,ItV C X mB mo pk Wd s x v s2->ItV C X mB mo pk Wd s y u s2->ItV C X mB mo pk Wd s z t s2->P [v,u,t] s2):wpAny (model C.prog C.w) A (spliced (backTo q (starEach [a,b,c] env))) P F0 s:=
 args_cons (wm (ha.ev s F) λv s1 hv=>u0 hb hc (F.keep hv.st.1 hv.st.2) λu t s2 hu ht=>hP v u t s2 (hv.more hu.st) (hu.from hv.st) (ht.from hv.st)) (ha.plain _)
theorem pY(hh:A.handled=none)(ha:small a=true)(hb:small b=true)(hc:small c=true)(hc0:c≠0)(hWd:∀a,Wd a->∃o,s.heap.get? a=some o):
 wpAny (model C.prog C.w) A (pyIter (.ref s.heap.objs.size)) (SrcAt C.prog C.w A X (aJ mB mo pk) Wd n ((eK a b c).map .int) s) F0 {s with heap:=s.heap.push {cls:=.type "range",data:=.fields #[.int a t1,.int b t2,.int c t3]},toks:=tk}:=by
 have k1:=ki s {cls:=.type "range",data:=.fields #[.int a t1,.int b t2,.int c t3]}
 refine src_range (s₀:=s) hh ha hb hc hc0 (bz _ rfl) (fK k1 (bj _ _)) (λa h=>?_) λU U x=>x
 obtain⟨o,e⟩:=hWd a h
 exact⟨o,ei k1 a o e⟩
theorem iP(hWd:∀a,Wd a->a=66\/∃o,s.heap.get? a=some o)(hs:St' C mB mo s s1):∀a,Wd a->∃o,s1.heap.get? a=some o:=λa ha=>by
 by_cases h6:a=66
 ·obtain⟨ps,e⟩:=hs.2.tab
  exact⟨_,h6▸e⟩
 ·rcases hWd a ha with h|⟨o,e⟩
  ·exact absurd h h6
  ·exact⟨o,hs.1.keep a o h6 e⟩
theorem yc(h:small a=true): -4096<a/\a<4096:=by
 unfold small at h
 rw[Bool.and_eq_true,decide_eq_true_eq,decide_eq_true_eq] at h
 assumption
theorem of_ok(hh:A.handled=none)(hWd:∀a,Wd a->a=66\/∃o,s.heap.get? a=some o)(h:zP x=some ds)(hv:ItV C X mB mo pk Wd s x v s1):wpAny (model C.prog C.w) A (pyIter v) (mH C X A mB mo pk Wd n ds s) F0 s1:=by
 have key:wpAny (model C.prog C.w) A (pyIter v) (SrcAt C.prog C.w A X (aJ mB mo pk) Wd n ds s1) F0 s1:=by
  have hex:=iP hWd hv.st
  cases x<;>try ((first|exact no h|rw[so h]);done)
  ·refine aw (bE h) λhcs e=>?_
   rw[<-so e]
   obtain⟨_,t,rfl⟩:=hv.r
   exact AZ hh hcs hex λU U x=>x
  ·obtain rfl:=so h
   refine bV hv.r λq241 U hb=>?_
   obtain⟨t,rfl⟩:=q241
   exact vN hh hb hex λU U x=>x
  ·refine(so h)▸?_
   refine bU hv.lst λl vs q245 hl hw rl U=>?_
   rw[q245]
   exact src_list hh hl rl hw hex λU U x=>x
 exact wpAny_mono (wpAny_toks_of hv.st.2.tk key) (λU U x=>(bc s1 hv.st x.2 x.1)) λU U x=>x.2
theorem tW(G:Gd C)(F:Fm C X env Γ mB mo ρ s){i:kT}(hb:blt env.scope.names i.x "range"=true)(hp:∀rest,starEach (a::rest) env=(false,eval a env)::starEach rest env)(hpl:(backTo i.p (starEach es env)).any (·.1)=false)
 (h:wpAny (model C.prog C.w) A (spliced (backTo i.p (starEach (a::es) env))) (λvs s1=>St' C mB mo s s1/\wpAny (model C.prog C.w) A (call (.type "range") vs) (λxv s2=>wpAny (model C.prog C.w) A (pyIter xv) (SrcAt C.prog C.w A X (aJ mB mo pk) Wd n ds s1) F0 s2) F0 s1) F0 s):
 ru C X A env mB mo pk Wd n ds (.Call (.Name i.x i.q) (a::es) [] i.p) s:=
 pL G F (ae hb) (T:="range") (by rw[eq_of_beq (ag hb)];rfl) (by rw[eq_of_beq (ag hb)];decide) (hp _) hpl (wm h λvs s1 h=>wJ h.1 h.2)
theorem tj(G:Gd C)(F:Fm C X env Γ mB mo ρ s){i:kT}{T:String}(hb:blt env.scope.names i.x T=true)(hT:T="zip"\/T="enumerate")(hp:∀rest,starEach (a::rest) env=(false,eval a env)::starEach rest env)(hpl:(backTo i.p (starEach es env)).any (·.1)=false)
 (h:wpAny (model C.prog C.w) A (spliced (backTo i.p (starEach (a::es) env))) (λvs s1=>St' C mB mo s s1/\wpAny (model C.prog C.w) A (call (.type T) vs) (λxv s2=>wpAny (model C.prog C.w) A (pyIter xv) (SrcAt C.prog C.w A X (aJ mB mo pk) Wd n ds s1) F0 s2) F0 s1) F0 s):
 ru C X A env mB mo pk Wd n ds (.Call (.Name i.x i.q) (a::es) [] i.p) s:=
 pL G F (ae hb) (T:=T) (by refine af (eq_of_beq (ag hb))▸?_;rcases hT with rfl|rfl<;>rfl) (by refine af (eq_of_beq (ag hb))▸?_;rcases hT with rfl|rfl<;>decide) (hp _) hpl (wm h λvs s1 h=>wJ h.1 h.2)
theorem lJ(h:ItV C X mB mo pk Wd s y u s1)(hi:(∃fs,y=.list fs/\d=.list fs)\/∃cs,y=.str cs/\cs.all (λc=>decide (c<128))=true/\d=.list (cs.map λc=>.str [c])):
 ∃fs,d=.list fs/\ZD X (aJ mB mo pk) (λa=>¬Wd a/\∃o,s1.heap.get? a=some o) s1.heap u fs:=by
 rcases hi with ⟨fs,rfl,rfl⟩|⟨cs,rfl,hc,rfl⟩
 ·refine bU h.lst λl vs q250 hl hw rl he=>?_
  rw[q250]
  exact(am fs rfl (.list hl rl ⟨hw,he⟩))
 ·obtain⟨_,t,rfl⟩:=h.r
  exact(am _ rfl (.str hc))
set_option tactic.hygienic true in
theorem kj(G:Gd C)(hh:A.handled=none){b c:Option Expr}(hWd:∀a,Wd a->a=66\/∃o,s.heap.get? a=some o)
 (ha:fC C X A env Γ mB mo ρ pk Wd a x) (hb:∀e,b=some e->fC C X A env Γ mB mo ρ pk Wd e y) (hc:∀e,c=some e->fC C X A env Γ mB mo ρ pk Wd e z)
 (h:nu n k i env.scope.names a b c=true) (hi:a9 k x y z=some ds) (F:Fm C X env Γ mB mo ρ s):ru C X A env mB mo pk Wd n ds (jJ k i a b c) s:=by
 have some_of:∀{o:Option Expr},o.isSome=true->∃e,o=some e:=λh=>Option.isSome_iff_exists.mp h
 induction k with
 |of=>exact wm (ha.ev s F) λv s1 hv=>of_ok hh hWd hi hv
 |range1=>
  obtain⟨bb,rfl⟩:=items_int (.inl rfl) hi
  obtain⟨hs,e⟩:=bE hi
  obtain rfl:=so e
  refine tW G F h ha.plain rfl (u5 ha F λv s1 hv=>⟨hv.st,?_⟩)
  refine aB hv.r λt q2=>af q2▸?_
  exact call_range_1 (pY hh (by decide) hs (by decide) (by decide) (iP hWd hv.st))
 |enum=>
  refine av λGG kk=>?_
  obtain⟨es,rfl⟩:=iX (.inl rfl) hi
  obtain rfl:=so hi
  refine kk ?_;clear kk
  refine tj G F (ag h) (.inr rfl) ha.plain rfl (u5 ha F λv s1 hv=>⟨hv.st,?_⟩)
  refine bU hv.lst λl vs q22 hl hw rl U=>?_
  rw[q22]
  exact xY (of_decide_eq_true (ae h)) hh hl rl hw (iP hWd hv.st) λU U x=>x
 |range2=>
  obtain⟨e,rfl⟩:=some_of (ag h)
  obtain⟨aa,rfl⟩:=items_int (.inr (.inl rfl)) hi
  cases y<;>try (exact no hi;done)
  rename_i bb
  refine aw (bE hi) λhs q=>(so q)▸?_
  have hb':=hb e rfl
  refine tW G F (ae h) ha.plain (by show(backTo i.p (starEach [e] env)).any (·.1)=false;rw[hb'.plain];rfl) (u0 ha hb' F λv u s1 hv hu=>⟨hv.st,?_⟩)
  refine aB hv.r λt q59=>?_
  subst q59
  obtain⟨t2,rfl⟩:=hu.r
  exact call_range_2 (pY hh (ae hs) (ag hs) (by decide) (by decide) (iP hWd hv.st))
 |zip2=>
  have h2:=ag h
  obtain⟨e,rfl⟩:=some_of (ag h2)
  obtain⟨es,rfl⟩:=iX (.inr (.inl rfl)) hi
  obtain⟨w,hw,hds⟩:∃w,((∃fs,y=.list fs/\D.list w=.list fs)\/∃cs,y=.str cs/\cs.all (λc=>decide (c<128))=true/\D.list w=.list (cs.map λc=>.str [c]))/\ds=hG es w:=by
   cases y<;>try ((first|exact no hi|rw[so hi]);done)
   ·refine aw (bE hi) λh1 q=>?_
    rw[<-so q]
    exact(am _ (.inr (bc _ rfl h1 rfl)) rfl)
   ·refine(so hi)▸?_;exact(am _ (.inl ⟨_,rfl,rfl⟩) rfl)
  subst hds
  have hb':=hb e rfl
  refine tj G F (ae h2) (.inl rfl) ha.plain (by show(backTo i.p (starEach [e] env)).any (·.1)=false;rw[hb'.plain];rfl) (u0 ha hb' F λv u s1 hv hu=>⟨hv.st,?_⟩)
  refine ai (lJ hv (.inl (am es rfl rfl))) λf1 e1 z1=>ai (lJ hu hw) λf2 e2 z2=>?_
  cases e1;cases e2
  exact xX (of_decide_eq_true (ae h)) hh (iP hWd hv.st) z1 z2 λU U x=>x
 |range3=>
  have h2:=ag h
  obtain⟨e,rfl⟩:=some_of (ae h2)
  obtain⟨f,rfl⟩:=some_of (ag h2)
  obtain⟨aa,rfl⟩:=items_int (.inr (.inr rfl)) hi
  cases y<;>try (exact no hi;done)
  rename_i bb
  cases z<;>try (exact no hi;done)
  rename_i cc
  refine aw (bE hi) λhs q=>?_
  rw[<-so q]
  have hc':=hc f rfl
  have h0:cc≠0:=by have:=ag hs;exact bi_ine.mp this
  refine tW G F (ae h) ha.plain (by show(backTo i.p (starEach [e,f] env)).any (·.1)=false;rw[(hb e rfl).plain,hc'.plain];rfl) (Am ha (hb e rfl) hc' F λv u t s1 hv hu ht=>⟨hv.st,?_⟩)
  refine aB hv.r λt1 q146=>?_
  subst q146
  obtain⟨t2,rfl⟩:=hu.r
  obtain⟨t3,rfl⟩:=ht.r
  have l3:=yc (ag (ae hs))
  exact PySem.call_range_3 h0 (pY hh (ae (ae (ae hs))) (ag (ae (ae hs))) (ag (ae hs)) h0 (iP hWd hv.st)) (Or.inl (PyProof.noPylong_small (xq l3)))
 |zip3=>
  have h3:=ag (ag h)
  refine aB (some_of (ae h3)) λe q164=>?_
  subst q164
  obtain⟨f,rfl⟩:=some_of (ag h3)
  obtain⟨es,rfl⟩:=iX (.inr (.inr rfl)) hi
  cases y<;>try (exact no hi;done)
  rename_i fs
  cases z<;>try ((first|exact no hi|rw[so hi]);done)
  rename_i gs
  obtain rfl:=so hi
  refine tj G F (ae (ag h)) (.inl rfl) ha.plain (by show(backTo i.p (starEach [e,f] env)).any (·.1)=false;rw[(hb e rfl).plain,(hc f rfl).plain];rfl) (Am ha (hb e rfl) (hc f rfl) F λv u t s1 hv hu ht=>⟨hv.st,?_⟩)
  refine av λGG kk=>?_
  refine ai (lJ hv (.inl (am es rfl rfl))) λf1 e1 z1=>ai (lJ hu (.inl (am fs rfl rfl))) λf2 e2 z2=>ai (lJ ht (.inl ⟨gs,rfl,rfl⟩)) λf3 e3 z3=>kk ?_;clear kk
  cases e1;cases e2;cases e3
  exact xW (of_decide_eq_true (ae h)) hh (iP hWd hv.st) z1 z2 z3 λU U x=>x
end
noncomputable def iV(e:Expr)(depth:Nat)(elt target iter:Expr)(ifs:List Expr)(it acc:Value)(env:Env):Sem PySem.Fin:=do
 standAt iter.pos
 match<-pyNext it with
 |none=>pure (.done .next)
 |some v=>
  letOwnedTupleGo target it v
  assign target env v
  let mut ok:=true
  for c in ifs do
   if ok then ok<-isTrue c env (eval c env)
  if ok then
   (do let _<-call (.builtin "list.append") [acc,<-eval elt env])
  again (.compLoop e depth it acc env)
theorem EV(elt target iter:Expr)(ifs:List Expr)(scope:Scope)(pos:Pos)(it acc:Value)(env:Env):
 compTurn (.ListComp elt [⟨target,iter,ifs,0⟩] scope pos) 0 it acc env=iV (.ListComp elt [⟨target,iter,ifs,0⟩] scope pos) 0 elt target iter ifs it acc env:=by rfl
theorem EU(elt target iter:Expr)(g:Comprehension)(ifs:List Expr)(scope:Scope)(pos:Pos)(it acc:Value)(env:Env):
 compTurn (.ListComp elt [g,⟨target,iter,ifs,0⟩] scope pos) 1 it acc env=iV (.ListComp elt [g,⟨target,iter,ifs,0⟩] scope pos) 1 elt target iter ifs it acc env:=by rfl
theorem Dt(elt target iter target₂ iter₂:Expr)(ifs:List Expr)(scope:Scope)(pos:Pos)(it acc:Value)(env:Env):
 compTurn (.ListComp elt [⟨target,iter,[],0⟩,⟨target₂,iter₂,ifs,0⟩] scope pos) 0 it acc env=(do
  standAt iter.pos
  match<-pyNext it with
  |none=>pure (.done .next)
  |some v=>
   letOwnedTupleGo target it v
   assign target env v
   let x<-eval iter₂ env
   standAt iter₂.pos
   let x<-foldedSetIterable iter₂ env x
   let _<-runOwn (.compStart (.ListComp elt [⟨target,iter,[],0⟩,⟨target₂,iter₂,ifs,0⟩] scope pos) 1 (<-holding [x] (pyIter x)) acc env) env
   again (.compLoop (.ListComp elt [⟨target,iter,[],0⟩,⟨target₂,iter₂,ifs,0⟩] scope pos) 0 it acc env)):=by rfl
section
variable{R:Result->Shared->Prop}
theorem wu{ifs:List Expr}{depth:Nat}(he:e=.ListComp elt gens scope pos)
 (hc:compTurn e depth it acc env=iV e depth elt target iter ifs it acc env) (I:Nat->Shared->Prop)
 (turn:∀n s,I n s->wpAny (model prog w) A (pyNext it) (λr s₁=>match r with
  |none=>R (.ok .next) s₁
  |some v=>wpAny (model prog w) A (letOwnedTupleGo target it v) (λU s₁'=>wpAny (model prog w) A (assign target env v) (λU s₂=>
   wpAny (model prog w) A (forIn ifs true λc r=>if r=true then do let ok<-isTrue c env (eval c env);pure (ForInStep.yield ok) else pure (ForInStep.yield r)) (λok s₃=>
    if ok=true then wpAny (model prog w) A (eval elt env) (λx s₄=>
     wpAny (model prog w) A (call (.builtin "list.append") [acc,x]) (λU s₅=>∃m,m<n/\I m s₅) F0 s₄) F0 s₃
    else∃m,m<n/\I m s₃) F0 s₂) F0 s₁') F0 s₁) F0 s)
 (n:Nat) (h:I n s):codeAny (model prog w) A (.compLoop e depth it acc env) R s:=by
 subst he
 refine codeAny_loop rfl I (λn s hI=>?_) n h
 show wpAny _ A ((compTurn (.ListComp elt gens scope pos) depth it acc env).onRaise (λx=>do noteFrame x env;theTreesLotGoes x)) _ _ s
 refine wpAny_noted ?_
 refine af hc▸?_
 refine aj (wpAny_standAt (aj (eG (turn n s hI) (λr s₁ h₁=>?_))))
 induction r with
 |none=>exact aC h₁
 |some v=>
  refine aj (eG h₁ (λU s₁' h₁'=>?_))
  refine aj (eG h₁' (λU s₂ h₂=>aj (wpAny_mono h₂ (λok s₃ h₃=>?_) λU U h'=>h'.elim)))
  induction ok with
  |false=>exact aC ⟨rfl,h₃⟩
  |true=>
   exact aj (aj (eG h₃ (λx s₄ h₄=>aj (eG h₄ (λU s₅ h₅=>aC (aC ⟨rfl,h₅⟩))))))
theorem uq{elt target iter target₂ iter₂:Expr}{ifs:List Expr}{env:Env}(I:Nat->Shared->Prop)
 (hs:∀x,foldedSetIterable iter₂ env x=pure x)
 (turn:∀n s,I n s->wpAny (model prog w) A (pyNext it) (λr s₁=>match r with
  |none=>R (.ok .next) s₁
  |some v=>wpAny (model prog w) A (letOwnedTupleGo target it v) (λU s₁'=>wpAny (model prog w) A (assign target env v) (λU s₂=>
   wpAny (model prog w) A (eval iter₂ env) (λx s₃=>wpAny (model prog w) A (pyIter x) (λit₂ s₄=>
    codeAny (model prog w) A (.compStart (.ListComp elt [⟨target,iter,[],0⟩,⟨target₂,iter₂,ifs,0⟩] scope pos) 1 it₂ acc env) (λr s₅=>r=.ok .next/\∃m,m<n/\I m s₅) s₄) F0 s₃) F0 s₂) F0 s₁') F0 s₁) F0 s)
 (n:Nat) (h:I n s):codeAny (model prog w) A (.compLoop (.ListComp elt [⟨target,iter,[],0⟩,⟨target₂,iter₂,ifs,0⟩] scope pos) 0 it acc env) R s:=by
 refine codeAny_loop rfl I (λn s hI=>?_) n h
 show wpAny _ A ((compTurn (.ListComp elt [⟨target,iter,[],0⟩,⟨target₂,iter₂,ifs,0⟩] scope pos) 0 it acc env).onRaise (λx=>do noteFrame x env;theTreesLotGoes x)) _ _ s
 refine wpAny_noted ?_
 rw[Dt]
 refine aj (wpAny_standAt (aj (eG (turn n s hI) (λr s₁ h₁=>?_))))
 induction r with
 |none=>exact aC h₁
 |some v=>
  refine aj (eG h₁ (λU s₁' h₁'=>?_))
  refine aj (eG h₁' (λU s₂ h₂=>aj (wpAny_mono h₂ (λx s₃ h₃=>?_) λU U h'=>h'.elim)))
  refine aj (wpAny_standAt (aj (wpAny_of_eq (hs x) ?_)))
  refine aj (wpAny_holding (eG h₃ (λit₂ s₄ h₄=>?_)))
  refine aj (wpAny_runOwn (h:=none) ?_)
  refine codeAny_mono h₄ λr s₅ h₅=>?_
  obtain⟨rfl,h₅⟩:=h₅
  exact aC ⟨rfl,h₅⟩
end
section
variable{s s₀ sb:Shared}{D:Env}{mB mo:Addr->Prop}
theorem oY{vs:List Value}(hp:PL s.heap l vs.toArray)(hsz:vs.length<=4096)
 (hQ:∀h',PL h' l (vs++[x]).toArray->Heap.SameBut l s.heap h'->Q .none {s with heap:=h'}):wpAny (model prog w) A (call (.builtin "list.append") [.ref l,x]) Q E s:=by
 refine av λGG kk=>aw hp λhl hd0=>?_
 obtain⟨o,ho,hc,n,hd⟩:=id hl
 have hdict:=hd0 o ho
 refine kk ?_;clear kk
 refine wpAny_call_entry slot_list_append hl.typeIs entry_list_append ?_ (args_list_append _ _)
 show wpAny _ _ (updateSeq l (·.push x)>>=λU=>ret .none) _ _ s
 refine aj ?_
 refine av λGG kk=>?_
 obtain⟨cls,dd,data,sl⟩:=o
 simp only at hc hd hdict
 subst hc hd hdict
 refine kk ?_;clear kk
 refine wpAny_updateSeq ho rfl (aC (am .none rfl (hQ _ ?_ (Heap.SameBut.update ..)))) (aA ‹_› (by decide)) (by simp only[Array.size_push,List.size_toArray,sizeLine_eq];exact Nat.lt_of_le_of_lt ‹_› (by decide))
 refine⟨(bc _ (Heap.get?_update_self (Obj.mapSeq (·.push x)) ho rfl) rfl ?_),λo' ho'=>?_⟩
 ·simp only[Obj.mapSeq,List.push_toArray];exact⟨_,rfl⟩
 ·rw[(Heap.get?_update_self (Obj.mapSeq (·.push x)) ho rfl)] at ho';refine(so ho')▸?_;rfl
structure CI(C:Cx)(X:Addr)(D:Env)(Γ:List Str)(mB mo:Addr->Prop)(pk:Bool)(acc:Addr)(sb:Shared)(ρ:R)(out:List Internal.D)(s:Shared):Prop where
 fm:Fm C X D Γ mB mo ρ s
 ac:∃vs,PL s.heap acc (vs:List Value).toArray/\RepL X s.heap (aJ mB mo pk) out vs
 kp:Kp sb.heap s.heap
def Bk(D:Env)(xs:List Str)(acc:Addr)(wr:Addr->Prop)(s s':Shared):Prop:=
 ∀b o,s.heap.get? b=some o->b≠66->b≠acc->¬wr b->((b≠D.locals/\∀x∈xs,D.kindOf x=some .cell->D.cells.lookup x≠some b)\/ef o)->s'.heap.get? b=some o
theorem Bk.trans(x:Bk D xs acc wr s s')(y:Bk D xs acc wr s' s''):Bk D xs acc wr s s'':=λb o e h1 h2 h3 h4=>y b o (x b o e h1 h2 h3 h4) h1 h2 h3 h4
theorem Bk.refl(s:Shared):Bk D xs acc wr s s:=λU U e U U U U=>e
theorem Bk.of_kp(k:Kp s.heap s'.heap):Bk D xs acc wr s s':=λb o e h1 U U U=>k.keep b o h1 e
structure Eb(D:Env)(xs:List Str)(acc:Addr)(sb:Shared):Prop where
 acc:sb.heap.get? acc=none
 loc:sb.heap.get? D.locals=none
 cel:∀x c,x∈xs->D.kindOf x=some .cell->D.cells.lookup x=some c->sb.heap.get? c=none
theorem CI.step(c:CI C X D Γ mB mo pk acc sb ρ out s)(h:St' C mB mo s s')(hacc:acc≠66):CI C X D Γ mB mo pk acc sb ρ out s' where
 fm:=c.fm.keep h.1 h.2
 ac:=ai c.ac λvs h1 h2=>(am vs (h1.at λo=>h.1.keep acc o hacc) (eW h.1 h2))
 kp:=c.kp.trans h.1
theorem jH{s s':Shared}{mt:Addr->Prop}(ok:Ok C mt s)(k:Kp sb.heap s.heap)
 (h66:∀o,s.heap.get? 66=some o->s'.heap.get? 66=some o) (kk:∀b o,sb.heap.get? b=some o->b≠66->s.heap.get? b=some o->s'.heap.get? b=some o):Kp sb.heap s'.heap where
 keep:=λb o n e=>kk b o e n (k.keep b o n e)
 code:=λq c' z43=>ai z43 λps' e1 e2=>by
  refine av λGG kk=>ai ok.tb λps₂ h1 U=>?_
  have:=h66 _ h1
  replace e1:=this▸e1;cases e1
  refine kk ?_;clear kk
  exact k.code q c' (am _ h1 e2)
theorem oM{it:Value}{St:List Internal.D->Heap->Prop}(S:Src prog w A X Av V wr n it St)
 (c:CI C X D Γ (λa=>mB a\/wr a) mo pk acc sb ρ out s) (hst:St [] s.heap) (hacc:¬wr acc) (h66:¬wr 66) (hBw:∀a,mB a->¬wr a) (hnew:∀b,wr b->sb.heap.get? b=none):
 wpAny (model prog w) A (pyNext it) (λr s'=>r=none/\CI C X D Γ mB mo pk acc sb ρ out s'/\Bk D xs acc wr s s') F0 s:=by
 refine wpAny_mono (wpAny_toks_of c.fm.ok.tk (S.done s F0 hst)) (λr s' h=>?_) λU U x=>x.2
 obtain⟨htk,rfl,h',tk,rfl,kb⟩:=h
 have ok':Ok C (λa=>mB a\/mo a) {s with heap:=h',toks:=tk}:=c.fm.ok.stepL (s':={s with heap:=h',toks:=tk}) (λb o m e=>kb b o (λq=>m (.inl (.inr q))) e)
  (λa m=>by
   have ha:¬wr a/\((mB a\/wr a)\/mo a):=by
    rcases m with m|m
    ·exact⟨hBw a m,.inl (.inl m)⟩
    ·exact⟨(λa m q=>c.fm.apartB a m (.inr q)) a m,.inr m⟩
   refine aB ((c.fm.ok.mtx a ha.2).2.2) λo e=>⟨ha.2,o,kb a o ha.1 e⟩) c.fm.ok.bare rfl htk
 refine(a6 rfl ⟨c.fm.change (s':={s with heap:=h',toks:=tk}) (λb o U n e=>kb b o (λq=>n (.inr q)) e) (λa m=>.inl (.inl m)) (λU=>.inl) (λU=>id) (λa m q=>c.fm.apartB a m (.inl q)) ok',?_,?_⟩ (λb o e U U h3 U=>kb b o h3 e))
 ·refine ai c.ac λvs h1 h2=>?_
  refine(am vs (h1.at λo=>kb acc o hacc) (RepL.keep (λb o hb e=>kb b o (λq=>hb (.inr (.inl (.inr q)))) e) (λa q=>.inl ?_) _ _ h2))
  rcases q with q|q|q
  ·exact .inl q
  ·exact .inr (.inl (.inl q))
  ·exact .inr (.inr q)
 ·refine jH c.fm.ok c.kp (λo e=>kb 66 o h66 e) λb o e n e'=>kb b o (λq=>?_) e'
  replace e:=(hnew b q).symm.trans e;exact no e
theorem oL{it:Value}{St:List Internal.D->Heap->Prop}{d:Internal.D}
 (S:Src prog w A X Av V wr ts.length it St) (hh:A.handled=none)
 (hAv:∀a,aJ (λa=>mB a\/wr a) mo false a->Av a) (ht:TgtOf target ts) (hl:ts.length=ks.length)
 (hz:∀p∈ts.zip ks,Γ.idxOf? p.1=some p.2/\eg D.scope.names p.1=true) (hb:bg ts.length d=some bs) (hxs:∀t∈ts,t∈xs)
 (c:CI C X D Γ (λa=>mB a\/wr a) mo pk acc sb ρ out s) (hst:St (d::l) s.heap) (hacc:¬wr acc) (h66:¬wr 66) (hnew:∀b,wr b->sb.heap.get? b=none) (N:Eb D xs acc sb)
 (hVl:∀z,(z=D.locals\/∃x∈ts,D.kindOf x=some .cell/\D.cells.lookup x=some z)->V z):
 wpAny (model prog w) A (pyNext it) (λr s'=>∃v,r=some v/\wpAny (model prog w) A (letOwnedTupleGo target it v) (λU s1=>wpAny (model prog w) A (assign target D v) (λU s2=>
  CI C X D Γ (λa=>mB a\/wr a) mo pk acc sb (cQ ks bs ρ) out s2/\St l s2.heap/\Bk D xs acc wr s s2) F0 s1) F0 s') F0 s:=by
 have drawn:∀h' tk,1<=tk->(∀b o,¬wr b->s.heap.get? b=some o->h'.get? b=some o)->St l h'->CI C X D Γ (λa=>mB a\/wr a) mo pk acc sb ρ out {s with heap:=h',toks:=tk}:=λh' tk htk kb hst'=>by
  have ok':=c.fm.ok.step (s':={s with heap:=h',toks:=tk}) (λb o m e=>kb b o (λq=>m (.inl (.inr q))) e)
   (λa m=>by
    by_cases q:wr a
    ·exact S.ex l h' hst' a q
    ·obtain⟨o,e⟩:=(c.fm.ok.mtx a m).2.2
     exact⟨o,kb a o q e⟩) c.fm.ok.bare rfl htk
  refine⟨c.fm.change (s':={s with heap:=h',toks:=tk}) (λb o U n e=>kb b o (λq=>n (.inr q)) e) (λa m=>.inl m) (λU=>.inl) (λU=>id) c.fm.apartB ok',?_,?_⟩
  ·refine ai c.ac λvs h1 h2=>?_
   exact(am vs (h1.at λo=>kb acc o hacc) (RepL.keep (λb o hb e=>kb b o (λq=>hb (.inr (.inl (.inr q)))) e) (λa=>.inl) _ _ h2))
  ·refine jH c.fm.ok c.kp (λo e=>kb 66 o h66 e) λb o e n e'=>kb b o (λq=>?_) e'
   rw[hnew b q] at e;exact no e
 have bound:∀v s1,CI C X D Γ (λa=>mB a\/wr a) mo pk acc sb ρ out s1->St l s1.heap->Bk D xs acc wr s s1->Bd X s1.heap Av ts.length d v->wpAny (model prog w) A (assign target D v) (λU s2=>
  CI C X D Γ (λa=>mB a\/wr a) mo pk acc sb (cQ ks bs ρ) out s2/\St l s2.heap/\Bk D xs acc wr s s2) F0 s1:=λv s1 c1 hst1 bk hv=>by
  have hv':Bd X s1.heap (aJ (λa=>mB a\/wr a) mo false) ts.length d v:=by
   rcases hv with ⟨h1,h2⟩|⟨h1,ds,t,vs,h2,h3,h4,h5,h6⟩
   ·exact .inl ⟨h1,Rep.keep (λU U U e=>e) (λa q=>.inl (hAv a q)) _ _ h2⟩
   ·exact .inr ⟨h1,ds,t,vs,h2,h3,h4,h5,RepL.keep (λU U U e=>e) (λa q=>.inl (hAv a q)) _ _ h6⟩
  refine wm (jV hh ht hl hz hb c1.fm hv') λU s2 h=>aw h λF2 wz=>?_
  have wk:∀b o,s1.heap.get? b=some o->(¬(b=D.locals\/∃x∈ts,D.kindOf x=some .cell/\D.cells.lookup x=some b)\/ef o)->s2.heap.get? b=some o:=λb o e n=>wz b o e (n.imp (λn=>⟨λq=>n (.inl q),λx hx hk hc=>n (.inr (bc x hx hk hc))⟩) id)
  have locmo:∀z,(z=D.locals\/∃x∈ts,D.kindOf x=some .cell/\D.cells.lookup x=some z)->mo z:=λz h=>by
   rcases h with rfl|⟨x,_,hk,hc⟩
   ·exact c1.fm.mutL
   ·exact(c1.fm.cells x z hk hc).1
  refine(a6 ⟨F2,?_,?_⟩ (S.frame l _ _ hst1 λb o n e=>wk b o e ?_) (bk.trans λb o e U U U n=>wz b o e (n.imp (λn=>⟨n.1,λx hx=>n.2 x (hxs x hx)⟩) id)))
  ·refine ai c1.ac λvs h1 h2=>?_
   refine(am vs (h1.at λo e=>wk acc o e (.inr ?_)) (RepL.keepS (λb o U q e=>wk b o e (.inr q)) (λa=>.inl) _ _ h2))
   refine aw h1 λq19 U=>?_
   obtain⟨o',ho',_,m,hd⟩:=q19
   rw[e] at ho';refine af (so ho')▸?_;exact(fT _ _ hd)
  ·refine jH c1.fm.ok c1.kp (λo e=>wk 66 o e (.inl λq=>(c1.fm.ok.mtx 66 (.inr (locmo 66 q))).2.1 rfl)) λb o e U e'=>wk b o e' (.inl λq=>?_)
   rcases q with rfl|⟨x,hx,hk,hc⟩
   ·rw[N.loc] at e;exact no e
   ·rw[N.cel x b (hxs x hx) hk hc] at e;exact no e
  ·rcases n with n|n
   ·exact .inl λq=>n (hVl b q)
   ·exact .inr n.1
 rcases fA hb with ⟨h1,_⟩|⟨h1,ds,rfl,hdl,_⟩
 ·refine wpAny_mono (wpAny_toks_of c.fm.ok.tk (S.one h1 d l s F0 hst)) (λr s1 h=>?_) λU U x=>x.2
  refine av λGG kk=>?_
  obtain⟨htk,v,rfl,hr,hst1,h',tk,rfl,kb⟩:=h
  refine kk ?_;clear kk
  refine(am v rfl ?_)
  rcases ht with ⟨x,p,rfl,rfl⟩|⟨_,h2,_⟩
  ·exact aC (bound v _ (drawn h' tk htk kb hst1) hst1 (λb o e U U h3 U=>kb b o h3 e) (.inl ⟨rfl,hr⟩))
  ·exact absurd h1 h2
 ·refine wpAny_mono (wpAny_toks_of c.fm.ok.tk (S.many h1 ds l s F0 hst hdl)) (λr s1 h=>?_) λU U x=>x.2
  obtain⟨htk,t,rfl,⟨h',tk,rfl,kb⟩,hgo⟩:=h
  refine⟨.ref t,rfl,?_⟩
  rcases ht with ⟨x,p,rfl,rfl⟩|⟨_,h2,ps',k,p,rfl,_⟩
  ·exact absurd rfl h1
  ·refine wpAny_mono (wpAny_toks_of htk (hgo _ k p F0)) (λU s2 h=>?_) λU U x=>x.2
   refine av λGG kk=>?_
   obtain⟨htk2,vs,htup,hrl,hst2,h'',tk2,rfl,kb2⟩:=h
   refine kk ?_;clear kk
   exact bound (.ref t) _ (drawn h'' tk2 htk2 (λb o n e=>kb2 b o n (kb b o n e)) hst2) hst2 (λb o e U U h3 U=>kb2 b o h3 (kb b o h3 e)) (.inr ⟨h1,ds,t,vs,rfl,hdl,rfl,htup,hrl⟩)
end
theorem jU{d:D}{bs:R}(h:bg n d=some bs):bs.length=n:=by
 rcases fA h with ⟨rfl,rfl⟩|⟨_,ds,_,h1,rfl⟩
 ·rfl
 ·simp[h1]
section
variable{D:Env}
theorem CI.app{vs:List Value}(c:CI C X D Γ mB mo pk acc sb ρ out s)(hb:mB acc)(hn:sb.heap.get? acc=none)(hr:Rep X s.heap (aJ mB mo pk) d x)
 (h1:RepL X s.heap (aJ mB mo pk) out vs) (hp:PL h' acc (vs++[x]).toArray) (hsb':Heap.SameBut acc s.heap h'):CI C X D Γ mB mo pk acc sb ρ (out++[d]) {s with heap:=h'}:=by
 have kb:=λb o n e=>hsb'.extBut b o n e
 have ok':=c.fm.ok.step (s':={s with heap:=h'}) (λb o m e=>kb b o (λq=>m (.inl (q▸hb))) e) (λa m=>by
  by_cases q:a=acc
  ·cases q;obtain⟨⟨o,e,_⟩,_⟩:=hp;exact⟨o,e⟩
  ·refine av λGG kk=>?_
   obtain⟨o,e⟩:=(c.fm.ok.mtx a m).2.2
   refine kk ?_;clear kk
   exact⟨o,kb a o q e⟩) c.fm.ok.bare rfl c.fm.ok.tk
 have kk:∀b o,¬aJ mB mo pk b->s.heap.get? b=some o->h'.get? b=some o:=λb o hb' e=>kb b o (λq=>hb' (.inr (.inl (q▸hb)))) e
 refine⟨c.fm.change (s':={s with heap:=h'}) (λb o U m e=>kb b o (λq=>m (q▸hb)) e) (λU=>.inl) (λU=>.inl) (λU=>id) c.fm.apartB ok',
  ⟨_,hp,(RepL.keep kk (λU=>.inl) _ _ h1).snoc (Rep.keep kk (λU=>.inl) _ _ hr)⟩,?_⟩
 refine jH c.fm.ok c.kp (λo e=>kb 66 o (λq=>(c.fm.ok.mtx acc (.inl hb)).2.1 q.symm) e) λb o e U e'=>kb b o (λq=>?_) e'
 clear e'
 cases q;replace e:=hn.symm.trans e;exact no e
theorem CI.weak(c:CI C X D Γ mB mo pk acc sb ρ out s)(h:∀(k:Nat) (sl:Sl),ρ'[k]? =some sl->sl=.un\/ρ[k]? =some sl):CI C X D Γ mB mo pk acc sb ρ' out s:=⟨c.fm.weak h,c.ac,c.kp⟩
theorem pK{m:Nat}(h:bs.length=m):∀(k:Nat) (sl:Sl),(pre++(aY m++rest))[k]? =some sl->sl=.un\/(pre++(bs++rest))[k]? =some sl:=λk sl e=>by
 by_cases h1:k<pre.length
 ·rw[List.getElem?_append_left h1] at e ⊢
  exact .inr e
 ·rw[List.getElem?_append_right (Nat.le_of_not_lt ‹_›)] at e ⊢
  by_cases h2:k-pre.length<m
  ·rw[List.getElem?_append_left (by simp[aY];exact h2)] at e
   rw[show aY m=List.replicate m .un from rfl,List.getElem?_replicate,if_pos h2] at e
   rw[so e];exact .inl rfl
  ·rw[List.getElem?_append_right (by simp[aY];exact Nat.le_of_not_lt ‹_›)] at e
   rw[List.getElem?_append_right (by exact ln [_,_,_] [(1,.v 0,.v 1),(1,.v 1,.v 2)] (.v 0) (.v 2) 1 rfl (Nat.le_of_eq h) (Nat.le_of_not_lt h2))]
   simp only[aY,List.length_replicate] at e
   rw[h];exact .inr e
theorem St'.bk{s s':Shared}{wr:Addr->Prop}(h:St' C mB mo s s'):Bk D xs acc wr s s':=.of_kp h.1
theorem md{pos:Pos}{ee:AE .E}{St:List Internal.D->Heap->Prop}
 (he:e=.ListComp ee.tx gens scope pos) (hct:compTurn e depth it (.ref acc) D=iV e depth ee.tx target iter t.tx.toList it (.ref acc) D)
 (ht:ah C X H A t) (hee:ah C X H A ee) (hh:A.handled=none) (S:Src C.prog C.w A X Av V wr ts.length it St)
 (hAv:∀a,aJ (λa=>mB a\/wr a) mo false a->Av a) (hV66:V 66) (hVacc:V acc) (hVl:∀z,(z=D.locals\/∃x∈ts,D.kindOf x=some .cell/\D.cells.lookup x=some z)->V z)
 (htn:TgtOf target ts) (hz:∀p∈ts.zip (List.range' 0 ts.length),Γ.idxOf? p.1=some p.2/\eg D.scope.names p.1=true) (hxs:∀t∈ts,t∈xs)
 (hbacc:mB acc) (hwa:¬wr acc) (h66:¬wr 66) (hBw:∀a,mB a->¬wr a) (hnew:∀b,wr b->sb.heap.get? b=none) (N:Eb D xs acc sb) (hrest:gX rest)
 (hf:t.filt=true) (hto:t.ok Γ D.scope.names=true) (hce:ee.ok Γ D.scope.names=true)
 (hm:bL (λd=>(bg ts.length d).bind λbs=>(ev H t.er true (bs++rest)).bind λu=>(aE u).bind λq=>if q then (ev H ee.er pk (bs++rest)).map λv=>[v] else some []) l=some outs)
 (c:CI C X D Γ (λa=>mB a\/wr a) mo pk acc sb (aY ts.length++rest) out s) (hst:St l s.heap) (hlen:(out++outs.flatten).length<=4096)
 (hR:∀s',CI C X D Γ mB mo pk acc sb (aY ts.length++rest) (out++outs.flatten) s'->Bk D xs acc wr s s'->Rr (.ok .next) s'):
 codeAny (model C.prog C.w) A (.compLoop e depth it (.ref acc) D) Rr s:=by
 have hacc6:=(c.fm.ok.mtx acc (.inl (.inl hbacc))).2.1
 have hAvacc:=hAv acc (.inr (.inl (.inl hbacc)))
 have stKp:∀{l h h'},St l h->Kp h h'->St l h':=λst k=>S.frame _ _ _ st λb o n e=>k.keep b o (by
  rintro rfl
  rcases n with n|n
  ·exact n hV66
  ·exact n.2 (hAv 66 (.inl rfl))) e
 obtain⟨tot,ht0⟩:∃tot,tot=out++outs.flatten:=⟨_,rfl⟩
 rw[<-ht0] at hlen hR
 refine wu he hct (λn s1=>∃l outs out1,l.length=n/\bL (λd=>(bg ts.length d).bind λbs=>(ev H t.er true (bs++rest)).bind λu=>(aE u).bind λq=>if q then (ev H ee.er pk (bs++rest)).map λv=>[v] else some []) l=some outs/\
  CI C X D Γ (λa=>mB a\/wr a) mo pk acc sb (aY ts.length++rest) out1 s1/\St l s1.heap/\out1++outs.flatten=tot/\Bk D xs acc wr s s1) ?_ l.length (uE l outs out rfl hm c hst ht0.symm (.refl s))
 intro n s1 z34
 refine ze z34 λl outs1 out1 q33 hm1 c1 hst1 htot bk1=>?_
 clear z34
 clear hm
 clear hct
 refine q33▸?_
 rcases l with _|⟨d,l⟩
 ·
  replace hm1:=so hm1
  subst hm1
  refine wm (oM (xs:=xs) S c1 hst1 hwa h66 hBw hnew) λr s2 h=>bV h λq1 c2 bk2=>q1▸?_
  have e:out1=tot:=by refine htot▸?_;simp
  exact hR s2 (e▸c2) (bk1.trans bk2)
 ·
  refine av λGG kk=>bi hm1 λo1 ho1 hm1=>?_
  refine mi hm1 λouts2 hm2 q10=>?_
  clear hm1
  clear hm1
  subst q10
  refine bi ho1 λbs hbs ho1=>bi ho1 λu hu ho1=>bi ho1 λq hq ho1=>?_
  have hbl:=jU hbs
  have hsto:cQ (List.range' 0 ts.length) bs (aY ts.length++rest)=bs++rest:=by
   have:=gr bs [] 0 rest rfl (λU h=>by cases h) (jF hbs) hrest
   replace this:=hbl▸this
   simpa using this
  refine kk ?_;clear kk
  refine wm (oL S hh hAv htn (af List.length_range') hz hbs hxs c1 hst1 hwa h66 hnew N hVl) λr s2 h=>?_
  obtain⟨v,rfl,h⟩:=h
  refine wm h λU s3 h=>wm h λU s4 h=>?_
  rw[hsto] at h
  refine bV h λc4 hst4 bk4=>?_
  have test:wpAny (model C.prog C.w) A (forIn t.tx.toList true λc r=>if r=true then do let ok<-isTrue c D (eval c D);pure (ForInStep.yield ok) else pure (ForInStep.yield r))
   (λok s5=>ok=q/\St' C (λa=>mB a\/wr a) mo s4 s5) F0 s4:=by
   cases t with
   |tt=>obtain rfl:=so hu;refine(so hq)▸?_;exact wpAny_tests_nil ⟨rfl,dj c4.fm⟩
   |yes a=>exact wpAny_tests_one (cm ((ht hto hu c4.fm _ rfl).2 q hq) λU h=>⟨rfl,h⟩)
   |no=>(injection hf;done)
   |emp=>(injection hf;done)
  refine wm test λok s5 h=>?_
  clear test
  clear hq
  obtain⟨rfl,hs5⟩:=h
  have hst5:=stKp hst4 hs5.1
  have bk5:=bk1.trans (bk4.trans hs5.bk)
  have wk:∀{s'} {out'},CI C X D Γ (λa=>mB a\/wr a) mo pk acc sb (bs++rest) out' s'->CI C X D Γ (λa=>mB a\/wr a) mo pk acc sb (aY ts.length++rest) out' s':=λc=>c.weak (by
   have:=pK (pre:=[]) (rest:=rest) hbl
   simpa using this)
  clear bk4
  induction ok with
  |false=>
   simp only[Bool.false_eq_true,if_false,Option.some.injEq] at ho1 ⊢
   refine av λGG kk=>?_
   subst ho1
   refine kk ?_;clear kk
   exact⟨l.length,by simp,l,outs2,out1,rfl,hm2,wk (c4.step hs5 hacc6),hst5,by simpa using htot,bk5⟩
  |true=>
   refine av λGG kk=>mi ho1 λdv hdv q28=>?_
   subst q28
   refine kk ?_;clear kk
   refine wpAny_mono (hee hce hdv (c4.step hs5 hacc6).fm).1 (λx s6 hx=>?_) λU U x=>x
   refine ai ((c4.step hs5 hacc6).step hx.1 hacc6).ac λvs hp hl=>?_
   have hvl:vs.length+1<=4096:=by
    refine af hl.length▸?_
    have:=congrArg List.length htot
    simp at this hlen
    exact ln [_,_,_] [(1,.v 0,.k 4096),(1,.a (.v 1) (.a (.v 2) (.k 1)),.v 0)] (.a (.v 1) (.k 1)) (.k 4096) 1 rfl hlen (Nat.le_of_eq this)
   refine oY hp (Nat.le_of_lt ‹_›) λh' hp' hsb'=>?_
   refine⟨l.length,by simp,l,outs2,out1++[dv],rfl,hm2,wk (((c4.step hs5 hacc6).step hx.1 hacc6).app (.inl hbacc) N.acc hx.2 hl hp' hsb'),?_,by simpa using htot,?_⟩
   ·refine S.frame _ _ _ (stKp hst5 hx.1.1) λb o n e=>hsb'.extBut b o ?_ e
    rintro rfl
    rcases n with n|n
    ·exact n hVacc
    ·exact n.2 hAvacc
   ·exact bk5.trans (hx.1.bk.trans λb o e U h2 U U=>hsb'.extBut b o h2 e)
end
section
structure vc(C:Cx)(X:Addr)(A:Around)(env:Env)(Γ:List Str)(mB mo:Addr->Prop)(ρ:R)(s:Shared)(sc:Scope)(ts:List Str)(n:Nat)(ds:List D)
 (D:Env) (s4 s₀ s2:Shared) (itv:Value) (acc:Addr) (wr:Addr->Prop) (St:List Internal.D->Heap->Prop) (aK:Addr->Prop):Prop where
 names:D.scope.names=cg sc.names env.scope.names
 fm:Fm C X D (ts++Γ) (λa=>(mB a\/a=acc)\/wr a) aK (aY ts.length++ρ.map Sl.inn) s4
 src:Src C.prog C.w A X (λa=>aJ mB mo false a\/s₀.heap.get? a=none) (λa=>a=66\/s2.heap.get? a=none) wr n itv St
 st:St ds s4.heap
 pl:PL s4.heap acc #[]
 ks0:St' C mB mo s s₀
 kp:Kp s₀.heap s4.heap
 new:Eb D ts acc s₀
 newS:s.heap.get? acc=none/\s.heap.get? D.locals=none
 wacc:¬wr acc
 w66:¬wr 66
 wB:∀a,(mB a\/a=acc)->¬wr a
 wnew0:∀b,wr b->s₀.heap.get? b=none
 acc2:s2.heap.get? acc=none
 moup:∀a,aK a->mo a\/s2.heap.get? a=none
 modn:∀a,mo a->aK a
 k24:∀b o,s2.heap.get? b=some o->s4.heap.get? b=some o
 k02:∀b o,s₀.heap.get? b=some o->s2.heap.get? b=some o
 loc2:s2.heap.get? D.locals=none
 cel2:∀x c,x∈ts->D.kindOf x=some .cell->D.cells.lookup x=some c->s2.heap.get? c=none
 stok:∀x∈ts,eg D.scope.names x=true
theorem rX{ts:List Str}(F:Fm C X env Γ mB mo ρ s)(S:vb sc ts Γ env.scope.names):closureFor sc env=pure (bT env sc.names []):=
 B6 λn hn=>F.hasC n (S.free n hn).1
theorem oN{ifs:List Expr}{ts:List Str}{Q:Value->Shared->Prop}
 (he:e=.ListComp elt (⟨target,iter,ifs,0⟩::gs) sc pos) (F:Fm C X env Γ mB mo ρ s) (S:vb sc ts Γ env.scope.names) (hfold:∀x,foldedSetIterable iter env x=pure x)
 (hit:wpAny (model C.prog C.w) A (eval iter env) (λxv s1=>wpAny (model C.prog C.w) A (pyIter xv) (λitv s2=>mH C X A mB mo false (· =66) n ds s itv s2) F0 s1) F0 s)
 (L:∀D s4 s₀ s2 itv acc wr St aK,vc C X A env Γ mB mo ρ s sc ts n ds D s4 s₀ s2 itv acc wr St aK->codeAny (model C.prog C.w) A (.compLoop e 0 itv (.ref acc) D) (compPost (model C.prog C.w) A F0 use Q (.ref acc) D.locals) s4):
 wpAny (model C.prog C.w) A (comprehension e sc env p (newList []) false (eval iter env) use) Q F0 s:=by
 subst he
 refine wpAny_comprehension_free (g:=⟨target,iter,ifs,0⟩) (gs:=gs) (cl:=bT env sc.names []) rfl hfold (rX F S) S.kind (λx hx hl=>?_) (wm hit (λxv s1 h=>wm h λitv s2 h=>?_))
 ·obtain⟨n,k⟩:=x
  replace hl:k=.local:=hl
  subst hl
  exact(S.loc n hx).1
 refine aZ h λs₀ hs0 q1 htk=>bY q1 λSt wr hS hst hk hwr=>wpAny_newObj_type ?_ (by size_fits)
 have F₀:=F.keep hs0.1 hs0.2
 have k2:=ei hk
 have acc0:=bQ k2 (aI _)
 have new0:∀{b},s₀.heap.get? b=none->b≠66->s.heap.get? b=none:=λ{b} h n=>by
  refine nn λo q=>?_
  rw[hs0.1.keep b o n q] at h;exact no (af h)
 have n66:∀{b},s₀.heap.get? b=none->b≠66:=λ{b} h q=>by
  refine aB hs0.2.tab λps e=>?_
  rw[q,e] at h;exact no (af h)
 let s3:Shared:={s2 with heap:=s2.heap.push {cls:=.type "list",data:=.seq ([]:List Value).toArray}}
 have k3:∀b o,s₀.heap.get? b=some o->s3.heap.get? b=some o:=λb o e=>aX _ (k2 b o e)
 have wr0:=λb hb=>(hwr b hb).1
 have wacc:¬wr s2.heap.objs.size:=λq=>by
  obtain⟨_,o,e⟩:=hwr _ q
  rw[(aI _)] at e;exact no e
 refine bK hk λh2 tk2 e2 U=>?_
 have ok3:Ok C (λa=>((mB a\/a=s2.heap.objs.size)\/wr a)\/mo a) s3:=by
  refine hs0.2.more (s':=s3) k3 (λa h=>?_) (by subst e2;exact hs0.2.bare) (by subst e2;rfl) htk
  rcases h with ((h|rfl)|h)|h
  ·refine aB ((hs0.2.mtx a (.inl h)).2.2) λo e=>?_
   exact⟨.inl (.inl h),o,k3 a o e⟩
  ·exact⟨.inr acc0,_,bz _ rfl⟩
  ·obtain⟨h1,o,e⟩:=hwr a h
   exact⟨.inr h1,o,aX _ e⟩
  ·refine av λGG kk=>?_
   refine aB ((hs0.2.mtx a (.inr h)).2.2) λo e=>kk ?_;clear kk
   exact⟨.inl (.inr h),o,k3 a o e⟩
 have F3:=F₀.change (s':=s3) (λb o U U e=>k3 b o e) (λa h=>by
  rcases h with (h|rfl)|h
  ·exact .inl h
  ·exact .inr acc0
  ·exact .inr (wr0 a h)) (λU=>.inl) (λU=>id) (λa m h=>by
  obtain⟨o,e⟩:=(hs0.2.mtx a (.inr m)).2.2
  rcases h with (h|rfl)|h
  ·exact F₀.apartB a m h
  ·rw[acc0] at e;exact no e
  ·rw[wr0 a h] at e;exact no e) ok3
 refine uR F3 S λD s4 aK hD hnames hF4 hk4 hmo hmo' cenv hcenv hloc hlocm hlocf hcelf hstok=>?_
 have k4:=ei hk4
 have none3:∀{b},s3.heap.get? b=none->s2.heap.get? b=none:=λ{b} h=>bQ (λb o e=>aX _ e) h
 have none0:∀{b},s2.heap.get? b=none->s₀.heap.get? b=none:=λ{b} h=>bQ k2 h
 have hst4:=(hS (λa=>a=66\/s2.heap.get? a=none) (λa h=>h)).frame _ _ _ hst λb o U e=>k4 b o (aX _ e)
 have hOp:vc C X A env Γ mB mo ρ s sc ts n ds D s4 s₀ s2 itv s2.heap.objs.size wr St aK:={
  names:=hnames
  fm:=hF4
  src:=(hS (λa=>a=66\/s2.heap.get? a=none) (λa h=>h))
  st:=hst4
  pl:=by
   refine PL.at (h:=s3.heap) ⟨⟨_,bz _ rfl,rfl,_,rfl⟩,λo e=>?_⟩ λo=>k4 _ o
   rw[bz _ rfl] at e;obtain rfl:=so e;rfl
  ks0:=hs0
  kp:=(hs0.2.kp (s':=s4)) λb o e=>k4 b o (k3 b o e)
  new:=⟨acc0,none0 (none3 hlocf),λx c hx hk hc=>none0 (none3 (hcelf x c hx hk hc))⟩
  newS:=⟨new0 acc0 (n66 acc0),new0 (none0 (none3 hlocf)) (n66 (none0 (none3 hlocf)))⟩
  wacc:=wacc
  w66:=λq=>n66 (wr0 66 q) rfl
  wB:=λa h q=>by
   rcases h with h|rfl
   ·obtain⟨o,e⟩:=(hs0.2.mtx a (.inl h)).2.2
    rw[wr0 a q] at e;exact no e
   ·exact wacc q
  wnew0:=wr0
  acc2:=(aI _)
  moup:=λa h=>(hmo a h).imp id none3
  modn:=hmo'
  k24:=λb o e=>k4 b o (aX _ e)
  k02:=k2
  loc2:=none3 hlocf
  cel2:=λx c hx hk hc=>none3 (hcelf x c hx hk hc)
  stok:=hstok}
 have hL:=L D s4 s₀ s2 itv _ wr St aK hOp
 clear hOp
 clear hstok
 clear hcelf
 subst hcenv
 refine codeAny_compStart_list hL ?_
 exact(hS (λa=>a=66\/s2.heap.get? a=none) (λa h=>h)).self _ _ _ _ hst4 hL
end
section
structure CloseC(C:Cx)(X:Addr)(env:Env)(Γ:List Str)(mB mo:Addr->Prop)(ρ:R)(pk:Bool)(s:Shared)(outs:List D)(z acc:Addr)(s':Shared):Prop where
 fm:Fm C X env Γ (λa=>mB a\/a=z) mo ρ s'
 kp:Kp s.heap s'.heap
 rep:Rep X s'.heap (aJ (λa=>mB a\/a=z) mo pk) (.list outs) (.ref acc)
 ns:∃m,s'.heap.Ns z m
 new:s.heap.get? z=none
theorem CloseC.go{h':Heap}(c:CloseC C X env Γ mB mo ρ pk s outs z acc s')(hs:Heap.SameBut z s'.heap h')(hB:∀a,mB a->a≠z):
 Fm C X env Γ mB mo ρ {s' with heap:=h'}/\St' C mB mo s {s' with heap:=h'}/\Rep X h' (aJ mB mo pk) (.list outs) (.ref acc):=by
 have kb:=λb o n e=>hs.extBut b o n e
 have ok':Ok C (λa=>mB a\/mo a) {s' with heap:=h'}:=c.fm.ok.stepL (s':={s' with heap:=h'}) (λb o m e=>kb b o (λq=>m (.inl (.inr q))) e) (λa m=>by
  have ha:a≠z/\((mB a\/a=z)\/mo a):=by
   rcases m with m|m
   ·exact⟨hB a m,.inl (.inl m)⟩
   ·exact⟨λq=>c.fm.apartB a m (.inr q),.inr m⟩
  refine aB ((c.fm.ok.mtx a ha.2).2.2) λo e=>⟨ha.2,o,kb a o ha.1 e⟩) c.fm.ok.bare rfl c.fm.ok.tk
 refine(a6 (c.fm.change (s':={s' with heap:=h'}) (λb o U n e=>kb b o (λq=>n (.inr q)) e) (λa m=>.inl (.inl m)) (λU=>.inl) (λU=>id) (λa m q=>c.fm.apartB a m (.inl q)) ok') ⟨?_,ok'⟩ ?_)
 ·refine jH c.fm.ok c.kp (λo e=>kb 66 o (Ne.symm ((c.fm.ok.mtx z (.inl (.inr rfl))).2.1)) e) λb o e U e'=>kb b o (λq=>?_) e'
  subst q;replace e:=c.new.symm.trans e;exact no e
 ·refine Rep.keep (λb o hb e=>kb b o (λq=>hb (.inr (.inl (.inr q)))) e) (λa q=>.inl ?_) _ _ c.rep
  rcases q with q|q|q
  ·exact .inl q
  ·exact .inr (.inl (.inl q))
  ·exact .inr (.inr q)
theorem mC{ds:List D}{D:Env}{wr:Addr->Prop}{St:List Internal.D->Heap->Prop}{aK:Addr->Prop}
 (O:vc C X A env Γ mB mo ρ s sc ts n ds D s4 s₀ s2 itv acc wr St aK) (F:Fm C X env Γ mB mo ρ s) (hlen:outs.length<=4096)
 (c:CI C X D (ts++Γ) (λa=>mB a\/a=acc) aK pk acc s₀ ρx outs s'):CloseC C X env Γ mB mo ρ pk s outs D.locals acc s':=by
 have ckp:=O.ks0.1.trans c.kp
 have okz:Ok C (λa=>(mB a\/a=D.locals)\/mo a) s':=c.fm.ok.less λa h=>by
  rcases h with (h|rfl)|h
  ·exact .inl (.inl h)
  ·exact .inr c.fm.mutL
  ·exact .inr (O.modn a h)
 have hz:=O.newS.2
 have accB:¬mB acc:=λh=>by
  obtain⟨o,e⟩:=(F.ok.mtx acc (.inl h)).2.2
  rw[O.newS.1] at e;exact no e
 have accm:¬mo acc:=λh=>by
  obtain⟨o,e⟩:=(F.ok.mtx acc (.inr h)).2.2
  rw[O.newS.1] at e;exact no e
 refine ai c.ac λvs hp hl=>?_
 obtain⟨m,hm⟩:=c.fm.ns
 have lseq:∀o,s'.heap.get? D.locals=some o->¬ef o:=λo ho z11=>dU z11 λvs k hd=>by
  refine qS hm λo' es ep ho' hd' U=>?_
  rw[ho] at ho';obtain rfl:=so ho'
  rw[hd] at hd';(injection hd';done)
 refine⟨F.change (s':=s') (λb o n U e=>ckp.keep b o n e) (λa h=>?_) (λU=>.inl) (λU=>id) (λa m' h=>?_) okz,ckp,?_,⟨m,hm⟩,hz⟩
 ·rcases h with h|rfl
  ·exact .inl h
  ·exact .inr hz
 ·rcases h with h|rfl
  ·exact F.apartB a m' h
  ·obtain⟨o,e⟩:=(F.ok.mtx _ (.inr m')).2.2
   rw[hz] at e;exact no e
 ·refine(dD acc vs rfl hp (λq=>?_) hlen (RepL.keepS (λU U U U e=>e) (λa q=>?_) _ _ hl))
  ·rcases q with q|(q|q)|⟨_,q⟩
   ·exact(c.fm.ok.mtx acc (.inl (.inr rfl))).2.1 q
   ·exact accB q
   ·obtain⟨⟨o,ho,_,k,hd⟩,_⟩:=hp
    exact lseq o (q▸ho) (fT _ _ hd)
   ·exact accm q
  ·rcases q with q|(q|rfl)|⟨h1,h2⟩
   ·exact .inl (.inl q)
   ·exact .inl (.inr (.inl (.inl q)))
   ·exact .inr lseq
   ·exact .inl (.inr (.inr ⟨h1,O.modn a h2⟩))
theorem uI{a:AE .E}(ha:ah C X H A a){Wd:Addr->Prop}(hc:a.ok Γ env.scope.names=true)(he:aq ρ a.er (ev H a.er pk ρ)=some x)(hW:∀l s',Fm C X env Γ mB mo ρ s'->(∃its,s'.heap.IsList l its)->¬mB l->l≠66->¬Wd l):
 fC C X A env Γ mB mo ρ pk Wd a.tx x where
 ev:=λs F=>wm (oH ha hc he F) λv s' h=>⟨h.1,h.2.1,λds hd l hl=>by
  obtain⟨h1,h2⟩:=h.2.2 ds hd l hl
  refine hW l s' (F.keep h.1.1 h.1.2) ?_ h1 h2
  subst hd
  refine bv h.2.1 λl' vs e h3 U=>?_
  replace e:=hl▸e;cases e
  exact⟨_,h3⟩⟩
 plain:=λrest=>a.plain rest env
theorem nY(h:ah C X H A (.yes a)):ah C X H A a:=λhc he F=>h hc he F _ rfl
theorem ky{b:AE .O}(hb:ah C X H A b){Wd:Addr->Prop}(hc:b.ok Γ env.scope.names=true)(he:aq ρ b.er (ev H b.er pk ρ)=some x)(hW:∀l s',Fm C X env Γ mB mo ρ s'->(∃its,s'.heap.IsList l its)->¬mB l->l≠66->¬Wd l):
 ∀e,b.tx=some e->fC C X A env Γ mB mo ρ pk Wd e x:=λe h=>by
 cases b with
 |yes a=>refine(so h)▸?_;exact uI (nY hb) hc he hW
 |emp=>(injection hc;done)
 |no=>exact no h
 |tt=>exact no h
theorem fold_plain{ns:NS}(h:nu n k i ns a b c=true)(env:Env):∀x,foldedSetIterable (jJ k i a b c) env x=pure x:=λx=>by
 induction k<;>first|rfl|(cases a<;>first|rfl|(injection h;done))
theorem TgtOf.nodup{ts:List Str}(h:TgtOf t ts):ts.Nodup:=by
 rcases h with ⟨x,_,_,rfl⟩|⟨h,_⟩
 ·exact nE rfl
 ·exact h
theorem y6{d:D}(h:ev H (.comp1 n k a b c t e) pk ρ=some d):∃x y z ds l,aq ρ a (ev H a false ρ)=some x/\aq ρ b (ev H b false ρ)=some y/\aq ρ c (ev H c false ρ)=some z/\a9 k x y z=some ds/\
 bL (λd=>(bg n d).bind λbs=>(ev H t true (bs++ρ.map Sl.inn)).bind λu=>(aE u).bind λq=>if q then (ev H e pk (bs++ρ.map Sl.inn)).map λv=>[v] else some []) ds=some l/\l.flatten.length<=ax/\d=.list l.flatten:=by
 refine av λGG kk=>bi h λx e1 h=>bi h λy e2 h=>bi h λz e3 h=>?_
 refine bi h λds e4 h=>bi h λl e5 h=>aw (lst_inv h) λh6 q7=>?_
 clear h
 clear h
 subst q7
 refine kk ?_;clear kk
 exact(Dk x y z ds l e1 e2 e3 e4 e5 h6 rfl)
theorem hZ{d:D}(h:ev H (.comp1 n k a b c t e) pk ρ=some d\/ev H (.comp2 n k a b c n' k' a' b' c' t e) pk ρ=some d):∃outs,d=.list outs:=by
 rcases h with h|h
 all_goals
  refine bi h λx e1 h=>bi h λy e2 h=>bi h λz e3 h=>bi h λds e4 h=>?_
  refine bi h λl e5 h=>⟨_,(lst_inv h).2⟩
def j3(C:Cx)(X:Addr)(A:Around)(env:Env)(Γ:List Str)(mB mo:Addr->Prop)(ρ:R)(pk:Bool)(s:Shared)(outs:List D)(use:Option (Value->Sem Unit))(Q:Value->Shared->Prop):Prop:=
 ∀z acc s',CloseC C X env Γ mB mo ρ pk s outs z acc s'->compPost (model C.prog C.w) A F0 use Q (.ref acc) z (.ok .next) s'
theorem oP(G:Gd C)(hh:A.handled=none){T:AT}{b c t:AE .O}(ha:ah C X H A a)(hb:ah C X H A b)(hc:ah C X H A c)(ht:ah C X H A t)(hee:ah C X H A e)
 {outs:List D} (hok:(AE.comp1 T k i a b c t e sc p).ok Γ env.scope.names=true) (hev:ev H (AE.comp1 T k i a b c t e sc p).er pk ρ=some (.list outs)) (F:Fm C X env Γ mB mo ρ s)
 (K:j3 C X A env Γ mB mo ρ pk s outs use Q):
 wpAny (model C.prog C.w) A (comprehension (AE.comp1 T k i a b c t e sc p).tx sc env p' (newList []) false (eval (jJ k i a.tx b.tx c.tx) env) use) Q F0 s:=by
 refine DD (y6 hev) λx y z ds l e1 e2 e3 e4 e5 hlen hq=>?_
 clear hev
 cases hq
 have h3:=ag (ag hok)
 have h7:=ag (ag (ag (ag h3)))
 have htn:=AT.of (ae hok)
 have nodup:=htn.nodup
 refine oN rfl F (CO (ae (ag hok))) (fold_plain (ae h3) env) (kj G hh (λa h=>.inl h) (uI ha (ae (ag h3)) e1 (λl s' U U U h=>h)) (ky hb (ae (ag (ag h3))) e2 (λl s' U U U h=>h)) (ky hc (ae (ag (ag (ag h3)))) e3 (λl s' U U U h=>h)) (ae h3) e4 F) λD s4 s₀ s2 itv acc wr St aK O=>md (sb:=s₀) (xs:=T.names) (V:=λa=>a=66\/s2.heap.get? a=none) (Av:=λa=>aJ mB mo false a\/s₀.heap.get? a=none) (mB:=λa=>mB a\/a=acc) (wr:=wr) (rest:=ρ.map Sl.inn) (t:=t) (ee:=e) (St:=St) (pk:=pk) (out:=[]) (outs:=l) (l:=ds) (Γ:=T.names++Γ) (mo:=aK) (X:=X) (H:=H)
  rfl (EV ..) ht hee hh O.src (λa h=>?_) (.inl rfl) (.inr O.acc2) (λz h=>?_) htn (λp hp=>⟨oq T.names Γ nodup p hp,O.stok _ (List.of_mem_zip hp).1⟩) (λU h=>h) (.inr rfl) O.wacc O.w66 O.wB O.wnew0 O.new (qj ρ) (ae h7) ?_ ?_ e5
  ⟨O.fm,⟨[],O.pl,.nil⟩,O.kp⟩ O.st (hlen) λs' hci hbk=>?_
 ·rcases h with h|((h|rfl)|h)|⟨_,h⟩
  ·exact .inl (.inl h)
  ·exact .inl (.inr (.inl h))
  ·exact .inr (bQ O.k02 O.acc2)
  ·exact .inr (O.wnew0 a h)
  ·rcases O.moup a h with h|h
   ·exact .inl (.inr (.inr ⟨rfl,h⟩))
   ·exact .inr (bQ O.k02 h)
 ·rcases h with rfl|⟨x,hx,hk,hc⟩
  ·exact .inr O.loc2
  ·exact .inr (O.cel2 x z hx hk hc)
 ·rw[O.names];exact ae (ag h7)
 ·rw[O.names];exact ag (ag h7)
 ·exact K _ _ _ (mC O F hlen (by simpa using hci))
theorem mD(F:Fm C X env Γ mB mo ρ s):j3 C X A env Γ mB mo ρ pk s outs none (ie C X mB mo pk s (.list outs)):=λz acc s' hcl=>by
 refine(am hcl.ns.choose hcl.ns.choose_spec (λh' hs'=>?_))
 have:=hcl.go hs' λa ha q=>by
  clear hs'
  subst q
  obtain⟨o,e⟩:=(F.ok.mtx a (.inl ha)).2.2
  replace e:=hcl.new.symm.trans e;exact no e
 exact⟨this.2.1,this.2.2⟩
theorem rO(G:Gd C)(hh:A.handled=none){T:AT}{b c t:AE .O}(ha:ah C X H A a)(hb:ah C X H A b)(hc:ah C X H A c)(ht:ah C X H A t)(hee:ah C X H A e):
 ah C X H A (.comp1 T k i a b c t e sc p):=bF (λ{pk Γ ρ d env mB mo s} hok he F=>by
 refine aB (hZ (.inl he) (n':=0) (k':=.of) (a':=.nil) (b':=.nil) (c':=.nil)) λouts q13=>?_
 subst q13
 exact oP G hh ha hb hc ht hee hok he F (use:=none) (mD F)) λU U h=>by subst h;rfl
end
section
variable{Γ:List Str}
theorem qY{target iter:Expr}{ifs:List Expr}{env:Env}{R:Result->Shared->Prop}
 (hg:gens[depth]? =some ⟨target,iter,ifs,0⟩)
 (h0:codeAny (model prog w) A (.compLoop (.ListComp elt gens scope pos) depth it acc env) R s)
 (h:wpAny (model prog w) A (pyIter it) (λit' s'=>codeAny (model prog w) A (.compLoop (.ListComp elt gens scope pos) depth it' acc env) R s') (notedBy (model prog w) A env λx s'=>R (.error x) s') s):
 codeAny (model prog w) A (.compStart (.ListComp elt gens scope pos) depth it acc env) R s:=by
 refine codeAny_of_tree ?_
 refine wpAny_notedAt ?_
 unfold compStart
 have hc:((clausesOf (.ListComp elt gens scope pos))[depth]?).elim false (·.is_async !=0)=false:=by
  show(gens[depth]?).elim false (·.is_async !=0)=false
  rw[hg];rfl
 refine af hc▸?_
 refine aj (wpAny_askSetting (wpAny_ite ?_))
 split
 ·first
   |exact aj (aC (aC (And.intro rfl h0)))
   |exact aC (And.intro rfl h0)
 ·rw[(show(clausesOf (.ListComp elt gens scope pos))[depth]? =some ⟨target,iter,ifs,0⟩ from hg)]
  first
   |exact aj (wpAny_rule (aj (wpAny_standAt (aj (wm h (λit' s' h'=>aC (And.intro rfl h')))))))
   |exact aj (wpAny_rule (aj (aj (wpAny_standAt (aC (aj (wm h λit' s' h'=>aC (And.intro rfl h'))))))))
theorem uC(hn:ts.Nodup)(hd:∀x∈ts₂,x ∉ ts):∀p∈ts.zip (List.range' ts₂.length ts.length),((ts₂++ts)++Γ).idxOf? p.1=some p.2:=by
 intro p hp
 obtain⟨i,hi,e⟩:=List.mem_iff_getElem.mp hp
 have hi':i<ts.length:=by simp at hi;exact hi
 have e1:p=(ts[i],ts₂.length+i):=by refine e▸?_;simp
 refine af e1▸?_
 show((ts₂++ts)++Γ).findIdx? (· ==ts[i])=some (ts₂.length+i)
 rw[List.findIdx?_eq_some_iff_getElem]
 refine(am (by simp;exact Nat.lt_add_right Γ.length hi') ?_ (λj hj=>?_))
 ·rw[List.getElem_append_left (by simp;assumption),List.getElem_append_right (Nat.le_add_right _ _)]
  simp
 ·by_cases h2:j<ts₂.length
  ·rw[List.getElem_append_left (by simp;exact Nat.lt_add_right ts.length h2),List.getElem_append_left h2]
   simp only[beq_iff_eq]
   intro e
   exact hd _ (List.getElem_mem h2) (e▸List.getElem_mem hi')
  ·rw[List.getElem_append_left (by simp;exact ln [_,_,_,_] [(1,.a (.v 0) (.k 1),.v 1),(1,.a (.v 2) (.k 1),.a (.v 3) (.v 0))] (.a (.v 2) (.k 1)) (.a (.v 3) (.v 1)) 1 rfl hi' hj),List.getElem_append_right (Nat.le_of_not_lt ‹_›)]
   simp only[beq_iff_eq]
   intro e
   exact List.pairwise_iff_getElem.mp hn (j-ts₂.length) i (ln [_,_,_,_,_] [(1,.a (.v 0) (.k 1),.v 1),(1,.a (.v 2) (.k 1),.a (.v 3) (.v 0)),(1,.a (.v 4) (.v 3),.v 2)] (.a (.v 4) (.k 1)) (.v 1) 1 rfl hi' hj (Nat.le_of_eq (Nat.sub_add_cancel ((Nat.le_of_not_lt h2))))) hi' (ln [_,_,_,_] [(1,.a (.v 0) (.k 1),.a (.v 1) (.v 2)),(1,.a (.v 3) (.v 1),.v 0)] (.a (.v 3) (.k 1)) (.v 2) 1 rfl hj (Nat.le_of_eq (Nat.sub_add_cancel ((Nat.le_of_not_lt h2))))) e
theorem CI.grow{D:Env}{sb s s':Shared}{wr:Addr->Prop}(c:CI C X D Γ mB mo pk acc sb ρ out s)(hk:Keeps s s')(ht:1<=s'.toks)
 (hw:∀b,wr b->s.heap.get? b=none/\∃o,s'.heap.get? b=some o):CI C X D Γ (λa=>mB a\/wr a) mo pk acc sb ρ out s':=by
 have k:=ei hk
 have hg:AllBare s'.gens:=by refine bK hk λh' tk q1 U=>?_;refine af q1▸?_;exact c.fm.ok.bare
 have ho:s'.os=s.os:=by refine bK hk λh' tk q3 U=>?_;refine q3▸?_;rfl
 have ok':Ok C (λa=>(mB a\/wr a)\/mo a) s':=c.fm.ok.more k (λa h=>by
  rcases h with (h|h)|h
  ·refine av λGG kk=>?_
   obtain⟨o,e⟩:=(c.fm.ok.mtx a (.inl h)).2.2
   refine kk ?_;clear kk
   exact⟨.inl (.inl h),o,k a o e⟩
  ·obtain⟨h1,o,e⟩:=hw a h
   exact⟨.inr h1,o,e⟩
  ·refine av λGG kk=>?_
   obtain⟨o,e⟩:=(c.fm.ok.mtx a (.inr h)).2.2
   refine kk ?_;clear kk
   exact⟨.inl (.inr h),o,k a o e⟩) hg ho ht
 refine⟨c.fm.change (λb o U U e=>k b o e) (λa h=>h.imp id λh=>(hw a h).1) (λU=>.inl) (λU=>id) (λa m h=>?_) ok',?_,c.kp.trans (c.fm.ok.kp k)⟩
 ·rcases h with h|h
  ·exact c.fm.apartB a m h
  ·obtain⟨o,e⟩:=(c.fm.ok.mtx a (.inr m)).2.2
   replace e:=((hw a h).1).symm.trans e;exact no e
 ·refine ai c.ac λvs h1 h2=>?_
  refine(am vs (h1.at λo=>k acc o) (RepL.keep (λb o U e=>k b o e) (λa q=>?_) _ _ h2))
  rcases q with q|(q|q)|q
  ·exact .inl (.inl q)
  ·exact .inl (.inr (.inl q))
  ·exact .inr (hw a q).1
  ·exact .inl (.inr (.inr q))
theorem Ad{D:Env}{out:List Internal.D}(c:CI C X D Γ mB mo pk acc sb ρ out s')(bk:Bk D xs acc wr s s'){o:Obj}(hwr:wr b->∃o,s'.heap.get? b=some o)
 (e:s.heap.get? b=some o):∃o',s'.heap.get? b=some o':=by
 by_cases h1:b=66
 ·refine aB c.fm.ok.tab λps h=>?_;exact⟨_,h1▸h⟩
 by_cases h2:b=acc
 ·refine ai c.ac λvs q5 U=>?_
  refine aw q5 λq10 U=>ai q10 λo h U=>?_;exact⟨o,h2▸h⟩
 by_cases h3:wr b
 ·exact hwr h3
 by_cases h4:b=D.locals
 ·refine uM c.fm.ns λm o U U h U=>?_;exact⟨o,h4▸h⟩
 by_cases h5:∃x∈xs,D.kindOf x=some .cell/\D.cells.lookup x=some b
 ·refine aZ h5 λx U U hc=>?_
  refine bK (c.fm.cellE x b hc) λv o h U=>⟨o,h⟩
 ·exact⟨o,bk b o e h1 h2 h3 (.inl ⟨h4,λx hx hk hc=>h5 (bc x hx hk hc)⟩)⟩
end
section
def pw(H:Hook)(n₁ n₂:Nat)(k₂:IK)(a₂ b₂ c₂ t e:IE)(pk:Bool)(r:R)(d:D):Option (List D):=(bg n₁ d).bind λbs=>(aq (aY n₂++(bs++r)) a₂ (ev H a₂ false (aY n₂++(bs++r)))).bind λx=>
 (aq (aY n₂++(bs++r)) b₂ (ev H b₂ false (aY n₂++(bs++r)))).bind λy=>(aq (aY n₂++(bs++r)) c₂ (ev H c₂ false (aY n₂++(bs++r)))).bind λz=>(a9 k₂ x y z).bind λds₂=>
 (bL (λd=>(bg n₂ d).bind λbs₂=>(ev H t true (bs₂++(bs++r))).bind λu=>(aE u).bind λq=>if q then (ev H e pk (bs₂++(bs++r))).map λv=>[v] else some []) ds₂).map List.flatten
theorem vz{r:R}(h:pw H n₁ n₂ k₂ a₂ b₂ c₂ t e pk r d=some o):∃bs x y z ds₂ outs₂,bg n₁ d=some bs/\aq (aY n₂++(bs++r)) a₂ (ev H a₂ false (aY n₂++(bs++r)))=some x/\
 aq (aY n₂++(bs++r)) b₂ (ev H b₂ false (aY n₂++(bs++r)))=some y/\aq (aY n₂++(bs++r)) c₂ (ev H c₂ false (aY n₂++(bs++r)))=some z/\a9 k₂ x y z=some ds₂/\
 bL (λd=>(bg n₂ d).bind λbs₂=>(ev H t true (bs₂++(bs++r))).bind λu=>(aE u).bind λq=>if q then (ev H e pk (bs₂++(bs++r))).map λv=>[v] else some []) ds₂=some outs₂/\o=outs₂.flatten:=by
 refine av λGG kk=>bi h λbs h1 h=>bi h λx h2 h=>bi h λy h3 h=>?_
 refine bi h λz h4 h=>bi h λds₂ h5 h=>mi h λo2 h6 q78=>?_
 clear h
 clear h
 clear h
 clear h
 subst q78
 refine kk ?_;clear kk
 exact(Gy bs x y z ds₂ o2 h1 h2 h3 h4 h5 h6 rfl)
theorem y5{d:D}(h:ev H (.comp2 n k a b c n₂ k₂ a₂ b₂ c₂ t e) pk ρ=some d):∃x y z ds l,aq ρ a (ev H a false ρ)=some x/\aq ρ b (ev H b false ρ)=some y/\aq ρ c (ev H c false ρ)=some z/\a9 k x y z=some ds/\
 bL (pw H n n₂ k₂ a₂ b₂ c₂ t e pk (ρ.map Sl.inn)) ds=some l/\l.flatten.length<=ax/\d=.list l.flatten:=by
 refine av λGG kk=>bi h λx e1 h=>bi h λy e2 h=>bi h λz e3 h=>?_
 refine bi h λds e4 h=>bi h λl e5 h=>aw (lst_inv h) λh6 q72=>?_
 clear h
 clear h
 clear h
 clear h
 subst q72
 refine kk ?_;clear kk
 exact(Dk x y z ds l e1 e2 e3 e4 e5 h6 rfl)
theorem oO(G:Gd C)(hh:A.handled=none){k₁ k₂:IK}{i₁ i₂:kT}{b₁ c₁ b₂ c₂ t:AE .O}(ha₁:ah C X H A a₁)(hb₁:ah C X H A b₁)(hc₁:ah C X H A c₁)(ha₂:ah C X H A a₂)(hb₂:ah C X H A b₂)(hc₂:ah C X H A c₂)
 (ht:ah C X H A t) (hee:ah C X H A e) (hok:(AE.comp2 T₁ k₁ i₁ a₁ b₁ c₁ T₂ k₂ i₂ a₂ b₂ c₂ t e sc p).ok Γ env.scope.names=true) (hev:ev H (AE.comp2 T₁ k₁ i₁ a₁ b₁ c₁ T₂ k₂ i₂ a₂ b₂ c₂ t e sc p).er pk ρ=some (.list outs)) (F:Fm C X env Γ mB mo ρ s) {use:Option (Value->Sem Unit)}
 (K:j3 C X A env Γ mB mo ρ pk s outs use Q):
 wpAny (model C.prog C.w) A (comprehension (AE.comp2 T₁ k₁ i₁ a₁ b₁ c₁ T₂ k₂ i₂ a₂ b₂ c₂ t e sc p).tx sc env p' (newList []) false (eval (jJ k₁ i₁ a₁.tx b₁.tx c₁.tx) env) use) Q F0 s:=by
 refine DD (y5 hev) λx y z ds l e1 e2 e3 e4 e6 hlen hq=>?_
 clear hev
 cases hq
 have o2:=ag hok
 have o5:=ag (ag (ag o2))
 have o7:=ag (ag o5)
 have o8:=ag o7
 have o11:=ag (ag (ag o8))
 have o12:=ag o11
 have o14:=ag (ag o12)
 have htn:=AT.of (ae hok)
 have htn₂:=AT.of (ae o2)
 have hdis:=λx hx=>by
  have:=List.all_eq_true.mp (ae (ag o2)) x hx
  simpa using this
 have nodup₂:=htn₂.nodup
 refine oN rfl F (CO (ae (ag (ag o2)))) (fold_plain (ae o5) env) (kj G hh (λa h=>.inl h) (uI ha₁ (ae (ag o5)) e1 (λl s' U U U h=>h)) (ky hb₁ (ae o7) e2 (λl s' U U U h=>h)) (ky hc₁ (ae o8) e3 (λl s' U U U h=>h)) (ae o5) e4 F) λD s4 s₀ s2 itv acc wr St aK O=>?_
 have huns:aY (T₂.names++T₁.names).length++ρ.map Sl.inn=aY T₂.names.length++(aY T₁.names.length++ρ.map Sl.inn):=by
  unfold aY
  rw[List.length_append,<-List.append_assoc,List.replicate_append_replicate]
 have hrest:=qj ρ
 have hAv:∀a,aJ (λa=>(mB a\/a=acc)\/wr a) aK false a->aJ mB mo false a\/s₀.heap.get? a=none:=λa h=>by
  rcases h with h|((h|rfl)|h)|⟨_,h⟩
  ·exact .inl (.inl h)
  ·exact .inl (.inr (.inl h))
  ·exact .inr (bQ O.k02 O.acc2)
  ·exact .inr (O.wnew0 a h)
  ·rcases O.moup a h with h|h
   ·exact .inl (.inr (.inr ⟨rfl,h⟩))
   ·exact .inr (bQ O.k02 h)
 obtain⟨tot,ht0⟩:∃tot,tot=l.flatten:=⟨_,rfl⟩
 rw[<-ht0] at hlen K
 have hxs1:∀t∈T₁.names,t∈T₂.names++T₁.names:=λt h=>List.mem_append_right _ h
 refine uq (λn s1=>∃l outs1 out1,l.length=n/\bL (pw H T₁.names.length T₂.names.length k₂ a₂.er b₂.er c₂.er t.er e.er pk (ρ.map Sl.inn)) l=some outs1/\
  CI C X D ((T₂.names++T₁.names)++Γ) (λa=>(mB a\/a=acc)\/wr a) aK pk acc s₀ (aY T₂.names.length++(aY T₁.names.length++ρ.map Sl.inn)) out1 s1/\St l s1.heap/\out1++outs1.flatten=tot/\(∀b o,s2.heap.get? b=some o->∃o',s1.heap.get? b=some o')) (fold_plain (ae (ag o8)) D) ?_ ds.length
  (uE ds l ([]) rfl e6 (show CI C X D ((T₂.names++T₁.names)++Γ) (λa=>(mB a\/a=acc)\/wr a) aK pk acc s₀ (aY T₂.names.length++(aY T₁.names.length++ρ.map Sl.inn)) [] s4 from⟨huns▸O.fm,⟨[],O.pl,.nil⟩,O.kp⟩) O.st (by simp[ht0]) (λb o e=>⟨o,O.k24 b o e⟩))
 intro n s1 z62
 refine ze z62 λl outs1 out1 q61 hm1 c1 hst1 htot hex=>?_
 clear z62
 refine q61▸?_
 clear q61
 rcases l with _|⟨d,l⟩
 ·
  replace hm1:=so hm1
  subst hm1
  refine wm (oM (xs:=T₂.names++T₁.names) O.src c1 hst1 O.wacc O.w66 O.wB O.wnew0) λr s2 h=>bV h λq7 c2 bk2=>q7▸?_
  have et:out1=tot:=by refine htot▸?_;simp
  subst et
  exact K _ _ _ (mC O F hlen c2)
 ·
  refine av λGG kk=>bi hm1 λo1 ho1 hm1=>?_
  refine mi hm1 λouts2 hm2 q18=>?_
  clear hm1
  subst q18
  refine GW (vz ho1) λbs x y z ds₂ o2 hbs g1 g2 g3 g4 g5 q23=>?_
  clear ho1
  clear hm1
  subst q23
  have hsto:cQ (List.range' T₂.names.length T₁.names.length) bs (aY T₂.names.length++(aY T₁.names.length++ρ.map Sl.inn))=aY T₂.names.length++(bs++ρ.map Sl.inn):=by
   have:=gr bs (aY T₂.names.length) T₂.names.length (ρ.map Sl.inn) (by simp[aY]) (qi _) (jF hbs) hrest
   replace this:=(jU hbs)▸this
   exact this
  refine kk ?_;clear kk
  refine wm (oL (ks:=List.range' T₂.names.length T₁.names.length) O.src hh hAv htn (af List.length_range') (λp hp=>⟨uC (htn.nodup) hdis p hp,O.stok _ (hxs1 _ (List.of_mem_zip hp).1)⟩) hbs hxs1 c1 hst1 O.wacc O.w66 O.wnew0 O.new (λz h=>?_)) λr s2' h=>?_
  ·rcases h with rfl|⟨x,hx,hk,hc⟩
   ·exact .inr O.loc2
   ·exact .inr (O.cel2 x z (hxs1 x hx) hk hc)
  obtain⟨v,rfl,h⟩:=h
  refine wm h λU s3 h=>wm h λU s5 h=>?_
  replace h:=hsto▸h
  refine bV h λc5 hst5 bk5=>?_
  have hex5:=λb o e=>by
   refine aB (hex b o e) λo' e'=>Ad c5 bk5 (λhb=>O.src.ex l _ hst5 b hb) e'
  let Wd:Addr->Prop:=λa=>a=66\/a=acc\/a=D.locals\/∃x∈T₂.names,D.kindOf x=some .cell/\D.cells.lookup x=some a
  have hWdex:∀a,Wd a->a=66\/∃o,s5.heap.get? a=some o:=λa h=>by
   rcases h with h|rfl|rfl|⟨x,_,_,hc⟩
   ·exact .inl h
   ·refine ai c5.ac λvs q34 U=>?_
    refine aw q34 λq2 U=>ai q2 λo h U=>?_;exact .inr ⟨o,h⟩
   ·refine uM c5.fm.ns λm o U U h U=>?_;exact .inr ⟨o,h⟩
   ·refine bK (c5.fm.cellE x a hc) λv o h U=>?_;exact .inr ⟨o,h⟩
  have hWl:∀l s',Fm C X D ((T₂.names++T₁.names)++Γ) (λa=>(mB a\/a=acc)\/wr a) aK (aY T₂.names.length++(bs++ρ.map Sl.inn)) s'->(∃its,s'.heap.IsList l its)->¬((mB l\/l=acc)\/wr l)->l≠66->¬Wd l:=λl s' F' hl hB h6 h=>by
   refine av λGG kk=>av λGG kk=>?_
   refine av λGG kk=>?_
   obtain⟨its,o',ho',_,k,hd⟩:=hl
   refine kk ?_;clear kk
   refine kk ?_;clear kk
   refine kk ?_;clear kk
   rcases h with h|rfl|rfl|⟨x,_,_,hc⟩
   ·exact h6 h
   ·exact hB (.inl (.inr rfl))
   ·refine qR F'.ns λm o es ep h hd' U=>?_
    rw[h] at ho';obtain rfl:=so ho';rw[hd] at hd';(injection hd';done)
   ·refine bK (F'.cellE x l hc) λv o h hd'=>?_
    rw[h] at ho';obtain rfl:=so ho';rw[hd] at hd';(injection hd';done)
  refine wm (kj (n:=T₂.names.length) G hh hWdex (uI (pk:=false) ha₂ (O.names▸ae (ag (ag o8))) g1 hWl) (ky hb₂ (O.names▸ae o11) g2 hWl) (ky hc₂ (O.names▸ae o12) g3 hWl) (O.names▸(ae (ag o8))) g4 c5.fm) λxv s6 h=>wm h λitv₂ s7 h=>aZ h λs8 hs8 q50 htk=>bY q50 λSt₂ wr₂ hS₂ hst₂ hk₂ hwr₂=>?_
  have c8:=c5.step hs8 (((show CI C X D ((T₂.names++T₁.names)++Γ) (λa=>(mB a\/a=acc)\/wr a) aK pk acc s₀ (aY T₂.names.length++(aY T₁.names.length++ρ.map Sl.inn)) [] s4 from⟨huns▸O.fm,⟨[],O.pl,.nil⟩,O.kp⟩).fm.ok.mtx acc (.inl (.inl (.inr rfl)))).2.1)
  have k87:=ei hk₂
  have ex8:∀{b},wr₂ b->s₀.heap.get? b=none:=λ{b} h=>by
   refine nn λo q=>?_
   by_cases h6:b=66
   ·refine aB c8.fm.ok.tab λps e=>?_
    rw[h6] at h
    rw[(hwr₂ 66 h).1] at e;exact no e
   ·have:=c8.kp.keep b o h6 q
    rw[(hwr₂ b h).1] at this;exact no this
  have ex28:∀{b},wr₂ b->s2.heap.get? b=none:=λ{b} h=>by
   refine nn λo q=>?_
   exfalso
   refine aB (hex5 b o q) λo' e'=>?_
   by_cases h6:b=66
   ·refine aB c8.fm.ok.tab λps e=>?_
    rw[h6] at h
    rw[(hwr₂ 66 h).1] at e;exact no e
   ·have:=hs8.1.keep b o' h6 e'
    rw[(hwr₂ b h).1] at this;exact no this
  have exB:∀{b},((mB b\/b=acc)\/wr b)\/aK b->¬wr₂ b:=λ{b} h q=>by
   obtain⟨o,e⟩:=(c8.fm.ok.mtx b h).2.2
   rw[(hwr₂ b q).1] at e;exact no e
  have w66₂:¬wr₂ 66:=λh=>by
   refine av λGG kk=>av λGG kk=>?_
   refine aB c8.fm.ok.tab λps e=>kk ?_;clear kk
   refine kk ?_;clear kk
   rw[(hwr₂ 66 h).1] at e;exact no e
  have hlp:codeAny (model C.prog C.w) A (.compLoop (AE.comp2 T₁ k₁ i₁ a₁ b₁ c₁ T₂ k₂ i₂ a₂ b₂ c₂ t e sc p).tx 1 itv₂ (.ref acc) D) (λr s9=>r=.ok .next/\∃m,m<(d::l).length/\∃l outs1 out1,l.length=m/\bL (pw H T₁.names.length T₂.names.length k₂ a₂.er b₂.er c₂.er t.er e.er pk (ρ.map Sl.inn)) l=some outs1/\
   CI C X D ((T₂.names++T₁.names)++Γ) (λa=>(mB a\/a=acc)\/wr a) aK pk acc s₀ (aY T₂.names.length++(aY T₁.names.length++ρ.map Sl.inn)) out1 s9/\St l s9.heap/\out1++outs1.flatten=tot/\(∀b o,s2.heap.get? b=some o->∃o',s9.heap.get? b=some o')) s7:=by
   refine md (sb:=s₀) (xs:=T₂.names++T₁.names) (ts:=T₂.names) (V:=λa=>Wd a\/s7.heap.get? a=none) (Av:=λa=>aJ (λa=>(mB a\/a=acc)\/wr a) aK false a\/s8.heap.get? a=none) (mB:=λa=>(mB a\/a=acc)\/wr a) (wr:=wr₂) (rest:=bs++ρ.map Sl.inn) (t:=t) (ee:=e) (St:=St₂) (pk:=pk) (out:=out1) (outs:=o2) (l:=ds₂)
    (Γ:=(T₂.names++T₁.names)++Γ) (mo:=aK) (X:=X) (H:=H) rfl (EU ..) ht hee hh (hS₂ (λa=>Wd a\/s7.heap.get? a=none) (λa h=>h)) (λa h=>?_) (.inl (.inl rfl)) (.inl (.inr (.inl rfl))) (λz h=>?_) htn₂ (λp hp=>⟨?_,O.stok _ ((λt h=>List.mem_append_left _ h) _ (List.of_mem_zip hp).1)⟩) (λt h=>List.mem_append_left _ h) (.inl (.inr rfl)) (exB (.inl (.inl (.inr rfl)))) w66₂
    (λa h=>exB (.inl h)) (λb h=>ex8 h) O.new (iU (jF hbs) hrest) (ae (ag o12)) (O.names▸ae o14) (O.names▸ag o14) g5 (c8.grow hk₂ htk hwr₂) hst₂ ?_ λs9 c9 bk9=>?_
   ·rcases h with h|(h|h)|h
    ·exact .inl (.inl h)
    ·exact .inl (.inr (.inl h))
    ·exact .inr (hwr₂ a h).1
    ·exact .inl (.inr (.inr h))
   ·rcases h with rfl|⟨x,hx,hk,hc⟩
    ·exact .inl (.inr (.inr (.inl rfl)))
    ·exact .inl (.inr (.inr (.inr ⟨x,hx,hk,hc⟩)))
   ·rw[(List.append_assoc ..)];exact oq T₂.names (T₁.names++Γ) nodup₂ p hp
   ·have:=congrArg List.length htot
    simp only[List.flatten_cons,List.length_append] at this hlen ⊢
    exact ln [_,_,_,_] [(1,.v 0,.k 4096),(1,.a (.v 1) (.a (.v 2) (.v 3)),.v 0)] (.a (.v 1) (.v 2)) (.k 4096) 1 rfl hlen (Nat.le_of_eq this)
   ·refine⟨rfl,l.length,by simp,l,outs2,out1++o2.flatten,rfl,hm2,c9.weak (pK (jU hbs)),?_,by simpa using htot,λb o e=>?_⟩
    ·refine O.src.frame _ _ _ hst5 λb o n e=>?_
     have h6:b≠66:=by
      rintro rfl
      rcases n with n|n
      ·exact n (.inl rfl)
      ·exact n.2 (.inl (.inl rfl))
     have ha:b≠acc:=by
      rintro rfl
      rcases n with n|n
      ·exact n (.inr O.acc2)
      ·exact n.2 (.inr O.new.acc)
     have hw:¬wr₂ b:=λq=>by
      rcases n with n|n
      ·exact n (.inr (ex28 q))
      ·exact n.2 (.inr (ex8 q))
     refine bk9 b o (k87 b o (hs8.1.keep b o h6 e)) h6 ha hw ?_
     rcases n with n|n
     ·refine .inl ⟨λq=>n (.inr (q▸O.loc2)),λx hx hk hc=>n (.inr (O.cel2 x b hx hk hc))⟩
     ·exact .inr n.1
    ·refine aB (hex5 b o e) λo5 h5=>?_
     have h7:∃o7,s7.heap.get? b=some o7:=by
      by_cases h6:b=66
      ·refine aB (c8.grow hk₂ htk hwr₂).fm.ok.tab λps e=>?_;exact⟨_,h6▸e⟩
      ·exact⟨o5,k87 b o5 (hs8.1.keep b o5 h6 h5)⟩
     obtain⟨o7,h7⟩:=h7
     exact Ad c9 bk9 (λhb=>by rw[ex28 hb] at e;exact no e) h7
  exact qY rfl hlp ((hS₂ (λa=>Wd a\/s7.heap.get? a=none) (λa h=>h)).self _ _ _ _ hst₂ hlp)
theorem rN(G:Gd C)(hh:A.handled=none){a₁ a₂ e:AE .E}(ha₁:ah C X H A a₁)(hb₁:ah C X H A b₁)(hc₁:ah C X H A c₁)(ha₂:ah C X H A a₂)(hb₂:ah C X H A b₂)(hc₂:ah C X H A c₂)
 (ht:ah C X H A t) (hee:ah C X H A e):ah C X H A (.comp2 T₁ k₁ i₁ a₁ b₁ c₁ T₂ k₂ i₂ a₂ b₂ c₂ t e sc p):=bF (λ{pk Γ ρ d env mB mo s} hok he F=>by
 refine aB (hZ (.inr he)) λouts q79=>?_
 subst q79
 exact oO G hh ha₁ hb₁ hc₁ ha₂ hb₂ hc₂ ht hee hok he F (use:=none) (mD F)) λU U h=>by subst h;rfl
end
section
theorem qM(G:Gd C)(HS:mK C X H A)(hh:A.handled=none)(hu:A.in1.units<cLine)(hbarr:∀i b q x r p,ah C X H A (.barr i b q x r p))(a:AE k):ah C X H A a:=by
 induction a with
 |fn=>exact yb G
 |const=>exact rL
 |var=>exact vO
 |bin _ _ _ _ a b=>exact vX a b
 |neg _ _ a=>exact vT a
 |not _ _ a=>exact vR a
 |and _ _ _ a b=>exact vY a b
 |and3 _ _ _ _ a b c=>exact tN a b c
 |or _ _ _ a b=>exact ya a b
 |cmp _ _ _ _ a b=>exact vW (Nat.lt_of_succ_lt hu) a b
 |cmp2 _ _ _ _ _ _ a b c=>exact tL (Nat.lt_of_succ_lt hu) a b c
 |ite _ _ _ _ a b c=>exact vV a b c
 |call _ _ _ _ _ _ a b=>exact tM G HS a b
 |prim _ _ _ _ _ a=>exact tH G hh a
 |meth _ _ _ _ _ _ _ a b c=>exact tJ hu a b c
 |repl _ _ _ _ _ _ _ _ _ _ _ _ _ a=>exact tG a
 |nil=>exact vS
 |cons _ _ a b=>exact iQ a b
 |lst _ _ a=>exact vU a
 |tup _ _ _ a=>exact vP a
 |sub _ _ _ a b=>exact vQ a b
 |slice _ _ _ _ _ a b c=>exact rK a b c
 |fstr _ _ _ _ _ _ _ _ _ _ _ a=>exact tK a
 |barr=>exact hbarr _ _ _ _ _ _
 |comp1 _ _ _ _ _ _ _ _ _ _ a b c d e=>exact rO G hh a b c d e
 |comp2 _ _ _ _ _ _ _ _ _ _ _ _ _ _ _ _ a b c d e f g h=>exact rN G hh a b c d e f g h
 |no=>exact λU U U U h=>nomatch h
 |tt=>exact λU U U U h=>nomatch h
 |emp=>exact λh=>nomatch h
 |yes _ a=>exact λhc he F e h=>by refine(so h)▸?_;exact a hc he F
end
structure KpM(mo:Addr->Prop)(h h':Heap):Prop where
 keep:∀b o,b≠66->¬mo b->h.get? b=some o->h'.get? b=some o
 code:∀q c,mL h' q c->mL h q c\/(c≠66->¬mo c->h.get? c=none)
theorem KpM.of_kp(k:Kp h h'):KpM mo h h':=⟨λb o n U e=>k.keep b o n e,λq c e=>(k.code q c e).imp id λf n U=>f n⟩
theorem KpM.refl{mo:Addr->Prop}(h:Heap):KpM mo h h:=.of_kp (Kp.refl h)
theorem KpM.trans{mo aK:Addr->Prop}(x:KpM mo h h')(y:KpM aK h' h'')(l:∀a,aK a->mo a\/h.get? a=none):KpM mo h h'' where
 keep:=λb o n m e=>y.keep b o n (λq=>by
  rcases l b q with q|q
  ·exact m q
  ·replace e:=q.symm.trans e;exact no e) (x.keep b o n m e)
 code:=λq c e=>by
  rcases y.code q c e with e|e
  ·exact x.code q c e
  ·refine .inr λn m=>?_
   refine nn λo hq=>?_
   have h1:=x.keep c o n m hq
   by_cases m':aK c
   ·rcases l c m' with l1|l1
    ·exact absurd l1 m
    ·rw[hq] at l1;exact no (af l1)
   ·replace h1:=(e n m').symm.trans h1;exact no h1
section
def FlOk(C:Cx)(X:Addr)(env:Env)(Γ:List Str)(mB mo:Addr->Prop)(ρ:R)(s:Shared):Fl->Flow->Prop
 | .nx,f=>f=.next/\Fm C X env Γ mB mo ρ s
 | .br,f=>f=.brk/\Fm C X env Γ mB mo ρ s
 | .rt d,f=>∃v,f=.ret v/\Rep X s.heap (aJ mB mo true) d v/\Fm C X env Γ mB mo ρ s
def SPost(C:Cx)(X:Addr)(env:Env)(Γ:List Str)(mB mo:Addr->Prop)(s:Shared)(f:Fl)(ρ':R)(fl:Flow)(s':Shared):Prop:=
 ∃aK,(∀a,mo a->aK a)/\(∀a,aK a->mo a\/s.heap.get? a=none)/\KpM mo s.heap s'.heap/\FlOk C X env Γ mB aK ρ' s' f fl
theorem SPost.same{s':Shared}(k:KpM mo s.heap s'.heap)(h:FlOk C X env Γ mB mo ρ' s' f fl):SPost C X env Γ mB mo s f ρ' fl s':=(fu mo (λU=>id) (λU=>.inl) k h)
set_option tactic.hygienic true in
theorem SPost.then{aK:Addr->Prop}{s' s'':Shared}(h1:∀a,mo a->aK a)(h2:∀a,aK a->mo a\/s.heap.get? a=none)(k:KpM mo s.heap s'.heap)(ex:∀b o,s.heap.get? b=some o->b≠66->∃o',s'.heap.get? b=some o')
 (h:SPost C X env Γ mB aK s' f ρ' fl s''):SPost C X env Γ mB mo s f ρ' fl s'':=by
 refine iu h λmo'' g1 g2 g3 g4=>(fu mo'' (λa m=>g1 a (h1 a m)) (λa m=>?_) (k.trans g3 h2) g4)
 clear h g1 g3
 rcases g2 a m with m|m
 ·exact h2 a m
 ·by_cases h6:a=66
  ·exfalso
   have:Ok C (λa=>mB a\/mo'' a) s'':=by
    induction f with
    |nx=>exact g4.2.ok
    |br=>exact g4.2.ok
    |rt d=>refine aZ g4 λU U U F=>?_;exact F.ok
   subst h6
   rename_i m0
   exact(this.mtx 66 (.inr m0)).2.1 rfl
  ·refine .inr ?_
   refine nn λo q=>aB (ex a o q h6) λo' e=>?_
   replace e:=m.symm.trans e;exact no e
theorem qt(F:Fm C X env Γ mB mo ρ s)(w:Wz env xs s s'):KpM mo s.heap s'.heap where
 keep:=λb o U m e=>w.owned F b o m e
 code:=λq c z1=>ai z1 λps e1 e2=>by
  refine av λGG kk=>aB F.ok.tab λps' h=>?_
  have:=w.owned F 66 _ (λm=>(F.ok.mtx 66 (.inr m)).2.1 rfl) h
  replace e1:=this▸e1;cases e1
  refine kk ?_;clear kk
  exact .inl (am _ h e2)
theorem bX{v:Value}(F:Fm C X env Γ mB mo ρ s)(hs:bw env.scope.names Γ x k=true)(hsl:SlotR X env Γ mB mo s.heap sl v)(hnap:sl≠.ap k)
 (hap:∀a,sl.own=true->v=.ref a->∀k' x' sl',k'≠k->Γ.idxOf? x'=some k'->ρ[k']? =some sl'->sl'.own=true->¬ValOf env s.heap x' (.ref a)) (hst:bG k sl ρ=some ρ'):
 wpAny M A (storeName env x v) (λU s'=>Fm C X env Γ mB mo ρ' s'/\KpM mo s.heap s'.heap) F0 s:=by
 unfold bw at hs
 rw[Bool.and_eq_true,beq_iff_eq] at hs
 unfold bG at hst
 split at hst<;>(first|exact no hst|rw[<-so hst])
 exact wm (lb F hs.1 hs.2 hsl hnap hap) (λU s' h=>⟨h.1,qt F h.2⟩)
end
section
def Hc(H:Hook)(n:Nat):(k:Ks)->Es k->R->Fl->R->Prop
 | .S,st,ρ,f,ρ'=>az H n st ρ=some (f,ρ')
 | .B,sts,ρ,f,ρ'=>aD (az H n) sts ρ=some (f,ρ')
def Fq(C:Cx)(X:Addr)(A:Around)(env:Env)(Γ:List Str)(mB mo:Addr->Prop)(s:Shared)(f:Fl)(ρ':R):(k:Ks)->D9 k->Prop
 | .S,st=>wpAny (model C.prog C.w) A (exec st env) (SPost C X env Γ mB mo s f ρ') F0 s
 | .B,sts=>wpAny (model C.prog C.w) A (execs sts env) (SPost C X env Γ mB mo s f ρ') F0 s
def aT(C:Cx)(X:Addr)(H:Hook)(A:Around)(env:Env)(Γ:List Str){k:Ks}(a:AS k):Prop:=
 ∀{n:Nat} {mB mo:Addr->Prop} {ρ ρ':R} {s:Shared} {f:Fl},a.ok Γ env.scope.names=true->Hc H (n+1) k a.er ρ f ρ'->Fm C X env Γ mB mo ρ s->Fq C X A env Γ mB mo s f ρ' k a.tx
theorem xF{outs:List D}(F:Fm C X env Γ mB mo ρ s)(hs:bw env.scope.names Γ x k=true)(hst:bG k (.sh (.list outs)) ρ=some ρ'):
 j3 C X A env Γ mB mo ρ false s outs (some (assign (.Name x p) env)) (λU s'=>SPost C X env Γ mB mo s .nx ρ' .next s'):=by
 intro z acc s' hc
 have hB:∀a,mB a->a≠z:=λa ha q=>by
  subst q
  refine aB ((F.ok.mtx a (.inl ha)).2.2) λo e=>?_
  rw[hc.new] at e;exact no e
 have hzm:=λm=>hc.fm.apartB z m (.inr rfl)
 have hz66:=(hc.fm.ok.mtx z (.inl (.inr rfl))).2.1
 refine wpAny_assign_Name (wm (bX hc.fm hs (sl:=.sh (.list outs)) hc.rep (by rintro⟨⟩) (λa h=>by(injection h;done)) hst) (λU s'' h=>?_))
 refine aw h λF2 k2=>uM hc.ns λm o es ep ho r=>(am m (iZ o es ep (k2.keep z o hz66 hzm ho) r) (λh' hs'=>?_))
 have kb:=λb o n e=>hs'.extBut b o n e
 have ok':Ok C (λa=>mB a\/mo a) {s'' with heap:=h'}:=F2.ok.stepL (s':={s'' with heap:=h'}) (λb o m e=>kb b o (λq=>m (.inl (.inr q))) e) (λa m=>by
  have ha:a≠z/\((mB a\/a=z)\/mo a):=by
   rcases m with m|m
   ·exact⟨hB a m,.inl (.inl m)⟩
   ·exact⟨λq=>hzm (q▸m),.inr m⟩
  refine aB ((F2.ok.mtx a ha.2).2.2) λo e=>⟨ha.2,o,kb a o ha.1 e⟩) F2.ok.bare rfl F2.ok.tk
 refine .same ?_ ⟨rfl,F2.change (s':={s'' with heap:=h'}) (λb o U n e=>kb b o (λq=>n (.inr q)) e) (λa m=>.inl (.inl m)) (λU=>.inl) (λU=>id) (λa m q=>F2.apartB a m (.inl q)) ok'⟩
 have k3:=(KpM.of_kp hc.kp).trans k2 (λU=>.inl)
 refine⟨λb o n m e=>kb b o (λq=>?_) (k3.keep b o n m e),λq c z9=>ai z9 λps e1 e2=>?_⟩
 ·cases q;rw[hc.new] at e;exact no e
 ·obtain⟨ps',h⟩:=F2.ok.tab
  have e3:=kb 66 _ (Ne.symm hz66) h
  rw[e1] at e3
  refine k3.code q c (am ps' h ?_)
  simp only[Option.some.injEq,Obj.mk.injEq,Data.fields.injEq,true_and,and_true] at e3
  refine e3▸?_;exact e2
theorem jW{e:AE .E}{d:D}(he:ah C X H A e)(hsw:swapsWith e.tx (some (.Name x p)) q.line env=pure false)(hs:bw env.scope.names Γ x k=true)(hc:e.ok Γ env.scope.names=true)
 (hd:ev H e.er false ρ=some d) (hst:bG k (.sh d) ρ=some ρ') (F:Fm C X env Γ mB mo ρ s):wpAny (model C.prog C.w) A (exec (.Assign [.Name x p] e.tx q) env) (SPost C X env Γ mB mo s .nx ρ') F0 s:=
 wpAny_Assign_Name (aQ (he hc hd F).1 λu s1 hu hv=>wm (bX (F.keep hu.1 hu.2) hs (sl:=.sh d) hv (by rintro⟨⟩) (λa h=>by(injection h;done)) hst) (λU s2 h=>.same ((KpM.of_kp hu.1).trans h.2 λU=>.inl) ⟨rfl,h.1⟩)) hsw
theorem lO(elt:Expr)(gens:List Comprehension)(sc:Scope)(pp:Pos)(x:Str)(p:Pos)(l:Nat)(env:Env):swapsWith (.ListComp elt gens sc pp) (some (.Name x p)) l env=pure false\/swapsWith (.ListComp elt gens sc pp) (some (.Name x p)) l env=pure true:=by
 have key:∀b:Bool,(pure b:Sem Bool)=pure false\/(pure b:Sem Bool)=pure true:=λb=>by induction b<;>simp
 exact key _
theorem rn{ifs:List Expr}{pp q p:Pos}{ρ':R}(hsw:swapsWith (.ListComp elt (⟨tg,it,ifs,0⟩::gs) sc pp) (some (.Name x p)) q.line env=pure true)(F:Fm C X env Γ mB mo ρ s)(hs:bw env.scope.names Γ x k=true)(hst:bG k (.sh (.list outs)) ρ=some ρ')
 (h:∀{p':Pos} {use:Option (Value->Sem Unit)} {Q:Value->Shared->Prop},j3 C X A env Γ mB mo ρ false s outs use Q->wpAny (model C.prog C.w) A (comprehension (.ListComp elt (⟨tg,it,ifs,0⟩::gs) sc pp) sc env p' (newList []) false (eval it env) use) Q F0 s):
 wpAny (model C.prog C.w) A (exec (.Assign [.Name x p] (.ListComp elt (⟨tg,it,ifs,0⟩::gs) sc pp) q) env) (SPost C X env Γ mB mo s .nx ρ') F0 s:=by
 refine af (exec_Assign_Name_used _ _ _ _ hsw)▸?_
 refine aj (wpAny_standAt (aj ?_))
 exact aj (wm (h (xF F hs hst)) (λU s' hq=>aC (aC hq)))
theorem vL(G:Gd C)(hh:A.handled=none)(SE:∀{k:Kd} (e:AE k),ah C X H A e){p q:Pos}:aT C X H A env Γ (.assign k x p e q):=λhc he F=>by
 refine bi he λd hd he=>mi he λρ₂ hst q=>?_
 clear he
 cases q
 clear he
 cases e with
 |comp1 T k i a b c t e sc pp=>
  obtain⟨outs,rfl⟩:=hZ (.inl hd) (n':=0) (k':=.of) (a':=.nil) (b':=.nil) (c':=.nil)
  rcases lO _ _ sc pp x p _ env with hsw|hsw
  ·exact jW (SE _) hsw (ae hc) (ag hc) hd hst F
  ·exact rn hsw F (ae hc) hst λK=>oP G hh (SE a) (SE b) (SE c) (SE t) (SE e) (ag hc) hd F K
 |comp2 T₁ k₁ i₁ a₁ b₁ c₁ T₂ k₂ i₂ a₂ b₂ c₂ t e sc pp=>
  obtain⟨outs,rfl⟩:=hZ (.inr hd)
  rcases lO _ _ sc pp x p _ env with hsw|hsw
  ·exact jW (SE _) hsw (ae hc) (ag hc) hd hst F
  ·exact rn hsw F (ae hc) hst λK=>oO G hh (SE a₁) (SE b₁) (SE c₁) (SE a₂) (SE b₂) (SE c₂) (SE t) (SE e) (ag hc) hd F K
 |_=>exact jW (SE _) rfl (ae hc) (ag hc) hd hst F
end
section
theorem FlOk.fm{f:Fl}(h:FlOk C X env Γ mB mo ρ s f fl):Fm C X env Γ mB mo ρ s:=by
 induction f with
 |nx=>exact h.2
 |br=>exact h.2
 |rt d=>exact h.choose_spec.2.2
theorem SPost.andThen{mB mo aK:Addr->Prop}{fl:Flow}(h1:∀a,mo a->aK a)(h2:∀a,aK a->mo a\/s.heap.get? a=none)(k:KpM mo s.heap s'.heap)(F:Fm C X env Γ mB aK ρ s')
 (h:SPost C X env Γ mB aK s' f ρ' fl s''):SPost C X env Γ mB mo s f ρ' fl s'':=
 h.then h1 h2 k λb o e h6=>by
  by_cases m:mo b
  ·exact(F.ok.mtx b (.inr (h1 b m))).2.2
  ·exact⟨o,k.keep b o h6 m e⟩
theorem SPost.more{f:Fl}(st:St' C mB mo s s')(F:Fm C X env Γ mB mo ρ s')(h:SPost C X env Γ mB mo s' f ρ' fl s''):SPost C X env Γ mB mo s f ρ' fl s'':=h.andThen (λU=>id) (λU=>.inl) (.of_kp st.1) F
theorem oX{a:AS .B}(h:aT C X H A env Γ a){s:Shared}(hc:a.ok Γ env.scope.names=true)(he:aD (az H n) a.er ρ=some (f,ρ'))(F:Fm C X env Γ mB mo ρ s):
 wpAny (model C.prog C.w) A (execs a.tx env) (SPost C X env Γ mB mo s f ρ') F0 s:=by
 induction n with
 |succ n=>exact h hc he F
 |zero=>
  cases a with
  |nil=>exact h (n:=0) hc he F
  |cons=>exact no he
theorem tI:aT C X H A env Γ .nil:=λhc he F=>by
 obtain⟨rfl,rfl⟩:=dP he
 exact wpAny_execs_nil (.same (.refl _) ⟨rfl,F⟩)
theorem rM(ha:aT C X H A env Γ a)(hr:aT C X H A env Γ r):aT C X H A env Γ (.cons a r):=λhc he F=>by
 refine bi he λq63 h1 he=>?_
 obtain⟨f1,ρ1⟩:=q63
 refine wpAny_execs_cons (wm (ha (ae hc) h1 F) λfl s1 hp=>?_)
 clear h1
 induction f1 with
 |nx=>
  refine eQ hp λaK g1 g2 g3 q71 F1=>q71▸?_
  exact wm (hr (ag hc) he F1) λfl s2 h=>h.andThen g1 g2 g3 F1
 |br=>
  obtain⟨rfl,rfl⟩:=dP he
  refine eQ hp λaK g1 g2 g3 q80 F1=>q80▸?_
  exact(fj aK g1 g2 g3 rfl F1)
 |rt d=>
  refine av λGG kk=>?_
  obtain⟨rfl,rfl⟩:=dP he
  obtain⟨aK,g1,g2,g3,v,rfl,hr,F1⟩:=hp
  refine kk ?_;clear kk
  exact⟨aK,g1,g2,g3,v,rfl,hr,F1⟩
theorem CB(SE:∀{k:Kd} (e:AE k),ah C X H A e)(ha:aT C X H A env Γ a)(hb:aT C X H A env Γ b):aT C X H A env Γ (.ife t a b q):=λhc he F=>by
 refine bi he λd hd he=>bi he λu hu he=>wpAny_If (cm ((SE t (ae hc) hd F).2 u hu) λs1 hs=>?_)
 have F1:=F.keep hs.1 hs.2
 clear hu
 induction u with
 |true=>exact wpAny_mono (oX ha (ae (ag hc)) he F1) (λfl s2 h=>h.more hs F1) λU U x=>x
 |false=>exact wpAny_mono (oX hb (ag (ag hc)) he F1) (λfl s2 h=>h.more hs F1) λU U x=>x
theorem CA(SE:∀{k:Kd} (e:AE k),ah C X H A e):aT C X H A env Γ (.ret e q):=λhc he F=>by
 refine mi he λd hd he=>?_
 cases he
 exact wpAny_Return_some (aQ (SE e hc hd F).1 λu s1 hs hv=>.same (.of_kp hs.1) (bc u rfl hv (F.keep hs.1 hs.2)))
theorem CC:aT C X H A env Γ (.brk q):=λhc he F=>by
 obtain⟨rfl,rfl⟩:=dP he
 exact wpAny_Break (.same (.refl _) ⟨rfl,F⟩)
theorem AY(SE:∀{k:Kd} (e:AE k),ah C X H A e):aT C X H A env Γ (.asrt e m q):=λhc he F=>by
 refine bi he λd hd he=>bi he λu hu he=>?_
 obtain⟨rfl,he⟩:=bE he
 obtain⟨rfl,rfl⟩:=dP he
 exact wpAny_Assert_holds (cm ((SE e hc hd F).2 true hu) λs1 hs=>⟨rfl,.same (.of_kp hs.1) ⟨rfl,F.keep hs.1 hs.2⟩⟩)
theorem Cz(SE:∀{k:Kd} (e:AE k),ah C X H A e)(ha:aT C X H A env Γ a):aT C X H A env Γ (.whl t a q):=λ{n mB mo ρ ρ' s f} hc he F=>by
 refine wpAny_While (codeAny_whileLoop (λm s1=>∃mo1 ρ1,(∀a,mo a->mo1 a)/\(∀a,mo1 a->mo a\/s.heap.get? a=none)/\KpM mo s.heap s1.heap/\Fm C X env Γ mB mo1 ρ1 s1/\
  dK (λρ=>(ev H t.er true ρ).bind aE) (aD (az H n) a.er) m ρ1=some (f,ρ')) ?_ cW (dD mo ρ (λU=>id) (λU=>.inl) (.refl _) F he))
 intro m s1 z55
 refine bU z55 λmo1 ρ1 g1 g2 g3 F1 hl=>?_
 clear he
 clear z55
 rcases m with _|m
 ·exact no hl
 ·
  refine av λGG kk=>av λGG kk=>bi hl λu hu hl=>bi hu λd hd hu=>?_
  refine kk ?_;clear kk
  refine kk ?_;clear kk
  refine eG (cm ((SE t (ae hc) hd F1).2 u hu) λs2 hs=>?_) (λU U x=>x)
  have F2:=F1.keep hs.1 hs.2
  clear hu
  clear hu
  induction u with
  |false=>
   obtain⟨rfl,rfl⟩:=dP hl
   exact wpAny_execs_nil (fj mo1 g1 g2 (g3.trans (.of_kp (mo:=mo1) hs.1) g2) rfl F2)
  |true=>
   refine bi hl λq23 hb hl=>?_
   obtain⟨f1,ρ2⟩:=q23
   refine eG (oX ha (ag hc) hb F2) (λfl s3 hp=>?_)
   have hp':=hp.andThen g1 g2 (g3.trans (.of_kp (mo:=mo1) hs.1) g2) F2
   clear hb
   clear hp
   induction f1 with
   |nx=>
    refine av λGG kk=>eQ hp' λmo3 r1 r2 r3 q33 F3=>?_
    subst q33
    refine kk ?_;clear kk
    exact⟨m,Nat.lt_succ_self _,mo3,ρ2,r1,r2,r3,F3,hl⟩
   |br=>
    refine av λGG kk=>?_
    obtain⟨rfl,rfl⟩:=dP hl
    refine eQ hp' λmo3 r1 r2 r3 q44 F3=>kk ?_;clear kk
    refine q44▸?_
    exact(fj mo3 r1 r2 r3 rfl F3)
   |rt d=>
    refine av λGG kk=>?_
    obtain⟨rfl,rfl⟩:=dP hl
    obtain⟨mo3,r1,r2,r3,v,rfl,hr,F3⟩:=hp'
    refine kk ?_;clear kk
    exact⟨mo3,r1,r2,r3,v,rfl,hr,F3⟩
end
theorem jC:∀(ks:List Nat) (bs:List Sl) {ρ ρ':R},fH ks bs ρ=some ρ'->ρ'=cQ ks bs ρ/\ks.length=bs.length
 |[],[],_,_,h=>⟨(so h).symm,rfl⟩
 |_::ks,_::bs,_,_,h=>bi h λU h1 h=>cd h1 λU h1=>aw (jC ks bs h) λe1 e2=>⟨by rw[e1,<-so h1];rfl,congrArg (· +1) e2⟩
 |[],_::_,_,_,h|_::_,[],_,_,h=>no h
section
variable{mB mo:Addr->Prop}
theorem qB{St:List D->Heap->Prop}{d:D}
 (S:Src C.prog C.w A X Av V wr ts.length it St) (hh:A.handled=none) (hAv:∀a,aJ (λa=>mB a\/wr a) mo false a->Av a) (ht:TgtOf target ts) (hl:ts.length=ks.length)
 (hz:∀p∈ts.zip ks,Γ.idxOf? p.1=some p.2/\eg env.scope.names p.1=true) (hb:bg ts.length d=some bs)
 (F:Fm C X env Γ (λa=>mB a\/wr a) mo ρ s) (hst:St (d::l) s.heap) (hVm:∀b,¬V b->¬mo b) (hAm:∀b,¬Av b->¬mo b):
 wpAny (model C.prog C.w) A (pyNext it) (λr s'=>∃v,r=some v/\wpAny (model C.prog C.w) A (letOwnedTupleGo target it v) (λU s1=>wpAny (model C.prog C.w) A (assign target env v) (λU s2=>
  Fm C X env Γ (λa=>mB a\/wr a) mo (cQ ks bs ρ) s2/\St l s2.heap/\∀b o,¬wr b->¬mo b->s.heap.get? b=some o->s2.heap.get? b=some o) F0 s1) F0 s') F0 s:=by
 have drawn:∀h' tk,1<=tk->(∀b o,¬wr b->s.heap.get? b=some o->h'.get? b=some o)->St l h'->Fm C X env Γ (λa=>mB a\/wr a) mo ρ {s with heap:=h',toks:=tk}:=λh' tk htk kb hst'=>by
  have ok':=F.ok.step (s':={s with heap:=h',toks:=tk}) (λb o m e=>kb b o (λq=>m (.inl (.inr q))) e)
   (λa m=>by
    by_cases q:wr a
    ·exact S.ex l h' hst' a q
    ·obtain⟨o,e⟩:=(F.ok.mtx a m).2.2
     exact⟨o,kb a o q e⟩) F.ok.bare rfl htk
  exact F.change (s':={s with heap:=h',toks:=tk}) (λb o U n e=>kb b o (λq=>n (.inr q)) e) (λa m=>.inl m) (λU=>.inl) (λU=>id) F.apartB ok'
 have bound:∀v s1,Fm C X env Γ (λa=>mB a\/wr a) mo ρ s1->St l s1.heap->(∀b o,¬wr b->s.heap.get? b=some o->s1.heap.get? b=some o)->Bd X s1.heap Av ts.length d v->wpAny (model C.prog C.w) A (assign target env v) (λU s2=>
  Fm C X env Γ (λa=>mB a\/wr a) mo (cQ ks bs ρ) s2/\St l s2.heap/\∀b o,¬wr b->¬mo b->s.heap.get? b=some o->s2.heap.get? b=some o) F0 s1:=λv s1 F1 hst1 kb hv=>by
  have hv':Bd X s1.heap (aJ (λa=>mB a\/wr a) mo false) ts.length d v:=by
   rcases hv with ⟨h1,h2⟩|⟨h1,ds,t,vs,h2,h3,h4,h5,h6⟩
   ·exact .inl ⟨h1,Rep.keep (λU U U e=>e) (λa q=>.inl (hAv a q)) _ _ h2⟩
   ·exact .inr ⟨h1,ds,t,vs,h2,h3,h4,h5,RepL.keep (λU U U e=>e) (λa q=>.inl (hAv a q)) _ _ h6⟩
  refine wm (jV hh ht hl hz hb F1 hv') λU s2 h=>aw h λF2 wz=>?_
  have wk:=wz.owned F1
  refine(a6 F2 (S.frame l _ _ hst1 λb o n e=>wk b o ?_ e) (λb o n m e=>wk b o m (kb b o n e)))
  rcases n with n|n
  ·exact hVm b n
  ·exact hAm b n.2
 rcases fA hb with ⟨h1,_⟩|⟨h1,ds,rfl,hdl,_⟩
 ·refine wpAny_mono (wpAny_toks_of F.ok.tk (S.one h1 d l s F0 hst)) (λr s1 h=>?_) λU U x=>x.2
  refine av λGG kk=>?_
  obtain⟨htk,v,rfl,hr,hst1,h',tk,rfl,kb⟩:=h
  refine kk ?_;clear kk
  refine(am v rfl ?_)
  rcases ht with ⟨x,p,rfl,rfl⟩|⟨_,h2,_⟩
  ·exact aC (bound v _ (drawn h' tk htk kb hst1) hst1 kb (.inl ⟨rfl,hr⟩))
  ·exact absurd h1 h2
 ·refine wpAny_mono (wpAny_toks_of F.ok.tk (S.many h1 ds l s F0 hst hdl)) (λr s1 h=>?_) λU U x=>x.2
  obtain⟨htk,t,rfl,⟨h',tk,rfl,kb⟩,hgo⟩:=h
  refine(am (.ref t) rfl ?_)
  rcases ht with ⟨x,p,rfl,rfl⟩|⟨_,h2,ps',k,p,rfl,_⟩
  ·exact absurd rfl h1
  ·refine wpAny_mono (wpAny_toks_of htk (hgo _ k p F0)) (λU s2 h=>?_) λU U x=>x.2
   refine av λGG kk=>?_
   obtain⟨htk2,vs,htup,hrl,hst2,h'',tk2,rfl,kb2⟩:=h
   refine kk ?_;clear kk
   exact bound (.ref t) _ (drawn h'' tk2 htk2 (λb o n e=>kb2 b o n (kb b o n e)) hst2) hst2 (λb o n e=>kb2 b o n (kb b o n e)) (.inr ⟨h1,ds,t,vs,rfl,hdl,rfl,htup,hrl⟩)
theorem qC{St:List D->Heap->Prop}(S:Src C.prog C.w A X Av V wr n it St)(F:Fm C X env Γ (λa=>mB a\/wr a) mo ρ s)(hst:St [] s.heap)(hBw:∀a,mB a->¬wr a):
 wpAny (model C.prog C.w) A (pyNext it) (λr s'=>r=none/\Fm C X env Γ mB mo ρ s'/\∀b o,¬wr b->s.heap.get? b=some o->s'.heap.get? b=some o) F0 s:=by
 refine wpAny_mono (wpAny_toks_of F.ok.tk (S.done s F0 hst)) (λr s' h=>?_) λU U x=>x.2
 obtain⟨htk,rfl,h',tk,rfl,kb⟩:=h
 have ok':Ok C (λa=>mB a\/mo a) {s with heap:=h',toks:=tk}:=F.ok.stepL (s':={s with heap:=h',toks:=tk}) (λb o m e=>kb b o (λq=>m (.inl (.inr q))) e)
  (λa m=>by
   have ha:¬wr a/\((mB a\/wr a)\/mo a):=by
    rcases m with m|m
    ·exact⟨hBw a m,.inl (.inl m)⟩
    ·exact⟨(λa m q=>F.apartB a m (.inr q)) a m,.inr m⟩
   obtain⟨o,e⟩:=(F.ok.mtx a ha.2).2.2
   exact⟨ha.2,o,kb a o ha.1 e⟩) F.ok.bare rfl htk
 exact(a6 rfl (F.change (s':={s with heap:=h',toks:=tk}) (λb o U n e=>kb b o (λq=>n (.inr q)) e) (λa m=>.inl (.inl m)) (λU=>.inl) (λU=>id) (λa m q=>F.apartB a m (.inl q)) ok') kb)
theorem gd{mt:Addr->Prop}{sb s s':Shared}(ok:Ok C mt s)(k:KpM mo sb.heap s.heap)(h66:∀o,s.heap.get? 66=some o->s'.heap.get? 66=some o)
 (kk:∀b o,sb.heap.get? b=some o->b≠66->¬mo b->s.heap.get? b=some o->s'.heap.get? b=some o):KpM mo sb.heap s'.heap where
 keep:=λb o n m e=>kk b o e n m (k.keep b o n m e)
 code:=λq c' z18=>ai z18 λps' e1 e2=>by
  refine av λGG kk=>aB ok.tab λps₂ h1=>?_
  have:=h66 _ h1
  replace e1:=this▸e1;cases e1
  refine kk ?_;clear kk
  exact k.code q c' (am _ h1 e2)
end
section
variable{env:Env}
theorem qJ{a:AE .E}(ha:ah C X H A a)(hc:a.ok Γ env.scope.names=true)(he:ev H a.er false ρ=some x):fC C X A env Γ mB mo ρ false (λl=>l=66\/mo l) a.tx x where
 ev:=λs F=>aQ (ha hc he F).1 λv s' h1 h2=>⟨h1,h2.toE,λds hd l hl q=>by
  clear he
  subst hd
  refine bY h2 λl' vs e U hn U=>?_
  replace e:=hl▸e;cases e
  exact hn (q.imp id λq=>.inr ⟨rfl,q⟩)⟩
 plain:=λrest=>a.plain rest env
theorem oF{b:AE .O}(hb:ah C X H A b)(hc:b.ok Γ env.scope.names=true)(he:ev H b.er false ρ=some x):∀e,b.tx=some e->fC C X A env Γ mB mo ρ false (λl=>l=66\/mo l) e x:=λe h=>by
 cases b with
 |yes a=>refine(so h)▸?_;exact qJ (nY hb) hc he
 |emp=>(injection hc;done)
 |no=>exact no h
 |tt=>exact no h
theorem nV{T:AT}(h:tu env.scope.names Γ ks T=true):TgtOf T.tx T.names/\T.names.length=ks.length/\∀p∈T.names.zip ks,Γ.idxOf? p.1=some p.2/\eg env.scope.names p.1=true:=
 ⟨AT.of (ae h),of_decide_eq_true (ae (ag h)),λp hp=>by
  have:=List.all_eq_true.mp (ag (ag h)) p hp
  exact⟨eq_of_beq (ae this),ag this⟩⟩
theorem EC(G:Gd C)(hh:A.handled=none)(SE:∀{k:Kd} (e:AE k),ah C X H A e){T:AT}{b c:AE .O}{st:AS .B}(hb:aT C X H A env Γ st):aT C X H A env Γ (.fr ks T k i a b c st q):=λ{n mB mo ρ ρ' s f} hok he F=>by
 refine av λGG kk=>bV (nV (ae hok)) λhts hl hz=>?_
 have h3:=ag (ag hok)
 have h5:=ag (ag h3)
 refine bi he λx e1 he=>bi he λy e2 he=>bi he λz e3 he=>?_
 refine bi he λds e4 he=>kk ?_;clear kk
 refine wpAny_For (wm (kj (s:=s) (Wd:=λl=>l=66\/mo l) G hh (λl h=>h.imp id λm=>(F.ok.mtx l (.inr m)).2.2) (qJ (SE a) (ae h3) e1) (oF (SE b) (ae (ag h3)) e2) (oF (SE c) (ae h5) e3) (ae (ag hok)) e4 F)
  (λxv s1 h=>wm h λitv s2 h=>?_)) (fold_plain (ae (ag hok)) env)
 refine aZ h λs₀ hs0 q81 htk=>bY q81 λSt wr hS hst hk hwr=>?_
 have F₀:=F.keep hs0.1 hs0.2
 have k2:=ei hk
 have hg:AllBare s2.gens:=by refine bK hk λh' tk q233 U=>?_;rw[q233];exact hs0.2.bare
 have hos:s2.os=s₀.os:=by refine bK hk λh' tk q113 U=>?_;refine q113▸?_;rfl
 have wr0:=λb h=>(hwr b h).1
 have w66:¬wr 66:=λh=>by
  obtain⟨ps,e⟩:=hs0.2.tab
  rw[wr0 66 h] at e;exact no e
 have wrS:∀b,wr b->s.heap.get? b=none:=λb h=>by
  refine nn λo q=>?_
  by_cases h6:b=66
  ·exact absurd (h6▸h) w66
  ·have:=hs0.1.keep b o h6 q
   replace this:=(wr0 b h).symm.trans this;exact no this
 have hBw:∀a,mB a->¬wr a:=λa m q=>by
  obtain⟨o,e⟩:=(hs0.2.mtx a (.inl m)).2.2
  rw[wr0 a q] at e;exact no e
 have ok2:Ok C (λa=>(mB a\/wr a)\/mo a) s2:=hs0.2.more k2 (λa h=>by
  rcases h with (h|h)|h
  ·refine av λGG kk=>?_
   obtain⟨o,e⟩:=(hs0.2.mtx a (.inl h)).2.2
   refine kk ?_;clear kk
   exact⟨.inl (.inl h),o,k2 a o e⟩
  ·obtain⟨h1,o,e⟩:=hwr a h
   exact⟨.inr h1,o,e⟩
  ·obtain⟨o,e⟩:=(hs0.2.mtx a (.inr h)).2.2
   exact⟨.inl (.inr h),o,k2 a o e⟩) hg hos htk
 have F2:=F₀.change (λb o U U e=>k2 b o e) (λa h=>h.imp id (wr0 a)) (λU=>.inl) (λU=>id) (λa m h=>by
  rcases h with h|h
  ·exact F₀.apartB a m h
  ·obtain⟨o,e⟩:=(hs0.2.mtx a (.inr m)).2.2
   rw[wr0 a h] at e;exact no e) ok2
 have hsrc:=hS (λl=>(l=66\/mo l)\/s2.heap.get? l=none) (λl h=>h)
 have kS:=hs0.1.trans (hs0.2.kp k2)
 have newS:∀{b},s2.heap.get? b=none->s.heap.get? b=none:=λ{b} h=>by
  refine nn λo q=>?_
  by_cases h6:b=66
  ·obtain⟨ps,e⟩:=ok2.tab
   rw[h6] at h;rw[h] at e;exact no e
  ·replace h:=(kS.keep b o h6 q).symm.trans h;exact no (af h)
 refine codeAny_forLoop_any (λm s1=>∃l mo1 ρ1,l.length=m/\cb ks (aD (az H n) st.er) l ρ1=some (f,ρ')/\(∀a,mo a->mo1 a)/\(∀a,mo1 a->mo a\/s2.heap.get? a=none)/\KpM mo s.heap s1.heap/\
  Fm C X env Γ (λa=>mB a\/wr a) mo1 ρ1 s1/\St l s1.heap/\∀b o,s2.heap.get? b=some o->∃o',s1.heap.get? b=some o') ?_ ds.length (GC ds mo ρ rfl he (λU=>id) (λU=>.inl) (.of_kp kS) F2 hst (λb o e=>⟨o,e⟩))
 intro m s1 z232
 refine G3 z232 λl mo1 ρ1 q231 hlp g1 g2 g3 F1 hst1 hex=>?_
 clear z232
 subst q231
 rcases l with _|⟨d,l⟩
 ·
  obtain⟨rfl,rfl⟩:=dP hlp
  refine eG (qC hsrc F1 hst1 hBw) (λr s3 h=>?_)
  refine bV h λq247 F3 kb=>q247▸?_
  refine wpAny_execs_nil (fj mo1 g1 (λa h=>(g2 a h).imp id newS) (gd F1.ok g3 (λo e=>kb 66 o w66 e) (λb o e U U e'=>kb b o (λq=>by rw[wrS b q] at e;exact no e) e')) rfl F3)
 ·
  refine av λGG kk=>?_
  refine bi hlp λρ2 hb2 hlp=>bi hlp λq131 hbody hlp=>?_
  obtain⟨f1,ρ3⟩:=q131
  refine bi hb2 λbs hbs hb2=>aw (jC ks bs hb2) λq3 U=>?_
  clear hb2
  subst q3
  rw[<-hl] at hbs
  have hVm:∀b,¬((b=66\/mo b)\/s2.heap.get? b=none)->¬mo1 b:=λb hb m=>by
   rcases g2 b m with q|q
   ·exact hb (.inl (.inr q))
   ·exact hb (.inr q)
  have hAm:∀b,¬(aJ mB mo false b\/s₀.heap.get? b=none)->¬mo1 b:=λb hb m=>by
   rcases g2 b m with q|q
   ·exact hb (.inl (.inr (.inr ⟨rfl,q⟩)))
   ·exact hb (.inr (bQ k2 q))
  refine kk ?_;clear kk
  refine eG (qB hsrc hh (λa h=>?_) hts hl hz hbs F1 hst1 hVm hAm) (λr s3 h=>?_)
  ·rcases h with h|(h|h)|⟨_,h⟩
   ·exact .inl (.inl h)
   ·exact .inl (.inr (.inl h))
   ·exact .inr (wr0 a h)
   ·rcases g2 a h with q|q
    ·exact .inl (.inr (.inr ⟨rfl,q⟩))
    ·exact .inr (bQ k2 q)
  obtain⟨v,rfl,h⟩:=h
  refine wpAny_mono h (λU s4 h=>eG h (λU s5 h=>?_)) λU U x=>x.elim
  refine bV h λF5 hst5 kb5=>?_
  have k5:=gd F1.ok g3 (λo e=>kb5 66 o w66 (λm=>(F1.ok.mtx 66 (.inr m)).2.1 rfl) e) (λb o e U hm e'=>kb5 b o (λq=>by rw[wrS b q] at e;exact no e) (λq=>by
   rcases(λa h=>(g2 a h).imp id newS) b q with q|q
   ·exact hm q
   ·replace e:=q.symm.trans e;exact no e) e')
  have hex5:=λb o e=>by
   refine aB (hex b o e) λo1 e1=>?_
   by_cases q1:wr b
   ·exact hsrc.ex l _ hst5 b q1
   by_cases q2:mo1 b
   ·exact(F5.ok.mtx b (.inr q2)).2.2
   ·exact⟨o1,kb5 b o1 q1 q2 e1⟩
  refine eG (oX hb (ag h5) hbody F5) (λfl s6 hp=>?_)
  refine iu hp λmo6 r1 r2 r3 r4=>?_
  have F6:=r4.fm
  have up6:=λa m=>r1 a (g1 a m)
  have dn6:∀a,mo6 a->mo a\/s2.heap.get? a=none:=λa h=>by
   rcases r2 a h with q|q
   ·exact g2 a q
   ·refine .inr ?_
    refine nn λo q2=>?_
    exfalso
    refine aB (hex5 a o q2) λo' e'=>?_
    rw[q] at e';exact no e'
  have k6:=k5.trans r3 (λa h=>(g2 a h).imp id newS)
  have hex6:∀b o,s2.heap.get? b=some o->∃o',s6.heap.get? b=some o':=λb o e=>by
   refine aB (hex5 b o e) λo1 e1=>?_
   by_cases q1:b=66
   ·obtain⟨ps,e⟩:=F6.ok.tab;exact⟨_,q1▸e⟩
   by_cases q2:mo1 b
   ·exact(F6.ok.mtx b (.inr (r1 b q2))).2.2
   ·exact⟨o1,r3.keep b o1 q1 q2 e1⟩
  have drop:∀{ρx:R},Fm C X env Γ (λa=>mB a\/wr a) mo6 ρx s6->Fm C X env Γ mB mo6 ρx s6:=λF=>F.change (λb o U U e=>e) (λa m=>.inl (.inl m)) (λU=>.inl) (λU=>id) (λa m q=>F.apartB a m (.inl q)) (F.ok.less λa h=>h.imp .inl id)
  have dn6S:=λa h=>(dn6 a h).imp id newS
  clear hp
  induction f1 with
  |nx=>
   obtain⟨rfl,F7⟩:=r4
   refine⟨l.length,by simp,l,mo6,ρ3,rfl,hlp,up6,dn6,k6,F7,hsrc.frame _ _ _ hst5 (λb o n e=>r3.keep b o ?_ ?_ e),hex6⟩
   ·rintro rfl
    rcases n with n|n
    ·exact n (.inl (.inl rfl))
    ·exact n.2 (.inl (.inl rfl))
   ·rcases n with n|n
    ·exact hVm b n
    ·exact hAm b n.2
  |br=>
   simp only[Option.some.injEq,Prod.mk.injEq] at hlp
   refine aw hlp λq281 q282=>q281▸?_
   rw[<-q282]
   refine aw r4 λq291 F7=>?_
   refine q291▸?_
   exact(fj mo6 up6 dn6S k6 rfl (drop F7))
  |rt dd=>
   simp only[Option.some.injEq,Prod.mk.injEq] at hlp
   obtain⟨rfl,rfl⟩:=hlp
   refine aZ r4 λv q218 hr F7=>?_
   subst q218
   refine⟨mo6,up6,dn6S,k6,v,rfl,Rep.keep (λU U U e=>e) (λa q=>.inl ?_) _ _ hr,drop F7⟩
   rcases q with q|q|q
   ·exact .inl q
   ·exact .inr (.inl (.inl q))
   ·exact .inr (.inr q)
end
section
theorem Fm.own(F:Fm C X env Γ mB mo ρ s1)(k2:∀b o,s1.heap.get? b=some o->h'.get? b=some o)(fr:s1.heap.get? a=none)(ex:∃o,h'.get? a=some o)(ht:1<=tk):Fm C X env Γ mB (λb=>mo b\/b=a) ρ {s1 with heap:=h',toks:=tk}:=by
 have ok2:Ok C (λb=>mB b\/(mo b\/b=a)) {s1 with heap:=h',toks:=tk}:=F.ok.more (s':={s1 with heap:=h',toks:=tk}) k2 (λb h=>by
  have up:(mB b\/mo b)->((mB b\/mo b)\/s1.heap.get? b=none)/\∃o,h'.get? b=some o:=λh=>⟨.inl h,aB ((F.ok.mtx b h).2.2) λo e=>⟨o,k2 b o e⟩⟩
  rcases h with h|h|rfl
  ·exact up (.inl h)
  ·exact up (.inr h)
  ·exact⟨.inr fr,ex⟩) F.ok.bare rfl ht
 clear ex
 refine F.change (s':={s1 with heap:=h',toks:=tk}) (λb o U U e=>k2 b o e) (λU=>.inl) (λb h=>h.imp id λq=>by refine af q▸?_;exact fr) (λU=>.inl) (λb m q=>?_) ok2
 rcases m with m|rfl
 ·exact F.apartB b m q
 ·refine aB ((F.ok.mtx _ (.inl q)).2.2) λo e=>?_
  replace e:=fr.symm.trans e;exact no e
theorem Fm.none_at(F:Fm C X env Γ mB mo ρ s1)(fr:s1.heap.get? a=none)(k2:∀b o,s1.heap.get? b=some o->h.get? b=some o){sl:Sl}(hx:Γ.idxOf? x=some k)(hρ:ρ[k]? =some sl)(ho:sl.own=true):¬ValOf env h x (.ref a):=λhv=>by
 refine ai (F.slots k x sl hx hρ (by rintro rfl;(injection ho;done)) (by
  rcases hv with ⟨q,_⟩|⟨q|q,_⟩<;>(unfold Env.kindOf at q;unfold gW;rw[q]))) λv' hv' hr'=>?_
 have:=ValOf.unique (hv'.at λb o e U=>k2 b o e) hv
 clear hv'
 subst this
 have no:¬mo a:=λm=>by
  obtain⟨o,e⟩:=(F.ok.mtx a (.inr m)).2.2
  replace e:=fr.symm.trans e;exact no e
 induction sl with
 |ow ds'=>
  refine bY hr' λa' vs' e U hm U=>?_
  cases e;exact no hm
 |ob bs'=>
  refine iu hr' λa' e U hm U=>?_
  cases e;exact no hm
 |_=>(injection ho;done)
theorem St'.none(st:St' C mB mo s s1)(fr:s1.heap.get? a=none):s.heap.get? a=none:=by
 refine nn λo q=>?_
 by_cases h6:a=66
 ·refine aB st.2.tab λps e=>?_
  rw[h6,e] at fr;exact no (af fr)
 ·have:=st.1.keep _ o h6 q
  rw[fr] at this;exact no this
theorem vH{sl:Sl}(F:Fm C X env Γ mB mo ρ s1)(st:St' C mB mo s s1)(k2:∀b o,s1.heap.get? b=some o->h'.get? b=some o)(fr:s1.heap.get? a=none)(ex:∃o,h'.get? a=some o)(ht:1<=tk)
 (hs:bw env.scope.names Γ x k=true) (ho:sl.own=true) (hsl:SlotR X env Γ mB (λb=>mo b\/b=a) h' sl (.ref a)) (hst:bG k sl ρ=some ρ'):
 wpAny M A (storeName env x (.ref a)) (λU s3=>SPost C X env Γ mB mo s .nx ρ' .next s3) F0 {s1 with heap:=h',toks:=tk}:=by
 refine wm (bX (F.own k2 fr ex ht) hs hsl (by rintro rfl;(injection ho;done)) (λb U e k' x' sl' U hx hρ ho' hv=>by cases e;exact F.none_at fr k2 hx hρ ho' hv) hst) (λU s3 h=>?_)
 exact(fj (λb=>mo b\/b=a) (λb=>.inl) (λb m=>m.imp id λq=>by rw[q];exact(st.none fr)) (((KpM.of_kp st.1).trans (KpM.of_kp (mo:=mo) (st.2.kp (s':={s1 with heap:=h',toks:=tk}) k2)) λU=>.inl).trans h.2 λb m=>m.imp id λq=>by rw[q];exact(st.none fr)) rfl h.1)
theorem vJ(SE:∀{k:Kd} (e:AE k),ah C X H A e){e:AE .M}:aT C X H A env Γ (.newOwn k x p e r q):=λ{n mB mo ρ ρ' s f} hc he F=>by
 refine av λGG kk=>bi he λd hd he=>ai (cF he) λds q2 he=>?_
 subst q2
 refine aw (bE he) λhl he=>mi he λρ₂ hst q=>?_
 refine kk ?_;clear kk
 clear he
 clear he
 cases q
 refine wpAny_Assign_Name (wpAny_List (wm (SE e (ag hc) hd F r) (λvs s1 hv=>?_))) rfl
 have hs1:=hv.1
 have k2:∀b o,s1.heap.get? b=some o->(s1.heap.push {cls:=.type "list",data:=.seq vs.toArray}).get? b=some o:=λb o e=>aX _ e
 refine⟨by refine af (hv.2).length▸?_;exact aA hl bh,?_⟩
 exact vH (sl:=.ow ds) (F.keep hs1.1 hs1.2) hs1 k2 (aI _) ⟨_,(bz _ rfl)⟩ hs1.2.tk (ae hc) rfl (dD _ vs rfl ⟨⟨_,(bz _ rfl),rfl,_,rfl⟩,λo' e=>by rw[(bz _ rfl)] at e;refine(so e)▸?_;rfl⟩ (.inr rfl) hl (RepL.keep (λb o' U e=>k2 b o' e) (λb q=>by
  rcases q with q|q|⟨q,m|rfl⟩
  ·exact .inl (.inl q)
  ·exact .inl (.inr (.inl q))
  ·exact .inl (.inr (.inr ⟨q,m⟩))
  ·exact .inr (aI _)) _ _ (hv.2))) hst
end
theorem qg{β:Type}{o:Option Sl}{f:List D->Option β}{b:β}(h:(match o with|some (.ow ds)=>f ds|_=>none)=some b):∃ds,o=some (.ow ds)/\f ds=some b:=by
 induction o with
 |none=>exact no h
 |some sl=>induction sl<;>first|exact(am _ rfl h)|exact no h
theorem D4{β:Type}{o:Option Sl}{f:Nat->Option β}{b:β}(h:(match o with|some (.ap ds)=>f ds|_=>none)=some b):∃ds,o=some (.ap ds)/\f ds=some b:=by
 induction o with
 |none=>exact no h
 |some sl=>induction sl<;>first|exact(am _ rfl h)|exact no h
theorem CK{β:Type}{o:Option Sl}{f:D->Option β}{b:β}(h:(match o with|some (.sh ds)=>f ds|_=>none)=some b):∃ds,o=some (.sh ds)/\f ds=some b:=by
 induction o with
 |none=>exact no h
 |some sl=>induction sl<;>first|exact(am _ rfl h)|exact no h
theorem set_inv{f:Fl}(h:(d6 k sl ρ).map (λρ'=>(f,ρ'))=some x):x=(f,ρ.set k sl):=by
 refine mi h λρ₂ hst q=>aw (bE hst) λU e=>af (so e)▸?_;refine q▸?_;rfl
section
theorem Fm.write{s':Shared}{sl sl':Sl}(F:Fm C X env Γ mB mo ρ s)(hk:ρ[k]? =some sl)(ho:sl.own=true)(hx:Γ.idxOf? y=some k)(hv:ValOf env s.heap y (.ref a))(hm:mo a)
 (hnp:∀o,s.heap.get? a=some o->(∀es ep,o.data≠.dict es ep)/\∀v,o.data≠.cell v) (hnp':∀o,s'.heap.get? a=some o->(∀es ep,o.data≠.dict es ep)/\∀v,o.data≠.cell v)
 (kb:∀b o,b≠a->s.heap.get? b=some o->s'.heap.get? b=some o) (ex:∃o,s'.heap.get? a=some o) (hg:s'.gens=s.gens) (hos:s'.os=s.os) (ht:s.toks<=s'.toks)
 (hsl:SlotR X env Γ mB mo s'.heap sl' (.ref a)) (ho':sl'.own=true):Fm C X env Γ mB mo (ρ.set k sl') s':=by
 have nL:env.locals≠a:=λq=>by
  refine qR F.ns λm o es ep h hd U=>(hnp o (q▸h)).1 es ep hd
 have kc:∀{c v},s.heap.IsCell c v->s'.heap.IsCell c v:=λ{c v} i=>ai i λo h hd=>(am o (kb c o ((show∀{c v},s.heap.IsCell c v->c≠a from λ{c v} ⟨o,h,hd⟩ q=>(hnp o (q▸h)).2 v hd) i) h) hd)
 have kns:∀{m},s.heap.Ns env.locals m->s'.heap.Ns env.locals m:=λ{m} ⟨o,es,ep,h,r⟩=>(iZ o es ep (kb _ _ nL h) r)
 have fwd:∀{z v},ValOf env s.heap z v->ValOf env s'.heap z v:=λ{z v} h=>by
  rcases h with ⟨k1,m,n,e⟩|⟨k1,c,e,i⟩
  ·exact .inl ⟨k1,m,kns n,e⟩
  ·exact .inr ⟨k1,c,e,kc i⟩
 have bwd:∀{z v},ValOf env s'.heap z v->ValOf env s.heap z v:=λ{z v} h=>by
  rcases h with ⟨k1,m,n,e⟩|⟨k1,c,e,i⟩
  ·obtain⟨m0,n0⟩:=F.ns
   have:=eD n (kns n0)
   subst this
   exact .inl ⟨k1,_,n0,e⟩
  ·obtain⟨v0,i0⟩:=F.cellE z c e
   have:=di (kc i0) i
   subst this
   exact .inr ⟨k1,c,e,i0⟩
 have kk:∀b o,¬aJ mB mo false b->s.heap.get? b=some o->s'.heap.get? b=some o:=λb o n e=>kb b o (λq=>n (.inr (.inr ⟨rfl,q▸hm⟩))) e
 have acc:∀{z v},ValOf env s.heap z v->gW env.scope.names z=true:=λ{z v} h=>by
  rcases h with ⟨q,_⟩|⟨q|q,_⟩<;>(unfold Env.kindOf at q;unfold gW;simp only[q])
 have sets:∀(j:Nat) (t:Sl),(ρ.set k sl')[j]? =some t->(j=k/\t=sl')\/(j≠k/\ρ[j]? =some t):=λj t h=>by
  by_cases hj:j=k
  ·subst hj
   rw[List.getElem?_set] at h
   simp at h
   exact .inl ⟨rfl,h.2.symm⟩
  ·rw[List.getElem?_set_ne (Ne.symm hj)] at h
   exact .inr ⟨hj,h⟩
 exact {
  ok:=F.ok.step (λb o n e=>kb b o (λq=>n (.inr (q▸hm))) e) (λb m=>by
   by_cases q:b=a
   ·exact q▸ex
   ·refine aB ((F.ok.mtx b m).2.2) λo e=>?_
    exact⟨o,kb b o q e⟩) (hg▸F.ok.bare) hos (aA F.ok.tk ht)
  kind:=F.kind
  glob:=F.glob
  bi:=F.bi
  ns:=aB F.ns λm n=>⟨m,kns n⟩
  mutL:=F.mutL
  apartB:=F.apartB
  cells:=λz c h1 h2=>let⟨m,v,i⟩:=F.cells z c h1 h2;⟨m,v,kc i⟩
  cellB:=F.cellB
  cellE:=λz c h=>aB (F.cellE z c h) λv i=>⟨v,kc i⟩
  hasC:=F.hasC
  inj:=F.inj
  slots:=λj z t h1 h2 h3 h4=>by
   rcases sets j t h2 with ⟨rfl,rfl⟩|⟨hj,h2⟩
   ·have:=kr hx h1
    refine this▸?_
    exact(am _ (fwd hv) hsl)
   ·refine ai (F.slots j z t h1 h2 h3 h4) λv hv' hr=>?_
    refine(am v (fwd hv') ?_)
    have na:∀{b},v=.ref b->t.own=true->b≠a:=λ{b} e ho2 q=>by
     subst q;subst e
     exact hj (F.apart j k z y t sl b h1 hx h2 hk ho2 ho hv' hv)
    induction t with
    |un=>trivial
    |sh d=>exact Rep.keep kk (λU=>.inl) d v hr
    |ow ds=>
     refine bU hr λb vs e hl hmb hn rl=>(dD b vs e (hl.at λo e'=>kb b o (na e rfl) e') hmb hn (RepL.keep kk (λU=>.inl) ds vs rl))
    |ob bs=>
     refine iu hr λb e hl hmb hb=>⟨b,e,kb _ _ (na e rfl) hl,hmb,hb⟩
    |ap i=>
     refine av λGG kk=>?_
     obtain⟨b,b2,e,⟨o,vs,h5,h6⟩,hn,z',hz',hvz⟩:=hr
     refine kk ?_;clear kk
     exact⟨b,b2,e,⟨o,vs,kk _ _ hn h5,h6⟩,hn,z',hz',fwd hvz⟩
  apart:=λj1 j2 z1 z2 t1 t2 b h1 h2 h3 h4 h5 h6 h7 h8=>by
   rcases sets j1 t1 h3 with ⟨e1,_⟩|⟨hj1,g3⟩<;>rcases sets j2 t2 h4 with ⟨e2,_⟩|⟨hj2,g4⟩
   ·simp only[e1,e2]
   ·subst e1
    exact F.apart j1 j2 z1 z2 sl t2 b h1 h2 hk g4 ho h6 (bwd h7) (bwd h8)
   ·subst e2
    exact F.apart j1 j2 z1 z2 t1 sl b h1 h2 g3 hk h5 ho (bwd h7) (bwd h8)
   ·exact F.apart j1 j2 z1 z2 t1 t2 b h1 h2 g3 g4 h5 h6 (bwd h7) (bwd h8)}
theorem ke{k:Nat}{vs vs':List Value}(F:Fm C X env Γ mB mo ρ s)(hk:ρ[k]? =some (.ow ds))(hx:Γ.idxOf? y=some k)
 (hv:ValOf env s.heap y (.ref a)) (hlen:ds'.length<=4096) (hp:PL s.heap a vs.toArray) (hm:mo a)
 (hr:RepL X s.heap (aJ mB mo false) ds' vs') (hp':PL h' a vs'.toArray) (hsb:Heap.SameBut a s.heap h'):Fm C X env Γ mB mo (ρ.set k (.ow ds')) {s with heap:=h'}/\KpM mo s.heap h':=by
 have kb:=λb o n e=>hsb.extBut b o n e
 have kk:∀b o,¬aJ mB mo false b->s.heap.get? b=some o->h'.get? b=some o:=λb o n e=>kb b o (λq=>n (.inr (.inr ⟨rfl,q▸hm⟩))) e
 have np:∀{h:Heap} {us:Array Value},PL h a us->∀o,h.get? a=some o->(∀es ep,o.data≠.dict es ep)/\∀v,o.data≠.cell v:=λ{h us} hp o ho=>by
  refine av λGG kk=>aw hp λq65 U=>?_
  obtain⟨o',ho',_,n,hd⟩:=q65
  refine kk ?_;clear kk
  replace ho':=ho.symm.trans ho';refine(so ho')▸?_
  refine af hd▸?_
  exact⟨λU U q=>(by(injection q;done)),λU q=>(by(injection q;done))⟩
 refine⟨F.write (s':={s with heap:=h'}) hk rfl hx hv hm (np hp) (np hp') kb (by refine aw hp' λq67 U=>?_;refine ai q67 λo h U=>?_;exact⟨o,h⟩) rfl rfl (Nat.le_refl _)
  (dD a vs' rfl hp' hm hlen (RepL.keep kk (λU=>.inl) _ _ hr)) rfl,?_⟩
 exact gd (s':={s with heap:=h'}) F.ok (.refl _) (λo e=>kb 66 o (λq=>(F.ok.mtx a (.inr hm)).2.1 q.symm) e) λb o U U m e=>kb b o (λq=>m (q▸hm)) e
theorem gp{s s':Shared}(F:Fm C X env Γ mB mo ρ s)(k:Kp s.heap s'.heap)(h:ValOf env s.heap z v):ValOf env s'.heap z v:=
 h.at λb o e hb=>k.keep b o (by
  rintro rfl
  refine aB F.ok.tab λps e66=>?_
  rcases hb with hb|⟨c,hc,hb⟩
  ·exact(F.ok.mtx env.locals (.inr F.mutL)).2.1 hb.symm
  ·subst hb
   refine bK (F.cellE z _ hc) λv o' e' hd'=>?_
   rw[e66] at e';obtain rfl:=so e';(injection hd';done)) e
theorem qf{ds:List D}(F:Fm C X env Γ mB mo ρ s)(hx:aO env.scope.names Γ y k=true)(hk:ρ[k]? =some (.ow ds)):
 wpAny (model C.prog C.w) A (eval (.Name y p) env) (λv s'=>s'=s/\∃a,v=.ref a/\ValOf env s.heap y (.ref a)/\Γ.idxOf? y=some k/\mo a/\∃vs,PL s.heap a (vs:List Value).toArray/\RepL X s.heap (aJ mB mo false) ds vs/\ds.length<=4096) F0 s:=
 wm (bH F hx hk (by rintro⟨⟩)) λv s' h=>by
  refine cq h λq62 h1 h2 h3=>?_
  clear h
  cases q62
  refine bU h2 λa vs q64 hp hm hn rl=>?_
  clear h2
  subst q64
  exact⟨rfl,a,rfl,h1,h3,hm,vs,hp,rl,hn⟩
theorem oh(F:Fm C X env Γ mB mo ρ s):interactive env=false:=by unfold interactive;refine af F.kind▸?_;rfl
theorem xo{vs:List Value}{h':Heap}(st:St' C mB mo s s1)(F:Fm C X env Γ mB mo ρ s)(hk:ρ[k]? =some (.ow ds))(hx:Γ.idxOf? y=some k)
 (hv:ValOf env s.heap y (.ref a)) (hlen:ds.length<ax) (hp:PL s.heap a vs.toArray) (hm:mo a) (rl:RepL X s.heap (aJ mB mo false) ds vs) (hr:Rep X s1.heap (aJ mB mo false) d x) (hp':PL h' a (vs++[x]).toArray) (hsb:Heap.SameBut a s1.heap h'):
 SPost C X env Γ mB mo s .nx (ρ.set k (.ow (ds++[d]))) .next {s1 with heap:=h'}:=
 .same ((KpM.of_kp st.1).trans (ke (vs':=vs++[x]) (F.keep st.1 st.2) hk hx (gp F st.1 hv) (ds':=ds++[d]) (by rw[List.length_append];exact hlen) (hp.at λo=>st.1.keep a o (F.ok.mtx a (.inr hm)).2.1) hm ((eW st.1 rl).snoc hr) hp' hsb).2 λU=>.inl) ⟨rfl,(ke (vs':=vs++[x]) (F.keep st.1 st.2) hk hx (gp F st.1 hv) (ds':=ds++[d]) (by rw[List.length_append];exact hlen) (hp.at λo=>st.1.keep a o (F.ok.mtx a (.inr hm)).2.1) hm ((eW st.1 rl).snoc hr) hp' hsb).1⟩
theorem vM(SE:∀{k:Kd} (e:AE k),ah C X H A e){e:AE .E}:aT C X H A env Γ (.append k y yp m ap e r q):=λhc he F=>by
 refine av λGG kk=>bi he λd hd he=>ai (qg he) λds hk he=>aw (bE he) λhlt he=>?_
 refine kk ?_;clear kk
 cases set_inv he
 refine af (eq_of_beq (ae (ag hc)))▸?_
 refine wpAny_Expr ?_ (oh F) rfl
 refine wpAny_mono (cU (P:=λv s'=>v=.none/\SPost C X _ _ _ _ _ .nx _ .next s') rfl (ae (ag (ag hc))) (List.getElem?_eq_none_iff.mp rfl) (by rw[e.plain];rfl) PySem.F.plainAttrs_list PySem.F.slot_list_append PySem.F.type_list_append
  (wpAny_mono (qf F (ae hc) hk) (λv s1 hv=>?_) λU U x=>x) (bu e.tx ([]) rfl (e.plain _ _))) (λv s' h=>by refine h.1▸?_;exact h.2) λU U x=>x
 refine av λGG kk=>?_
 obtain⟨rfl,l,rfl,h1,h2,hmo,vs,hp,rl,hn⟩:=hv
 refine kk ?_;clear kk
 refine(a6 hp.1.typeIs (λb e=>?_) (args_cons (aQ (SE e (ag (ag (ag hc))) hd F).1 λx s2 hs hx=>args_nil ?_) (e.plain _ _)))
 ·cases e
  refine ai hp.1 λo ho U=>(am o ho (hp.2 o ho))
 ·exact oY (hp.at λo=>hs.1.keep l o (F.ok.mtx l (.inr hmo)).2.1) (by refine af rl.length▸?_;exact hn) λh' hp' hsb=>⟨rfl,xo hs F hk h2 h1 hlt hp hmo rl hx hp' hsb⟩
theorem pI(h:mO v=true)(t:Option Expr)(es:List Expr)(k l:Nat)(env:Env){p:Pos}:swapsWith v t l env=pure false/\swapsWithSole [.Tuple es k p] v l env=pure false/\swappedStores [.Tuple es k p] v env=pure none:=by
 cases v<;>first|exact(a6 rfl rfl rfl)|(injection h;done)
theorem xV(hh:A.handled=none)(SE:∀{k:Kd} (e:AE k),ah C X H A e){T:AT}:aT C X H A env Γ (.multi ks T e q):=λhc he F=>by
 refine av λGG kk=>bi he λd hd he=>ai (cF he) λds q51 he=>?_
 subst q51
 refine mi he λρ₂ hst q=>kk ?_;clear kk
 clear he
 cases q
 clear he
 obtain⟨rfl,hlen⟩:=jC ks _ hst
 have hn1:=of_decide_eq_true (ae hc)
 refine bV (nV (ae (ag (ag hc)))) λhts hl hz=>?_
 have hb:bg T.names.length (.tuple ds)=some (ds.map .sh):=by
  unfold bg
  rw[if_neg hn1]
  exact if_pos (by simp only[hl,hlen,aV])
 clear he
 induction T with
 |one x p=>exact absurd rfl hn1
 |many xs ps k p=>
  refine Assign_Tuple (aQ (SE e (ag (ag (ag hc))) hd F).1 λu s1 hs hu=>?_) ?_ ?_
  ·have F1:=F.keep hs.1 hs.2
   refine bU hu λt vs q59 htu U U hr=>?_
   refine q59▸?_
   exact wm (jV hh hts hl hz hb F1 (.inr ⟨hn1,ds,t,vs,rfl,(by simp only[hl,hlen,aV]),rfl,htu,hr⟩)) λU s2 h=>.same ((KpM.of_kp hs.1).trans (qt F1 h.2) λU=>.inl) ⟨rfl,h.1⟩
  ·exact(pI (ae (ag hc)) none _ _ _ _).2.1
  ·exact(pI (ae (ag hc)) none _ _ 0 _).2.2
theorem wx{M:Model}(F:Fm C X env Γ mB mo ρ s)(hx:aO env.scope.names Γ x k=true)(hk:ρ[k]? =some sl)(hn:sl≠.un):wpAny M A (loadName env x) (λv s'=>s'=s/\SlotR X env Γ mB mo s.heap sl v) F0 s:=by
 refine ai (F.slots k x sl (eq_of_beq (ae (ae (ae hx)))) hk hn (ag (ae (ae hx)))) λv hv hr=>?_
 rcases id hv with ⟨k1,m,n,e⟩|⟨k1,c,e,i⟩
 ·exact wpAny_loadName_local F.kind k1 n e ⟨rfl,hr⟩
 ·rcases k1 with k1|k1
  ·exact wpAny_loadName_cell F.kind k1 e i ⟨rfl,hr⟩
  ·exact wpAny_loadName_free F.kind k1 e i ⟨rfl,hr⟩ (by have:=ag hx;exact af ((λ{x y}=>Bool.not_inj_iff.mp) (id (af this))))
theorem Cd{old d:D}{op:Operator}{f:Fl}(he:(match old,d with
        | .int a,.int b=>if op=.Add then (bG k (.sh (.int (a+b))) ρ).map λρ'=>(Fl.nx,ρ') else none
        | .str a,.str b=>if op=.Add/\a.length+b.length<=ax then (bG k (.sh (.str (a++b))) ρ).map λρ'=>(.nx,ρ') else none
        |_,_=>none)=some (f,ρ')):
 ∃dn,bG k (.sh dn) ρ=some ρ'/\f=.nx/\((∃a b,old=.int a/\d=.int b/\op=.Add/\dn=.int (a+b))\/∃a b,old=.str a/\d=.str b/\op=.Add/\a.length+b.length<=ax/\dn=.str (a++b)):=by
 cases old<;>try (exact no he;done)
 all_goals
  cases d<;>try (exact no he;done)
  refine aw (bE he) λhop he=>mi he λρ₂ hst q=>?_
  clear he
  clear he
  cases q
  first|exact(bc _ hst rfl (.inl (jL _ _ rfl rfl hop rfl)))|exact(bc _ hst rfl (.inr ⟨_,_,rfl,rfl,hop.1,hop.2,rfl⟩))
theorem CD(SE:∀{k:Kd} (e:AE k),ah C X H A e){op:Operator}:aT C X H A env Γ (.aug k y yp op e q):=λ{n mB mo ρ ρ' s f} hc he F=>by
 refine av λGG kk=>?_
 have hsn:bw env.scope.names Γ y k=true:=by
  unfold bw
  refine af (ae (ag hc))▸?_;refine af (ae (ae (ae (ae hc))))▸?_;rfl
 refine ai (CK he) λold hk he=>bi he λd hd he=>aZ (Cd he) λdn hst q20 hcase=>kk ?_;clear kk
 clear he
 refine af q20▸?_
 refine wpAny_AugAssign_Name (wm (wx F (ae hc) hk (by rintro⟨⟩)) λov s0 ho=>?_)
 clear hk
 clear he
 clear he
 obtain⟨rfl,ho⟩:=ho
 refine aQ (SE e (ag (ag hc)) hd F).1 λu s1 hs hu=>?_
 have fin:∀{t:Sem Value},wpAny (model C.prog C.w) A t (Res X (aJ mB mo false) s1 dn) F0 s1->wpAny (model C.prog C.w) A t (λr s₃=>wpAny (model C.prog C.w) A (storeName env y r) (λU=>SPost C X env Γ mB mo s0 .nx ρ' .next) F0 s₃) F0 s1:=λht=>
  wm (dB hs ht) λr s2 hr=>wm (bX (F.keep hr.1.1 hr.1.2) hsn (sl:=.sh dn) hr.2 (by rintro⟨⟩) (λa h=>by(injection h;done)) hst) λU s3 h=>.same ((KpM.of_kp hr.1.1).trans h.2 λU=>.inl) ⟨rfl,h.1⟩
 rcases hcase with ⟨a,b,rfl,rfl,rfl,rfl⟩|⟨a,b,rfl,rfl,rfl,hl,rfl⟩
 ·obtain⟨t,rfl⟩:=ho
  obtain⟨t',rfl⟩:=hu
  exact fin (P.iadd_int (.flat (bj ..) λh=>ba))
 ·obtain⟨n1,t,rfl⟩:=ho
  obtain⟨n2,t',rfl⟩:=hu
  refine fin (PyProof.Rows.iadd_str (λt' tk=>?_) (aA hl bh))
  rw[cG]
  exact .flat (bu s1.heap tk rfl (λU U e=>e)) λh=>bZ (by rw[List.length_append];exact hl)
end
namespace BA
theorem slot_md_get:Slot "method_descriptor" "__get__" "method_descriptor.__get__":=
 .of (owner:="method_descriptor") (n:="__get__") (by kernel_rfl) (by decide+kernel) (by decide+kernel) (by decide+kernel)
  (.inl (by decide+kernel)) (by kernel_rfl)
theorem rU:typeLookup (.type "method_descriptor") "__set__"=pure none:=by kernel_rfl
theorem nh:typeLookup (.type "method_descriptor") "__delete__"=pure none:=by kernel_rfl
theorem qQ:entryFor table "method_descriptor.__get__"=some Builtin.«method_descriptor.__get__»:=entryFor_of_tree (by kernel_rfl)
theorem r7(a b c:Value):argsOk "method_descriptor.__get__" ⟨[a,b,c],[]⟩:=by kernel_rfl
theorem vG:isSubtype (.type "list") (.type (".".intercalate ("list.append".cutAt '.').dropLast))=pure true:=by
 exact sub_list_self
section
noncomputable def bObj(a:Addr):Obj:={cls:=.type "builtin_function_or_method",data:=.fields #[.builtin "list.append",.ref a]}
theorem tU{a:Addr}{P:Fin->Shared->Prop}(hT:s.TypeIs (.ref a) "list")(h:P (.done (.ret (.ref s.heap.objs.size))) {s with heap:=s.heap.push (bObj a)}):
 wpAny (model prog w) A (Builtin.«method_descriptor.__get__» ⟨[.builtin "list.append",.ref a,.type "list"],[]⟩) P E s:=by
 refine aj (wpAny_of_eq (a:=(.builtin "list.append",some (.ref a),some (.type "list"))) (by first|rfl|kernel_rfl) ?_)
 have f1:=vG
 repeat (any_goals (first|assumption|wp_step))
theorem mF{a:Addr}{R:Result->Shared->Prop}(hT:s.TypeIs (.ref a) "list")(h:R (.ok (.ret (.ref s.heap.objs.size))) {s with heap:=s.heap.push (bObj a)}):
 codeAny (model prog w) A (.call (.builtin "method_descriptor.__get__") ⟨[.builtin "list.append",.ref a,.type "list"],[]⟩) R s:=by
 exact codeAny_call_builtin slot_md_get.plain qQ (slot_md_get.check _ _ _ _ _ _ _ _ (F.type_list_append) (r7 _ _ _) (tU hT h))
theorem ro{a:Addr}{tk:Tok}{vs:Array Value}{n:Nat}{sl:Array (Option Value)}{Q:Fin->Shared->Prop}(hx:s.heap.get? a=some {cls:=.type "list",dict:=none,data:=.seq vs n,slots:=sl})
 (hq:Q (.done (.ret (.ref s.heap.objs.size))) {s with heap:=s.heap.push (bObj a)}):
 wpAny (model prog w) A (Builtin.«object.__getattribute__» ⟨[.ref a,.str "append" tk],[]⟩) Q E s:=by
 have hT:s.TypeIs (.ref a) "list":=(am _ hx rfl)
 have f4:=F.slot_list_append.lookup
 have f5:=F.type_list_append
 have f6:=slot_md_get.lookup
 have f7:=rU
 have f8:=nh
 repeat (any_goals (first|assumption|wp_step))
 refine mF hT ?_
 repeat (any_goals (first|assumption|wp_step))
theorem append_bound{a:Addr}{vs:Array Value}{n:Nat}{sl:Array (Option Value)}{Q:Value->Shared->Prop}(hx:s.heap.get? a=some {cls:=.type "list",dict:=none,data:=.seq vs n,slots:=sl})
 (hq:Q (.ref s.heap.objs.size) {s with heap:=s.heap.push (bObj a),toks:=s.toks+1}):
 wpAny (model prog w) A (getAttr (.ref a) "append" true) Q E s:=by
 obtain⟨hp,g,d,tk,os⟩:=s
 have hT:∀tk',(⟨hp,g,d,tk',os⟩:Shared).TypeIs (.ref a) "list":=λU=>(am _ hx rfl)
 have f3:=F.slot_list_getattribute.lookup
 have f4:=F.slot_list_getattribute.bind (.ref a)
 repeat (any_goals (first|assumption|exact hT _|wp_step))
 refine codeAny_call_builtin F.slot_list_getattribute.plain am_entry_list_getattribute (F.slot_list_getattribute.check _ _ _ _ _ _ _ _ (hT _) (F.args_list_getattribute_2 _ _) (ro hx ?_))
 repeat (any_goals (first|assumption|wp_step))
end
end BA
section
theorem sa{a:Addr}{vs:Array Value}{Q:Value->Shared->Prop}(hp:PL s.heap a vs)(hq:Q (.ref s.heap.objs.size) {s with heap:=s.heap.push (BA.bObj a),toks:=s.toks+1}):
 wpAny (model prog w) A (getAttr (.ref a) "append" true) Q E s:=by
 refine av λGG kk=>?_
 refine aw hp λq1 hn=>?_
 obtain⟨o,ho,hc,n,hd⟩:=q1
 have hn:=hn o ho
 obtain⟨c,dct,dat,sl⟩:=o
 simp only at hc hd hn
 subst hc hd hn
 refine kk ?_;clear kk
 exact BA.append_bound ho hq
end
namespace BA
theorem quiet_append{as:Args}:(Code.builtin "list.append" as).quiet=true:=Code.quiet_builtin _ (by decide+kernel)
theorem uZ(a b:Value):(match Manifest.signature? "list.append" with|some sig=>Bind.checkArgs "list.append" {sig with full:=s!"{Bind.lastOf "list"}.{Bind.lastOf "list.append"}"} ⟨[a,b],[]⟩|none=>unsupported "")=pure ():=by kernel_rfl
theorem BI:(Manifest.signature? "list.append").isSome=true:=by kernel_rfl
theorem AO:isSubtype (.type "list") (.type "module")=pure false:=by kernel_rfl
theorem check_append{E:Value->Shared->Prop}{vs:Array Value}{sl:Array (Option Value)}
 (hx:s.heap.get? a=some {cls:=.type "list",dict:=none,data:=.seq vs n,slots:=sl}) (h:Q () s):
 wpAny (model prog w) A (checkBoundCall "list.append" ⟨[.ref a,x],[]⟩) Q E s:=by
 have hT:s.TypeIs (.ref a) "list":=(am _ hx rfl)
 have ha:=uZ (.ref a) x
 have hb:=BI
 generalize Manifest.signature? "list.append"=sg at ha hb
 clear ha
 induction sg with
 |none=>(injection hb;done)
 |some sig=>
  have f1:=AO
  repeat (any_goals (first|assumption|wp_step))
end BA
section
theorem r9{P:Fin->Shared->Prop}(hp:PL s.heap l vs.toArray)(hsz:vs.length<=4096)
 (hQ:∀h',PL h' l (vs++[x]).toArray->Heap.SameBut l s.heap h'->P (.done (.ret .none)) {s with heap:=h'}):wpAny M A (Builtin.«list.append» ⟨[.ref l,x],[]⟩) P E s:=by
 refine av λGG kk=>aw hp λhl hd0=>?_
 obtain⟨o,ho,hc,n,hd⟩:=id hl
 have hdict:=hd0 o ho
 refine kk ?_;clear kk
 show wpAny _ _ (updateSeq l (·.push x)>>=λU=>ret .none) _ _ s
 refine aj ?_
 refine av λGG kk=>?_
 obtain⟨cls,dd,data,sl⟩:=o
 simp only at hc hd hdict
 subst hc hd hdict
 refine kk ?_;clear kk
 refine wpAny_updateSeq ho rfl (aC (hQ _ ?_ (Heap.SameBut.update ..))) (aA ‹_› (by decide)) (by simp only[Array.size_push,List.size_toArray,sizeLine_eq];exact Nat.lt_of_le_of_lt ‹_› (by decide))
 refine⟨(bc _ (Heap.get?_update_self (Obj.mapSeq (·.push x)) ho rfl) rfl ?_),λo' ho'=>?_⟩
 ·simp only[Obj.mapSeq,List.push_toArray];exact⟨_,rfl⟩
 ·rw[(Heap.get?_update_self (Obj.mapSeq (·.push x)) ho rfl)] at ho';refine(so ho')▸?_;rfl
theorem uX{Q:Value->Shared->Prop}(hb:jf s.heap b l)(hp:PL s.heap l vs.toArray)(hsz:vs.length<=4096)
 (hQ:∀h',PL h' l (vs++[x]).toArray->Heap.SameBut l s.heap h'->Q .none {s with heap:=h'}):wpAny (model prog w) A (call (.ref b) [x]) Q E s:=by
 refine bY hb λo us ho hc hd q16=>?_
 subst q16
 have hl0:∃n sl,s.heap.get? l=some {cls:=.type "list",dict:=none,data:=.seq vs.toArray n,slots:=sl}:=by
  refine av λGG kk=>?_
  obtain⟨⟨o,ho,hc,n,hd⟩,hn⟩:=hp
  have hn:=hn o ho
  obtain⟨c,dct,dat,sl⟩:=o
  simp only at hc hd hn
  subst hc hd hn
  refine kk ?_;clear kk
  exact(fT n sl ho)
 refine dU hl0 λn0 sl0 hl0=>wpAny_call (codeAny_of_tree ?_)
 refine aj (wpAny_load ho ?_)
 obtain⟨cls,dd,data,sl⟩:=o
 simp only at hc hd
 subst hc hd
 refine wpAny_ite_true rfl ?_
 refine aj (BA.check_append hl0 ?_)
 refine aj (aC (aC ?_))
 exact⟨BA.quiet_append,codeAny_builtin entry_list_append (r9 hp hsz hQ)⟩
theorem nO{Q:Value->Shared->Prop}(hplain:args.any (·.1)=false)
 (h:wpAny M A (evalArgs (.ref u) true args []) (λx s₁=>jf s₁.heap u l/\wpAny M A (call (.ref u) x.pos x.kw) Q E s₁) E s):wpAny M A (callWith pos (.ref u) [] args []) Q E s:=by
 refine aj (wpAny_holding (wm h λx s₁ h₁=>aj (wpAny_standAt ?_)))
 refine av λGG kk=>?_
 obtain⟨⟨o,us,ho,hc,hd,rfl⟩,hcall⟩:=h₁
 refine kk ?_;clear kk
 obtain⟨cls,dd,data,sl⟩:=o
 simp only at hc hd
 subst hc hd
 rw[hplain]
 refine aj (m:=keeperOf (.ref u)) ?_
 refine aj (wpAny_load ho ?_)
 refine wpAny_ite_true rfl ?_
 refine aC ?_
 rw[if_pos (show(Value.type "builtin_function_or_method"==Value.type "builtin_function_or_method"||Value.type "builtin_function_or_method"==Value.type "method-wrapper")=true by decide)]
 exact aj (wm hcall λr s₂ hr=>aj (wpAny_holding (wpAny_point (aC hr))))
end
section
theorem tD:aT C X H A env Γ (.bindApp k k' x p y yp m r q):=λ{n mB mo ρ ρ' s f} hc he F=>by
 refine av λGG kk=>ai (qg he) λds hk he=>aw (bE he) λhne he=>mi he λρ₂ hst q=>?_
 refine kk ?_;clear kk
 clear he
 cases q
 clear he
 cases eq_of_beq (ag (ag hc))
 refine wpAny_Assign_Name ?_ rfl
 refine aj ?_
 refine wm (qf F (ae (ag hc)) hk) λv s1 hv=>av λGG kk=>?_
 clear he
 clear hk
 obtain⟨rfl,l,rfl,hvl,hyk,hmo,vs,hp,rl,hn⟩:=hv
 refine kk ?_;clear kk
 refine aj (wpAny_standAt (aj (wpAny_holding (sa hp (aj (wpAny_letTemporaryGo (aC ?_)))))))
 let s2:Shared:={s1 with heap:=s1.heap.push (BA.bObj l),toks:=s1.toks+1}
 have k2:∀b o',s1.heap.get? b=some o'->s2.heap.get? b=some o':=λb o' e=>aX _ e
 have at2:s2.heap.get? s1.heap.objs.size=some (BA.bObj l):=bz _ rfl
 have st2:St' C mB mo s1 s2:=⟨F.ok.kp (s':=s2) k2,F.ok.keep (h':=s1.heap.push (BA.bObj l)) (tk:=s1.toks+1) (Nat.succ_pos _) k2⟩
 refine wm (bX (F.keep st2.1 st2.2) (ae hc) (sl:=.ap k') (v:=.ref s1.heap.objs.size) ⟨_,l,rfl,⟨_,_,at2,rfl,rfl,rfl⟩,λq=>?_,y,hyk,hvl.at λb o e U=>k2 b o e⟩ (λq=>by cases q;exact hne rfl) (λa h=>by(injection h;done)) hst) λU s3 h=>.same ((KpM.of_kp st2.1).trans h.2 λU=>.inl) ⟨rfl,h.1⟩
 refine aB (iE F.ok _ q) λo e=>?_
 rw[aI] at e;exact no e
theorem tF(SE:∀{k:Kd} (e:AE k),ah C X H A e){e:AE .E}:aT C X H A env Γ (.addCall k y yp e r q):=λhc he F=>by
 refine av λGG kk=>ai (D4 he) λk' hk he=>bi he λd hd he=>ai (qg he) λds hk' he=>?_
 refine aw (bE he) λhlt he=>kk ?_;clear kk
 cases set_inv he
 refine wpAny_Expr (wpAny_Call_NameR (wm (bH F (ae hc) hk (by rintro⟨⟩)) λv s1 hv=>?_)) (oh F) rfl
 refine av λGG kk=>cq hv λq9 U q10 U=>?_
 clear hv
 subst q9
 obtain⟨b,l,rfl,hb,hnb,z,hz,hzv⟩:=q10
 refine kk ?_;clear kk
 refine nO (l:=l) (by rw[e.plain];rfl) ?_
 rw[e.plain]
 refine Calls.evalArgs_plain (Calls.spliced_cons (aQ (SE e (ag hc) hd F).1 λx s2 hs hx=>args_nil ?_))
 refine bK hb λo us ho h5=>?_
 have hb2:jf s2.heap b l:=(bu o us (pA hs.1 b o hnb ho) h5)
 refine⟨hb2,?_⟩
 refine av λGG kk=>ai (F.slots k' z _ hz hk' (by rintro⟨⟩) (by
  rcases hzv with ⟨q,_⟩|⟨q|q,_⟩<;>(unfold Env.kindOf at q;unfold gW;rw[q]))) λv2 hv2 hs2=>?_
 obtain rfl:=ValOf.unique hzv hv2
 refine bU hs2 λl' vs e hp hm hn rl=>?_
 refine kk ?_;clear kk
 cases e
 exact uX hb2 (hp.at λo=>hs.1.keep l o (F.ok.mtx l (.inr hm)).2.1) (by rw[rl.length];exact hn) λh' hp' hsb=>xo hs F hk' hz hzv hlt hp hm rl hx hp' hsb
end
section
variable{env:Env}
abbrev wB(mB:Addr->Prop)(pa:Option Addr):Addr->Prop:=λb=>mB b\/pa=some b
abbrev wO(mo:Addr->Prop)(pa:Option Addr):Addr->Prop:=λb=>mo b\/pa=some b
theorem jc(b:Addr)(h:aJ mB (wO mo pa) false b):aJ (wB mB pa) mo false b:=by
 rcases h with h|h|⟨_,h|h⟩
 ·exact .inl h
 ·exact .inr (.inl (.inl h))
 ·exact .inr (.inr ⟨rfl,h⟩)
 ·exact .inr (.inl (.inr h))
theorem Fm.move(F:Fm C X env Γ (wB mB pa) mo ρ s)(ha:∀a,pa=some a->¬mB a):Fm C X env Γ mB (wO mo pa) ρ s where
 ok:=F.ok.less λb h=>by
  rcases h with h|(h|h)
  ·exact .inl (.inl h)
  ·exact .inr h
  ·exact .inl (.inr h)
 kind:=F.kind
 glob:=F.glob
 bi:=F.bi
 ns:=F.ns
 mutL:=.inl F.mutL
 apartB:=λb m q=>m.elim (λm=>F.apartB b m (.inl q)) λe=>ha b e q
 cells:=λx c h1 h2=>aw (F.cells x c h1 h2) λm r=>⟨.inl m,r⟩
 cellB:=λx c h q=>F.cellB x c h (.inl q)
 cellE:=F.cellE
 hasC:=F.hasC
 inj:=F.inj
 slots:=λk x sl h1 h2 h3 h4=>by
  refine ai (F.slots k x sl h1 h2 h3 h4) λv hv hr=>(am v hv ?_)
  clear h2
  clear h3 h4 hv
  induction sl with
  |un=>trivial
  |sh d=>exact Rep.keep (λU U U e=>e) (λb q=>.inl (jc b q)) d v hr
  |ow ds=>
   refine bU hr λa' vs e hl hm hn rl=>(dD a' vs e hl (.inl hm) hn (RepL.keep (λU U U e=>e) (λb q=>.inl (jc b q)) ds vs rl))
  |ob bs=>
   refine iu hr λa' e hl hm hb=>(fu a' e hl (.inl hm) hb)
  |ap j=>
   refine av λGG kk=>?_
   obtain⟨b,a',e,hb,hn,y,hy,hva⟩:=hr
   refine kk ?_;clear kk
   exact⟨b,a',e,hb,λq=>hn (jc b q),y,hy,hva⟩
 apart:=F.apart
def VOk(X:Addr)(h:Heap)(Av:Addr->Prop)(u:Value)(sl:Sl):Option Addr->Prop
 |none=>∃d,sl=.sh d/\Rep X h Av d u
 |some a=>sl=.ow []/\u=.ref a/\PL h a #[]
theorem VOk.keepS{Av Av':Addr->Prop}(k:∀b o,ef o->h.get? b=some o->h'.get? b=some o)(l:∀a,Av' a->Av a\/h.get? a=none)(m:VOk X h Av u sl pa):VOk X h' Av' u sl pa:=by
 induction pa with
 |none=>exact ai m λd e m=>⟨d,e,Rep.keepS (λb o U q e=>k b o q e) (λa q=>(l a q).imp id λe o ho=>by rw[e] at ho;exact no ho) _ _ m⟩
 |some a=>
  refine⟨m.1,m.2.1,m.2.2.at λo ho=>k _ o ?_ ho⟩
  obtain⟨⟨o',ho',_,n,hd⟩,_⟩:=m.2.2
  rw[ho] at ho';rw[so ho']
  exact⟨_,_,hd⟩
structure HQ(C:Cx)(X:Addr)(env:Env)(Γ:List Str)(mB mo:Addr->Prop)(ρ:R)(s:Shared)(sl:Sl)(u:Value)(pa:Option Addr)(s':Shared):Prop where
 fm:Fm C X env Γ (wB mB pa) mo ρ s'
 k:Kp s.heap s'.heap
 v:VOk X s'.heap (aJ (wB mB pa) mo false) u sl pa
 nw:∀a,pa=some a->s.heap.get? a=none
theorem DE(SE:∀{k:Kd} (e:AE k),ah C X H A e){v:AE .O}(hc:v.dok Γ env.scope.names=true)(he:lj H ρ v.ero=some sl)(F:Fm C X env Γ mB mo ρ s):wpAny (model C.prog C.w) A (eval v.get env) (λu s'=>∃pa,HQ C X env Γ mB mo ρ s sl u pa s') F0 s:=by
 have none_:∀{a:Addr},(none:Option Addr)=some a->False:=λh=>nomatch h
 cases v with
 |no=>(injection hc;done)
 |tt=>(injection hc;done)
 |yes a=>
  refine ai (Option.map_eq_some_iff.mp he) λd hd q=>q▸?_
  refine aQ (SE a hc hd F).1 λu s1 hs hu=>⟨none,?_,hs.1,?_,λa h=>(none_ h).elim⟩
  ·exact F.change (λb o n U e=>hs.1.keep b o n e) (λa h=>h.elim .inl λh=>(none_ h).elim) (λU=>.inl) (λU=>id) (λa m q=>q.elim (F.apartB a m) none_) (hs.2.less λa h=>h.imp (λh=>h.elim id λh=>(none_ h).elim) id)
  ·exact⟨d,rfl,Rep.keep (λU U U e=>e) (λa q=>.inl (q.imp id λq=>q.imp (λh=>h.elim id λh=>(none_ h).elim) id)) _ _ hu⟩
 |emp p=>
  refine(so he)▸?_
  refine wpAny_List (args_nil ⟨by simp,some s.heap.objs.size,?_⟩)
  have k1:∀b o',s.heap.get? b=some o'->(s.heap.push {cls:=.type "list",data:=.seq ([]:List Value).toArray}).get? b=some o':=λb o' e=>aX _ e
  have fr:s.heap.get? s.heap.objs.size=none:=aI _
  have at1:(s.heap.push {cls:=.type "list",data:=.seq ([]:List Value).toArray}).get? s.heap.objs.size=some _:=bz _ rfl
  have ok1:Ok C (λa=>wB mB (some s.heap.objs.size) a\/mo a) {s with heap:=s.heap.push {cls:=.type "list",data:=.seq ([]:List Value).toArray}}:=F.ok.more (s':={s with heap:=s.heap.push {cls:=.type "list",data:=.seq ([]:List Value).toArray}}) k1 (λa h=>by
   rcases h with (h|h)|h
   ·exact(λh=>⟨.inl h,aB ((F.ok.mtx a h).2.2) λo e=>⟨o,k1 a o e⟩⟩) (.inl h)
   ·obtain rfl:=so h;exact⟨.inr fr,_,at1⟩
   ·exact(λh=>⟨.inl h,aB ((F.ok.mtx a h).2.2) λo e=>⟨o,k1 a o e⟩⟩) (.inr h)) F.ok.bare rfl F.ok.tk
  refine⟨F.change (λb o U U e=>k1 b o e) (λa h=>h.imp id λq=>by refine(so q)▸?_;exact fr) (λU=>.inl) (λU=>id) (λa m q=>?_) ok1,F.ok.kp k1,⟨rfl,rfl,⟨_,at1,rfl,_,rfl⟩,λo' e=>by rw[show _=some o' from e] at at1;refine(so at1)▸?_;rfl⟩,λa h=>by refine(so h)▸?_;exact fr⟩
  rcases q with q|q
  ·exact F.apartB a m q
  ·obtain rfl:=so q
   refine aB ((F.ok.mtx _ (.inr m)).2.2) λo' e=>?_
   rw[fr] at e;exact no e
structure FP(C:Cx)(X:Addr)(env:Env)(Γ:List Str)(mB mo:Addr->Prop)(ρ':R)(s:Shared)(x:Str)(pa:Option Addr)(s':Shared):Prop where
 fm:Fm C X env Γ mB (wO mo pa) ρ' s'
 k:KpM (wO mo pa) s.heap s'.heap
 w:Wz env [x] s s'
theorem w7(F:Fm C X env Γ (wB mB pa) mo ρ s)(ha:∀a,pa=some a->¬mB a)(hs:bw env.scope.names Γ x k=true)(hv:VOk X s.heap (aJ (wB mB pa) mo false) u sl pa)(hst:bG k sl ρ=some ρ'):
 wpAny M A (storeName env x u) (λU=>FP C X env Γ mB mo ρ' s x pa) F0 s:=by
 refine aw (bE hst) λU e=>?_
 clear hst
 refine(so e)▸?_
 have F2:=F.move ha
 have go:SlotR X env Γ mB (wO mo pa) s.heap sl u->sl≠.ap k->(∀a,sl.own=true->u=.ref a->∀k' x' sl',k'≠k->Γ.idxOf? x'=some k'->ρ[k']? =some sl'->sl'.own=true->¬ValOf env s.heap x' (.ref a))->
  wpAny M A (storeName env x u) (λU=>FP C X env Γ mB mo ((ρ.map (Sl.kill k)).set k sl) s x pa) F0 s:=λh1 h2 h3=>
  wm (lb F2 (eq_of_beq (ae hs)) (ag hs) h1 h2 h3) λU s' h=>⟨h.1,qt F2 h.2,h.2⟩
 clear F2
 clear ha
 induction pa with
 |none=>
  obtain⟨d,rfl,hv⟩:=hv
  exact go (Rep.keep (λU U U e=>e) (λb q=>.inl (jc b q)) d u hv) (by rintro⟨⟩) λa h=>nomatch h
 |some a=>
  refine bV hv λq3 q4 hp=>?_
  subst q3
  subst q4
  refine go ⟨a,[],rfl,hp,.inr rfl,by simp,.nil⟩ (by rintro⟨⟩) λb U e k' x' sl' U hx hρ ho hv=>?_
  cases e
  refine ai (F.slots k' x' sl' hx hρ (by rintro rfl;(injection ho;done)) (by
   rcases hv with ⟨q,_⟩|⟨q|q,_⟩<;>(unfold Env.kindOf at q;unfold gW;rw[q]))) λv' hv' hr'=>?_
  clear hρ
  obtain rfl:=ValOf.unique hv' hv
  induction sl' with
  |ow ds'=>
   refine bY hr' λa' vs' e U hm' U=>?_
   cases e;exact F.apartB _ hm' (.inr rfl)
  |ob bs'=>
   refine iu hr' λa' e U hm' U=>?_
   cases e;exact F.apartB _ hm' (.inr rfl)
  |_=>(injection ho;done)
set_option backward.match.sparseCases true in
noncomputable def kn:Expr->Bool| .Starred .. =>true|_=>false
theorem EB{v₁ v₂:Expr}(hk:env.scope.kind=.function)(h1:env.kindOf x₁=some .local)(h2:env.kindOf x₂=some .local)(hl:(p₂.line==p₁.line)=true)(hne:(x₁ !=x₂)=true)(s1:kn v₁=false)(s2:kn v₂=false)
 (c1:(!(foldedForSure 8 v₁&&foldedForSure 8 v₂)&& !(constantsAlone 8 v₁&&constantsAlone 8 v₂))=true):swappedStores [.Tuple [.Name x₁ p₁,.Name x₂ p₂] kt pt] (.Tuple [v₁,v₂] kv pv) env=pure (some [x₁,x₂]):=by
 have nt:∀{b:Bool},(!b)=true->b=false:=λ{b} h=>by induction b<;>first|rfl|(injection h;done)
 have f1:[v₁,v₂].all (foldedForSure 8)=false:=by
  simp only[List.all_cons,List.all_cons,List.all_nil,Bool.and_true];exact nt (ae c1)
 have f2:[v₁,v₂].all (constantsAlone 8)=false:=by
  simp only[List.all_cons,List.all_cons,List.all_nil,Bool.and_true];exact nt (ag c1)
 have an:∀f:Expr->Bool,(∀x,f x=kn x)->[v₁,v₂].any f=false:=λf h=>by
  simp only[List.any_cons,List.any_cons,List.any_nil,h,h,s1,s2];rfl
 have fm:∀f:Expr->Option Str,f (.Name x₁ p₁)=some x₁->f (.Name x₂ p₂)=some x₂->[Expr.Name x₁ p₁,.Name x₂ p₂].filterMap f=[x₁,x₂]:=λf h h'=>by
  rw[List.filterMap_cons,h,List.filterMap_cons,h'];rfl
 have ne:(x₂==x₁)=false:=by
  have:x₁≠x₂:=by simpa using hne
  simpa using this.symm
 have bk:(env.blockKind !=.function)=false:=by unfold Env.blockKind;refine af hk▸?_;rfl
 have ed:[x₁,x₂].eraseDups=[x₁,x₂]:=by
  simp only[List.eraseDups_cons,List.filter_cons,ne,List.filter_nil];rfl
 have fl:=fm (λ | .Name id pos=>if env.kindOf id==some .local&&pos.line==p₁.line then some id else none|_=>none) (if_pos (show(env.kindOf x₁==some .local&&p₁.line==p₁.line)=true by simp only[h1,beq_self_eq_true,beq_self_eq_true];rfl)) (if_pos (show(env.kindOf x₂==some .local&&p₂.line==p₁.line)=true by simp only[h2,hl,beq_self_eq_true];rfl))
 have key:∀L,L=[x₁,x₂]->(L.length !=2||L.eraseDups.length !=L.length)=false:=λL e=>by rw[e,ed];rfl
 have ff:∀{b:Bool},b=false->¬b=true:=λe h=>Bool.false_ne_true (e.symm.trans h)
 exact(if_neg (ff bk)).trans ((if_neg (ff (an _ λx=>rfl))).trans ((if_neg (ff (key _ fl))).trans ((if_neg (ff f1)).trans ((if_neg (ff f2)).trans (congrArg (λl=>(pure (some l):Sem (Option (List Str)))) fl)))))
set_option tactic.hygienic true in
theorem oK{v:AE .O}(hc:v.dok Γ env.scope.names=true):kn v.get=false:=by
 cases v with
 |yes a=>cases a<;>first|rfl|(rename_i k i a b c t e sc p;cases k<;>rfl)
 |emp=>rfl
 |no=>(injection hc;done)
 |tt=>(injection hc;done)
theorem mA{v:AE .O}(hc:v.dok Γ env.scope.names=true)(r:List Expr):starEach (v.get::r) env=(false,eval v.get env)::starEach r env:=by
 cases v with
 |yes a=>exact a.plain _ _
 |emp=>rfl
 |no=>(injection hc;done)
 |tt=>(injection hc;done)
theorem wn(he:az H (n+1) (.multiD [k₁,k₂] [i₁,i₂]) ρ=some (f,ρ')):∃sl1 sl2 ρ1,lj H ρ i₁=some sl1/\lj H ρ i₂=some sl2/\bG k₂ sl2 ρ=some ρ1/\bG k₁ sl1 ρ1=some ρ'/\f=.nx:=by
 refine av λGG kk=>bi he λsls hm he=>bi hm λsl1 m1 hm1=>mi hm1 λr1 hm2 q=>?_
 refine bi hm2 λsl2 m2 hm3=>mi hm3 λr2 hm4 q2=>?_
 clear hm3
 clear hm2
 clear hm1
 clear hm
 obtain rfl:=so hm4;subst q2;subst q
 refine aw (bE he) λU he=>mi he λρ₂ hst q=>kk ?_;clear kk
 cases q
 refine av λGG kk=>?_
 refine bi hst λρ1 t2 hst=>bi hst λρ2 t1 q=>kk ?_;clear kk
 refine(so q)▸?_
 exact(yU sl1 sl2 ρ1 m1 m2 t2 t1 rfl)
theorem vK(hh:A.handled=none)(SE:∀{k:Kd} (e:AE k),ah C X H A e){v₁ v₂:AE .O}:aT C X H A env Γ (.multiD k₁ k₂ x₁ p₁ x₂ p₂ kt pt v₁ v₂ kv pv q):=λ{n mB mo ρ ρ' s f} hc he F=>by
 refine G5 (wn he) λsl1 sl2 ρ1 m1 m2 t2 t1 q1=>af q1▸?_
 have c3:=ag (ag hc)
 have c7:=ag (ag (ag (ag c3)))
 have c8:=ag c7
 have sn:∀{x:Str} {k:Nat},(Γ.idxOf? x==some k)=true->env.kindOf x=some .local->bw env.scope.names Γ x k=true:=λh1 h2=>by
  unfold bw eg
  refine af h1▸?_;refine af (show env.scope.names.lookup _=some .local from h2)▸?_;rfl
 refine Assign_Tuple_swapped (names:=[x₁,x₂]) (wpAny_Tuple (args_cons (wm (DE SE (ae c7) m1 F) λu1 s1 h=>?_) (mA (ae c7) _))) rfl (EB F.kind (eq_of_beq (ae (ag hc))) (eq_of_beq (ae (ag c3))) (ae (ag (ag c3))) (ae (ag (ag (ag c3)))) (oK (ae c7)) (oK (ae c8)) (ag c8))
 obtain⟨pa1,D1⟩:=h
 refine args_cons (wm (DE SE (ae c8) m2 D1.fm) λu2 s2 h=>args_nil ⟨by exact aA (by decide:2<=4096) bh,?_⟩) (mA (ae c8) _)
 refine aB h λpa2 D2=>PySem.wpAny_unpackItems_tuple hh (items:=[u1,u2].toArray) ⟨_,bz _ rfl,rfl,0,rfl⟩ λh' he=>?_
 have k3:=λb o' e=>he b o' (Nat.ne_of_lt (Heap.lt_size ((λb o' e=>aX _ e) b o' e))) ((λb o' e=>aX _ e) b o' e)
 have kp3:Kp s2.heap h':=D2.fm.ok.kp (s':={s2 with heap:=h'}) k3
 have nB1:∀a,pa1=some a->¬mB a:=λa e m=>by
  obtain⟨o',e'⟩:=(F.ok.mtx a (.inl m)).2.2
  rw[D1.nw a e] at e';exact no e'
 have nB2:∀a,pa2=some a->¬wB mB pa1 a:=λa e m=>by
  obtain⟨o',e'⟩:=(D1.fm.ok.mtx a (.inl m)).2.2
  rw[D2.nw a e] at e';exact no e'
 have nn2:∀a,pa2=some a->s.heap.get? a=none:=λa e=>by
  refine nn λo q=>?_
  by_cases h6:a=66
  ·exact((D2.fm.ok.mtx a (.inl (.inr e))).2.1 h6).elim
  ·have:=D1.k.keep a o h6 q
   rw[D2.nw a e] at this;exact no this
 refine assignInOrder_cons (bindName_ (wm (w7 (s:={s2 with heap:=h'}) (D2.fm.keep (s':={s2 with heap:=h'}) kp3 (D2.fm.ok.keep (h':=h') (tk:=s2.toks) D2.fm.ok.tk k3)) nB2 (sn (ae c3) (eq_of_beq (ae (ag c3)))) (D2.v.keepS (λb o U e=>k3 b o e) λU=>.inl) t2) λU s4 h4=>?_))
 have v1:VOk X s4.heap (aJ (wB mB pa1) (wO mo pa2) false) u1 sl1 pa1:=by
  refine(D1.v.keepS (h':=h') (Av':=aJ (wB mB pa1) (wO mo pa2) false) (λb o hq e=>k3 b o (D2.k.keep b o (λq=>?_) e)) λa q=>?_).keepS (λb o hq e=>h4.w b o e (.inr hq)) λU=>.inl
  ·subst q
   refine aB D1.fm.ok.tab λps e6=>?_
   rw[e6] at e;obtain rfl:=so e
   refine dU hq λU U hd=>?_;(injection hd;done)
  ·rcases q with q|q|⟨q,m|m⟩
   ·exact .inl (.inl q)
   ·exact .inl (.inr (.inl q))
   ·exact .inl (.inr (.inr ⟨q,m⟩))
   ·exact .inr (D2.nw a m)
 refine assignInOrder_cons (bindName_ (wm (w7 h4.fm nB1 (sn (ae hc) (eq_of_beq (ae (ag hc)))) v1 t1) λU s5 h5=>assignInOrder_nil ?_))
 have up1:∀a,wO (wO mo pa2) pa1 a->mo a\/s.heap.get? a=none:=λa h=>h.elim ((show∀a,wO mo pa2 a->mo a\/s.heap.get? a=none from λa h=>h.imp id (nn2 a)) a) λe=>.inr (D1.nw a e)
 have kA:KpM mo s.heap h':=.of_kp (D1.k.trans (D2.k.trans kp3))
 exact(fj (wO (wO mo pa2) pa1) (λa m=>.inl (.inl m)) up1 ((kA.trans h4.k (show∀a,wO mo pa2 a->mo a\/s.heap.get? a=none from λa h=>h.imp id (nn2 a))).trans h5.k up1) rfl h5.fm)
end
section
theorem pX{v:Value}(hp:PL s.heap l vs.toArray)(hn:vs≠[])
 (hQ:∀h',PL h' l (vs.set (vs.length-1) v).toArray->Heap.SameBut l s.heap h'->Q () {s with heap:=h'}):wpAny (model prog w) A (setItem (.ref l) (.int (-1) t) v) Q E s:=by
 refine av λGG kk=>aw hp λhl hd0=>?_
 obtain⟨o,ho,hc,ne,hd⟩:=id hl
 have hdict:=hd0 o ho
 have hpos:=List.length_pos_iff.mpr hn
 refine kk ?_;clear kk
 unfold setItem
 try with_reducible refine wpAny_holding ?_
 first|refine aj (aC ?_)|skip
 refine aj (wpAny_sequenceKey hl.typeIs (by decide) ?_)
 refine aj (wpAny_callSpecial?_slot (name:=Str.ofString "__setitem__") hl.typeIs slot_list_setitem
  (wpAny_call_entry slot_list_setitem hl.typeIs entry_list_setitem ?_ (args_list_setitem _ _ _)))
 show wpAny _ _ (Builtin.List.listSubscript? (.int (-1) t)>>=_) _ _ s
 refine aj (wpAny_listSubscript_int (fitsIndex_neg (by decide) (by decide)) ?_)
 have hidx:seqIndex? (Int.negSucc 0) vs.toArray.size=some (vs.length-1):=by
  have:=seqIndex_neg (k:= -1) (n:=vs.toArray.size) (by decide) (by refine af List.size_toArray▸?_;exact um hpos)
  refine af (show(Int.negSucc 0)= -1 from rfl)▸?_;refine af this▸?_;refine af List.size_toArray▸?_
  congr 1;exact qo hpos
 refine aj (aj ?_)
 refine aj (wpAny_seqItems ho hd (aC (aC ?_)))
 refine af hidx▸?_
 have hx:vs.toArray[vs.length-1]? =some vs[vs.length-1]:=by simp
 simp only[Option.bind_some,hx,Option.map_some]
 refine aB (Obj.data_mapSeq hd (·.setIfInBounds (vs.length-1) v)) λn' hd'=>?_
 have hfin:PL (s.heap.update l (Obj.mapSeq (·.setIfInBounds (vs.length-1) v))) l (vs.set (vs.length-1) v).toArray:=by
  refine⟨⟨_,(Heap.get?_update_self (Obj.mapSeq (·.setIfInBounds (vs.length-1) v)) ho (Obj.isFreed_of_seq hd')),(Obj.cls_mapSeq ..).trans hc,n',by refine(List.setIfInBounds_toArray vs (vs.length-1) v)▸?_;exact hd'⟩,λo' ho'=>?_⟩
  rw[(Heap.get?_update_self (Obj.mapSeq (·.setIfInBounds (vs.length-1) v)) ho (Obj.isFreed_of_seq hd'))] at ho';obtain rfl:=so ho'
  obtain⟨cls,dd,data,sl⟩:=o
  simp only at hd hdict
  subst hd hdict
  rfl
 refine aj (wpAny_setSeqItemAt ho hd ?_)
 first
  |exact aj (aC (aC (a6 .none rfl (aC (hQ _ hfin (Heap.SameBut.update ..))))))
  |exact aC (am .none rfl (aC (hQ _ hfin (Heap.SameBut.update ..))))
end
section
theorem xm(hs:isSlice s=false):∀ov iv new,augStore s ov iv new=(do holding [new,ov,iv] (setItem ov iv new);release [new,ov,iv] [];pure .next):=by
 intro ov iv new
 cases s<;>first|rfl|(injection hs;done)
set_option tactic.hygienic true in
theorem r6{i e:IE}(he:az H (n+1) (.augItem k i e) ρ=some (f,ρ')):∃ds old dcs,ev H i true ρ=some (.int (-1))/\ρ[k]? =some (.ow ds)/\ds.getLast?=some (.str old)/\ev H e true ρ=some (.str dcs)/\old.length+dcs.length<=ax/\
 f=.nx/\ρ'=ρ.set k (.ow (ds.set (ds.length-1) (.str (old++dcs)))):=by
 refine bi he λj hj he=>?_
 generalize ρ[k]? =o at*
 induction o with
 |none=>exact no he
 |some sl=>
  induction sl<;>try (exact no he;done)
  rename_i ds
  cases j<;>try (exact no he;done)
  refine av λGG kk=>aw (bE he) λq11 he=>?_
  subst q11
  refine kk ?_;clear kk
  generalize hg:ds.getLast?=g at*
  induction g with
  |none=>exact no he
  |some old=>
   cases old<;>try (exact no he;done)
   rename_i old
   refine av λGG kk=>bi he λd hd he=>ai (str_inv he) λdcs q38 he=>?_
   subst q38
   refine aw (bE he) λhl he=>?_
   refine kk ?_;clear kk
   cases set_inv he
   exact(GD ds old dcs hj rfl hg hd hl rfl rfl)
theorem tE(SE:∀{k:Kd} (e:AE k),ah C X H A e){i e:AE .E}:aT C X H A env Γ (.augItem k y yp i r e q):=λ{n mB mo ρ ρ' s f} hc he F=>by
 refine G4 (r6 he) λds old dcs hj hk hold hd hlen q1 q2=>af q1▸?_
 refine q2▸?_
 have c3:=ag (ag hc)
 have hsl:isSlice i.tx=false:=by have:=ae (ag hc);simpa using this
 refine wpAny_AugAssign_SubscriptAny (wm (qf F (ae hc) hk) λov s0 ho=>?_) (xm hsl)
 refine av λGG kk=>?_
 obtain⟨rfl,l,rfl,hvl,hyk,hmo,vs,hp,rl,hn⟩:=ho
 refine kk ?_;clear kk
 refine aQ (SE i (ae c3) hj F).1 λiv s1 st1 hi=>?_
 obtain⟨t,rfl⟩:=hi
 have n66:=(F.ok.mtx l (.inr hmo)).2.1
 refine aw (i6 hold) λhne hle=>ai ((eW (st1.1) rl).get hle) λov hov hro=>?_
 have hvl8:=rl.length
 have hpos:=List.length_pos_iff.mpr hne
 refine wpAny_getItem_list_neg (hp.at λo e=>(st1.1).keep l o n66 e).1 (Int.natCast_nonneg _) (by rw[List.size_toArray,hvl8];exact um hpos) (Int.natCast_nonneg _) (x:=ov) (by
  refine af (show((-1:Int)+(vs.toArray.size:Nat)).toNat=ds.length-1 by rw[List.size_toArray,hvl8];exact qo hpos)▸?_;simpa using hov) ?_
 clear hov
 obtain⟨hol,ot,rfl⟩:=hro
 refine aQ (SE e (ag c3) hd (F.keep st1.1 st1.2)).1 λu s2 st2 hu=>?_
 obtain⟨hul,ut,rfl⟩:=hu
 refine wm (gC (P:=λv s'=>Rep X s'.heap (aJ mB mo false) (.str (old++dcs)) v) st2.2 (PyProof.Rows.iadd_str (λt' tk=>?_) (aA hlen bh))) λnv s3 hv=>?_
 ·rw[cG]
  exact⟨(bu s2.heap tk rfl (λU U e=>e)),bZ (by rw[List.length_append];exact hlen)⟩
 refine aw hv λst3 hr3=>?_
 have k3:=(st1.1).trans (st2.1.trans st3.1)
 have hp3:=hp.at λo e=>k3.keep l o n66 e
 refine pX hp3 (by rintro rfl;exact Nat.not_succ_le_zero _ (ln [_] [(1,.a (.k 0) (.k 1),.v 0),(1,.v 0,.k 0)] (.k 1) (.k 0) 0 rfl hpos (Nat.le_of_eq hvl8.symm))) λh' hp' hsb=>?_
 exact .same ((KpM.of_kp k3).trans (ke (((F.keep st1.1 st1.2).keep st2.1 st2.2).keep st3.1 st3.2) hk hyk (gp F k3 hvl) (ds':=ds.set (ds.length-1) (.str (old++dcs))) (by rw[List.length_set];exact hn) hp3 hmo (by rw[hvl8];exact(eW k3 rl).set _ hr3) hp' hsb).2 λU=>.inl) ⟨rfl,(ke (((F.keep st1.1 st1.2).keep st2.1 st2.2).keep st3.1 st3.2) hk hyk (gp F k3 hvl) (ds':=ds.set (ds.length-1) (.str (old++dcs))) (by rw[List.length_set];exact hn) hp3 hmo (by rw[hvl8];exact(eW k3 rl).set _ hr3) hp' hsb).1⟩
end
namespace BY
theorem slot_set:Slot "bytearray" "__setitem__" "bytearray.__setitem__":=
 .of (owner:="bytearray") (n:="__setitem__") (by kernel_rfl) (by decide+kernel) (by decide+kernel) (by decide+kernel)
  (.inl (by decide+kernel)) (by kernel_rfl)
theorem w4:entryFor table "bytearray.__setitem__"=some Builtin.«bytearray.__setitem__»:=entryFor_of_tree (by kernel_rfl)
theorem zz(a b c:Value):argsOk "bytearray.__setitem__" ⟨[a,b,c],[]⟩:=by kernel_rfl
theorem Bw:typeLookup (.type "bytearray") "__bytes__"=pure none:=by kernel_rfl
theorem Bv:typeLookup (.type "bytearray") "__index__"=pure none:=by kernel_rfl
theorem buffer:typeLookup (.type "bytearray") "__buffer__"=pure (some (.builtin "bytearray.__buffer__")):=by kernel_rfl
theorem release:typeLookup (.type "bytearray") "__release_buffer__"=pure (some (.builtin "bytearray.__release_buffer__")):=by kernel_rfl
theorem sub_self:isSubtype (.type "bytearray") (.type "bytearray")=pure true:=by kernel_rfl
theorem sub_str:isSubtype (.type "bytearray") (.type "str")=pure false:=by kernel_rfl
section
noncomputable def bObj(b:Array UInt8):Obj:={cls:=.type "bytearray",data:=.bytearray b}
theorem yr{b:Array UInt8}{i x:Int}{P:Fin->Shared->Prop}(ha:s.heap.get? a=some (bObj b))(hi:0<=i)(hi2:i<b.size)(hb:b.size<=sizeLine)(hx:0<=x)(hx2:x<256)
 (h:∀h',h'.get? a=some (bObj (b.setIfInBounds i.toNat x.toNat.toUInt8))->Heap.SameBut a s.heap h'->P (.done (.ret .none)) {s with heap:=h'}):
 wpAny (model prog w) A (Builtin.«bytearray.__setitem__» ⟨[.ref a,.int i t,.int x u],[]⟩) P E s:=by
 have hs:sizeLine<2^63:=by decide
 have hfit:Builtin.Bytes.fitsIndex i=true:=by
  unfold Builtin.Bytes.fitsIndex
  simp only[Bool.and_eq_true,decide_eq_true_eq]
  exact⟨Int.le_trans (by decide) hi,Int.lt_of_lt_of_le (Int.lt_trans hi2 (Int.ofNat_lt.mpr (Nat.lt_of_le_of_lt hb hs))) (by decide)⟩
 have hbv:(decide (x<0)||decide (x>=256))=false:=by simp;exact And.symm ⟨hx2,hx⟩
 unfold Builtin.«bytearray.__setitem__»
 refine W.KFB.if_not rfl ?_
 refine aj ?_
 refine aj (wpAny_specialOf (T:="int") (typeIs_int s i t) int_index ?_)
 refine W.KFB.if_not rfl ?_
 refine aj (wpAny_of_eq (a:=i) rfl ?_)
 refine W.KFB.if_not (by refine af hfit▸?_;rfl) ?_
 refine aC ?_
 refine aj ?_
 refine aj (wpAny_of_eq (a:=x) rfl ?_)
 refine W.KFB.if_not hbv ?_
 refine aC ?_
 refine aj ?_
 refine aj (aj (wpAny_load ha ?_))
 refine aC (aC ?_)
 have hidx:seqIndex? i b.size=some i.toNat:=by
  simp only[seqIndex?]
  rw[if_neg (show¬i<0 by exact Int.not_lt_of_ge hi),if_pos (by simp;exact And.symm ⟨hi2,hi⟩)]
 refine af hidx▸?_
 refine aj ?_
 refine aj (wpAny_load ha ?_)
 refine aj (wpAny_update ha ?_)
 refine wpAny_lookBehind (Heap.get?_update_self (Obj.mapBytearray (·.setIfInBounds i.toNat x.toNat.toUInt8)) ha rfl) ?_ (aC (h _ (Heap.get?_update_self (Obj.mapBytearray (·.setIfInBounds i.toNat x.toNat.toUInt8)) ha rfl) (Heap.SameBut.update ..)))
 show(if (b.setIfInBounds i.toNat x.toNat.toUInt8).size>sizeLine then some "bytearray:memory" else none)=none
 rw[if_neg]
 refine af Array.size_setIfInBounds▸?_
 exact Nat.not_lt.mpr ‹_›
theorem setItem_ok{i x:Int}(ha:s.heap.get? a=some (bObj b))(hi:0<=i)(hi2:i<b.size)(hb:b.size<=sizeLine)(hx:0<=x)(hx2:x<256)
 (h:∀h',h'.get? a=some (bObj (b.setIfInBounds i.toNat x.toNat.toUInt8))->Heap.SameBut a s.heap h'->Q () {s with heap:=h'}):
 wpAny (model prog w) A (setItem (.ref a) (.int i t) (.int x u)) Q E s:=by
 unfold setItem
 try with_reducible refine wpAny_holding ?_
 first|refine aj (aC ?_)|skip
 refine aj (wpAny_sequenceKey ⟨_,ha,rfl⟩ (by decide) ?_)
 refine aj (wpAny_callSpecial?_slot (name:=Str.ofString "__setitem__") ⟨_,ha,rfl⟩ slot_set
  (wpAny_call_entry slot_set ⟨_,ha,rfl⟩ w4 ?_ (zz _ _ _)))
 refine yr ha hi hi2 hb hx hx2 λh' e hs=>?_
 first
  |exact(am .none rfl (aC (h _ e hs)))
  |exact aC ⟨.none,rfl,aC (h _ e hs)⟩
theorem yD(n:String)(hn:n="__buffer__"\/n="__release_buffer__"):(("bytearray."++n).endsWith ("."++n))=true/\("bytearray."++n).dropRight (n.length+1)="bytearray":=by
 rcases hn with rfl|rfl<;>exact⟨by decide+kernel,by decide+kernel⟩
theorem qe{n:String}(hT:s.TypeIs (.ref a) "bytearray")(hl:typeLookup (.type "bytearray") (n:Str)=pure (some (.builtin ("bytearray."++n))))(hn:n="__buffer__"\/n="__release_buffer__")(h:Q true s):
 wpAny (model prog w) A (Builtin.Bytes.slotIsOwn (.ref a) n) Q E s:=by
 refine aj (wpAny_specialOf hT hl ?_)
 obtain⟨e1,e2⟩:=yD n hn
 dsimp only
 refine bm_if_false (by refine af e1▸?_;rfl) ?_
 refine af e2▸?_
 exact wpAny_isInstance hT sub_self h
theorem xg(ha:s.heap.get? a=some (bObj b))(h:Q (some b) s):wpAny (model prog w) A (Builtin.Bytes.buffer? "bytes.__new__" (.ref a) true) Q E s:=by
 have hT:s.TypeIs (.ref a) "bytearray":=(am _ ha rfl)
 refine aj (wpAny_specialOf hT buffer ?_)
 dsimp only
 refine aj (qe hT buffer (.inl rfl) ?_)
 refine bm_if_false rfl ?_
 refine aj (wpAny_specialOf hT buffer ?_)
 refine aj (aj (qe hT release (.inr rfl) (aC ?_)))
 refine bm_if_false rfl ?_
 refine aj (aj (aj (wpAny_load ha ?_)))
 exact aC (aC (aC h))
theorem yG(ha:s.heap.get? a=some (bObj b))(hb:b.size<=sizeLine)(h:P (.done (.ret (.bytes b s.toks))) {s with toks:=s.toks+1}):
 wpAny (model prog w) A (Builtin.«bytes.__new__» ⟨[.type "bytes",.ref a],[]⟩) P E s:=by
 refine aj (wpAny_of_eq (a:=true) rfl ?_)
 refine bm_if_false rfl ?_
 refine aj (wpAny_of_eq F.bm_sub ?_)
 refine bm_if_false rfl ?_
 refine aj (wpAny_of_eq (F.bm_bind _) ?_)
 refine aj (wpAny_of_eq (a:=()) rfl ?_)
 refine aj (wpAny_of_eq (a:=()) rfl ?_)
 refine bm_if_false rfl ?_
 refine aj (wpAny_specialOf ⟨_,ha,rfl⟩ Bw ?_)
 refine aj (aj ?_)
 refine aj (wpAny_load ha ?_)
 refine aC (aC ?_)
 refine bm_if_false rfl ?_
 refine aj (wpAny_specialOf ⟨_,ha,rfl⟩ Bv ?_)
 refine bm_if_true rfl ?_
 refine aj ?_
 refine xg ha ?_
 refine aj (wpAny_rule (aj (wpAny_mkBytes ?_ hb)))
 refine bm_if_true (by decide) ?_
 first
  |exact aC h
  |exact aj (aC (aC h))
theorem yH(ha:s.heap.get? a=some (bObj b))(hb:b.size<=sizeLine)(h:Q (.bytes b s.toks) {s with toks:=s.toks+1}):
 codeAny (model prog w) A (.call (.builtin "bytes.__new__") ⟨[.type "bytes",.ref a],[]⟩) (wants Q E) s:=by
 refine codeAny_of_tree ?_
 refine aj (wpAny_of_eq (F.bm_newCall _) (aC ⟨plainId_quiet F.bm_plain _,codeAny_builtin F.bm_entry ?_⟩))
 exact yG ha hb h
theorem call_bytes(ha:s.heap.get? a=some (bObj b))(hb:b.size<=sizeLine)(h:Q (.bytes b s.toks) {s with toks:=s.toks+1}):wpAny (model prog w) A (call (.type "bytes") [.ref a]) Q E s:=by
 refine callType_codes (Q₁:=λobj s₁=>s₁.TypeIs obj "bytes"/\Q obj s₁) F.bm_called (F.bm_typeCall _) F.entry_object_init
  (yH ha hb ⟨PySem.W.typeIs_bytes _ _ _,h⟩) λobj s₁ h₁=>?_
 exact(a6 h₁.1 (F.args_object_init_2 obj _) (object_init_meets F.bm_called.init.lookup F.bm_called.made (by decide) prog w A.in1 _ s₁ ⟨h₁.1,rfl,h₁.2⟩))
end
end BY
section
theorem mR(bs:List Nat):((bs.map Nat.toUInt8).toArray).size=bs.length:=by simp
theorem lS(G:Gd C):ah C X H A (.barr i b q x r p):=bF (λ{pk Γ ρ d env mB mo s} hc he F=>by
 obtain⟨bs,hk,rfl⟩:∃bs,ρ[i]? =some (.ob bs)/\d=.bytes bs:=by
  have he':(match ρ[i]? with|some (.ob bs)=>some (D.bytes bs)|_=>none)=some d:=he
  generalize ρ[i]? =o at*
  induction o with
  |none=>exact no he'
  |some sl=>induction sl<;>(first|exact no he'|refine(so he')▸?_);exact(am _ rfl rfl)
 have hb:=ae hc
 refine aw (G.blt "bytes" "bytes" (by decide+kernel)) λh1 h2=>?_
 clear he
 obtain rfl:=eq_of_beq (ag hb)
 refine Call_ (dG G F (ae hb) h1 h2 (by decide) (PySem.callWith_type rfl (Calls.evalArgs_plain (Calls.spliced_cons (wm (bH F (ag hc) hk (by rintro⟨⟩)) λv s1 hv=>args_nil ?_)))))
 refine cq hv λq25 U q26 U=>?_
 clear hv
 subst q25
 refine eQ q26 λa q27 hb hm hn h256=>?_
 rw[q27]
 exact BY.call_bytes (s:=s1) (b:=(bs.map Nat.toUInt8).toArray) hb (by rw[mR];exact aA hn bh) ⟨(dj F).toks 1,⟨_,rfl⟩,hn,h256⟩) λU U h=>by subst h;rfl
theorem rQ{i e:IE}(he:az H (n+1) (.setItem k i e) ρ=some (f,ρ')):∃bs j b,ev H e true ρ=some (.int b)/\ev H i true ρ=some (.int j)/\ρ[k]? =some (.ob bs)/\(0<=j/\j.toNat<bs.length/\0<=b/\b<256)/\f=.nx/\ρ'=ρ.set k (.ob (bs.set j.toNat b.toNat)):=by
 refine bi he λd hd he=>bi he λj hj he=>?_
 generalize ρ[k]? =o at*
 induction o with
 |none=>exact no he
 |some sl=>
  induction sl<;>try (exact no he;done)
  cases j<;>try (exact no he;done)
  cases d<;>try (exact no he;done)
  refine aw (bE he) λh he=>?_
  cases set_inv he
  exact(uE _ _ _ hd hj rfl h rfl rfl)
theorem tC(SE:∀{k:Kd} (e:AE k),ah C X H A e){i e:AE .E}:aT C X H A env Γ (.setItem k y yp i r e q):=λ{n mB mo ρ ρ' s f} hc he F=>by
 refine ze (rQ he) λbs j0 b0 hd hj hk q1 q2 q3=>cq q1 λh0 h1 h2 h3=>af q2▸?_
 refine q3▸?_
 have c3:=ag (ag hc)
 refine wpAny_Assign_Subscript (aQ (SE e (ag (ag c3)) hd F).1 λu s1 st1 hu=>?_) (pI (ae c3) _ [] 0 _ _ (p:=q)).1
 obtain⟨t1,rfl⟩:=hu
 have F1:=F.keep st1.1 st1.2
 refine wm (bH F1 (ae hc) hk (by rintro⟨⟩)) λov s1' ho=>cq ho λq13 hvl q14 hyk=>?_
 cases q13
 refine eQ q14 λa q17 hb hm hn h256=>?_
 clear q14
 subst q17
 refine aQ (SE i (ae (ag c3)) hj F1).1 λiv s2 st2 hi=>?_
 obtain⟨t2,rfl⟩:=hi
 have F2:=F1.keep st2.1 st2.2
 have hb2:mJ s2.heap a bs:=st2.1.keep a _ (F1.ok.mtx a (.inr hm)).2.1 hb
 have hset:(bs.map Nat.toUInt8).toArray.setIfInBounds j0.toNat b0.toNat.toUInt8=((bs.set j0.toNat b0.toNat).map Nat.toUInt8).toArray:=by
  simp
 refine BY.setItem_ok (b:=(bs.map Nat.toUInt8).toArray) hb2 h0 (by rw[mR];exact(Int.toNat_lt h0).mp h1) (by rw[mR];exact aA hn bh) h2 h3 λh' e' hsb=>?_
 rw[hset] at e'
 have kb:=λb o n e=>hsb.extBut b o n e
 have np:∀{h:Heap} {bs:List Nat},mJ h a bs->∀o,h.get? a=some o->(∀es ep,o.data≠.dict es ep)/\∀v,o.data≠.cell v:=λ{h us} hp o ho=>by
  rw[hp] at ho;refine(so ho)▸?_
  exact⟨λU U q=>(by(injection q;done)),λU q=>(by(injection q;done))⟩
 have hlt:∀x∈bs.set j0.toNat b0.toNat,x<256:=λx hx=>by
  rcases List.mem_or_eq_of_mem_set hx with q|q
  ·exact h256 x q
  ·exact q▸(Int.toNat_lt h2).mpr h3
 exact .same ((KpM.of_kp (st1.1.trans st2.1)).trans (gd (s':={s2 with heap:=h'}) F2.ok (.refl _) (λo e=>kb 66 o (λq=>(F2.ok.mtx a (.inr hm)).2.1 q.symm) e) λb o U U m e=>kb b o (λq=>m (q▸hm)) e) λU=>.inl) ⟨rfl,(F2.write (s':={s2 with heap:=h'}) (sl':=.ob (bs.set j0.toNat b0.toNat)) hk rfl hyk (gp F1 st2.1 hvl) hm (np hb2) (np e') kb ⟨_,e'⟩ rfl rfl (Nat.le_refl _) (fj a rfl e' hm (by rw[List.length_set];exact hn) hlt) rfl)⟩
end
end Internal
namespace Internal
open PyProof.Rows
set_option backward.match.sparseCases true
noncomputable def holderIds:List String:=["bytearray.__contains__","bytearray.__mod__","bytearray.__rmod__","_struct.pack_into.held","bytearray.find.held"]
noncomputable def dh:Code->Bool
 | .builtin id _=> !(holderIds.contains id)&& !(Builtin.Bytes.decodersThatHold.contains id)
 |_=>true
def Cl(Γ:Ctx):Prop:=dh Γ.code=true/\∀x∈Γ.below,dh x.1=true
structure iG(K:Ctx->Prop):Prop where
 enter:∀(Γ:Ctx) c h p,K Γ->dh c=true->K (Γ.enter c h p)
 goto:∀(Γ:Ctx) c,K Γ->dh c=true->K (Γ.goto c)
theorem eO:iG Cl where
 enter:=λΓ c h p k hc=>⟨hc,λx hx=>by
  rcases List.mem_cons.mp hx with rfl|hx
  ·exact k.1
  ·exact k.2 x hx⟩
 goto:=λΓ c k hc=>⟨hc,k.2⟩
def aG(K:Ctx->Prop){α:Type}(M:Model)(A:Around)(t:Sem α)(Q:α->Shared->Prop)(E:Value->Shared->Prop)(s:Shared):Prop:=
 ∀Γ p,Γ.In A->K Γ->Sem.wp M Γ t (λa U s'=>Q a s') (λe U s'=>E e s') p s
def dz(K:Ctx->Prop)(M:Model)(A:Around)(c:Code)(R:Result->Shared->Prop)(s:Shared):Prop:=
 ∀Γ p,Γ.code=c->Γ.Below A->K Γ->wpCode M Γ R p s
section
variable{K:Ctx->Prop}
theorem ay{t:Sem α}{Q:α->Shared->Prop}(h:wpAny M A t Q E s):aG K M A t Q E s:=λΓ p hΓ U=>h Γ p hΓ
theorem aF(h:aG K M A t Q E s)(hQ:∀a s,Q a s->Q' a s)(hE:∀e s,E e s->E' e s):aG K M A t Q' E' s:=
 λΓ p hΓ k=>Sem.wp_mono M Γ t (λa U s=>hQ a s) (λe U s=>hE e s) p s (h Γ p hΓ k)
theorem be{a:α}{Q:α->Shared->Prop}(h:Q a s):aG K M A (pure a) Q E s:=λU U U U=>h
theorem au(h:aG K M A m (λa s'=>aG K M A (f a) Q E s') E s):aG K M A (m>>=f) Q E s:=λΓ p hΓ k=>by
 simp only[Sem.wp_bind']
 exact Sem.wp_mono M Γ m (λa p' s' h'=>h' Γ p' hΓ k) (λU U U h'=>h') p s (h Γ p hΓ k)
theorem bW(h:aG K M A m Q E s):aG K M A (holding vs m) Q E s:=
 λΓ p hΓ k=>by simp only[Sem.wp_holding];exact h Γ p hΓ k
theorem rG(h:aG K M A m Q E s):aG K M A (operate vs m) Q E s:=
 λΓ p hΓ k=>by simp only[Sem.wp_operate];exact h Γ p hΓ k
theorem pH(h:aG K M A m Q E s):aG K M A (m.keep vs) Q E s:=
 λΓ p hΓ k=>by simp only[Sem.wp_keep];exact h Γ p hΓ k
theorem dV(h:aG K M A m Q (λe s'=>wpAny M A (k e) (λU s''=>E e s'') E s') s):aG K M A (m.onRaise k) Q E s:=λΓ p hΓ kk=>by
 simp only[Sem.wp_onRaise]
 exact Sem.wp_mono M Γ m (λU U U h'=>h') (λe p' s' h'=>h' Γ p' hΓ) p s (h Γ p hΓ kk)
theorem kU(hK:iG K){Q:Value->Shared->Prop}
 (hc:dz K M A (.call f ⟨pos,kw⟩) (λr s'=>match r with| .ok (.ret v)=>Q v s'| .ok _=>False| .error e=>E e s') s):aG K M A (call f pos kw) Q E s:=λΓ p hΓ k=>by
 show Sem.wp M Γ (runValue (.call f ⟨pos,kw⟩)) _ _ p s
 rw[Sem.wp_runValue]
 exact hc _ p rfl (hΓ.enter _ none p (by intro x;exact no x)) (hK.enter Γ _ none p k rfl)
theorem ct(hK:iG K){R:Result->Shared->Prop}
 (h:aG K M (A.under c) (M.den c) (λfin s'=>match fin with| .done f=>R (.ok f) s'| .again c'=>c'.quiet=true/\dh c'=true/\dz K M A c' R s')
  (λe s'=>R (.error e) s') s):dz K M A c R s:=λΓ p hc hΓ k=>by
 rw[wpCode_iff_wp,hc]
 refine Sem.wp_mono M Γ _ (λfin p' s' h'=>?_) (λU U U h'=>h') p s (h Γ p (hc▸hΓ.in) k)
 induction fin with
 |done f=>exact h'
 |again c'=>exact⟨h'.1,h'.2.2 (Γ.goto c') p' rfl (hΓ.goto c') (hK.goto Γ c' k h'.2.1)⟩
end
section
variable{K:Ctx->Prop}{R:Result->Shared->Prop}
theorem jl(hK:iG K){id:String}{b:Builtin}(hb:entryFor table id=some b)
 (h:aG K (model prog w) (A.under (.builtin id args)) (b args)
  (λfin s'=>match fin with| .done f=>R (.ok f) s'| .again c'=>c'.quiet=true/\dh c'=true/\dz K (model prog w) A c' R s') (λe s'=>R (.error e) s') s):
 dz K (model prog w) A (.builtin id args) R s:=by
 refine ct hK ?_
 show aG K _ _ (match entryFor table id with|some b=>b args|none=>unsupported ((withoutEnding? id "#data").getD id)) _ _ s
 refine af hb▸?_;exact h
theorem uT(hK:iG K){body env}
 (h:aG K (model prog w) (A.deeper env) (execs body env) (λf s'=>R (.ok (.ret (match f with| .ret v=>v|_=>.none))) s')
  (λe s'=>wpAny (model prog w) (A.deeper env) (leaving env e) (λU s''=>R (.error e) s'') (λe' s''=>R (.error e') s'') s') s):
 dz K (model prog w) A (.func body env) R s:=by
 refine ct hK ?_
 refine au (ay (wpAny_point ?_))
 refine au (dV (aF h (λf s' h'=>?_) λU U h'=>h'))
 induction f<;>exact be h'
theorem jq(hK:iG K){args:Args}{o:Obj}{body:List Stmt}(hroom:A.depth<recursionLimit)
 (ho:s.heap.get? a=some o)
 (hd':o.data=.func fd) (hco:fd.scope.isCoroutine=false) (hgen:fd.scope.isGenerator=false) (hbody:fd.body=.stmts body) (hcd:s.heap.CodeRec fd.code fd.qualname)
 (h:wpAny (model prog w) A.in1 (bindArgs fd args) (λbinds s₁=>
  wpAny (model prog w) A.in1 (newFunctionEnv fd.scope fd.globals fd.closure binds (fd.qualname++".<locals>.") (some a) fd.code none fd.builtins)
   (λenv s₂=>s₂.heap.NoLimit/\dz K (model prog w) A (.func body env) R s₂) (λe s'=>R (.error e) s') s₁) (λe s'=>R (.error e) s') s):
 dz K (model prog w) A (.call (.ref a) args) R s:=by
 refine ct hK ?_
 show aG K _ A.in1 (callAny (.ref a) args) _ _ s
 refine ay (aj (wpAny_load ho ?_))
 refine GZ hcd λc oc vs tq hc hoc hdc hq=>?_
 simp only[hd',callFunction,hco,hgen,hbody,hc]
 rw[hc] at h
 refine aj (m:=field (.ref c) 1) (wpAny_field hoc hdc hq (aj (aC ?_)))
 exact aj (wm h (λbinds s₁ h₁=>aj (wm h₁ (λenv s₂ h₂=>aj (wpAny_enterFrame h₂.1 hroom
  (aC (And.intro rfl ⟨rfl,h₂.2⟩)))))))
theorem oU{fd:FuncData}
 (h:aG K (model prog w) A (evalArgs (.ref a) true args []) (λx s₁=>(s₁.heap.get? a=some o/\o.data=.func fd)/\aG K (model prog w) A (call (.ref a) x.pos x.kw) Q E s₁) E s):
 aG K (model prog w) A (callWith pos (.ref a) [] args []) Q E s:=by
 refine au (bW (aF h (λx s₁ h₁=>au (ay (wpAny_standAt ?_))) λU U x=>x))
 refine av λGG kk=>?_
 have tail:∀{t:Sem Value},aG K (model prog w) A t Q E s₁->aG K (model prog w) A (t>>=λr=>holding [r] point>>=λU=>pure r) Q E s₁:=
  λht=>au (aF ht (λr s₂ hr=>au (ay (wpAny_holding (wpAny_point (be hr))))) λU U x=>x)
 obtain⟨⟨ho,hd⟩,hcall⟩:=h₁
 have hk:∀{Q':Keeper->Shared->Prop},Q' .frame s₁->aG K (model prog w) A (keeperOf (.ref a)) Q' E s₁:=λ{Q'} hq=>by
  refine ay ?_
  refine aj (wpAny_load ho ?_)
  refine af hd▸?_
  exact aC hq
 refine kk ?_;clear kk
 generalize args.any (·.1)=b
 refine au (hk ?_)
 induction b with
 |false=>
  show aG K (model prog w) A (if args.length+2*([]:List (Option Str×Sem Value)).length>30 then _ else _) Q E s₁
  split
  ·exact tail hcall
  ·exact tail (pH hcall)
 |true=>exact tail (pH hcall)
end
end Internal
namespace Internal
open PyProof.Rows
namespace BY
theorem mro:mroOf (.type "bytearray")=pure [.type "bytearray",.type "object"]:=by kernel_rfl
theorem lookup_new:typeLookup (.type "bytearray") "__new__"=pure (some (.builtin "bytearray.__new__")):=by kernel_rfl
theorem slot_init:Slot "bytearray" "__init__" "bytearray.__init__":=
 .of (owner:="bytearray") (n:="__init__") (by kernel_rfl) (by decide+kernel) (by decide+kernel) (by decide+kernel)
  (.inl (by decide+kernel)) (by kernel_rfl)
theorem called:TypeCalled "bytearray" "bytearray.__new__" "bytearray.__init__":=
 ⟨by decide+kernel,by decide+kernel,⟨_,_,mro⟩,madeBy_type mro lookup_new (by decide+kernel),by decide+kernel,sub_self,slot_init⟩
theorem typeCall(a:Value):checkTypeCall "bytearray" ⟨[a],[]⟩=pure ():=by kernel_rfl
theorem newCall(a:Value):checkBuiltinCall "bytearray.__new__" ⟨[.type "bytearray",a],[]⟩=pure ():=by kernel_rfl
theorem w5:entryFor table "bytearray.__new__"=some Builtin.«list.__new__»:=entryFor_alias (id':="list.__new__") (fastTable_eq_tree _▸(by kernel_rfl)) (by decide+kernel) (by decide+kernel) (fastTable_eq_tree _▸(by kernel_rfl))
theorem we:plainId "bytearray.__new__"=true:=by decide+kernel
theorem l6:plainId "bytearray.__init__"=true:=by decide+kernel
theorem uL:entryFor table "bytearray.__init__"=some Builtin.«bytearray.__init__»:=entryFor_of_tree (by kernel_rfl)
theorem args_init(a b:Value):argsOk "bytearray.__init__" ⟨[a,b],[]⟩:=by unfold argsOk;kernel_rfl
theorem wf:("bytearray.__new__".splitOn ".__new__").headD ""="bytearray":=congrArg (List.headD · "") PySem.W.split_bytearray
theorem xh(v:Value):Builtin.Bytes.bindOptional "bytearray.__init__" "bytearray" ["source","encoding","errors"] [v] []=pure [some v,none,none]:=by kernel_rfl
theorem uU(as:Args):dh (.builtin "bytearray.__init__" as)=true:=by show(!(holderIds.contains "bytearray.__init__")&& !(Builtin.Bytes.decodersThatHold.contains "bytearray.__init__"))=true;decide+kernel
theorem uV(as:Args):dh (.builtin "type.__call__" as)=true:=by show(!(holderIds.contains "type.__call__")&& !(Builtin.Bytes.decodersThatHold.contains "type.__call__"))=true;decide+kernel
section
theorem zh(a:Value)(h:Q₁ (.ref s.heap.objs.size) {s with heap:=s.heap.push (bObj #[])}):
 codeAny (model prog w) A (.call (.builtin "bytearray.__new__") ⟨[.type "bytearray",a],[]⟩) (wants Q₁ E) s:=by
 refine codeAny_of_tree ?_
 refine aj (wpAny_of_eq (newCall a) (aC ⟨plainId_quiet we _,codeAny_builtin_stack w5 rfl λp st=>?_⟩))
 have hsub:=sub_self
 obtain⟨hp,g,d,tk,os⟩:=s
 simp only[wf]
 wp_walk
 exact h
theorem dZ{l:List String}{id x:String}(h:(!l.contains id)=true)(hx:x∈l):id≠x:=λe=>by
 rw[e,List.contains_iff_mem.mpr hx] at h;exact nomatch h
noncomputable def expF:{F:Value->Code×Pos->Bool//∀self,Builtin.Bytes.exported self=(do return (<-stack).any (F self))}:=⟨_,λU=>rfl⟩
theorem Dv{c:Code}{q:Pos}(h:dh c=true):expF.1 self (c,q)=false:=by
 induction c with
 |builtin id as=>
  have h1:=ae h
  delta expF Builtin.Bytes.exported.match_1
  refine Eq.trans (dif_neg (dZ h1 (.head _))) ?_
  refine Eq.trans (dif_neg (dZ h1 (.tail _ (.head _)))) ?_
  refine Eq.trans (dif_neg (dZ h1 (.tail _ (.tail _ (.head _))))) ?_
  refine Eq.trans (dif_neg (dZ h1 (.tail _ (.tail _ (.tail _ (.head _)))))) ?_
  refine Eq.trans (dif_neg (dZ h1 (.tail _ (.tail _ (.tail _ (.tail _ (.head _))))))) ?_
  induction as with
  |mk pos kw=>
   induction pos with
   |nil=>rfl
   |cons v r=>exact(congrArg (Builtin.Bytes.sameRef v self&& ·) (Bool.not_eq_true' _▸ag h)).trans (Bool.and_false _)
 |_=>rfl
theorem rV{Q:Bool->Shared->Prop}(h:Q false s):aG Cl (model prog w) A (Builtin.Bytes.exported self) Q E s:=λΓ p U k=>by
 show Q (((Γ.code,p)::Γ.below).any (expF.1 self)) s
 rw[List.any_eq_false.mpr λx hx=>Bool.eq_false_iff.mp (Dv (q:=x.2) ((List.mem_cons.mp hx).elim (λe=>e▸k.1) (k.2 x)))]
 exact h
theorem eZ{K:Ctx->Prop}{a b:Sem α}(hc:c=false)(h:aG K M A b Q E s):aG K M A (if c=true then a else b) Q E s:=by
 subst hc;exact h
theorem pG{M:Model}(ha:s.heap.get? a=some (bObj b))(hz:(f b).size<=sizeLine)
 (h:∀h',h'.get? a=some (bObj (f b))->Heap.SameBut a s.heap h'->Q () {s with heap:=h'}):wpAny M A (Builtin.Bytes.write (.ref a) f) Q E s:=by
 refine aj (wpAny_load ha ?_)
 refine aj (wpAny_update ha ?_)
 refine wpAny_lookBehind (Heap.get?_update_self (Obj.mapBytearray f) ha rfl) ?_ (h _ (Heap.get?_update_self (Obj.mapBytearray f) ha rfl) (Heap.SameBut.update ..))
 exact(if_neg (Nat.not_lt.mpr ‹_›))
theorem wL{R:Result->Shared->Prop}(ha:s.heap.get? a=some (bObj #[]))(h0:0<=n)(h1:n<=4096)
 (h:∀h',h'.get? a=some (bObj (Array.replicate n.toNat 0))->Heap.SameBut a s.heap h'->R (.ok (.ret .none)) {s with heap:=h'}):
 dz Cl (model prog w) A (.builtin "bytearray.__init__" ⟨[.ref a,.int n t],[]⟩) R s:=by
 refine jl eO uL ?_
 refine af (Around.under_plainId l6 _)▸?_
 refine au (ay (aj (qe (am _ ha rfl) release (.inr rfl) (aC ?_))))
 refine eZ rfl ?_
 refine au (ay (wpAny_of_eq (xh _) ?_))
 refine au (ay (wpAny_of_eq (a:=()) rfl ?_))
 refine au (ay (wpAny_of_eq (a:=()) rfl ?_))
 refine au ?_
 have hor:∀{x y:Sem Bool} {Q:Bool->Shared->Prop},aG Cl (model prog w) A.in1 x (λb s'=>b=false/\aG Cl (model prog w) A.in1 y Q (λe s'=>R (.error e) s') s') (λe s'=>R (.error e) s') s->aG Cl (model prog w) A.in1 (x<||>y) Q (λe s'=>R (.error e) s') s:=λ{x y Q} h=>by
  refine au (aF h (λb s' hb=>?_) λU U x=>x)
  obtain⟨rfl,hy⟩:=hb
  exact hy
 refine hor (rV ⟨rfl,?_⟩)
 refine ay (aj (aj (wpAny_load ha ?_)))
 refine aC (aC ?_)
 refine eZ rfl ?_
 refine au (ay (pG ha (by simp) λh₁ e₁ hs₁=>?_))
 refine ay (aj (wpAny_of_eq (a:=none) rfl ?_))
 refine bm_if_false rfl ?_
 refine aj (wpAny_of_eq (a:=()) rfl ?_)
 refine aj (wpAny_specialOf (T:="int") (typeIs_int _ n t) int_index ?_)
 refine bm_if_true rfl ?_
 refine aj (wpAny_attempt (wpAny_of_eq (a:=n) rfl ?_))
 have hfit:Builtin.Bytes.fitsIndex n=true:=by
  unfold Builtin.Bytes.fitsIndex
  simp only[Bool.and_eq_true,decide_eq_true_eq]
  exact⟨Int.le_trans (by decide) h0,Int.lt_of_le_of_lt h1 (by decide)⟩
 refine bm_if_false (by refine af hfit▸?_;rfl) ?_
 clear hfit
 refine af (if_neg (Int.not_lt_of_ge h0))▸?_
 refine bm_if_false (by rw[beq_eq_false_iff_ne];exact Int.ne_of_lt (Int.lt_of_le_of_lt h1 (by decide))) ?_
 refine bm_if_false (by unfold Builtin.Bytes.tooLong;rw[decide_eq_false_iff_not,sizeLine_eq];exact Nat.not_lt.mpr (aA ((Int.toNat_le (n:=4096)).mpr h1) (by decide))) ?_
 refine aj (wpAny_rule ?_)
 split
 ·refine aj (pG e₁ (by simp only[Array.size_replicate,sizeLine_eq];exact aA ((Int.toNat_le (n:=4096)).mpr h1) (by decide)) λh₂ e₂ hs₂=>aC ?_)
  exact h h₂ e₂ (hs₁.trans hs₂)
 ·refine av λGG kk=>?_
  have hn:n=0:=by exact Int.le_antisymm (Int.not_lt.mp ‹_›) h0
  subst hn
  refine kk ?_;clear kk
  exact aC (h h₁ e₁ hs₁)
theorem new_call(h0:0<=n)(h1:n<=4096)
 (h:∀h',h'.get? s.heap.objs.size=some (bObj (Array.replicate n.toNat 0))->(∀b o,s.heap.get? b=some o->h'.get? b=some o)->Q (.ref s.heap.objs.size) {s with heap:=h'}):
 aG Cl (model prog w) A (call (.type "bytearray") [.int n t]) Q E s:=by
 refine kU eO (ct eO ?_)
 refine be (a6 (Code.quiet_builtin _ (by decide+kernel)) (uV _) (jl eO F.entry_type_call ?_))
 refine af (Around.under_plain (weight_type_call_type "bytearray" [.int n t] []) rfl)▸?_
 unfold Builtin.«type.__call__»
 refine eZ (by decide) ?_
 refine eZ called.canCreate ?_
 refine au (ay (wpAny_of_eq (typeCall _) ?_))
 refine au (ay (wpAny_of_eq mro ?_))
 refine eZ rfl ?_
 refine au (ay (wpAny_of_eq called.made ?_))
 refine au (be ?_)
 refine au (bW (ay (wpAny_call (zh (.int n t) ?_))))
 refine au (ay (wpAny_isInstance ⟨_,(bz _ rfl),rfl⟩ sub_self ?_))
 refine eZ rfl ?_
 refine au (bW ?_)
 refine au (ay (wpAny_specialOf ⟨_,(bz _ rfl),rfl⟩ slot_init.lookup ?_))
 refine bW (au (be (au (kU eO ?_))))
 refine ct eO ?_
 refine au (ay (slot_init.check _ _ _ _ _ _ _ _ ⟨_,(bz _ rfl),rfl⟩ (args_init _ _) ?_))
 refine be (a6 (plainId_quiet l6 _) (uU _) (wL (bz _ rfl) h0 h1 λh' e hs=>?_))
 refine be ?_
 refine eZ rfl ?_
 exact be (h h' e λb o e'=>hs.extBut b o (Nat.ne_of_lt (Heap.lt_size e')) (aX _ e'))
end
end BY
structure kK(C:Cx)(f:Nat)(ps Γ:List Str)(body:List Stmt)(fd:FuncData):Prop where
 at_:∃o,C.g.get? f=some o/\o.data=.func fd
 body_:fd.body=.stmts body
 clo:fd.closure=[]
 glob:fd.globals=mainGlobals
 blt:fd.builtins=builtinsNs
 code:C.g.CodeRec fd.code fd.qualname
 kind:fd.scope.kind=.function
 co:fd.scope.isCoroutine=false
 gen:fd.scope.isGenerator=false
 ps_:∃r,Γ=ps++r
 nd:ps.Nodup
 par:∀p∈ps,fd.scope.names.lookup p=some .local\/fd.scope.names.lookup p=some .cell
 free:∀x∈fd.scope.names,x.2≠.free
theorem xi:∀(ps:List Str) (vs:List Value) (m:Str->Option Value) (k:Nat) (x:Str) (v:Value),ps.Nodup->ps[k]? =some x->vs[k]? =some v->ko x=some .local->bindL ko (ps.zip vs) m x=some v:=by
 intro ps
 induction ps with
 |nil=>intro vs m k x v _ h;simp at h
 |cons p ps ih=>
  intro vs m k x v hn hx hv hk
  rcases vs with _|⟨u,vs⟩
  ·simp at hv
  ·
   rw[List.nodup_cons] at hn
   induction k with
   |zero=>
    simp at hx hv
    subst hx hv
    have keep:∀(ps:List Str) (vs:List Value) (m:Str->Option Value),p ∉ ps->m p=some u->bindL ko (ps.zip vs) m p=some u:=by
     intro ps
     induction ps with
     |nil=>intro vs m _ e;exact e
     |cons q ps ih'=>
      intro vs m hq e
      induction vs with
      |nil=>exact e
      |cons w vs=>
       simp only[List.mem_cons,not_or] at hq
       refine ih' vs _ hq.2 ?_
       split
       ·simp only[if_neg hq.1];exact e
       ·exact e
    refine keep ps vs _ hn.1 ?_
    rw[if_pos hk];exact if_pos rfl
   |succ k=>exact ih vs _ k x v hn.2 (by simpa using hx) (by simpa using hv) hk
theorem xj:∀(ps:List Str) (vs:List Value) (m:Str->Option Value) (k:Nat) (x:Str) (v:Value),ps.Nodup->ps[k]? =some x->vs[k]? =some v->ko x≠some .local->bindC ko (ps.zip vs) m x=some v:=by
 intro ps
 induction ps with
 |nil=>intro vs m k x v _ h;simp at h
 |cons p ps ih=>
  intro vs m k x v hn hx hv hk
  rcases vs with _|⟨u,vs⟩
  ·simp at hv
  ·
   rw[List.nodup_cons] at hn
   induction k with
   |zero=>
    simp at hx hv
    subst hx hv
    have keep:∀(ps:List Str) (vs:List Value) (m:Str->Option Value),p ∉ ps->m p=some u->bindC ko (ps.zip vs) m p=some u:=by
     intro ps
     induction ps with
     |nil=>intro vs m _ e;exact e
     |cons q ps ih'=>
      intro vs m hq e
      induction vs with
      |nil=>exact e
      |cons w vs=>
       simp only[List.mem_cons,not_or] at hq
       refine ih' vs _ hq.2 ?_
       split
       ·exact e
       ·simp only[if_neg hq.1];exact e
    refine keep ps vs _ hn.1 ?_
    rw[if_neg hk];exact if_pos rfl
   |succ k=>exact ih vs _ k x v hn.2 (by simpa using hx) (by simpa using hv) hk
section
theorem mr{K:Ctx->Prop}(hK:iG K)(G:Gd C){fd:FuncData}(DA:kK C f ps Γ body fd){n:Nat}{mt:Addr->Prop}{s:Shared}(ok:Ok C mt s)
 (hl:ds.length=ps.length) (rl:RepL X s.heap (λa=>a=66\/mt a) ds vs) (hbind:BindsTo s fd ⟨vs,[]⟩ (ps.zip vs)) (hroom:A.depth<recursionLimit)
 (hb:∀(env:Env) (mo:Addr->Prop) (s₁:Shared),env.scope=fd.scope->env.code=fd.code->env.qual=fd.qualname++".<locals>."->Fm C X env Γ mt mo (ds.map .sh++List.replicate n .un) s₁->(∀b o,s.heap.get? b=some o->s₁.heap.get? b=some o)->∃ρ',aG K (model C.prog C.w) (A.deeper env) (execs body env) (SPost C X env Γ mt mo s₁ (.rt d) ρ') F0 s₁):
 aG K (model C.prog C.w) A (call (.ref f) vs) (bP C X mt s d) F0 s:=by
 refine ai DA.at_ λo ho hd=>kU hK (jq hK hroom (ok.gk _ _ ho) hd DA.co DA.gen DA.body_ (qR DA.code λc oc us tq e g r=>(Dl c oc us tq e (ok.gk c oc g) r)) (hbind _ _ _ _ ?_))
 refine af DA.clo▸?_
 have hcn:∀x,fd.scope.names.lookup x=some .cell->∀n,∃c,(cellsFrom n fd.scope.names []).lookup x=some c:=λx hx n=>by
  refine aB (d9 fd.scope.names n x (mem_of_lookup hx)) λc hc=>?_
  induction e:(cellsFrom n fd.scope.names []).lookup x with
  |some c'=>exact⟨c',rfl⟩
  |none=>
   rw[List.lookup_eq_none_iff] at e
   have:=e _ hc
   simp at this
 refine wpAny_with_toks ok.tk (wpAny_newFunctionEnv_cells DA.kind (λx hx=>?_) λenv he s₁ x htk=>?_)
 ·rcases DA.par x.1 ((List.of_mem_zip hx).1) with h|h
  ·exact .inl h
  ·refine aB (hcn x.1 h (s.heap.objs.size+1)) λc hc=>?_
   exact .inr ⟨h,by refine af hc▸?_;rfl⟩
 have hkeep:=x.toInCall.keep
 have hsame:=x.toInCall.same
 refine⟨((G.lim).keeps ok.gk).keeps hkeep,uT hK ?_⟩
 have hsc:env.scope=fd.scope:=by rw[he];rfl
 have hko:∀x,env.kindOf x=fd.scope.names.lookup x:=λx=>by unfold Env.kindOf;rw[hsc]
 have hcells:env.cells=cellsFrom (s.heap.objs.size+1) fd.scope.names []:=by subst he;rfl
 have lkc:=λ{x} h=>hcells▸hcn x h _
 have hcf:=λ{y c} h=>Heap.get?_none_of_le (aA x.toInCall.fresh (Nat.le_of_lt (x.above y c h)))
 let mo:Addr->Prop:=λa=>a=env.locals\/∃y,env.cells.lookup y=some a
 have mof:∀a,mo a->s.heap.get? a=none:=λa h=>by
  rcases h with rfl|⟨y,h⟩
  ·exact(Heap.get?_none_of_le x.toInCall.fresh)
  ·exact hcf ((show∀{x c},env.cells.lookup x=some c->(x,c)∈env.cells from λh=>mem_of_lookup h) h)
 have moe:∀a,mo a->∃o,s₁.heap.get? a=some o:=λa h=>by
  rcases h with rfl|⟨y,h⟩
  ·refine qT x.toInCall.ns λo U U e U=>?_;exact⟨o,e⟩
  ·refine ai (x.cell y a h) λo e U=>?_;exact⟨o,e⟩
 refine dU hsame λh₁ tk₁ hs₁=>?_
 have ok₁:Ok C (λa=>mt a\/mo a) s₁:=ok.more hkeep (λa h=>by
  rcases h with h|h
  ·refine aB ((ok.mtx a h).2.2) λo' e=>?_
   exact⟨.inl h,o',hkeep a o' e⟩
  ·exact⟨.inr (mof a h),moe a h⟩) (by rw[hs₁];exact ok.bare) (by rw[hs₁]) htk
 have nmt:∀a,mo a->¬mt a:=λa h q=>by
  refine aB ((ok.mtx a q).2.2) λo' e=>?_
  rw[mof a h] at e;exact no e
 refine aB DA.ps_ λrest hΓ=>?_
 have hidx:∀{x k},Γ.idxOf? x=some k->k<ps.length->ps[k]? =some x:=λ{x k} h hk=>by
  subst hΓ
  refine ai (List.findIdx?_eq_some_iff_getElem.mp (show(ps++rest).findIdx? (· ==x)=some k from h)) λh1 h2 U=>?_
  rw[beq_iff_eq] at h2
  refine h2▸?_;refine af (List.getElem_append_left hk)▸?_
  exact List.getElem?_eq_getElem hk
 have slot:∀{k sl},(ds.map Sl.sh++List.replicate n .un)[k]? =some sl->sl≠.un->∃d,ds[k]? =some d/\sl=.sh d/\k<ps.length:=λ{k sl} h hne=>by
  by_cases hk:k<ds.length
  ·rw[List.getElem?_append_left (by simpa using hk),List.getElem?_map] at h
   refine ai (Option.map_eq_some_iff.mp h) λd' e1 e2=>(bc d' e1 e2.symm (Nat.lt_of_lt_of_eq hk hl))
  ·rw[List.getElem?_append_right (by simp;exact Nat.le_of_not_lt ‹_›),List.getElem?_replicate] at h
   split at h<;>(first|exact no h|obtain rfl:=so h)
   exact absurd rfl hne
 have F:Fm C X env Γ mt mo (ds.map .sh++List.replicate n .un) s₁:={
  ok:=ok₁
  kind:=by refine af hsc▸?_;exact DA.kind
  glob:=by rw[he];exact DA.glob
  bi:=by subst he;exact DA.blt
  ns:=⟨_,x.toInCall.ns⟩
  mutL:=.inl rfl
  apartB:=nmt
  cells:=λy c h1 h2=>⟨.inr ⟨y,h2⟩,_,x.cell y c h2⟩
  cellB:=λy c h q=>nmt c (.inr ⟨y,h⟩) q
  cellE:=λy c h=>⟨_,x.cell y c h⟩
  hasC:=λy h=>by
   rw[hko] at h
   rcases h with h|h
   ·exact lkc h
   ·exact absurd h ((λx h=>DA.free _ (mem_of_lookup h) rfl) y)
  inj:=λy z c h1 h2=>name_of_addr x.apart ((show∀{x c},env.cells.lookup x=some c->(x,c)∈env.cells from λh=>mem_of_lookup h) h1) ((show∀{x c},env.cells.lookup x=some c->(x,c)∈env.cells from λh=>mem_of_lookup h) h2)
  slots:=λk y sl h1 h2 h3 h4=>by
   refine aZ (slot h2 h3) λd' e1 q28 hk=>?_
   rw[q28]
   refine ai (rl.get e1) λv hv hr=>?_
   have hp:=hidx h1 hk
   refine(am v ?_ (Rep.keep (λb o U e=>hkeep b o e) (λa q=>?_) d' v hr))
   ·rcases DA.par y (List.mem_of_getElem? hp) with hl|hl
    ·exact .inl ⟨by rw[hko];exact hl,_,x.toInCall.ns,xi ps vs _ k y v DA.nd hp hv (by rw[hko];exact hl)⟩
    ·refine aB (lkc hl) λc hc=>?_
     refine .inr ⟨.inl (by rw[hko];exact hl),c,hc,?_⟩
     have:=x.cell y c hc
     rwa [xj ps vs _ k y v DA.nd hp hv (by rw[hko,hl];decide)] at this
   ·rcases q with q|q|⟨_,q⟩
    ·exact .inl (.inl q)
    ·exact .inl (.inr q)
    ·exact .inr (mof a q)
  apart:=λk1 k2 y z s1 s2 a h1 h2 h3 h4 h5 h6 h7 h8=>by
   refine aZ (slot h3 (by rintro rfl;(injection h5;done))) λU U q35 U=>?_
   subst q35
   cases h5}
 refine aB (hb env mo s₁ hsc (by rw[he];rfl) (by subst he;rfl) F hkeep) λρ' hrun=>?_
 refine aF hrun (λfl s' hp=>?_) λU U x=>x.elim
 refine av λGG kk=>?_
 obtain⟨aK,g1,g2,k3,v,rfl,hr,F'⟩:=hp
 refine kk ?_;clear kk
 refine⟨⟨λb o' n e=>k3.keep b o' n (λm=>by rw[mof b m] at e;exact no e) (hkeep b o' e),λq c e=>?_⟩,F'.ok.less λa=>.inl,Rep.keep (λU U U e=>e) (λa q=>.inl (q.imp id .inl)) d v hr⟩
 rcases k3.code q c e with ⟨ps',e1,e2⟩|e1
 ·refine ai ok.tb λps₂ h2 U=>?_
  replace e1:=(hkeep _ _ h2)▸e1;cases e1
  exact .inl (am _ h2 e2)
 ·refine .inr λn=>?_
  by_cases m:mo c
  ·exact mof c m
  ·exact bQ hkeep (e1 n m)
end
section
theorem lC(G:Gd C)(HS:mK C X H A)(hh:A.handled=none)(hu:A.in1.units<cLine)(hspec:∀k i j x p y r q,aT C X H A env Γ (.spec k i j x p y r q))(a:AS k):aT C X H A env Γ a:=by
 have SE:∀{k:Kd} (e:AE k),ah C X H A e:=λe=>qM G HS hh hu (λU U U U U U=>lS G) e
 induction a with
 |assign=>exact vL G hh SE
 |newOwn=>exact vJ SE
 |newBarr=>exact λU h U=>nomatch h
 |bindApp=>exact tD
 |append=>exact vM SE
 |addCall=>exact tF SE
 |multi=>exact xV hh SE
 |multiD=>exact vK hh SE
 |setItem=>exact tC SE
 |augItem=>exact tE SE
 |aug=>exact CD SE
 |ife _ _ _ _ a b=>exact CB SE a b
 |whl _ _ _ a=>exact Cz SE a
 |fr _ _ _ _ _ _ _ _ _ a=>exact EC G hh SE a
 |ret=>exact CA SE
 |brk=>exact CC
 |asrt=>exact AY SE
 |spec=>exact hspec _ _ _ _ _ _ _ _
 |bad=>exact λU h U=>nomatch h
 |nil=>exact tI
 |cons _ _ a b=>exact rM a b
end
def cA(K:Ctx->Prop)(C:Cx)(X:Addr)(H:Hook)(A:Around):Prop:=∀f ds d,H f ds=some d->∀(mt:Addr->Prop) s vs,Ok C mt s->RepL X s.heap (λa=>a=66\/mt a) ds vs->
 aG K (model C.prog C.w) A (call (.ref f) vs) (bP C X mt s d) F0 s
noncomputable def dy(HA HK:Hook)(n:Nat):IS->R->Option (Fl×R)
 | .newBarr k e,ρ=>(ev HA e true ρ).bind λd=>match d with
  | .int i=>if 0<=i/\i<=ax then (bG k (.ob (List.replicate i.toNat 0)) ρ).map λρ'=>(.nx,ρ') else none
  |_=>none
 | .assign k (.call f a),ρ=>(ev HA a true ρ).bind λx=>match x with
  | .tuple ds=>(HK f ds).bind λd=>if d.flat then (bG k (.sh d) ρ).map λρ'=>(.nx,ρ') else none
  |_=>none
 | .ife (.cmp .NotEq (.call f a) b) x y,ρ=>(ev HA a true ρ).bind λx'=>match x' with
  | .tuple ds=>(HK f ds).bind λu=>(ev HA b true ρ).bind λv=>(cN .NotEq u v).bind λt=>if t then aD (az HA n) x ρ else aD (az HA n) y ρ
  |_=>none
 | .ret (.call f (.cons (.call g a) r)),ρ=>(ev HA a true ρ).bind λx=>match x with
  | .tuple ds=>(HK g ds).bind λu=>(ev HA r true ρ).bind λy=>match y with
    | .tuple es=>(HK f (u::es)).map λd=>(.rt d,ρ)
    |_=>none
  |_=>none
 |st,ρ=>az HA (n+1) st ρ
section
variable{K:Ctx->Prop}
theorem dk{st rest}(h:aG K M A (exec st env) (λf s'=>match f with| .next=>aG K M A (execs rest env) Q E s'|f=>Q f s') E s):aG K M A (execs (st::rest) env) Q E s:=λΓ p hΓ k=>by
 rw[execs_cons,Sem.wp_bind']
 refine Sem.wp_mono M Γ _ (λf p' s' h'=>?_) (λU U U h'=>h') _ _ (h Γ p hΓ k)
 induction f<;>first|exact h' Γ p' hΓ k|exact h'
theorem CW{e pos}(h:aG K M A (eval e env) (λv=>Q (.ret v)) E s):aG K M A (exec (.Return (some e) pos) env) Q E s:=
 au (ay (wpAny_standAt (au (aF h (λU U hv=>be hv) λU U x=>x))))
theorem nQ{x pos' value pos}(h:aG K M A (eval value env) (λv s₁=>aG K M A (storeName env x v) (λU=>Q .next) E s₁) E s)
 (hs:swapsWith value (some (.Name x pos')) pos.line env=pure false:=by rfl):aG K M A (exec (.Assign [.Name x pos'] value pos) env) Q E s:=λΓ p hΓ k=>by
 simp only[exec_Assign_Name env x pos' value pos hs,Sem.wp_bind',Sem.wp_cmd_standAt,Sem.wp_bindName,Sem.wp_pure']
 exact Sem.wp_mono M Γ _ (λv U s₁ h₁=>h₁ Γ _ hΓ k) (λU U U h'=>h') _ _ (h Γ _ hΓ k)
theorem Ht{test body orelse pos}(h:aG K M A (isTrue test env (eval test env)) (λb s₂=>if b then aG K M A (execs body env) Q E s₂ else aG K M A (execs orelse env) Q E s₂) E s):
 aG K M A (exec (.If test body orelse pos) env) Q E s:=
 au (ay (wpAny_standAt (au (aF h (λb U hb=>by induction b<;>exact hb) λU U x=>x))))
theorem ls{l op r pos whole}(h:aG K M A (eval l env) (λa s₁=>aG K M A (eval r env) (λb s₂=>aG K M A (compareOp op a b) (λc s₃=>aG K M A (truthy c) Q E s₃) E s₂) E s₁) E s)
 (hm:behindInMarks op r=false:=by with_unfolding_all rfl):aG K M A (isTrue (.Compare l [op] [r] pos) env whole) Q E s:=
 au (aF h (λa U h₁=>au (bW (by
  rw[markedBehindIn_of_false hm]
  exact aF h₁ (λb U h₂=>au (ay (wpAny_standAt (au (rG (aF h₂ (λU U h₃=>bW h₃) λU U x=>x)))))) λU U x=>x))) λU U x=>x)
theorem jT{Q:Value->Shared->Prop}(h:aG K M A (eval (.Name x p) env) (λf s₁=>aG K M A (callWith pos f [] (backTo pos (starEach args env)) []) Q E s₁) E s):
 aG K M A (eval (.Call (.Name x p) args [] pos) env) Q E s:=
 au h
theorem fP(h:aG K M A x (λv s₁=>aG K M A (spliced rest) (λvs s₂=>Q (v::vs) s₂) E s₁) E s):aG K M A (spliced ((false,x)::rest)) Q E s:=by
 refine au (aF h (λv s₁ h₁=>?_) λU U x=>x)
 exact au (be (au (bW (aF h₁ (λvs s₂ h₂=>be h₂) λU U x=>x))))
theorem jQ{Q:Args->Shared->Prop}(h:aG K M A (spliced ((false,x)::rest)) (λvs s'=>Q ⟨vs,[]⟩ s') E s):aG K M A (evalArgs f true ((false,x)::rest) []) Q E s:=by
 refine au (aF h (λvs s' h'=>?_) λU U x=>x)
 refine bW ?_
 exact au (be (au (be (be h'))))
theorem oT(G:Gd C)(HS:cA K C X HK A){e0:Expr}(F:Fm C X env Γ mB mo ρ s)(hg:sR env.scope.names x f=true)(hd:(x==("__debug__":Str))=false)
 (hst:starEach (e0::es) env=(false,eval e0 env)::starEach es env) (hH:HK f ds=some d)
 (ha:aG K (model C.prog C.w) A (spliced (backTo p (starEach (e0::es) env))) (FN C X mB mo true s (.tuple ds)) F0 s):
 aG K (model C.prog C.w) A (eval (.Call (.Name x q) (e0::es) [] p) env) (ie C X mB mo true s d) F0 s:=by
 refine av λGG kk=>?_
 obtain⟨_,o,fd,ho,hdat⟩:=G.glob x f (by unfold sR at hg;simp only[Bool.and_eq_true,beq_iff_eq] at hg;exact hg.2)
 refine kk ?_;clear kk
 refine jT (ay (ly G F hg hd ?_))
 rw[hst] at ha ⊢
 refine oU (o:=o) (fd:=fd) (jQ (aF ha (λvs s1 hv=>?_) λU U x=>x))
 obtain⟨hs,hl⟩:=hv
 refine⟨⟨hs.2.gk _ _ ho,hdat⟩,?_⟩
 refine aF (HS f ds d hH mB s1 vs (hs.2.less λa=>.inl) (RepL.keep (λU U U e=>e) (λa q=>.inl ?_) _ _ hl)) (λv s2 hv=>?_) λU U x=>x
 ·rcases q with q|q
  ·exact .inl q
  ·exact .inr (.inl q)
 ·obtain⟨k2,ok2,hr⟩:=hv
  exact⟨hs.trans ⟨k2,hs.2.back ok2 k2⟩,Rep.keep (λU U U e=>e) (λa q=>.inl (by rcases q with q|q|⟨q,_⟩;exact .inl q;exact .inr q;(injection q;done))) _ _ hr⟩
theorem call_one(G:Gd C)(HS:cA K C X HK A){a:AE .E}(ha:ah C X HA A (.cons a r))(hc:(AE.call f x q a r p).ok Γ env.scope.names=true)(he:ev HA (.cons a.er r.er) true ρ=some (.tuple ds))(hH:HK f ds=some d)
 (F:Fm C X env Γ mB mo ρ s):aG K (model C.prog C.w) A (eval (AE.call f x q a r p).tx env) (ie C X mB mo true s d) F0 s:=
 oT G HS F (ae hc) (by simpa using ae (ag hc)) (a.plain _ _) hH (ay (ha (ag (ag hc)) he F p))
theorem zp(G:Gd C)(HS:cA K C X HK A){a:AE .E}(ha:ah C X HA A (.cons a r))(ht:ah C X HA A t)(hc:(AE.call f x q (.call g y q' a r p') t p).ok Γ env.scope.names=true)
 (he:ev HA (.cons a.er r.er) true ρ=some (.tuple ds)) (hg:HK g ds=some u) (her:ev HA t.er true ρ=some (.tuple es)) (hf:HK f (u::es)=some d)
 (F:Fm C X env Γ mB mo ρ s):aG K (model C.prog C.w) A (eval (AE.call f x q (.call g y q' a r p') t p).tx env) (ie C X mB mo true s d) F0 s:=by
 refine oT G HS F (ae hc) (by simpa using ae (ag hc)) rfl hf ?_
 refine fP (aF (call_one G HS ha (ae (ag (ag hc))) he hg F) (λv s1 hv=>ay (wm (ht (ag (ag (ag hc))) her (F.keep hv.1.1 hv.1.2) p) λvs s2 hvs=>⟨hv.1.trans hvs.1,v,vs,rfl,iB hvs.1.1 hv.2,hvs.2⟩)) λU U x=>x)
end
section
variable{K:Ctx->Prop}
theorem pn{Q:Value->Shared->Prop}(hpl:args.any (·.1)=false)
 (h:aG K M A (evalArgs (.type t) true args []) (λx s₁=>aG K M A (call (.type t) x.pos x.kw) Q E s₁) E s):aG K M A (callWith pos (.type t) [] args []) Q E s:=by
 refine au (bW (aF h (λx s₁ h₁=>au (ay (wpAny_standAt ?_))) λU U x=>x))
 rw[hpl]
 refine au (m:=keeperOf (.type t)) (ay ?_)
 refine aC ?_
 exact au (aF h₁ (λr s₂ hr=>au (ay (wpAny_holding (wpAny_point (be hr))))) λU U x=>x)
def Fi(HA HK:Hook)(n:Nat):(k:Ks)->Es k->R->Fl->R->Prop
 | .S,st,ρ,f,ρ'=>dy HA HK n st ρ=some (f,ρ')
 | .B,sts,ρ,f,ρ'=>aD (dy HA HK n) sts ρ=some (f,ρ')
def Ep(K:Ctx->Prop)(C:Cx)(X:Addr)(A:Around)(env:Env)(Γ:List Str)(mB mo:Addr->Prop)(s:Shared)(f:Fl)(ρ':R):(k:Ks)->D9 k->Prop
 | .S,st=>aG K (model C.prog C.w) A (exec st env) (SPost C X env Γ mB mo s f ρ') F0 s
 | .B,sts=>aG K (model C.prog C.w) A (execs sts env) (SPost C X env Γ mB mo s f ρ') F0 s
def gm(K:Ctx->Prop)(C:Cx)(X:Addr)(HA HK:Hook)(A:Around)(env:Env)(Γ:List Str){k:Ks}(a:AS k):Prop:=
 ∀{n:Nat} {mB mo:Addr->Prop} {ρ ρ':R} {s:Shared} {f:Fl},a.ok Γ env.scope.names=true->Fi HA HK n k a.er ρ f ρ'->Fm C X env Γ mB mo ρ s->Ep K C X A env Γ mB mo s f ρ' k a.tx
theorem zw{e:IE}(he:dy HA HK n (.newBarr k e) ρ=some (f,ρ')):∃i,ev HA e true ρ=some (.int i)/\(0<=i/\i<=ax)/\bG k (.ob (List.replicate i.toNat 0)) ρ=some ρ'/\f=.nx:=by
 refine av λGG kk=>bi he λd hd he=>ai (int_inv he) λi q58 he=>?_
 subst q58
 refine aw (bE he) λhi he=>mi he λρ₂ hst q=>?_
 refine kk ?_;clear kk
 clear he
 clear he
 clear he
 clear he
 cases q
 exact(fu i hd hi hst rfl)
theorem tS(G:Gd C)(SE:∀{k:Kd} (e:AE k),ah C X HA A e){e:AE .E}:gm Cl C X HA HK A env Γ (.newBarr k x p b bp e r q):=λ{n mB mo ρ ρ' s f} hc he F=>by
 refine iu (zw he) λi hd hi hst q51=>?_
 clear he
 refine af q51▸?_
 have hb:=ae (ag hc)
 obtain rfl:=eq_of_beq (ag hb)
 obtain⟨g1,g2⟩:=G.typ "bytearray" "bytearray" (by decide+kernel)
 refine nQ (jT (ay (dG G F (ae hb) g1 g2 (by decide) ?_)))
 refine af (show starEach [e.tx] env=_ from e.plain _ _)▸?_
 refine pn rfl (jQ (fP (ay (aQ (SE e (ag (ag hc)) hd F).1 λu s1 st1 hu=>ay (args_nil ?_)))))
 refine aB hu λt q53=>q53▸?_
 refine BY.new_call hi.1 (by have:=hi.2;exact Int.le_def.mpr this) λh' e' k2=>ay ?_
 have hrep:(Array.replicate i.toNat (0:UInt8))=((List.replicate i.toNat 0).map Nat.toUInt8).toArray:=by
  rw[List.map_replicate,<-List.toArray_replicate];rfl
 exact vH (sl:=.ob (List.replicate i.toNat 0)) (F.keep st1.1 st1.2) st1 k2 (aI _) ⟨_,e'⟩ st1.2.tk (ae hc) rfl (fj _ rfl (by unfold mJ;refine hrep▸?_;exact e') (.inr rfl) (by refine af List.length_replicate▸?_;have:=hi.2;exact Int.toNat_le.mpr this) (λb hb=>by rw[(List.mem_replicate.mp hb).2];decide)) hst
theorem zx{a:IE}(he:dy HA HK n (.assign k (.call f a)) ρ=some (fl,ρ')):∃ds d,ev HA a true ρ=some (.tuple ds)/\HK f ds=some d/\d.flat=true/\bG k (.sh d) ρ=some ρ'/\fl=.nx:=by
 refine av λGG kk=>bi he λy hy he=>ai (cF he) λds q55 he=>?_
 subst q55
 refine bi he λd hd he=>aw (bE he) λhf he=>?_
 refine mi he λρ₂ hst q=>kk ?_;clear kk
 clear he
 clear he
 clear he
 clear he
 cases q
 exact(dD ds d hy hd hf hst rfl)
theorem pd(G:Gd C)(HS:cA K C X HK A)(SE:∀{k:Kd} (e:AE k),ah C X HA A e){a:AE .E}:gm K C X HA HK A env Γ (.assign k x p (.call f y q' a r p') q):=λ{n mB mo ρ ρ' s fl} hc he F=>by
 refine bU (zx he) λds d hy hd hfl hst q56=>af q56▸?_
 refine nQ (aF (call_one G HS (SE (.cons a r)) (ag hc) hy hd F) (λu s1 hu=>ay ?_) λU U x=>x) rfl
 exact wm (bX (F.keep hu.1.1 hu.1.2) (ae hc) (sl:=.sh d) (Rep.flat_any hfl hu.2) (by rintro⟨⟩) (λa h=>by(injection h;done)) hst) λU s2 h=>.same ((KpM.of_kp hu.1.1).trans h.2 λU=>.inl) ⟨rfl,h.1⟩
theorem v6(G:Gd C)(HS:cA K C X HK A)(hu:A.units<cLine)(SE:∀{k:Kd} (e:AE k),ah C X HA A e){a b:AE .E}(su:aT C X HA A env Γ u)(sv:aT C X HA A env Γ v):
 gm K C X HA HK A env Γ (.ife (.cmp .NotEq (.call f y q' a r p') b p) u v q):=λ{n mB mo ρ ρ' s fl} hc he F=>by
 refine av λGG kk=>bi he λz hz he=>ai (cF he) λds q50 he=>?_
 subst q50
 refine bi he λw hu1 he=>bi he λw' hv he=>?_
 refine bi he λt ht he=>kk ?_;clear kk
 refine Ht (ls (aF (call_one G HS (SE (.cons a r)) (ae (ag (ae hc))) hz hu1 F) (λv1 s1 hv1=>?_) λU U x=>x) (by have:=ae (ae hc);simpa using this))
 refine ay (aQ (SE b (ag (ag (ae hc))) hv (F.keep hv1.1.1 hv1.1.2)).1 λv2 s2 st2 hv2=>ay (lF hu ht hv1.2 hv1.1 st2 hv2 λs3 st U=>ay (wpAny_truthy_bool ?_)))
 have F3:=F.keep st.1 st.2
 clear ht
 induction t with
 |true=>exact ay (wpAny_mono (oX su (ae (ag hc)) he F3) (λfl s2 h=>h.more st F3) λU U x=>x)
 |false=>exact ay (wpAny_mono (oX sv (ag (ag hc)) he F3) (λfl s2 h=>h.more st F3) λU U x=>x)
theorem rP(G:Gd C)(HS:cA K C X HK A)(SE:∀{k:Kd} (e:AE k),ah C X HA A e){x y:Str}{q p q' p' r':Pos}:gm K C X HA HK A env Γ (.ret (.call f x q (.call g y q' a r p') t p) r'):=λ{n mB mo ρ ρ' s fl} hc he F=>by
 refine av λGG kk=>bi he λz hz he=>ai (cF he) λds q44 he=>?_
 subst q44
 refine bi he λu hu he=>bi he λw hw he=>?_
 refine ai (cF he) λes q48 he=>?_
 subst q48
 refine mi he λd hd he=>kk ?_;clear kk
 cases he
 exact CW (aF (zp G HS (SE (.cons a r)) (SE t) hc hz hu hw hd F) (λu s1 hu=>.same (.of_kp hu.1.1) (bc u rfl hu.2 (F.keep hu.1.1 hu.1.2))) λU U x=>x)
theorem j6{a:AS .S}(h:aT C X HA A env Γ a)(hx:∀n ρ,dy HA HK n a.er ρ=az HA (n+1) a.er ρ):gm K C X HA HK A env Γ a:=λhc he F=>ay (h hc ((hx _ _).symm.trans he) F)
theorem nN(e:AE .E):(∃f y q a r p,e=.call f y q a r p)\/(∀n k ρ,dy HA HK n (.assign k e.er) ρ=az HA (n+1) (.assign k e.er) ρ)/\(∀n b x y ρ,dy HA HK n (.ife (.cmp .NotEq e.er b) x y) ρ=az HA (n+1) (.ife (.cmp .NotEq e.er b) x y) ρ)/\∀n f r ρ,dy HA HK n (.ret (.call f (.cons e.er r))) ρ=az HA (n+1) (.ret (.call f (.cons e.er r))) ρ:=by
 cases e<;>first|exact .inr (a6 (λU U U=>rfl) (λU U U U U=>rfl) (λU U U U=>rfl))|exact .inl (Dj _ _ _ _ _ _ rfl)
set_option tactic.hygienic true in
theorem DK(e:AE .E):(∃a b p,e=.cmp .NotEq a b p)\/∀n x y ρ,dy HA HK n (.ife e.er x y) ρ=az HA (n+1) (.ife e.er x y) ρ:=by
 cases e<;>first|exact .inr λU U U U=>rfl|(rename_i op a b p;induction op<;>first|exact .inr λU U U U=>rfl|exact .inl (GF _ _ _ rfl))
theorem CV(e:AE .E):(∃f y q a r p,e=.call f y q a r p)\/∀n ρ,dy HA HK n (.ret e.er) ρ=az HA (n+1) (.ret e.er) ρ:=by
 cases e<;>first|exact .inr λU U=>rfl|exact .inl (Dj _ _ _ _ _ _ rfl)
theorem CJ(G:Gd C)(HS:cA Cl C X HK A)(hu:A.units<cLine)(SE:∀{k:Kd} (e:AE k),ah C X HA A e)(SS:∀{k:Ks} (a:AS k),aT C X HA A env Γ a)(a:AS k):gm Cl C X HA HK A env Γ a:=by
 induction a with
 |newBarr=>exact tS G SE
 |assign k x p e q=>
  rcases nN (HA:=HA) (HK:=HK) e with ⟨f,y,q',a,r,p',rfl⟩|h
  ·exact pd G HS SE
  ·exact j6 (SS _) λU U=>h.1 _ _ _
 |ife t u v q _ _=>
  rcases DK (HA:=HA) (HK:=HK) t with ⟨a,b,p,rfl⟩|h
  ·rcases nN (HA:=HA) (HK:=HK) a with ⟨f,y,q',a,r,p',rfl⟩|h
   ·exact v6 G HS hu SE (SS _) (SS _)
   ·exact j6 (SS _) λU U=>h.2.1 _ _ _ _ _
  ·exact j6 (SS _) λU U=>h _ _ _ _
 |ret e q=>
  rcases CV (HA:=HA) (HK:=HK) e with ⟨f,y,q',a,r,p',rfl⟩|h
  ·rcases nN (HA:=HA) (HK:=HK) a with ⟨f,y,q',a,r',p',rfl⟩|h
   ·exact rP G HS SE
   ·exact j6 (SS _) λU U=>h.2.2 _ _ _ _
  ·exact j6 (SS _) λU U=>h _ _
 |nil=>
  intro n mB mo ρ ρ' s f hc he F
  obtain⟨rfl,rfl⟩:=dP he
  exact ay (wpAny_execs_nil (.same (.refl _) ⟨rfl,F⟩))
 |cons a r ha hr=>
  intro n mB mo ρ ρ' s f hc he F
  refine bi he λq3 h1 he=>?_
  obtain⟨f1,ρ1⟩:=q3
  refine dk (aF (ha (ae hc) h1 F) (λfl s1 hp=>?_) λU U x=>x)
  clear h1
  induction f1 with
  |nx=>
   refine eQ hp λaK g1 g2 g3 q13 F1=>q13▸?_
   exact aF (hr (ag hc) he F1) (λfl s2 h=>h.andThen g1 g2 g3 F1) λU U x=>x
  |br=>
   obtain⟨rfl,rfl⟩:=dP he
   refine eQ hp λaK g1 g2 g3 q24 F1=>q24▸?_
   exact(fj aK g1 g2 g3 rfl F1)
  |rt d=>
   refine av λGG kk=>?_
   obtain⟨rfl,rfl⟩:=dP he
   obtain⟨aK,g1,g2,g3,v,rfl,hr,F1⟩:=hp
   refine kk ?_;clear kk
   exact⟨aK,g1,g2,g3,v,rfl,hr,F1⟩
 |_=>exact j6 (SS _) (λU U=>rfl)
end
section
variable{K:Ctx->Prop}{R:Result->Shared->Prop}
theorem uS(hK:iG K){c:Code}(hq:c.quiet=true)(hc:dh c=true)(I:Nat->Shared->Prop)
 (turn:∀n s,I n s->aG K M (A.under c) (M.den c) (λfin s'=>match fin with
  | .done f=>R (.ok f) s'
  | .again c'=>(c'=c/\∃m,m<n/\I m s')\/(c'.quiet=true/\dh c'=true/\dz K M A c' R s')) (λe s'=>R (.error e) s') s)
 (n:Nat) (h:I n s):dz K M A c R s:=by
 induction n using Nat.strongRecOn generalizing s with
 |ind n ih=>
  refine ct hK (aF (turn n s h) (λfin s' hf=>?_) λU U h'=>h')
  clear turn
  induction fin with
  |done f=>exact hf
  |again c'=>
   rcases hf with ⟨rfl,m,hm,hI⟩|hf
   ·exact(a6 hq hc (ih m hm hI))
   ·exact hf
theorem yY(hK:iG K){target it body env}{Q:Flow->Shared->Prop}(I:Nat->Shared->Prop)
 (turn:∀n s,I n s->aG K (model prog w) A (pyNext it) (λr s₁=>match r with
  |none=>Q .next s₁
  |some v=>aG K (model prog w) A (letOwnedTupleGo target it v) (λU s₁'=>aG K (model prog w) A (assign target env v) (λU s₂=>aG K (model prog w) A (execs body env) (λf s₃=>f=.next/\∃m,m<n/\I m s₃) F0 s₂) F0 s₁') F0 s₁) F0 s)
 (n:Nat) (h:I n s):dz K (model prog w) A (.forLoop target it body [] env) (λr s'=>∃f,r=.ok f/\Q f s') s:=by
 refine uS hK rfl rfl I (λn s hI=>?_) n h
 show aG K _ A ((forTurn target it body [] env).onRaise (λx=>do noteFrame x env;theTreesLotGoes x)) _ _ s
 refine dV (aF (Q:=λfin s'=>match fin with
  | .done f=>Q f s'
  | .again c'=>(c'=.forLoop target it body [] env/\∃m,m<n/\I m s')\/(c'.quiet=true/\dh c'=true/\dz K (model prog w) A c' (λr s'=>∃f,r=.ok f/\Q f s') s')) (E:=F0) ?_ (λfin s' hf=>?_) λU U x=>x.elim)
 ·simp only[forTurn]
  refine au (ay (wpAny_standAt (au (dV (aF (turn n s hI) (λr s₁ h₁=>?_) λU U h'=>h'.elim)))))
  induction r with
  |none=>
   refine be (.inr (a6 rfl rfl (ct hK ?_)))
   exact au (dV (ay (wpAny_execs_nil (be (am _ rfl h₁)))))
  |some v=>
   refine au (aF h₁ (λU s₁' h₁'=>?_) λU U h'=>h')
   refine au (aF h₁' (λU s₂ h₂=>au (aF h₂ (λf s₃ h₃=>?_) λU U h'=>h')) λU U h'=>h')
   obtain⟨rfl,h₃⟩:=h₃
   exact be (.inl ⟨rfl,h₃⟩)
 ·induction fin with
  |done f=>exact(am f rfl hf)
  |again c'=>exact hf
theorem GI(hK:iG K){target iter body env pos}
 (h:aG K (model prog w) A (eval iter env) (λx s₁=>aG K (model prog w) A (pyIter x) (λit s₂=>dz K (model prog w) A (.forLoop target it body [] env) (λr s'=>∃f,r=.ok f/\Q f s') s₂) F0 s₁) F0 s)
 (hs:∀x,foldedSetIterable iter env x=pure x:=by intro _;rfl):aG K (model prog w) A (exec (.For target iter body [] pos) env) Q F0 s:=by
 refine au (ay (wpAny_standAt (au (aF h (λx s₁ h₁=>au (ay (wpAny_of_eq (hs x) (au (ay (wpAny_standAt (au (bW
  (aF h₁ (λit s₂ h₂=>?_) λU U h'=>h'))))))))) λU U h'=>h'))))
 refine dV (λΓ p hΓ k=>?_)
 refine av λGG kk=>?_
 obtain⟨r,s',hr,f,rfl,hq⟩:=h₂ _ p rfl (hΓ.enter (.forLoop target it body [] env) none p (by intro x;exact no x)) (hK.enter Γ _ none p k rfl)
 refine kk ?_;clear kk
 exact(bu _ s' hr hq)
end
noncomputable def fX(H:Hook)(f:Nat):List D->D->Option D
 |[],v=>some v
 |w::r,v=>(H f [v,w]).bind λu=>if u.flat then fX H f r u else none
structure rB(C:Cx)(X0:Addr):Prop where
 iter:C.mg "iter"=none/\C.mb "iter"=some (.builtin "iter")
 miss:C.mg "_initial_missing"=some (.ref X0)
section
theorem uK:entryFor table "iter"=some Builtin.«iter»:=entryFor_of_tree (by kernel_rfl)
theorem xn(a:Value):argsOk "iter" ⟨[a],[]⟩:=by unfold argsOk;kernel_rfl
theorem xd{Q:Value->Shared->Prop}(h:wpAny (model prog w) A.in1 (pyIter v) Q E s):wpAny (model prog w) A (call (.builtin "iter") [v]) Q E s:=by
 refine Calls.call_function_entry (by decide+kernel) (by decide+kernel) uK (xn _) ?_
 refine aj (m:=someArgs "iter" 1 2 _) (wpAny_of_eq (a:=[v]) (by first|rfl|kernel_rfl) ?_)
 exact aj (wm h λr s' hr=>aC (am _ rfl hr))
end
noncomputable def eT:List Str:=["function","sequence","initial","it","value","element"]
noncomputable def cH:List (Str×NameKind):=[("function",.local),("sequence",.local),("initial",.local),("it",.local),("value",.local),("element",.local),("iter",.globalImplicit),("_initial_missing",.globalImplicit),("next",.globalImplicit),("StopIteration",.globalImplicit),("TypeError",.globalImplicit)]
section
variable{C:Cx}{env:Env}{K:Ctx->Prop}
theorem fI{x:Str}{k:Nat}(hn:env.scope.names=cH)(h:aO cH eT x k=true):aO env.scope.names eT x k=true:=by refine af hn▸?_;exact h
theorem lY{x:Str}{k:Nat}(hn:env.scope.names=cH)(h:bw cH eT x k=true):bw env.scope.names eT x k=true:=by refine af hn▸?_;exact h
theorem pW{St:List D->Heap->Prop}(S:Src C.prog C.w A.in1 X Av W wr n it St):Src C.prog C.w A X Av W wr n it St where
 frame:=S.frame
 ex:=S.ex
 self:=λl s Q E h hq=>wpAny_units_le (A:=A.in1) (u:=A.units) (S.self l s Q E h hq) (Nat.le_succ _)
 done:=λs E h=>wpAny_units_le (A:=A.in1) (u:=A.units) (S.done s E h) (Nat.le_succ _)
 one:=λhn d l s E h=>wpAny_units_le (A:=A.in1) (u:=A.units) (S.one hn d l s E h) (Nat.le_succ _)
 many:=λhn ds l s E h hd=>wpAny_units_le (A:=A.in1) (u:=A.units) (wm (S.many hn ds l s E h hd) λr s' z62=>aZ z62 λt e k g=>(bc t e k (λelts k pos E'=>wpAny_units_le (A:=A.in1) (u:=A.units) (g elts k pos E') (Nat.le_succ _)))) (Nat.le_succ _)
theorem C0(G:Gd C)(G2:rB C X0)(hh:A.handled=none)(hn:env.scope.names=cH){f:Nat}{p1 p2 p3 p4 p5:Pos}(F:Fm C X env eT mB mo [.sh (.fn f),.sh (.list ws),.sh (.bytes b0),.un,.un,.un] s):
 wpAny (model C.prog C.w) A (exec (.Assign [.Name "it" p1] (.Call (.Name "iter" p2) [.Name "sequence" p3] [] p4) p5) env)
  (λfl s'=>fl=.next/\∃itv St wr,Src C.prog C.w A X (λa=>aJ mB mo false a\/s.heap.get? a=none) (λl=>l=66\/mo l) wr 1 (.ref itv) St/\St ws s'.heap/\(∀b,wr b->s.heap.get? b=none)/\KpM mo s.heap s'.heap/\
   Fm C X env eT (λa=>mB a\/wr a) mo [.sh (.fn f),.sh (.list ws),.sh (.bytes b0),.sh (.fn itv),.un,.un] s') F0 s:=by
 refine wpAny_Assign_Name (wpAny_Call_NameR (dG G F (by refine af hn▸?_;decide+kernel) G2.iter.1 G2.iter.2 (by decide) ?_)) rfl
 refine callWith_builtin1 (args_cons (wm (bH F (fI hn (by decide+kernel)) (k:=1) (sl:=.sh (.list ws)) rfl (by rintro⟨⟩)) λv s1 hv=>args_nil ?_)) rfl
 refine cq hv λq25 U q26 U=>?_
 clear hv
 subst q25
 refine bU q26 λl vs q29 hp hnl hlen rl=>af q29▸?_
 refine xd (wpAny_with_toks F.ok.tk (src_list (A:=A.in1) (n:=1) (Wd:=λl=>l=66\/mo l) hh hp.1 rl (λq=>hnl (q.imp id λq=>.inr ⟨rfl,q⟩)) (λa h=>?_) λitv s2 hsrc htk=>?_))
 ·rcases h with rfl|h
  ·refine aB F.ok.tab λps e=>?_;exact⟨_,e⟩
  ·exact(F.ok.mtx a (.inr h)).2.2
 refine bY hsrc λSt wr hS hst hk hwr=>?_
 have k2:=ei hk
 have hg:AllBare s2.gens:=by refine bK hk λh' tk q39 U=>?_;rw[q39];exact F.ok.bare
 have hos:s2.os=s1.os:=by refine bK hk λh' tk q37 U=>?_;refine q37▸?_;rfl
 have ok2:Ok C (λa=>(mB a\/wr a)\/mo a) s2:=F.ok.more k2 (λa h=>by
  rcases h with (h|h)|h
  ·refine av λGG kk=>?_
   obtain⟨o,e⟩:=(F.ok.mtx a (.inl h)).2.2
   refine kk ?_;clear kk
   exact⟨.inl (.inl h),o,k2 a o e⟩
  ·obtain⟨h1,o,e⟩:=hwr a h
   exact⟨.inr h1,o,e⟩
  ·refine av λGG kk=>?_
   obtain⟨o,e⟩:=(F.ok.mtx a (.inr h)).2.2
   refine kk ?_;clear kk
   exact⟨.inl (.inr h),o,k2 a o e⟩) hg hos htk
 have F2:=F.change (λb o U U e=>k2 b o e) (λa h=>h.imp id λq=>(hwr a q).1) (λU=>.inl) (λU=>id) (λa m h=>by
  rcases h with h|h
  ·exact F.apartB a m h
  ·obtain⟨o,e⟩:=(F.ok.mtx a (.inr m)).2.2
   replace e:=((hwr a h).1).symm.trans e;exact no e) ok2
 refine wm (bX F2 (lY hn (k:=3) (by decide+kernel)) (sl:=.sh (.fn itv)) rfl (by rintro⟨⟩) (λa h=>by(injection h;done)) rfl) λU s3 h=>?_
 refine⟨rfl,itv,St,wr,(pW (hS (λl=>l=66\/mo l) λl h=>.inl h)),(pW (hS (λl=>l=66\/mo l) λl h=>.inl h)).frame _ _ _ hst (λb o n e=>h.2.keep b o ?_ ?_ e),λb q=>(hwr b q).1,(KpM.of_kp (F.ok.kp k2)).trans h.2 λU=>.inl,h.1⟩
 ·rintro rfl
  rcases n with n|n
  ·exact n (.inl rfl)
  ·exact n.2 (.inl (.inl rfl))
 ·rcases n with n|n
  ·exact λm=>n (.inr m)
  ·exact λm=>n.2 (.inl (.inr (.inr ⟨rfl,m⟩)))
theorem Fm.unk{ρ:R}(F:Fm C X env Γ mB mo ρ s)(n:Nat):Fm C X env Γ mB mo (List.replicate n .un) s:={F with
 slots:=λk x sl U h2 h3=>by
  rw[List.getElem?_replicate] at h2
  split at h2<;>(first|exact no h2|obtain rfl:=so h2)
  exact absurd rfl h3
 apart:=λk k' x x' sl sl' a U U h3 U h5=>by
  rw[List.getElem?_replicate] at h3
  split at h3<;>(first|exact no h3|obtain rfl:=so h3)
  cases h5}
theorem Bl(HS:cA K C X H A){Γ:List Str}{q p:Pos}(F:Fm C X env Γ mB mo ρ s)(hx:aO env.scope.names Γ x k=true)(hk:ρ[k]? =some (.sh (.fn f)))
 (hf:∃o fd,C.g.get? f=some o/\o.data=.func fd) (hH:H f ds=some d)
 (ha:aG K (model C.prog C.w) A (evalArgs (.ref f) true (backTo p (starEach args env)) []) (λvs s'=>vs.kw=[]/\St' C mB mo s s'/\RepL X s'.heap (aJ mB mo true) ds vs.pos) F0 s):
 aG K (model C.prog C.w) A (eval (.Call (.Name x q) args [] p) env) (λv s'=>St' C mB mo s s'/\Rep X s'.heap (aJ mB mo true) d v) F0 s:=by
 refine bK hf λo fd ho hdat=>jT (ay (wm (bH F hx hk (by rintro⟨⟩)) λv s1 hv=>?_))
 refine cq hv λq61 U hv U=>af q61▸?_
 have:v=.ref f:=hv
 rw[this]
 refine oU (o:=o) (fd:=fd) (aF ha (λvs s1 hv=>?_) λU U x=>x)
 refine bV hv λhkw hs hl=>⟨⟨hs.2.gk _ _ ho,hdat⟩,?_⟩
 refine af hkw▸?_
 refine aF (HS f ds d hH mB s1 vs.pos (hs.2.less λa=>.inl) (RepL.keep (λU U U e=>e) (λa q=>.inl ?_) _ _ hl)) (λv s2 hv=>?_) λU U x=>x
 ·rcases q with q|q
  ·exact .inl q
  ·exact .inr (.inl q)
 ·obtain⟨k2,ok2,hr⟩:=hv
  exact⟨hs.trans ⟨k2,hs.2.back ok2 k2⟩,Rep.keep (λU U U e=>e) (λa q=>.inl (by rcases q with q|q|⟨q,_⟩;exact .inl q;exact .inr q;(injection q;done))) _ _ hr⟩
theorem Bi(HS:cA K C X H A)(hn:env.scope.names=cH){itv:Addr}(hf:∃o fd,C.g.get? f=some o/\o.data=.func fd)(hH:H f [v,d]=some u)(hfl:u.flat=true)
 (F:Fm C X env eT mB mo [.sh (.fn f),.sh (.list ws),.sh (.bytes b0),.sh (.fn itv),.sh v,.sh d] s):
 aG K (model C.prog C.w) A (exec (.Assign [.Name "value" p1] (.Call (.Name "function" p2) [.Name "value" p3,.Name "element" p4] [] p5) p6) env)
  (λfl s'=>fl=.next/\KpM mo s.heap s'.heap/\Fm C X env eT mB mo [.sh (.fn f),.sh (.list ws),.sh (.bytes b0),.sh (.fn itv),.sh u,.sh d] s') F0 s:=by
 refine nQ (aF (Bl HS F (fI hn (k:=0) (by decide+kernel)) rfl hf hH (jQ (fP (ay (wm (bH F (fI hn (k:=4) (by decide+kernel)) (sl:=.sh v) rfl (by rintro⟨⟩)) λa s1 ha=>
  ay (args_cons (wm (bH (ha.1▸F) (fI hn (k:=5) (by decide+kernel)) (sl:=.sh d) rfl (by rintro⟨⟩)) λb s2 hb=>args_nil ?_))))))) (λr s1 hr=>ay ?_) λU U x=>x) rfl
 ·refine cq ha λq57 U h1 U=>?_
  clear ha
  subst q57
  refine cq hb λq59 U h2 U=>?_
  clear hb
  cases q59
  exact(a6 rfl ⟨.refl _,F.ok⟩ (.cons (iA h1) (.cons (iA h2) .nil)))
 ·exact wm (bX (F.keep hr.1.1 hr.1.2) (lY hn (k:=4) (by decide+kernel)) (sl:=.sh u) (Rep.flat_any hfl hr.2) (by rintro⟨⟩) (λa h=>by(injection h;done)) rfl) λU s2 h=>(a6 rfl ((KpM.of_kp hr.1.1).trans h.2 λU=>.inl) h.1)
theorem wo(G:Gd C)(G2:rB C X0)(hn:env.scope.names=cH)(F:Fm C X env eT mB mo ρ s)(hQ:Q (.ref X0) s):
 wpAny (model C.prog C.w) A (eval (.Name "_initial_missing" q) env) Q F0 s:=by
 refine Calls.Name_function_global F.kind (show env.scope.names.lookup ("_initial_missing":Str)=some .globalImplicit by refine af hn▸?_;decide+kernel) (Calls.loadGlobal_global (mg:=C.mg) ?_ G2.miss hQ) (by decide)
 refine af F.glob▸?_
 exact G.ns.at' λo e=>F.ok.gk _ _ e
theorem CZ(G:Gd C)(G2:rB C X0)(hn:env.scope.names=cH){itv:Addr}{p1 p2 p3 p4 p5 p6 p7:Pos}{yes:List Stmt}
 (F:Fm C X env eT mB mo [.sh (.fn f),.sh (.list ws),.sh (.bytes b0),.sh (.fn itv),.un,.un] s):
 wpAny (model C.prog C.w) A (exec (.If (.Compare (.Name "initial" p1) [.Is] [.Name "_initial_missing" p2] p3) yes [.Assign [.Name "value" p4] (.Name "initial" p5) p6] p7) env)
  (λfl s'=>fl=.next/\KpM mo s.heap s'.heap/\Fm C X env eT mB mo [.sh (.fn f),.sh (.list ws),.sh (.bytes b0),.sh (.fn itv),.sh (.bytes b0),.un] s') F0 s:=by
 refine wpAny_If (wpAny_isTrue_Compare1 (wm (bH F (fI hn (k:=2) (by decide+kernel)) (sl:=.sh (.bytes b0)) rfl (by rintro⟨⟩)) λa s1 ha=>?_) rfl)
 refine cq ha λq50 U q51 U=>?_
 simp only[q50]
 refine av λGG kk=>bV q51 λq12 h1 h2=>?_
 clear q51 h1 h2
 obtain⟨t,rfl⟩:=q12
 refine kk ?_;clear kk
 refine wo G G2 hn F (wpAny_is_other rfl (λx=>by(injection x;done)) (wpAny_truthy_bool ?_))
 refine wpAny_execs_cons (wpAny_Assign_Name (wm (bH F (fI hn (k:=2) (by decide+kernel)) (sl:=.sh (.bytes b0)) rfl (by rintro⟨⟩)) λa s2 ha=>?_) rfl)
 refine cq ha λq54 U h3 U=>?_
 clear ha
 cases q54
 exact wm (bX F (lY hn (k:=4) (by decide+kernel)) (sl:=.sh (.bytes b0)) h3 (by rintro⟨⟩) (λa h=>by(injection h;done)) rfl) λU s2 h=>wpAny_execs_nil (a6 rfl h.2 h.1)
set_option tactic.hygienic true in
theorem Bj(hK:iG K)(HS:cA K C X H A)(hh:A.handled=none)(hn:env.scope.names=cH){f:Nat}{itv:Addr}(hf:∃o fd,C.g.get? f=some o/\o.data=.func fd)
 {St:List D->Heap->Prop} {s0:Shared} (S:Src C.prog C.w A X (λa=>aJ mB mo false a\/s0.heap.get? a=none) (λl=>l=66\/mo l) wr 1 (.ref itv) St) (hwr:∀b,wr b->s0.heap.get? b=none) (k0:KpM mo s0.heap s.heap)
 (ok0:Ok C (λa=>mB a\/mo a) s0) (hd:fX H f ws v=some d) (hfl:v.flat=true) (hst:St ws s.heap)
 (F:Fm C X env eT (λa=>mB a\/wr a) mo [.sh (.fn f),.sh (.list ws),.sh (.bytes b0),.sh (.fn itv),.sh v,.un] s):
 aG K (model C.prog C.w) A (exec (.For (.Name "element" p1) (.Name "it" p2) [.Assign [.Name "value" p3] (.Call (.Name "function" p4) [.Name "value" p5,.Name "element" p6] [] p7) p8] [] p9) env)
  (λfl s'=>fl=.next/\KpM mo s0.heap s'.heap/\∃ρ,Fm C X env eT mB mo ρ s'/\ρ[4]? =some (.sh d)) F0 s:=by
 refine GI hK (ay (wm (bH F (fI hn (k:=3) (by decide+kernel)) (sl:=.sh (.fn itv)) rfl (by rintro⟨⟩)) λa s1 ha=>?_))
 refine cq ha λq1 U h1 U=>?_
 clear ha
 subst q1
 have:a=.ref itv:=h1
 refine af this▸?_
 refine ay (S.self ws s1 _ _ hst ?_)
 have wrB:∀a,mB a\/mo a->¬wr a:=λa m q=>by
  obtain⟨o,e⟩:=(ok0.mtx a m).2.2
  rw[hwr a q] at e;exact no e
 have w66:¬wr 66:=λh=>by
  refine aB ok0.tab λps e=>?_
  rw[hwr 66 h] at e;exact no e
 refine yY hK (λm s1=>∃l v ρ e,l.length=m/\fX H f l v=some d/\v.flat=true/\KpM mo s0.heap s1.heap/\ρ=[.sh (.fn f),.sh (.list ws),.sh (.bytes b0),.sh (.fn itv),.sh v,e]/\(e=.un\/∃y,e=.sh y)/\
  Fm C X env eT (λa=>mB a\/wr a) mo ρ s1/\St l s1.heap) ?_ ws.length (Gz ws v _ .un rfl hd hfl k0 rfl (.inl rfl) F hst)
 intro m s2 z19
 refine GX z19 λl v ρ e q17 hd hfl k2 q18 he F2 hst2=>?_
 clear z19
 rw[<-q17]
 refine av λGG kk=>?_
 clear q17
 subst q18
 refine kk ?_;clear kk
 induction l with
 |nil=>
  replace hd:=so hd
  rw[<-hd]
  refine ay (wpAny_mono (qC S F2 hst2 λa m=>wrB a (.inl m)) (λr s3 h=>?_) λU U x=>x.elim)
  refine bV h λq20 F3 kb=>q20▸?_
  exact⟨rfl,gd F2.ok k2 (λo e=>kb 66 o w66 e) (λb o e U U e'=>kb b o (λq=>by rw[hwr b q] at e;exact no e) e'),_,F3,rfl⟩
 |cons x l=>
  refine bi hd λu hu hd=>?_
  split at hd
  ·rename_i hfu
   refine ay (eG (qB (target:=.Name "element" p1) (ts:=["element"]) (ks:=[5]) (bs:=[.sh x]) S hh (λa h=>?_) (.inl (bu _ _ rfl rfl)) rfl (λp hp=>?_) rfl F2 hst2 (λb hb=>λm=>hb (.inr m)) (λb hb=>λm=>hb (.inl (.inr (.inr ⟨rfl,m⟩))))) (λr s3 h=>?_))
   ·rcases h with h|(h|h)|⟨q,h⟩
    ·exact .inl (.inl h)
    ·exact .inl (.inr (.inl h))
    ·exact .inr (hwr a h)
    ·exact .inl (.inr (.inr ⟨q,h⟩))
   ·refine af (List.mem_singleton.mp hp)▸?_
    have:=lY hn (x:="element") (k:=5) (by decide+kernel)
    unfold bw at this
    rw[Bool.and_eq_true,beq_iff_eq] at this
    exact this
   obtain⟨w,rfl,h⟩:=h
   refine ay (eG h (λU s4 h=>ay (wpAny_mono h (λU s5 h=>?_) λU U x=>x.elim)))
   refine bV h λF5 hst5 kb5=>?_
   have e5:cQ [5] [.sh x] [.sh (.fn f),.sh (.list ws),.sh (.bytes b0),.sh (.fn itv),.sh v,e]=[.sh (.fn f),.sh (.list ws),.sh (.bytes b0),.sh (.fn itv),.sh v,.sh x]:=by
    rcases he with rfl|⟨y,rfl⟩<;>rfl
   refine dk (aF (Bi HS hn hf hu hfu F5) (λfl s6 h=>?_) λU U x=>x)
   obtain⟨rfl,k6,F6⟩:=h
   refine ay (wpAny_execs_nil ⟨rfl,l.length,by simp,l,u,_,.sh x,rfl,hd,hfu,(gd F2.ok k2 (λo e=>kb5 66 o w66 (λm=>(F2.ok.mtx 66 (.inr m)).2.1 rfl) e) (λb o e U hm e'=>kb5 b o (λq=>by rw[hwr b q] at e;exact no e) hm e')).trans k6 (λU=>.inl),rfl,.inr ⟨_,rfl⟩,F6,S.frame _ _ _ hst5 λb o n e=>k6.keep b o ?_ ?_ e⟩)
   ·rintro rfl
    rcases n with n|n
    ·exact n (.inl rfl)
    ·exact n.2 (.inl (.inl rfl))
   ·rcases n with n|n
    ·exact λm=>n (.inr m)
    ·exact λm=>n.2 (.inl (.inr (.inr ⟨rfl,m⟩)))
  ·exact no hd
theorem Bm(G:Gd C)(G2:rB C X0)(hK:iG K)(HS:cA K C X H A)(hh:A.handled=none)(hn:env.scope.names=cH){d:D}
 (hf:∃o fd,C.g.get? f=some o/\o.data=.func fd) (hd:fX H f ws (.bytes b0)=some d)
 (F:Fm C X env eT mB mo [.sh (.fn f),.sh (.list ws),.sh (.bytes b0),.un,.un,.un] s):
 aG K (model C.prog C.w) A (execs [.Assign [.Name "it" a1] (.Call (.Name "iter" a2) [.Name "sequence" a3] [] a4) a5,
  .If (.Compare (.Name "initial" c1) [.Is] [.Name "_initial_missing" c2] c3) yes [.Assign [.Name "value" c4] (.Name "initial" c5) c6] c7,
  .For (.Name "element" p1) (.Name "it" p2) [.Assign [.Name "value" p3] (.Call (.Name "function" p4) [.Name "value" p5,.Name "element" p6] [] p7) p8] [] p9,
  .Return (some (.Name "value" q1)) q2] env) (SPost C X env eT mB mo s (.rt d) (List.replicate 6 .un)) F0 s:=by
 refine dk (ay (wm (C0 G G2 hh hn F) λfl s1 h=>?_))
 refine av λGG kk=>?_
 obtain⟨rfl,itv,St,wr,S,hst,hwr,k1,F1⟩:=h
 refine kk ?_;clear kk
 refine dk (ay (wm (CZ G G2 hn F1) λfl s2 h=>?_))
 obtain⟨rfl,k2,F2⟩:=h
 have hst2:=S.frame _ _ _ hst λb o n e=>k2.keep b o (by
  rintro rfl
  rcases n with n|n
  ·exact n (.inl rfl)
  ·exact n.2 (.inl (.inl rfl))) (by
  rcases n with n|n
  ·exact λm=>n (.inr m)
  ·exact λm=>n.2 (.inl (.inr (.inr ⟨rfl,m⟩)))) e
 refine dk (aF (Bj hK HS hh hn hf S hwr (k1.trans k2 λU=>.inl) F.ok hd rfl hst2 F2) (λfl s3 h=>?_) λU U x=>x)
 obtain⟨rfl,k3,ρ,F3,h4⟩:=h
 refine dk (CW (ay (wm (bH F3 (fI hn (k:=4) (by decide+kernel)) h4 (by rintro⟨⟩)) λv s4 hv=>?_)))
 refine cq hv λq43 U hv U=>af q43▸?_
 exact .same k3 (bc v rfl (iA hv) (F3.unk 6))
end
noncomputable def escs:List Nat:=[40,41,91,93,123,125,63,42,43,45,124,94,36,92,46,38,126,35,32,9,10,13,11,12]
noncomputable def lD(c:Nat):List Nat:=if escs.contains c then [92,c] else [c]
section
theorem jp:isSubtype (.type "KeyError") (.type "LookupError")=pure true:=by kernel_rfl
theorem lookup_miss{c:Nat}(hh:A.handled=none)(hd:(d==sysModules)=false)(hm:s.heap.MapOf (intKind prog w) d f)(hv:f (c:Int)=none)
 (h:∀h' tk,s.toks<=tk->(∀b o,s.heap.get? b=some o->h'.get? b=some o)->Q .keep {s with heap:=h',toks:=tk}):wpAny (model prog w) A (Builtin.Str.tableLookup (.ref d) c) Q E s:=by
 refine aj (wpAny_attempt (aj (wpAny_mkInt (wpAny_getItem_missing_of (k:=(c:Int)) (intKind_is prog w (↑c) s.toks) hd hh hm hv λh' e hn=>?_))))
 refine bv hn.there λob t h1 h2 U=>aj (wpAny_isInstance (T:="KeyError") (b:=true) (am ob h1 h2) jp ?_)
 exact aj (wpAny_rule (aC (h _ _ (show s.toks<=s.toks+1+1 by exact ln [_] [] (.v 0) (.a (.a (.v 0) (.k 1)) (.k 1)) 1 rfl) hn.keeps)))
theorem lookup_hit{c:Nat}(hm:s.heap.MapOf (intKind prog w) d f)(hv:f (c:Int)=some (.str x t))
 (h:∀tk,s.toks<=tk->Q (.text x) {s with toks:=tk}):wpAny (model prog w) A (Builtin.Str.tableLookup (.ref d) c) Q E s:=by
 refine aj (wpAny_attempt (aj (wpAny_mkInt (wpAny_getItem_of (k:=(c:Int)) (intKind_is prog w (↑c) s.toks) hm hv (aj (wpAny_of_eq (a:=none) rfl (aj (wpAny_of_eq (a:=some x) rfl (aC (h _ (show s.toks<=s.toks+1+1 by exact Nat.le_add_right _ 2)))))))))))
theorem o9(hc:c<128)(hh:A.handled=none)(hd:(d==sysModules)=false)(hm:s.heap.MapOf (intKind prog w) d f)
 (hf:(escs.contains c=true->∃t,f c=some (.str ⟨#[92,c]⟩ t))/\(escs.contains c=false->f c=none))
 (h:∀h' tk t',s.toks<=tk->(∀b o,s.heap.get? b=some o->h'.get? b=some o)->Q (.str ⟨(lD c).toArray⟩ t') {s with heap:=h',toks:=tk}):
 wpAny (model prog w) A (call (.builtin "str.translate") [.str ⟨#[c]⟩ t,.ref d]) Q E s:=by
 refine wpAny_call_entry PySem.F.slot_str_translate (typeIs_str _ _ _) PySem.F.entry_str_translate ?_ (PySem.F.args_str_translate_2 _ _)
 refine aj (m:=Builtin.Str.strOneArg _ _) (wpAny_of_eq (a:=(.str ⟨#[c]⟩ t,⟨#[c]⟩,.ref d)) rfl ?_)
 refine wpAny_ite_false rfl ?_
 rw[show((⟨#[c]⟩:Str).cps.all λx=>decide (x<128))=true from by simpa using hc]
 refine aj (aj ?_)
 refine wpAny_ite_false (by decide) ?_
 refine wpAny_ite_true rfl ?_
 refine aj ?_
 induction hc':escs.contains c with
 |false=>
  refine lookup_miss hh hd hm (hf.2 hc') λh' tk htk hk=>aj (aC (aC (aC ?_)))
  refine aj (wpAny_mkStr ?_ (show 1<=sizeLine by decide))
  refine aC (am _ rfl ?_)
  have:=h h' (tk+1) tk (Nat.le_add_right_of_le htk) hk
  unfold lD at this
  rw[if_neg (by refine af hc'▸?_;exact Bool.false_ne_true)] at this
  exact this
 |true=>
  refine aB (hf.1 hc') λt2 hv=>lookup_hit hm hv λtk htk=>aj (aC (aj (wpAny_rule (aj (lookup_hit (s:={s with toks:=tk}) hm hv λtk2 htk2=>?_)))))
  refine aC (aC ?_)
  refine aj (wpAny_mkStr ?_ (show 2<=sizeLine by decide))
  refine aC (am _ rfl ?_)
  have:=h s.heap (tk2+1) tk2 (ln [_,_,_] [(1,.v 0,.v 1),(1,.v 1,.v 2)] (.v 0) (.a (.v 2) (.k 1)) 1 rfl htk htk2) λU U e=>e
  unfold lD at this
  rw[if_pos hc'] at this
  exact this
end
structure Aw(C:Cx):Prop where
 tab:∃f,C.g.MapOf (intKind C.prog C.w) 54 f/\∀c:Nat,c<128->(escs.contains c=true->∃t,f c=some (.str ⟨#[92,c]⟩ t))/\(escs.contains c=false->f c=none)
 name:C.mg "_special_chars_map"=some (.ref 54)
 isin:C.mg "isinstance"=none/\C.mb "isinstance"=some (.builtin "isinstance")
 str:C.mg "str"=none/\C.mb "str"=some (.type "str")
section
theorem qm(G:Gd C)(F:Fm C X env Γ mB mo ρ s)(h:fV env.scope.names x=true)(h1:C.mg x=some v)(hd:(x==("__debug__":Str))=false){Q:Value->Shared->Prop}(hQ:Q v s):
 wpAny (model C.prog C.w) A (eval (.Name x q) env) Q F0 s:=by
 unfold fV at h
 rw[beq_iff_eq] at h
 refine Calls.Name_function_global F.kind h (Calls.loadGlobal_global (mg:=C.mg) ?_ h1 hQ) hd
 refine af F.glob▸?_
 exact G.ns.at' λo e=>F.ok.gk _ _ e
noncomputable def kz:List (Str×NameKind):=[("pattern",.local),("isinstance",.globalImplicit),("str",.globalImplicit),("_special_chars_map",.globalImplicit)]
theorem B0(G:Gd C)(GE:Aw C)(hh:A.handled=none)(hn:env.scope.names=kz)(hc:c<128)(hline:(c2.endLine==c4.line)=true)
 (F:Fm C X env ["pattern"] mB mo [.sh (.str [c])] s):
 wpAny (model C.prog C.w) A (execs [.If (.Call (.Name "isinstance" a1) [.Name "pattern" a2,.Name "str" a3] [] a4)
  [.Return (some (.Call (.Attribute (.Name "pattern" c1) "translate" c2) [.Name "_special_chars_map" c3] [] c4)) c5] els a5] env) (SPost C X env ["pattern"] mB mo s (.rt (.str (lD c))) [.sh (.str [c])]) F0 s:=by
 have lp:aO env.scope.names ["pattern"] "pattern" 0=true:=by rw[hn];decide+kernel
 refine wpAny_execs_cons (wpAny_If (wpAny_isTrue_value (wpAny_Call_NameR (dG G F (by rw[hn];decide+kernel) GE.isin.1 GE.isin.2 (by decide) ?_))))
 ·refine callWith_builtin1 (args_cons (wm (bH F lp (sl:=.sh (.str [c])) rfl (by rintro⟨⟩)) λv s1 hv=>args_cons (dG G (hv.1▸F) (by rw[hn];decide+kernel) GE.str.1 GE.str.2 (by decide) (args_nil ?_)))) rfl
  obtain⟨rfl,_,⟨_,t,rfl⟩,_⟩:=hv
  refine call_isinstance_yes (Tx:="str") (typeIs_str _ _ _) rfl (by kernel_rfl) (wpAny_truthy_bool ?_)
  refine wpAny_execs_cons (wpAny_Return_some (cU rfl hline (by simp) rfl PySem.F.plainAttrs_str PySem.F.slot_str_translate PySem.F.type_str_translate (wm (bH F lp (sl:=.sh (.str [c])) rfl (by rintro⟨⟩)) λv s2 hv=>?_) (bu _ _ rfl rfl)))
  refine cq hv λq3 U q4 U=>?_
  clear hv
  subst q3
  obtain⟨_,t',rfl⟩:=q4
  refine(a6 (typeIs_str _ _ _) (λU e=>(by(injection e;done))) (args_cons (qm G F (by rw[hn];decide+kernel) GE.name (by decide) (args_nil ?_))))
  refine ai GE.tab λf hm hf=>o9 hc hh (by decide) (qT hm λo es ep ho r=>(iZ o es ep (F.ok.gk _ _ ho) r)) (hf c hc) λh' tk t2 htk hk=>.same (.of_kp (F.ok.kp (s':={s2 with heap:=h',toks:=tk}) hk)) ⟨_,rfl,⟨by unfold lD;split<;>simp,t2,rfl⟩,(F.keep (s':={s2 with heap:=h',toks:=tk}) (F.ok.kp (s':={s2 with heap:=h',toks:=tk}) hk) (F.ok.keep (h':=h') (tk:=tk) (aA F.ok.tk htk) hk))⟩
end
namespace OB
theorem mro:mroOf (.type "object")=pure [.type "object"]:=by kernel_rfl
theorem lookup_new:typeLookup (.type "object") "__new__"=pure (some (.builtin "object.__new__")):=by kernel_rfl
theorem sub:isSubtype (.type "object") (.type "object")=pure true:=by kernel_rfl
theorem called:TypeCalled "object" "object.__new__" "object.__init__":=
 ⟨by decide+kernel,by decide+kernel,⟨_,_,mro⟩,madeBy_type mro lookup_new (by decide+kernel),by decide+kernel,sub,PySem.F.slot_object_init⟩
theorem typeCall:checkTypeCall "object" ⟨[],[]⟩=pure ():=by kernel_rfl
theorem newCall:checkBuiltinCall "object.__new__" ⟨[.type "object"],[]⟩=pure ():=by kernel_rfl
theorem madeHere:Bind.madeHere "object.__new__" (.type "object")=pure ():=by
 unfold Bind.madeHere
 refine af (show Bind.staticBase (.type "object")=pure (.type "object") from by kernel_rfl)▸?_
 kernel_rfl
theorem wt:Meets (Builtin.«object.__new__» ⟨[.type "object"],[]⟩) (λU R s=>R (.ok (.ret (.ref s.heap.objs.size))) {s with heap:=s.heap.push {cls:=.type "object",data:=.plain}}):=
 .of_wp λprog w A R s h=>by
  obtain⟨hp,g,d,tk,os⟩:=s
  have hmh:=madeHere
  wp_walk
  all_goals first|exact(am _ rfl h)|exact h|skip
theorem args_init(v:Value):argsOk "object.__init__" ⟨[v],[]⟩:=by unfold argsOk;kernel_rfl
theorem uj(v:Value):Meets (Builtin.«object.__init__» ⟨[v],[]⟩) (λU R s=>R (.ok (.ret .none)) s):=.of_wp λprog w A R s h=>aC (am _ rfl h)
section
theorem call(h:Q (.ref s.heap.objs.size) {s with heap:=s.heap.push {cls:=.type "object",data:=.plain}}):wpAny (model prog w) A (call (.type "object") []) Q E s:=
 callType_meets (Q₁:=λv s₁=>v=.ref s.heap.objs.size/\s₁={s with heap:=s.heap.push {cls:=.type "object",data:=.plain}}) called typeCall newCall PySem.F.objNew.entry F.entry_object_init wt ⟨rfl,rfl⟩ λobj s₁ z4=>aw z4 λe1 e2=>
  ⟨by clear z4;subst e1 e2;exact(am _ (bz _ rfl) rfl),args_init _,_,uj _,rfl,by clear z4;subst e1 e2;exact h⟩
end
end OB
section
theorem Fm.star(F:Fm C X env Γ mB mo ρ s)(h:∀(k:Nat) (sl:Sl),ρ[k]? =some sl->∀v,SlotR X env Γ mB mo s.heap sl v->SlotR X' env Γ mB mo s.heap sl v):Fm C X' env Γ mB mo ρ s:=
 ⟨F.ok,F.kind,F.glob,F.bi,F.ns,F.mutL,F.apartB,F.cells,F.cellB,F.cellE,F.hasC,F.inj,λk x sl h1 h2 h3 h4=>ai (F.slots k x sl h1 h2 h3 h4) λv hv hr=>(am v hv (h k sl h2 v hr)),F.apart⟩
theorem Fm.starUn{n:Nat}(F:Fm C X env Γ mB mo (List.replicate n .un) s):Fm C X' env Γ mB mo (List.replicate n .un) s:=F.star λk sl h v U=>by
 rw[List.getElem?_replicate] at h
 split at h<;>(first|exact no h|refine(so h)▸?_)
 trivial
noncomputable def kL:List Str:=["pat","STAR","parts"]
noncomputable def eU:List (Str×NameKind):=[("pat",.local),("STAR",.local),("parts",.local),("object",.globalImplicit),("_translate",.globalImplicit),("_join_translated_parts",.globalImplicit)]
noncomputable def kW:List IS:=[.assign 2 (.call 71 (.cons (.var 0) (.cons (.var 1) (.cons (.const (.str [46])) .nil)))),.ret (.call 78 (.cons (.var 2) (.cons (.var 1) .nil)))]
theorem AK(G:Gd C)(hob:C.mg "object"=none/\C.mb "object"=some (.type "object"))(HS:∀X,mK C X H A)(hh:A.handled=none)(hu:A.in1.units<cLine)(hspec:∀X env,env.scope.names=eU->∀k i j x p y r q,aT C X H A env kL (.spec k i j x p y r q))
 (hn:env.scope.names=eU) {cs t:List Nat} {B:AS .B} (hB:B.er=kW) (hc:B.ok kL eU=true)
 (he:aD (az H n) kW [.sh (.str cs),.sh .obj,.un]=some (.rt (.str t),ρ')) (F:Fm C X env kL mB mo [.sh (.str cs),.un,.un] s):
 wpAny (model C.prog C.w) A (execs (.Assign [.Name "STAR" p1] (.Call (.Name "object" p2) [] [] p3) p4::B.tx) env) (SPost C X env kL mB mo s (.rt (.str t)) (List.replicate 3 .un)) F0 s:=by
 refine wpAny_execs_cons (wpAny_Assign_Name (wpAny_Call_NameR (dG G F (by refine af hn▸?_;decide+kernel) hob.1 hob.2 (by decide) (callWith_type0 (OB.call ?_)))) rfl)
 have k2:∀b o,s.heap.get? b=some o->(s.heap.push {cls:=.type "object",data:=.plain}).get? b=some o:=λb o e=>aX _ e
 let s2:Shared:={s with heap:=s.heap.push {cls:=.type "object",data:=.plain}}
 have ok2:Ok C (λa=>mB a\/mo a) s2:=F.ok.keep (tk:=s.toks) F.ok.tk k2
 have F2:Fm C s.heap.objs.size env kL mB mo [.sh (.str cs),.un,.un] s2:=(F.keep (F.ok.kp (s':=s2) k2) ok2).star λk sl h v hv=>by
  match k with
  |0=>obtain rfl:=so h;exact hv
  |1=>obtain rfl:=so h;exact hv
  |2=>obtain rfl:=so h;exact hv
  |k+3=>exact no h
 refine wm (bX (s:=s2) F2 (by refine af hn▸?_;decide+kernel) (sl:=.sh .obj) (k:=1) (ρ':=[.sh (.str cs),.sh .obj,.un]) rfl (by rintro⟨⟩) (λa h=>by(injection h;done)) rfl) (λU s3 h=>?_)
 refine wm (oX (lC (env:=env) (Γ:=kL) G (HS s.heap.objs.size) hh hu (hspec s.heap.objs.size env hn) B) (hn▸hc) (hB▸he) h.1) λfl s4 h4=>av λGG kk=>?_
 obtain⟨aK,g1,g2,g3,v,rfl,hr,F4⟩:=h4
 have k3:=(KpM.of_kp (F.ok.kp (s':=s2) k2)).trans h.2 λU=>.inl
 refine kk ?_;clear kk
 refine⟨aK,g1,λa m=>?_,k3.trans g3 λU=>.inl,v,rfl,hr,(F4.unk 3).starUn⟩
 rcases g2 a m with m|m
 ·exact .inl m
 ·by_cases h6:a=66
  ·refine aB h.1.ok.tab λps e=>?_
   rw[h6] at m;rw[m] at e;exact no e
  ·refine .inr ?_
   refine nn λo q=>?_
   exfalso
   by_cases q2:mo a
   ·obtain⟨o',e⟩:=(h.1.ok.mtx a (.inr q2)).2.2
    rw[m] at e;exact no e
   ·rw[k3.keep a o h6 q2 q] at m;exact no (af m)
end
theorem ia{pos q:Pos}(hq:¬(pos.line=q.line/\pos.col=q.col)):∀(l:List Value),TriplesOk l->codeAmong q (l++[rawInt pos.line,rawInt pos.col,c])=codeAmong q l:=λl h=>by
 fun_induction TriplesOk l with
 |case1=>
  simp only[List.nil_append,codeAmong,rawInt]
  rw[if_neg]
  intro h
  simp only[Bool.and_eq_true,beq_iff_eq] at h
  exact hq ⟨by exact Int.ofNat_inj.mp h.1,by exact Int.ofNat_inj.mp h.2⟩
 |case2 a t b u x rest ih=>
  simp only[List.cons_append,codeAmong]
  rw[ih h]
 |case3 l h1 h2=>exact h.elim
theorem nH(h1:pos.line=q.line)(h2:pos.col=q.col)(l:List Value):codeAmong q l=codeAmong pos l:=by
 have:∀n,∀l:List Value,l.length<=n->codeAmong q l=codeAmong pos l:=λn=>by
  induction n with
  |zero=>intro l h;refine af (List.length_eq_zero_iff.mp (Nat.le_zero.mp h))▸?_;rfl
  |succ n ih=>
   intro l h
   match l with
   | .int line t::.int col u::c::rest=>
     simp only[codeAmong,h1,h2,ih rest (ln [_,_] [(1,.a (.a (.a (.v 0) (.k 1)) (.k 1)) (.k 1),.a (.v 1) (.k 1))] (.v 0) (.v 1) 1 rfl h)]
   |[]|[.int _ _]|[.int _ _,.int _ _]=>rfl
   | .none::_| .ellipsis::_| .notImplemented::_| .bool _::_| .float _ _::_| .str _ _::_| .bytes _ _::_| .type _::_| .builtin _::_| .ref _::_=>rfl
   | .int _ _::.none::_| .int _ _::.ellipsis::_| .int _ _::.notImplemented::_| .int _ _::.bool _::_| .int _ _::.float _ _::_| .int _ _::.str _ _::_| .int _ _::.bytes _ _::_| .int _ _::.type _::_| .int _ _::.builtin _::_| .int _ _::.ref _::_=>rfl
 exact this _ l (Nat.le_refl _)
def HR(o:Obj)(vs:Array Value):Prop:=o.cls=.type "code"/\o.data=.fields vs/\vs[11]? =some (.ref 66)/\∃file tf flags tg inF text tt,vs.getD 11 .none=.ref 66/\vs.getD 18 .none=.str file tf/\
    vs.getD 7 .none=.int flags tg/\vs.getD 9 .none=.bool inF/\vs.getD 10 .none=.int text tt
def CHd(h:Heap):Prop:=∃o vs,h.get? 70=some o/\HR o vs
theorem CHd.keeps(x:CHd h)(k:∀b o,h.get? b=some o->h'.get? b=some o):CHd h':=bK x λo vs e r=>⟨o,vs,k _ _ e,r⟩
theorem CHd.tab{ps:Array Value}(x:CHd h)(hP:h.get? 66=some (W.tabObj ps)):h.TableAt 70 66 ps:=bK x λo vs e r=>⟨⟨o,vs,e,r.1,r.2.1,r.2.2.1⟩,hP⟩
theorem CHd.code{ps:Array Value}(x:CHd h)(hP:h.get? 66=some (W.tabObj ps))(ht:TriplesOk ps.toList):h.IsCode 70 66 ps:=bK x λo vs e1 r=>by
 obtain⟨file,tf,flags,tg,inF,text,tt,f3,f4,f5,f6,f7⟩:=r.2.2.2
 exact⟨o,vs,file,tf,flags,tg,inF,text,tt,_,e1,r.2.1,f3,f4,f5,f6,f7,hP,rfl,ht,by decide⟩
structure g8(C:Cx):Prop where
 head:CHd C.g
 bmod:∃bm ob,BMod C.g mainGlobals C.mg bm ob
 no66:C.g.get? 66=none
 pl:C.places=[(fL,Str.ofString "_translate.<locals>.<genexpr>"),(gJ,Str.ofString "_translate.<locals>.<lambda>")]
section
variable{mt:Addr->Prop}
theorem Ok.laid(ok:Ok C mt s){c':Addr}{tk:Nat}(hps:s.heap.get? 66=some (W.tabObj ps))(h66:C.g.get? 66=none)(hp:(pos,qual)∈C.places)(hu:∀q∈C.places,(pos.line=q.1.line/\pos.col=q.1.col)->q=(pos,qual))
 (hx:Heap.ExtBut 66 s.heap h') (hge:s.heap.objs.size<=c') (hrec:h'.CodeRec (.ref c') qual) (htab:h'.get? 66=some (W.tabObj (ps++ #[rawInt pos.line,rawInt pos.col,.ref c']))) (hnf:codeAmong pos ps.toList=none) (htk:1<=tk):
 Ok C mt {s with heap:=h',toks:=tk}/\Kp s.heap h':=by
 refine av λGG kk=>aZ ok.tb λps0 e0 ht hpl=>?_
 replace e0:=hps▸e0;cases e0
 have hl:(ps++ #[rawInt pos.line,rawInt pos.col,Value.ref c']).toList=ps.toList++[rawInt pos.line,rawInt pos.col,.ref c']:=by simp
 have fresh:=Heap.get?_none_of_le hge
 refine kk ?_;clear kk
 refine⟨⟨λb o e=>hx b o (λq=>by rw[q,h66] at e;exact no e) (ok.gk b o e),⟨_,htab,by simp only[hl];exact TriplesOk_snoc _ _ _ _ ht,λq hq=>?_⟩,ok.bare,ok.os,htk,λa m=>?_⟩,⟨λb o n e=>hx b o n e,λq c e=>?_⟩⟩
 ·rw[hl]
  by_cases hsame:pos.line=q.1.line/\pos.col=q.1.col
  ·have:=hu q hq hsame
   refine this▸?_
   have nm:¬mt c':=λm=>by
    obtain⟨_,_,o,e⟩:=ok.mtx c' m
    rw[fresh] at e;exact no e
   have n6:c'≠66:=λq=>by rw[q,hps] at fresh;exact no (af fresh)
   exact .inr (fu c' (codeAmong_snoc _ ht hnf) hrec nm n6)
  ·refine af (ia hsame _ ht)▸?_
   rcases hpl q hq with h|⟨c₂,h,hr,hn,h6⟩
   ·exact .inl h
   ·exact .inr (fu c₂ h (eS hr λo=>hx c₂ o h6) hn h6)
 ·obtain⟨h1,h2,o,e⟩:=ok.mtx a m
  exact⟨h1,h2,o,hx a o h2 e⟩
 ·refine av λGG kk=>?_
  refine ai e λps2 e1 e2=>?_
  replace e1:=htab▸e1;cases e1
  rw[hl] at e2
  refine kk ?_;clear kk
  by_cases hsame:pos.line=q.line/\pos.col=q.col
  ·right
   intro _
   have:codeAmong q (ps.toList++[rawInt pos.line,rawInt pos.col,Value.ref c'])=some (.ref c'):=by
    have h3:codeAmong q ps.toList=none:=by
     rw[nH hsame.1 hsame.2];exact hnf
    refine af (show rawInt pos.line=rawInt q.line from by rw[hsame.1])▸?_;refine af (show rawInt pos.col=rawInt q.col from by rw[hsame.2])▸?_;exact codeAmong_snoc _ ht h3
   rw[this] at e2;(injection e2 with e2;injection e2 with e2;refine e2▸?_)
   exact fresh
  ·rw[ia hsame _ ht] at e2
   exact .inl (am _ hps e2)
end
namespace GK
section
def Elt(prog:Program)(w:World)(cenv:Env)(x:Str)(elt:Expr)(items:Array Value)(F:Nat->Value->Prop):Prop:=
 ∀(A':Around) E' i v (s₂:Shared) m₂,A'.handled=none->items[i]? =some v->1<=s₂.toks->s₂.heap.Ns cenv.locals m₂->m₂ x=some v->wpAny (model prog w) A' (eval elt cenv) (λy s₃=>F i y/\Keeps s₂ s₃) E' s₂
noncomputable abbrev gen(elt iter:Expr)(x:Str)(px:Pos)(scope:Scope)(pos:Pos):Expr:=.GeneratorExp elt [⟨.Name x px,iter,[],0⟩] scope pos
noncomputable def R(C I:Addr):GenEnd:=λn s₀ r s₁=>r=.ok .next/\(n=0/\GenSince C [I] s₀ s₁)
noncomputable def Y(C I:Addr)(fp:List Addr)(n:Nat)(F:Nat->Value->Prop):Protocol:=λm s₀ v s kap=>
 F (n-1-m) v/\GenSince C [I] s₀ s/\∀s'':Shared,1<=s''.toks->(∀b∈C::fp,∀o,s.heap.get? b=some o->s''.heap.get? b=some o)->kap (.send .none) s''
theorem loop(hh:A.handled=none)(hne:l≠I)(hfp:I∈fp/\l∈fp)(hx:cenv.kindOf x=some .local)(hk:cenv.scope.kind=.function)(hco:cenv.scope.isCoroutine=false)(hCf:cenv.locals ∉ fp)(hq:Elt prog w cenv x elt items F):
 ∀(k i:Nat) (s₀ s:Shared) (m:Str->Option Value),items.size-i=k->i<=items.size->1<=s.toks->(s.heap.IsListIter I l i/\s.heap.IsList l items)->s.heap.Ns cenv.locals m->GenSince cenv.locals [I] s₀ s->
  Seg (model prog w) A (R cenv.locals I) (Y cenv.locals I fp items.size F) k s₀ (.compLoop (gen elt iter x px scope pos) 0 (.ref I) .none cenv) ((model prog w).den (.compLoop (gen elt iter x px scope pos) 0 (.ref I) .none cenv)) [] s:=by
 have hh':(A.over (.compLoop (gen elt iter x px scope pos) 0 (.ref I) .none cenv) []).handled=none:=hh
 have hp:(cenv.scope.kind==.class||(cenv.scope.kind==.module&&cenv.locals !=cenv.globals))=false:=by refine af hk▸?_;rfl
 have fr:∀{i h h'},(Heap.IsListIter h I l i/\Heap.IsList h l items)->(∀b∈fp,∀o,h.get? b=some o->h'.get? b=some o)->(Heap.IsListIter h' I l i/\Heap.IsList h' l items):=λst k=>
  ⟨st.1.at λo e=>k I hfp.1 o e,st.2.at λo e=>k l hfp.2 o e⟩
 intro k
 induction k with
 |zero=>
  intro i s₀ s m hk hi htk hst hn hsince
  have hin:i=items.size:=by exact Nat.le_antisymm (hi) (ln [_,_,_] [(1,.v 0,.k 0),(1,.v 1,.a (.v 0) (.v 2))] (.v 1) (.v 2) 1 rfl (Nat.le_of_eq hk) (Nat.le_of_eq (Nat.sub_add_cancel hi).symm))
  subst hin
  show Seg _ A _ _ _ s₀ _ ((compTurn (gen elt iter x px scope pos) 0 (.ref I) .none cenv).onRaise (leaving cenv)) [] s
  rw[compTurn_gen,Sem.onRaise_eq_wrap]
  refine seg_bind_wrap (wpAny_standAt ?_)
  refine seg_bind_wrap (((λA' hA=>Walks.list hA I l hne items) _ hh').done s _ _ hst λh' tk hk'=>?_)
  exact seg_end (.ok .next) (a6 rfl rfl (hsince.step λb o U hw e=>hk' b o hw e))
 |succ k ih=>
  intro i s₀ s m hk hi htk hst hn hsince
  have hlt:i<items.size:=by exact Nat.lt_of_sub_eq_succ hk
  show Seg _ A _ _ _ s₀ _ ((compTurn (gen elt iter x px scope pos) 0 (.ref I) .none cenv).onRaise (leaving cenv)) [] s
  rw[compTurn_gen,Sem.onRaise_eq_wrap]
  refine seg_bind_wrap (wpAny_standAt ?_)
  refine seg_bind_wrap (wpAny_with_toks htk (((λA' hA=>Walks.list hA I l hne items) _ hh').item i s _ _ hlt hst λv h₁ tk₁ hPv hst₁ hk₁ htk₁=>?_))
  refine seg_bind_wrap (wpAny_of_eq (rfl:letOwnedTupleGo (.Name x px) (.ref I) v=pure ()) ?_)
  refine seg_bind_wrap (wpAny_with_toks htk₁ (wpAny_assign_Name (wpAny_storeName_local hx (hn.at' λo e=>hk₁ _ o (by simpa using(show cenv.locals≠I from λq=>hCf (q▸hfp.1))) e) (λh₂ hn₂ hs₂ htk₂=>?_) hp)))
  refine seg_bind_wrap (aC ?_)
  simp only[if_true]
  simp only[(show∀v,yieldOut cenv v=yieldValue v from λv=>by simp only[yieldOut,hco,Bool.false_eq_true,if_false])]
  rw[Sem.bind_eq_wrap',Sem.bind_eq_wrap',Sem.wrap_wrap,Sem.wrap_wrap]
  refine seg_wrap (wpAny_with_toks htk₂ (wpAny_mono (hq _ _ i v _ _ hh' hPv htk₂ hn₂ (if_pos rfl)) (λy s₄ h₄ htk₄=>?_) λU U e U=>e))
  refine av λGG kk=>?_
  clear htk₄
  obtain⟨hFy,h₄,tk₄,rfl,hk₄⟩:=h₄
  refine kk ?_;clear kk
  refine seg_at (seg_yield rfl rfl rfl (a6 ?_ (hsince.step λb o hbC hbw e=>hk₄ b o ((λb o hbC hbw e=>hs₂.extBut b o hbC (hk₁ b o hbw e)) b o hbC hbw e)) (λs'' htk'' hal=>?_)))
  ·have:items.size-1-k=i:=by rw[Nat.eq_add_of_sub_eq hi hk,Nat.sub_sub,Nat.add_comm 1 k,Nat.add_sub_cancel_left]
   refine af this▸?_;exact hFy
  ·exact seg_again rfl (ih (i+1) s'' s'' _ (by rw[<-Nat.sub_sub,hk];rfl) hlt htk'' (fr (fr hst₁ λb hb o e=>hs₂.extBut b o (λh=>hCf (h▸hb)) e) λb hb o e=>hal b (List.mem_cons_of_mem _ hb) o (hk₄ b o e)) ((hn₂.keeps hk₄).at' λo e=>hal _ (List.mem_cons_self ..) o e) (GenSince.refl _ _ _))
theorem start(hh:A.handled=none)(hne:l≠I)(hfp:I∈fp/\l∈fp)(hx:cenv.kindOf x=some .local)(hk:cenv.scope.kind=.function)(hco:cenv.scope.isCoroutine=false)(hCf:cenv.locals ∉ fp)(hq:Elt prog w cenv x elt items F)
 (s:Shared) (m:Str->Option Value) (htk:1<=s.toks) (hst:s.heap.IsListIter I l 0/\s.heap.IsList l items) (hn:s.heap.Ns cenv.locals m):
 Seg (model prog w) A (R cenv.locals I) (Y cenv.locals I fp items.size F) items.size s (.compStart (gen elt iter x px scope pos) 0 (.ref I) .none cenv) ((model prog w).den (.compStart (gen elt iter x px scope pos) 0 (.ref I) .none cenv)) [] s:=by
 show Seg _ A _ _ _ s _ ((compStart (gen elt iter x px scope pos) 0 (.ref I) .none cenv).onRaise (leaving cenv)) [] s
 rw[Sem.onRaise_eq_wrap]
 refine seg_bind_wrap (wpAny_askSetting ?_)
 split
 ·exact seg_again rfl (loop (iter:=iter) (px:=px) (scope:=scope) (pos:=pos) hh hne hfp hx hk hco hCf hq items.size 0 s s m (Nat.sub_zero _) (Nat.zero_le _) htk hst hn (GenSince.refl _ _ _))
 ·refine seg_bind_wrap (wpAny_rule ?_)
  exact seg_bind_wrap (wpAny_standAt (seg_bind_wrap (wpAny_pyIter_listiter hst.1 (seg_again rfl (loop (iter:=iter) (px:=px) (scope:=scope) (pos:=pos) hh hne hfp hx hk hco hCf hq items.size 0 s s m (Nat.sub_zero _) (Nat.zero_le _) htk hst hn (GenSince.refl _ _ _))))))
def At(prog:Program)(w:World)(A:Around)(a:Addr)(g:Nat)(C I:Addr)(fp:List Addr)(n:Nat)(F:Nat->Value->Prop)(j:Nat)(s:Shared):Prop:=
 s.heap.IsGen a g/\s.heap.NoLimit/\1<=s.toks/\∃gs,s.gens[g]? =some gs/\∀s'':Shared,1<=s''.toks->(∀b∈C::fp,∀o,s.heap.get? b=some o->s''.heap.get? b=some o)->
  gs.Goes (model prog w) A.in1 (R C I) (Y C I fp n F) (n-j) (.send .none) s''
theorem walks(hh:A.handled=none)(hI:I∈fp)(haC:a≠C)(haf:a ∉ fp)(hroom:A.depth<recursionLimit)(hcs:cStatics∈fp)(hcC:cStatics≠C)(hcw:cStatics≠I):
 WalksS prog w A a (a::C::fp) [C,I] (GenOnlyQ g) n F (At prog w A a g C I fp n F) where
 sub:=λb hb=>by
  rcases List.mem_cons.mp hb with rfl|hb
  ·simp
  ·refine af (List.mem_singleton.mp hb)▸?_;exact List.mem_cons_of_mem _ (List.mem_cons_of_mem _ hI)
 grefl:=λU=>.inl rfl
 gtrans:=λU U U x y=>x.trans y
 frame:=λj s h' tk st htk hk=>
  (lu (let⟨o,nm,qn,ho,r⟩:=st.1;(iZ o nm qn (hk a (List.mem_cons_self ..) o ho) r)) (let⟨mc,hns,hnn⟩:=st.2.1;(am mc (hns.at' λo e=>hk cStatics (List.mem_cons_of_mem _ (List.mem_cons_of_mem _ hcs)) o e) hnn)) (aA st.2.2.1 htk) (ai st.2.2.2 λgs hgs hgo=>⟨gs,hgs,λs'' h1 hal=>hgo s'' h1 λb hb o e=>hal b hb o (hk b (List.mem_cons_of_mem _ hb) o e)⟩))
 item:=λj s Q E hj st hQ=>by
  obtain⟨hg,hl,htk0,gs,hgs,hgo⟩:=st
  obtain⟨m,hm⟩:∃m,n-j=m+1:=⟨n-j-1,by exact(Nat.sub_add_cancel (Nat.sub_pos_of_lt hj)).symm⟩
  rw[hm] at hgo
  refine wpAny_with_toks (Nat.le_refl s.toks) ?_
  refine wpAny_pyNext_genexpQ (P:=λn s₀ s₁=>n=0/\GenSince C [I] s₀ s₁) hh hl hroom hg hgs (hgo _ htk0 λU U U e=>e) (λv s₁ gs' hb hv=>?_) (λs₁ hp h' hk=>?_)
  ·refine bV hv λhF q1 hkap=>?_
   refine bK q1 λh₁ tk₁ q3 hk₁=>?_
   clear q1
   subst q3
   rw[(show n-1-(m+1-1)=j from by rw[Nat.eq_add_of_sub_eq (Nat.le_of_lt hj) hm];show m+1+j-1-m=j;rw[Nat.sub_sub,Nat.add_comm 1 m,Nat.add_sub_cancel_left])] at hF
   intro htk
   refine hQ v _ hF ⟨let⟨o,nm,qn,ho,r⟩:=hg;(iZ o nm qn (hk₁ a o haC (λh=>haf (List.mem_singleton.mp h▸hI)) ho) r),(let⟨mc,hns,hnn⟩:=hl;(am mc (hns.at' λo e=>hk₁ cStatics o hcC (notIn_one hcw) e) hnn)),aA htk0 htk,gs',setGen_self (gs:=.running) (setGen_self hgs),λs'' h1 hal=>?_⟩
    ⟨λb o hb e=>hk₁ b o (λh=>hb (h▸List.mem_cons_self ..)) (λh=>hb (List.mem_cons_of_mem _ h)) e,GenOnlyQ.of ((GenOnly.setGen s g .running).trans (GenOnly.setGen _ g gs')) (setGen_self (gs:=.running) (setGen_self hgs)) hb,rfl,rfl,htk⟩
   have e:n-(j+1)=m:=by rw[<-Nat.sub_sub,hm];rfl
   refine af e▸?_
   exact hkap s'' h1 hal
  ·exact absurd hp.1 (Nat.succ_ne_zero m)
 done:=λs Q E st hQ=>by
  obtain⟨hg,hl,htk0,gs,hgs,hgo⟩:=st
  rw[Nat.sub_self] at hgo
  refine wpAny_with_toks (Nat.le_refl s.toks) ?_
  refine wpAny_with_toks htk0 (wpAny_pyNext_genexpQ (P:=λn s₀ s₁=>n=0/\GenSince C [I] s₀ s₁) hh hl hroom hg hgs (hgo _ htk0 λU U U e=>e) (λv s₁ gs' hb hv=>?_) (λs₁ hp h' hk=>?_))
  ·refine bV hv λU U hkap=>?_
   exact λh1=>False.elim (hkap s₁ h1 λU U U e=>e)
  ·refine av λGG kk=>?_
   obtain⟨_,h₁,tk₁,rfl,hk₁⟩:=hp
   refine kk ?_;clear kk
   intro _ htk
   exact hQ _ ⟨λb o hb e=>hk b o (hk₁ b o (λh=>hb (h▸List.mem_cons_self ..)) (λh=>hb (List.mem_cons_of_mem _ h)) e),GenOnlyQ.of ((GenOnly.setGen s g .running).trans (GenOnly.setGen _ g .finished)) (setGen_self (gs:=.running) (setGen_self hgs)) rfl,rfl,rfl,htk⟩
 self:=λU U U U st hQ=>wpAny_pyIter_gen st.1 hQ
theorem fresh(hh:A.handled=none)(hne:l≠I)(hfp:I∈fp/\l∈fp)(hx:cenv.kindOf x=some .local)(hk:cenv.scope.kind=.function)(hco:cenv.scope.isCoroutine=false)(hCf:cenv.locals ∉ fp)(hq:Elt prog w cenv x elt items F){m:Str->Option Value}
 (hg:s.heap.IsGen a g) (hgs:s.gens[g]? =some (.fresh (.compStart (gen elt iter x px scope pos) 0 (.ref I) .none cenv))) (hst:s.heap.IsListIter I l 0/\s.heap.IsList l items) (hn:s.heap.Ns cenv.locals m) (hl:s.heap.NoLimit) (htk:1<=s.toks):
 At prog w A a g cenv.locals I fp items.size F 0 s:=
 ⟨hg,hl,htk,_,hgs,λs'' h1 hal=>⟨rfl,start (A:=A.in1) hh hne hfp hx hk hco hCf hq s'' m h1 ⟨hst.1.at λo e=>hal I (List.mem_cons_of_mem _ hfp.1) o e,hst.2.at λo e=>hal l (List.mem_cons_of_mem _ hfp.2) o e⟩
  (hn.at' λo e=>hal _ (List.mem_cons_self ..) o e)⟩⟩
end
end GK
section
variable{env:Env}
theorem CHd.of(GT:g8 C)(ok:Ok C mo s):CHd s.heap:=GT.head.keeps λb o e=>ok.gk b o e
theorem tc(GT:g8 C){mt:Addr->Prop}(ok:Ok C mt s):∃bm ob,BMod s.heap mainGlobals C.mg bm ob:=dU GT.bmod λbm ob h=>(fT bm ob (h.keeps λb o e=>ok.gk b o e))
theorem n8(GT:g8 C){qual:Str}(hp:(pos,qual)∈C.places):∀q∈C.places,(pos.line=q.1.line/\pos.col=q.1.col)->q=(pos,qual):=by
 rw[GT.pl] at hp ⊢
 intro q hq h
 simp only[List.mem_cons,List.not_mem_nil,or_false] at hp hq
 rcases hp with hp|hp<;>rcases hq with hq|hq<;>cases hp<;>subst hq<;>first|rfl|(exfalso;revert h;decide)
theorem zj(GT:g8 C){mt:Addr->Prop}(ok:Ok C mt s)(hcode:env.code=.ref 70)(hqual:env.qual++"<genexpr>"="_translate.<locals>.<genexpr>"){Q:Value->Shared->Prop}
 (h:∀code h' tk,Ok C mt {s with heap:=h',toks:=tk}->Kp s.heap h'->s.heap.objs.size<=h'.objs.size->1<=tk->Q code {s with heap:=h',toks:=tk}):wpAny M A (genexprCode env fL (env.qual++"<genexpr>") scope) Q E s:=by
 refine aZ ok.tb λps e1 e2 e3=>?_
 have hmem:(fL,("_translate.<locals>.<genexpr>":Str))∈C.places:=by refine af GT.pl▸?_;exact .head _
 refine af hqual▸?_
 rcases e3 _ hmem with hnf|⟨c',hf,_⟩
 ·refine wpAny_with_toks ok.tk (wpAny_genexprCodeX hcode ((CHd.of GT ok).code e1 e2) ((CHd.of GT ok).tab e1) hnf λc' h' tk hx hge hlt U hrec htab U htk=>?_)
  refine aw (ok.laid (tk:=tk) e1 GT.no66 hmem (n8 GT hmem) hx hge hrec htab.2 hnf htk) λo k=>h _ _ _ o k (aA ‹_› (Nat.le_of_lt ‹_›)) htk
 ·exact wpAny_genexprCode_hit hcode ((CHd.of GT ok).code e1 e2) hf (h _ s.heap s.toks ok (.refl _) (Nat.le_refl _) ok.tk)
def fE(cs:List Nat):List Nat:=bC 45 [92,45] (bC 92 [92,92] cs)
theorem gD(c a b:Nat):∀cs:List Nat,(bC c [a,b] cs).length<=2*cs.length
 |[]=>Nat.le_refl _
 |x::r=>by
  show((if x=c then [a,b] else [x])++bC c [a,b] r).length<=2*(r.length+1)
  rw[List.length_append,Nat.mul_succ,Nat.add_comm]
  exact Nat.add_le_add (gD c a b r) (by split;exact Nat.le_refl _;exact Nat.le_succ _)
theorem n3{c a b:Nat}(hbase:attributeBase e0 "replace" env (eval e0 env)=eval e0 env)(hline:(ap.endLine==p.line)=true)(hcs:cs.length<=1000)
 (ho:wpAny (model prog w) A (eval e0 env) (λov s₁=>(∃t,ov=.str ⟨cs.toArray⟩ t)/\1<=s₁.toks/\Keeps s s₁) F0 s):
 wpAny (model prog w) A (eval (.Call (.Attribute e0 "replace" ap) [.Constant (.str ⟨#[c]⟩) k1 p1,.Constant (.str ⟨#[a,b]⟩) k2 p2] [] p) env) (λv s'=>(∃t,v=.str ⟨(bC c [a,b] cs).toArray⟩ t)/\1<=s'.toks/\Keeps s s') F0 s:=by
 have:=gD c a b cs
 refine cU (C:=⟨prog,w,s.heap,s.os,λU=>none,λU=>none,[]⟩) hbase hline (List.getElem?_eq_none_iff.mp rfl) rfl PySem.F.plainAttrs_str PySem.F.slot_str_replace PySem.F.type_str_replace (wm ho (λv s1 hv=>?_)) (bu _ _ rfl rfl)
 refine bV hv λq1 htk k=>?_
 clear hv
 obtain⟨t,rfl⟩:=q1
 refine(a6 (typeIs_str _ _ _) (λU e=>(nomatch e)) ?_)
 refine args_cons (Calls.Constant_str (args_cons (Calls.Constant_str (args_nil ?_))))
 refine wpAny_mono (wpAny_toks_of (n:=1) (show 1<=s1.toks+1+1 by exact Nat.succ_pos _) (sx (X:=0) (Av':=λU=>False) (E:=F0) (show s1.toks≠0 by exact Nat.ne_of_gt ‹_›) (show s1.toks+1≠0 by exact Nat.succ_ne_zero _) (show s1.toks≠s1.toks+1 by exact Nat.ne_add_one s1.toks) (aA ‹_› (by decide)) (ln [_,_] [(2,.v 0,.k 1000),(1,.v 1,.m 2 (.v 0))] (.v 1) (.k 4096) 1 rfl hcs this))) (λv s2 h=>?_) λU U x=>x.2
 obtain⟨h1,k2,_,t',e⟩:=h
 exact(a6 ⟨t',e⟩ h1 (fK k (fK (bj s1 (s1.toks+1+1)) k2)))
theorem BM{items:Array Value}{ss:List (List Nat)}(hl1:(p2.endLine==p5.line)=true)(hl2:(p6.endLine==p8.line)=true)
 (hn:cenv.scope=genScope) (hit:∀(i:Nat) (v:Value),items[i]? =some v->∃(cs:List Nat) (t:Tok),ss[i]? =some cs/\v=.str ⟨cs.toArray⟩ t) (hlen:∀cs∈ss,cs.length<=64):
 GK.Elt prog w cenv "s" (.Call (.Attribute (.Call (.Attribute (.Name "s" p1) "replace" p2) [.Constant (.str "\\") k1 p3,.Constant (.str "\\\\") k2 p4] [] p5) "replace" p6) [.Constant (.str "-") k3 p7,.Constant (.str "\\-") k4 p9] [] p8) items
  (λ(i:Nat) v=>∃(cs:List Nat) (t:Tok),ss[i]? =some cs/\v=.str ⟨(fE cs).toArray⟩ t):=by
 intro A' E' i v s₂ m₂ hA hv htk hns hm
 refine bK (hit i v hv) λcs t h1 q4=>?_
 clear hv
 subst q4
 have h64:=hlen cs (List.mem_of_getElem? h1)
 refine eG (n3 (c:=45) (a:=92) (b:=45) (cs:=bC 92 [92,92] cs) rfl hl2 (ln [_,_] [(2,.v 0,.k 64),(1,.v 1,.m 2 (.v 0))] (.v 1) (.k 1000) 1 rfl h64 (gD 92 92 92 cs)) (n3 (c:=92) (a:=92) (b:=92) (cs:=cs) rfl hl1 (aA ‹_› (by decide)) (wpAny_Name (wpAny_loadName_local (by rw[hn];rfl) (show cenv.scope.names.lookup ("s":Str)=some .local by rw[hn];decide+kernel) hns hm (a6 ⟨t,rfl⟩ htk (aR _))) (by decide)))) (λy s₃ h=>?_)
 obtain⟨⟨t',rfl⟩,_,k⟩:=h
 exact⟨(bu cs t' h1 rfl),k⟩
end
section
variable{env:Env}
theorem zm(env:Env):closureFor genScope env=pure []:=rfl
theorem wy(F:Fm C X env Γ mB mo ρ s){ds:List D}(hx:aO env.scope.names Γ x j=true)(hv:(ρ[j]?).bind (Sl.view true)=some (.list ds)):
 wpAny M A (eval (.Name x p) env) (λv s'=>s'=s/\∃l vs,v=.ref l/\s.heap.IsList l vs.toArray/\RepL X s.heap (aJ mB mo false) ds vs) E s:=by
 refine bi hv λsl e1 e2=>wm (bH F hx e1 (by rintro rfl;exact no e2)) λv s' h=>?_
 refine av λGG kk=>?_
 obtain⟨h1,_,h2,_⟩:=h
 refine kk ?_;clear kk
 refine⟨h1,?_⟩
 induction sl with
 |sh d=>
  obtain rfl:=so e2
  refine bU h2 λl vs e hp U U rl=>(ip l vs e hp.1 rl)
 |ow ds'=>
  (injection e2 with e2;injection e2 with e2;subst e2)
  refine bU h2 λl vs e hp U U rl=>(ip l vs e hp.1 rl)
 |_=>exact no e2
theorem qv:∀(ts:List (List Nat)),(∀t∈ts,t.length<=256)->(ck [45] ts).length<=257*ts.length
 |[],_=>Nat.le_refl _
 |[x],h=>by have:=h x (.head _);exact Nat.le_succ_of_le this
 |x::y::r,h=>by
  have h1:=h x (.head _)
  have h2:=qv (y::r) λt m=>h t (.tail _ m)
  show(x++[45]++ck [45] (y::r)).length<=257*(r.length+1+1)
  rw[List.length_append,List.length_append]
  exact ln [_,_,_] [(1,.v 0,.k 256),(1,.v 1,.m 257 (.a (.v 2) (.k 1)))] (.a (.a (.v 0) (.k 1)) (.v 1)) (.m 257 (.a (.a (.v 2) (.k 1)) (.k 1))) 1 rfl h1 h2
theorem wG{ts:List Str}(hs:sep.length<=1)(h:∀t∈ts,t.length<=256)(hn:ts.length<=15):JoinOk sep ts=true:=by
 have key:∀(l:List Str) (a:Nat),(∀t∈l,t.length<=256)->l.foldl (· + ·.length+sep.length) a<=a+257*l.length:=λl=>by
  induction l with
  |nil=>intro a _;simp
  |cons x r ih=>
   intro a h
   have h2:=ih (a+x.length+sep.length) λt m=>h t (.tail _ m)
   exact ln [_,_,_,_,_] [(1,.v 0,.k 1),(1,.v 1,.k 256),(1,.v 2,.a (.a (.a (.v 3) (.v 1)) (.v 0)) (.m 257 (.v 4)))] (.v 2) (.a (.v 3) (.m 257 (.a (.v 4) (.k 1)))) 1 rfl hs (h x (.head _)) h2
 unfold JoinOk Builtin.Str.tooLong
 rw[List.foldl_toArray,Bool.not_eq_true',decide_eq_false_iff_not,sizeLine_eq]
 have:=key ts 0 h
 exact Nat.not_lt.mpr (ln [_,_] [(257,.v 0,.k 15),(1,.v 1,.a (.k 0) (.m 257 (.v 0)))] (.v 1) (.k 16777216) 1 rfl hn this)
set_option tactic.hygienic true in
theorem EG(G:Gd C)(GT:g8 C)(hh:A.handled=none)(hroom:A.depth<recursionLimit)(hcode:env.code=.ref 70)(hqual:env.qual++"<genexpr>"="_translate.<locals>.<genexpr>"){d:D}
 (hl0:(pj.endLine==pq.line)=true) (hl1:(p2.endLine==p5.line)=true) (hl2:(p6.endLine==p8.line)=true) (hx:aO env.scope.names Γ x j=true) (hv:(ρ[j]?).bind (Sl.view true)=some (.list ds)) (hd:j5 0 (.list ds)=some d) (F:Fm C X env Γ mB mo ρ s):
 wpAny (model C.prog C.w) A (eval (.Call (.Attribute (.Constant (.str "-") k0 p0) "join" pj) [.GeneratorExp (.Call (.Attribute (.Call (.Attribute (.Name "s" p1) "replace" p2) [.Constant (.str "\\") k1 p3,.Constant (.str "\\\\") k2 p4] [] p5) "replace" p6)
  [.Constant (.str "-") k3 p7,.Constant (.str "\\-") k4 p9] [] p8) [⟨.Name "s" ps,.Name x px,[],0⟩] genScope fL] [] pq) env) (λv s'=>St' C mB mo s s'/\Rep X s'.heap (aJ mB mo false) d v) F0 s:=by
 replace hd:((strsOf ds).bind λss=>if ss.all (λs=>s.length<=64)/\ss.length<=15 then some (D.str (ck [45] (ss.map λs=>bC 45 [92,45] (bC 92 [92,92] s)))) else none)=some d:=hd
 obtain⟨ss,hss,hd⟩:=Option.bind_eq_some_iff.mp hd
 split at hd<;>cases hd
 rename_i hlen
 rw[List.all_eq_true] at hlen
 have h64:∀cs∈ss,cs.length<=64:=λcs h=>by simpa using hlen.1 cs h
 refine cU rfl hl0 (by simp) rfl PySem.F.plainAttrs_str PySem.F.slot_str_join PySem.F.type_str_join (Calls.Constant_str ⟨typeIs_str _ _ _,λU e=>(nomatch e),args_cons ?_ rfl⟩) ⟨_,_,rfl,rfl⟩
 let s0:Shared:={s with toks:=s.toks+1}
 have ok0:Ok C (λa=>mB a\/mo a) s0:=F.ok.keep (h':=s.heap) (Nat.le_succ_of_le F.ok.tk) λU U e=>e
 have F0':Fm C X env Γ mB mo ρ s0:=F.keep (s':=s0) (.refl _) ok0
 refine wpAny_GeneratorExp_make (s:=s0) rfl (zm env) (by decide) (by decide+kernel) rfl hroom (wm (wy F0' hx hv) λv s1 hv1=>?_) (λx=>rfl)
 obtain⟨rfl,l,vs,rfl,hl,rl⟩:=hv1
 obtain⟨hsa,_⟩:=mW hss rl
 have hlim:s.heap.NoLimit:=G.lim.keeps λb o e=>F.ok.gk b o e
 refine wpAny_pyIter_list hl ⟨hlim.push _,?_⟩
 let I:=s.heap.objs.size
 let s2:Shared:={s0 with heap:=s.heap.push {cls:=.type "list_iterator",data:=.fields #[.ref l,.int 0 0]}}
 have frI:s.heap.get? I=none:=aI _
 have kq:∀b o,s.heap.get? b=some o->s2.heap.get? b=some o:=λb o e=>aX _ e
 have hI2:s2.heap.get? I=some {cls:=.type "list_iterator",data:=.fields #[.ref l,.int 0 0]}:=bz _ rfl
 have ok2:Ok C (λa=>(mB a\/mo a)\/a=I) s2:=ok0.more (s':=s2) kq (λa h=>by
  rcases h with h|rfl
  ·refine aB ((ok0.mtx a h).2.2) λo' e=>?_
   exact⟨.inl h,o',kq a o' e⟩
  ·exact⟨.inr frI,_,hI2⟩) ok0.bare rfl ok0.tk
 obtain⟨ps0,e66⟩:=ok0.tab
 have ne66:∀{b o},s.heap.get? b=some o->o≠W.tabObj ps0->b≠66:=λ{b o} e hne q=>by
  subst q
  rw[show s.heap.get? 66=some (W.tabObj ps0) from e66] at e
  exact hne (Option.some.inj e).symm
 have hI66:I≠66:=λq=>by rw[q,show s.heap.get? 66=some (W.tabObj ps0) from e66] at frI;cases frI
 obtain⟨ol,hol,hlc,hld⟩:=id hl
 have hl66:l≠66:=ne66 hol (by rintro rfl;cases hlc)
 have hlI:l<I:=Heap.lt_size hol
 refine zj GT ok2 hcode hqual λcode h3 tk3 ok3 kp3 hsz3 htk3=>?_
 obtain⟨bm,ob,M⟩:=tc GT ok3
 rw[F.glob]
 refine wpAny_builtinsFor M.ns M.name M.ne M.obj M.cls M.dict M.data λh4 hn4 hs4=>?_
 have hI3:I<h3.objs.size:=Nat.lt_of_lt_of_le (by show I<(s.heap.push _).objs.size;rw[Heap.size_push];exact Nat.lt_succ_self _) hsz3
 have hsz4:h4.objs.size=h3.objs.size+1:=by rw[hs4.1,Heap.size_push]
 have keep4:∀b o,h3.get? b=some o->h4.get? b=some o:=λb o e=>hs4.extBut b o (Nat.ne_of_lt (Heap.lt_size e)) (aX _ e)
 have hst3:h3.IsListIter I l 0/\h3.IsList l vs.toArray:=⟨⟨_,kp3.keep I _ hI66 hI2,rfl,rfl⟩,⟨ol,kp3.keep l _ hl66 (kq l _ hol),hlc,hld⟩⟩
 have hlim3:h3.NoLimit:=G.lim.keeps λb o e=>ok3.gk b o e
 have hcs:cStatics<s.heap.objs.size:=let⟨_,hn,_⟩:=hlim;hn.lt
 have hvl:vs.length=ss.length:=by rw[hsa.length,aV]
 refine args_nil ?_
 generalize hgo:({cls:=.type "generator",data:=.fields #[.int s.gens.size 0,.str "<genexpr>" (tk3+1),.str (env.qual++"<genexpr>") (tk3+1+1)]}:Obj)=go
 have keep5:∀b o,h3.get? b=some o->(h4.push go).get? b=some o:=λb o e=>aX _ (keep4 b o e)
 have hit:∀(i:Nat) (v:Value),vs.toArray[i]? =some v->∃(cs:List Nat) (t:Tok),ss[i]? =some cs/\v=.str ⟨cs.toArray⟩ t:=λi v hv=>by
  have hv':vs[i]? =some v:=by simpa using hv
  have hlt:i<ss.length:=by rw[<-hvl];exact(List.getElem?_eq_some_iff.mp hv').1
  obtain⟨t,ht⟩:=hsa.get i ⟨ss[i].toArray⟩ (by rw[List.getElem?_map,List.getElem?_eq_getElem hlt];rfl)
  rw[hv'] at ht
  exact⟨ss[i],t,List.getElem?_eq_getElem hlt,Option.some.inj ht⟩
 have hI':I∈List.range h3.objs.size:=List.mem_range.mpr hI3
 have hl':l∈List.range h3.objs.size:=List.mem_range.mpr (Nat.lt_trans hlI hI3)
 have hat:=GK.fresh (prog:=C.prog) (w:=C.w) (A:=A.in1.in1) (iter:=.Name x px) (px:=ps) (scope:=genScope) (pos:=fL) (a:=h4.objs.size) (g:=s.gens.size) (fp:=List.range h3.objs.size) (cenv:=genEnv genScope [] h3.objs.size code builtinsNs env)
  (s:={s2 with heap:=h4.push go,toks:=tk3+1+1+1,gens:=s.gens.push (.fresh (.compStart (.GeneratorExp (.Call (.Attribute (.Call (.Attribute (.Name "s" p1) "replace" p2) [.Constant (.str "\\") k1 p3,.Constant (.str "\\\\") k2 p4] [] p5) "replace" p6)
   [.Constant (.str "-") k3 p7,.Constant (.str "\\-") k4 p9] [] p8) [⟨.Name "s" ps,.Name x px,[],0⟩] genScope fL) 0 (.ref I) .none (genEnv genScope [] h3.objs.size code builtinsNs env)))})
  hh (Nat.ne_of_lt hlI) ⟨hI',hl'⟩ (by show genScope.names.lookup ("s":Str)=some .local;decide+kernel) rfl rfl (λhm=>Nat.lt_irrefl _ (List.mem_range.mp hm)) (BM hl1 hl2 rfl hit h64)
  ⟨go,_,_,bz _ (by rw[<-hgo];rfl),by rw[<-hgo],by rw[<-hgo],by rw[<-hgo]⟩ (Array.getElem?_push_size ..) ⟨hst3.1.at λo e=>keep5 I o e,hst3.2.at λo e=>keep5 l o e⟩ (hn4.push _) (hlim3.keeps keep5) (by show 1<=tk3+1+1+1;exact Nat.succ_pos _)
 have hIcs:cStatics≠I:=Nat.ne_of_lt hcs
 have WW:=GK.walks (prog:=C.prog) (w:=C.w) (A:=A.in1.in1) (C:=h3.objs.size) (I:=I) (a:=h4.objs.size) (g:=s.gens.size) (n:=vs.toArray.size) (F:=λ(i:Nat) v=>∃(cs:List Nat) (t:Tok),ss[i]? =some cs/\v=.str ⟨(fE cs).toArray⟩ t) (fp:=List.range h3.objs.size)
  hh hI' (by rw[hsz4];exact Nat.succ_ne_self _) (λhm=>by have:=List.mem_range.mp hm;rw[hsz4] at this;exact Nat.not_succ_lt_self this) hroom (List.mem_range.mpr (Nat.lt_trans hcs hI3)) (Nat.ne_of_lt (Nat.lt_trans hcs hI3)) hIcs
 refine wpAny_with_toks (n:=1) (show 1<=tk3+1+1+1 by exact Nat.succ_pos _) (SC.joinGen WW (λi s st=>st.1.typeIs) hat ?_ (List.mem_cons_self ..) (λi v hv=>?_) (λs' lt hm hacc=>?_) ?_)
 ·intro b hb
  show b<(h4.push go).objs.size
  rw[Heap.size_push]
  rcases List.mem_cons.mp hb with rfl|hb
  ·exact Nat.lt_succ_self _
  ·rw[hsz4]
   rcases List.mem_cons.mp hb with rfl|hb
   ·exact Nat.lt_succ_of_lt (Nat.lt_succ_self _)
   ·exact Nat.lt_succ_of_lt (Nat.lt_succ_of_lt (List.mem_range.mp hb))
 ·obtain⟨cs,t,_,e⟩:=hv
  exact⟨_,t,e⟩
 ·have hn:lt.length=ss.length:=by
   have:=hacc.1
   simp only[strValues] at this
   simpa [hvl] using this
  have hlt:lt.map (·.1)=ss.map λcs=>(⟨(fE cs).toArray⟩:Str):=by
   apply List.ext_getElem?
   intro k
   by_cases hk:k<ss.length
   ·have hk':k<lt.length:=hn▸hk
    obtain⟨cs,t,h1,h2⟩:=hacc.2 k (.str lt[k].1 lt[k].2) (by simp[strValues,List.getElem?_eq_getElem hk'])
    injection h2 with h2 _
    rw[List.getElem?_eq_getElem hk] at h1
    cases h1
    simp[List.getElem?_eq_getElem hk',List.getElem?_eq_getElem hk,h2]
   ·rw[List.getElem?_eq_none (by simpa [hn] using Nat.le_of_not_lt hk),List.getElem?_eq_none (by simpa using Nat.le_of_not_lt hk)]
  have hrl:∀cs∈ss,(fE cs).length<=256:=λcs hm=>by
   have l1:=gD 92 92 92 cs
   have l2:=gD 45 92 45 (bC 92 [92,92] cs)
   have:=h64 cs hm
   unfold fE;exact ln [_,_,_] [(2,.v 0,.m 2 (.v 1)),(1,.v 2,.m 2 (.v 0)),(4,.v 1,.k 64)] (.v 2) (.k 256) 1 rfl l1 l2 this
  have hsl:ss.length<=15:=hlen.2
  rw[hlt]
  have hjl:(ck [45] (ss.map fE)).length<=4096:=aA (qv (ss.map fE) λcs hm=>by
   obtain⟨c0,h0,rfl⟩:=List.mem_map.mp hm
   exact hrl c0 h0) (by rw[aV];exact aA (Nat.mul_le_mul_left _ ‹_›) (by decide))
  refine⟨wG (by decide) (λt hm=>by
   obtain⟨c0,h0,rfl⟩:=List.mem_map.mp hm
   rw[cK];exact hrl c0 h0) (by rw[aV];exact hsl),λt' k hk=>?_⟩
  have hj:Txt.join (Str.ofString "-") (ss.map λcs=>(⟨(fE cs).toArray⟩:Str))=⟨(ck [45] (ss.map fE)).toArray⟩:=by
   have h1:=iW [45] (ss.map fE)
   rw[List.map_map] at h1
   exact(StrLaws.glued_eq_join _ _).trans h1
  rw[hj]
  have hmt3:∀a,((mB a\/mo a)\/a=I)->a<h3.objs.size:=λa m=>by
   obtain⟨o',e⟩:=(ok3.mtx a m).2.2
   exact Heap.lt_size e
  have kfin:∀b o,b≠I->h3.get? b=some o->s'.heap.get? b=some o:=λb o hb e=>hm.heap b o (by
   simp only[List.mem_cons,List.not_mem_nil,or_false,not_or]
   exact⟨Nat.ne_of_lt (Heap.lt_size e),hb⟩) (keep5 b o e)
  have hbare:AllBare s'.gens:=by
   refine AllBare.movedS ?_ hm
   exact AllBare.push F.ok.bare rfl
  have okf:Ok C (λa=>mB a\/mo a) {s' with toks:=k}:=ok3.stepL (s':={s' with toks:=k}) (λb o hb e=>kfin b o (λq=>hb (.inr q)) e) (λa m=>⟨.inl m,by
   obtain⟨_,_,o',e⟩:=ok0.mtx a m
   have haI:a≠I:=λq=>by rw[q,frI] at e;cases e
   obtain⟨_,_,o2,e2⟩:=ok3.mtx a (.inl m)
   exact⟨o2,kfin a o2 haI e2⟩⟩) hbare (hm.os.trans rfl) hk
  refine⟨⟨⟨λb o n e=>kfin b o (λq=>by rw[q,frI] at e;cases e) (kp3.keep b o n (kq b o e)),λq c e=>?_⟩,okf⟩,hjl,t',rfl⟩
  obtain⟨ps3,e3,_⟩:=ok3.tb
  obtain⟨ps',e1,e2⟩:=e
  rw[show s'.heap.get? 66=some (W.tabObj ps3) from kfin 66 _ (Ne.symm hI66) e3] at e1
  cases e1
  rcases kp3.code q c ⟨ps3,e3,e2⟩ with ⟨psx,x1,x2⟩|hnew
  ·rw[show s2.heap.get? 66=some (W.tabObj ps0) from kq 66 _ e66] at x1
   cases x1
   exact .inl ⟨ps0,e66,x2⟩
  ·exact .inr λn=>bQ kq (hnew n)
 ·show vs.toArray.size<=sizeLine
  rw[List.size_toArray,hvl,sizeLine_eq];exact ln [_] [(1,.v 0,.k 15)] (.v 0) (.k 16777216) 1 rfl hlen.2
end
end Internal
namespace Internal
namespace SR
open PySem.Sre
noncomputable def cE(c:Nat):Bool:=c==38||c==126||c==124
theorem G8:∀c<256,(decide (c<256)&&(code.getD (5+(1+c/32)) 0).testBit (c%32))=cE c:=by decide+kernel
theorem Fg:∀c<256,(decide (c<256)&&(code.getD (19+(1+c/32)) 0).testBit (c%32))=cE c:=by decide+kernel
theorem zW(h:¬c<256):cE c=false:=by
 unfold cE
 simp only[Bool.or_eq_false_iff,beq_eq_false_iff_ne]
 exact⟨⟨Nat.ne_of_gt (ln [_] [(1,.k 256,.v 0)] (.a (.k 38) (.k 1)) (.v 0) 1 rfl (Nat.le_of_not_lt h)),Nat.ne_of_gt (ln [_] [(1,.k 256,.v 0)] (.a (.k 126) (.k 1)) (.v 0) 1 rfl (Nat.le_of_not_lt h))⟩,Nat.ne_of_gt (ln [_] [(1,.k 256,.v 0)] (.a (.k 124) (.k 1)) (.v 0) 1 rfl (Nat.le_of_not_lt h))⟩
theorem Ff(c:Nat):(decide (c<256)&&(code.getD (5+(1+c/32)) 0).testBit (c%32))=cE c:=by
 by_cases h:c<256
 ·exact G8 c h
 ·simp only[decide_eq_false h,Bool.false_and,zW h]
theorem D0(c:Nat):(decide (c<256)&&(code.getD (19+(1+c/32)) 0).testBit (c%32))=cE c:=by
 by_cases h:c<256
 ·exact Fg c h
 ·simp only[decide_eq_false h,Bool.false_and,zW h]
theorem Ga(c:Nat)(fuel:Nat)(seen:Seen):∃seen',inSet code c (fuel+2) 5 true seen=.ok (cE c,seen'):=by
 refine af (show inSet code c (fuel+2) 5 true seen=(if (decide (c<256)&&(code.getD (5+(1+c/32)) 0).testBit (c%32))=true then .ok (true,seen.add 9) else .ok (false,(seen.add 9).add 0)) from rfl)▸?_;refine af (Ff c)▸?_
 induction cE c<;>exact⟨_,rfl⟩
theorem EH(c:Nat)(fuel:Nat)(seen:Seen):∃seen',inSet code c (fuel+2) 19 true seen=.ok (cE c,seen'):=by
 refine af (show inSet code c (fuel+2) 19 true seen=(if (decide (c<256)&&(code.getD (19+(1+c/32)) 0).testBit (c%32))=true then .ok (true,seen.add 9) else .ok (false,(seen.add 9).add 0)) from rfl)▸?_;refine af (D0 c)▸?_
 induction cE c<;>exact⟨_,rfl⟩
noncomputable def dW(text:Array Nat):Nat->Nat->Option Nat
 |0,_=>none
 |f+1,s=>if s<text.size then (if cE (text.getD s 0) then some s else dW text f (s+1)) else none
theorem il:∀{f p k:Nat},dW text f p=some k->p<=k/\k<text.size/\cE (text.getD k 0)=true/\∀i,p<=i->i<k->cE (text.getD i 0)=false
 |0,_,_,h=>no h
 |_+1,p,_,h=>cd h λh1 h=>Fz h (λh2 h=>so h▸⟨Nat.le_refl _,h1,h2,λU a b=>absurd a (Nat.not_le.mpr b)⟩) λh2 h=>
  cq (il h) λa b c d=>⟨Nat.le_of_lt a,b,c,λi hi hk=>(Nat.eq_or_lt_of_le hi).elim (λe=>e▸Bool.eq_false_iff.mpr h2) λe=>d i e hk⟩
theorem kN:∀{f p:Nat},dW text f p=none->text.size<p+f->∀i,p<=i->i<text.size->cE (text.getD i 0)=false
 |0,_,_,hf,_,a,b=>absurd (Nat.lt_of_lt_of_le hf a) (Nat.lt_asymm b)
 |f+1,p,h,hf,i,a,b=>Fz ((if_pos (Nat.lt_of_le_of_lt a b)).symm.trans h) (λU h=>nomatch h) λh2 h=>
  (Nat.eq_or_lt_of_le a).elim (λe=>e▸Bool.eq_false_iff.mpr h2) λe=>kN h (Nat.succ_add_eq_add_succ p f▸hf) i e b
def mk(text:Array Nat)(s pc pos handed:Nat)(marks:Array (Option Nat))(lm li:Int)(frames:List Sre.Frame)(weight:Nat)(answer:Option Bool)(seen:Seen)(outcome:Option Sre.Outcome):M:=
 {code,text,lim:=text.size,start:=s,lastStart:=text.size,pc,pos,handed,marks,lastmark:=lm,lastindex:=li,frames,weight,answer,seen,outcome}
noncomputable abbrev fr(s:Nat):Sre.Frame:={wait:=.nextStart,pc:=15,pos:=s,outermost:=true}
theorem FJ(m:M)(hc:m.code=code)(ht:m.text=text)(hl:m.lim=text.size):∀(f s:Nat) (seen:Seen),∃seen',M.admitted m f s seen=.ok (dW text f s,seen')
 |0,s,seen=>⟨seen,rfl⟩
 |f+1,s,seen=>by
  by_cases h:s<text.size
  ·refine aB (Ga (text.getD s 0) 30 seen) λseen' e=>?_
   refine aB (FJ m hc ht hl f (s+1) seen') λseen2 e2=>⟨if cE (text.getD s 0) then seen' else seen2,(if_neg (hl▸Nat.not_le.mpr h)).trans ?_⟩
   rw[hc,ht,show code.size=30+2 from rfl,e,show dW text (f+1) s=_ from if_pos h]
   induction cE (text.getD s 0) with
   |true=>rfl
   |false=>exact e2
  ·exact⟨_,(if_pos (hl▸Nat.le_of_not_lt h)).trans (congrArg (λo=>Except.ok (o,_)) (if_neg h).symm)⟩
section
theorem st1:(mk text s 15 s s #[none,none] (-1) (-1) [fr s] 1 none seen none).step=mk text s 17 s s #[some s,none] 0 (-1) [fr s] 1 none (seen.add 17) none:=rfl
theorem st2(hs:s<text.size)(hsp:cE (text.getD s 0)=true):∃seen',(mk text s 17 s s #[some s,none] 0 (-1) [fr s] 1 none seen none).step=mk text s 29 (s+1) s #[some s,none] 0 (-1) [fr s] 1 none seen' none:=by
 refine aB (EH (text.getD s 0) 30 (seen.add 13)) λseen' e=>⟨seen',?_⟩
 rw[(show(mk text s 17 s s #[some s,none] 0 (-1) [fr s] 1 none seen none).step=(if s>=text.size then (mk text s 17 s s #[some s,none] 0 (-1) [fr s] 1 none (seen.add 13) none).say false else match inSet code (text.getD s 0) (30+2) 19 true (seen.add 13) with| .error why=>(mk text s 17 s s #[some s,none] 0 (-1) [fr s] 1 none (seen.add 13) none).stick why| .ok (false,seen)=>(mk text s 17 s s #[some s,none] 0 (-1) [fr s] 1 none seen none).say false| .ok (true,seen)=>mk text s 29 (s+1) s #[some s,none] 0 (-1) [fr s] 1 none seen none) from rfl),if_neg (Nat.not_le_of_lt hs),e,hsp]
theorem st3:(mk text s 29 (s+1) s #[some s,none] 0 (-1) [fr s] 1 none seen none).step=mk text s 31 (s+1) s #[some s,some (s+1)] 1 1 [fr s] 1 none (seen.add 17) none:=by with_unfolding_all rfl
theorem st4:(mk text s 31 (s+1) s #[some s,some (s+1)] 1 1 [fr s] 1 none seen none).step=mk text s 31 (s+1) (s+1) #[some s,some (s+1)] 1 1 [fr s] 1 (some true) (seen.add 1) none:=rfl
theorem F8:M.runFor 4 (mk text s 31 (s+1) (s+1) #[some s,some (s+1)] 1 1 [fr s] 1 (some true) seen none)=mk text s 15 s (s+1) #[some s,some (s+1)] 1 1 [] 0 (some true) seen (some .matched):=rfl
theorem CN(pos:Nat)(hp:pos<=text.size):
 (dW text (text.size+1-pos) pos=none->∃m,(forSearch code text 1 pos text.size false).runFor 4=m/\m.outcome=some .failed)/\
 ∀s,dW text (text.size+1-pos) pos=some s->∃m m',(forSearch code text 1 pos text.size false).runFor 4=m/\m.outcome=none/\m.runFor 4=m'/\m'.outcome=some .matched/\m'.start=s/\m'.handed=s+1/\
  m'.marks= #[some s,some (s+1)]/\m'.lastmark=1/\m'.lastindex=1:=by
 have hf:forSearch code text 1 pos text.size false=(if (decide (pos>text.size)||decide (text.size-pos<1))=true then ({mk text pos 15 pos pos #[none,none] (-1) (-1) [] 0 none (({}:Seen).add 14) none with lastStart:=0}:M).say false else
  match M.admitted (mk text pos 15 pos pos #[none,none] (-1) (-1) [] 0 none (({}:Seen).add 14) none) (text.size+1-pos) pos (({}:Seen).add 14) with
  | .ok (some s,seen)=>mk text s 15 s s #[none,none] (-1) (-1) [fr s] 1 none seen none
  | .ok (none,seen)=>(mk text pos 15 pos pos #[none,none] (-1) (-1) [] 0 none seen none).say false
  | .error why=>(mk text pos 15 pos pos #[none,none] (-1) (-1) [] 0 none (({}:Seen).add 14) none).stick why):=by
  by_cases h0:(decide (pos>text.size)||decide (text.size-pos<1))=true
  ·exact(if_pos h0).trans (if_pos h0).symm
  ·exact(if_neg h0).trans (if_neg h0).symm
 obtain⟨seen',e⟩:=FJ (text:=text) (mk text pos 15 pos pos #[none,none] (-1) (-1) [] 0 none (({}:Seen).add 14) none) rfl rfl rfl (text.size+1-pos) pos (({}:Seen).add 14)
 refine⟨λh=>?_,λs h=>?_⟩
 ·by_cases h0:(decide (pos>text.size)||decide (text.size-pos<1))=true
  ·rw[hf,if_pos h0];exact⟨_,rfl,rfl⟩
  ·rw[hf,if_neg h0,e,h];exact⟨_,rfl,rfl⟩
 ·refine cq (il h) λh0 h1 h2 U=>?_
  have hlt:=Nat.lt_of_le_of_lt h0 h1
  have hps:¬(decide (pos>text.size)||decide (text.size-pos<1))=true:=by
   rw[decide_eq_false (Nat.not_lt.mpr (Nat.le_of_lt hlt)),decide_eq_false (Nat.not_lt.mpr (Nat.sub_pos_of_lt hlt))];exact Bool.false_ne_true
  refine aB (st2 (text:=text) (s:=s) (seen:=seen'.add 17) h1 h2) λseen2 e2=>?_
  rw[hf,if_neg hps,e,h]
  have r:M.runFor 4 (mk text s 15 s s #[none,none] (-1) (-1) [fr s] 1 none seen' none)=mk text s 31 (s+1) (s+1) #[some s,some (s+1)] 1 1 [fr s] 1 (some true) ((seen2.add 17).add 1) none:=by
   have g:∀(n:Nat) (m:M),m.outcome=none->M.runFor (n+1) m=M.runFor n m.step:=λn m h=>by
    exact if_neg (by rw[h];exact Bool.false_ne_true)
   rw[g 3 _ rfl,st1,g 2 _ rfl,e2,g 1 _ rfl,st3,g 0 _ rfl,st4]
   rfl
  exact⟨_,_,r,rfl,F8,rfl,rfl,rfl,rfl,rfl,rfl⟩
end
end SR
namespace SR
open PySem.Sre PySem.Builtin PySem.Builtin.Re
section
variable{M:Model}
theorem sq(hr:∀Q':Sre.M->Shared->Prop,Q' m' s->wpAny M A (reDrive (2^64) m) Q' E s)(h:m'.outcome=some .matched/\r=some m'\/m'.outcome=some .failed/\r=none)(hq:Q r s):wpAny M A (reRunToEnd m) Q E s:=by
 refine aj (hr _ ?_)
 refine aj ?_
 have key:∀(l:List Nat) (Q':PUnit->Shared->Prop),Q' ⟨⟩ s->wpAny M A (forIn l PUnit.unit λi __r=>if m'.seen.has i=true then do rule (Sre.names.getD i "");pure (ForInStep.yield PUnit.unit) else pure (ForInStep.yield PUnit.unit)) Q' E s:=λl=>by
  induction l with
  |nil=>intro Q' h;exact aC h
  |cons i l ih=>
   intro Q' h
   rw[List.forIn_cons]
   by_cases hi:m'.seen.has i=true
   ·rw[if_pos hi];exact aj (aj (wpAny_rule (aC (ih _ h))))
   ·rw[if_neg hi];exact aj (aC (ih _ h))
 refine key _ _ ?_
 rcases h with ⟨e,rfl⟩|⟨e,rfl⟩<;>(rw[e];exact aC hq)
theorem oI{m m':Sre.M}(e:m.runFor 4=m')(h:m'.outcome.isSome=true):reDrive (n+1) m=pure m':=by
 show(if (m.runFor 4).outcome.isSome=true then pure (m.runFor 4) else _)=_
 rw[e,if_pos h]
theorem uP{m m':Sre.M}(e:m.runFor 4=m')(h:m'.outcome=none):reDrive (n+1) m=(do rule "sre.turn";reDrive n m'):=by
 show(if (m.runFor 4).outcome.isSome=true then pure (m.runFor 4) else (do rule "sre.turn";reDrive n (m.runFor 4)))=_
 rw[e,if_neg (by rw[h];exact Option.not_isSome_iff_eq_none.mpr rfl)]
theorem next(htc:t.code=code)(htt:t.text=text)(hg:t.groups=1)(hl:t.lim=text.size)(hp:pos<=text.size){Q:Option Sre.M->Shared->Prop}
 (h0:dW text (text.size+1-pos) pos=none->Q none s)
 (h1:∀k m,dW text (text.size+1-pos) pos=some k->m.start=k->m.handed=k+1->m.marks= #[some k,some (k+1)]->m.lastmark=1->m.lastindex=1->Q (some m) s):wpAny M A (reNextFound t pos false) Q E s:=by
 unfold reNextFound
 refine af htc▸?_;refine af htt▸?_;refine af hg▸?_;refine af hl▸?_
 refine aw (CN pos hp) λg0 g1=>?_
 obtain⟨n,e64⟩:∃n,(2:Nat)^64=n+1+1:=⟨2^64-2,by decide⟩
 induction hn:dW text (text.size+1-pos) pos with
 |none=>
  refine ai (g0 hn) λm e ho=>sq (m':=m) (λQ' hq=>?_) (.inr ⟨ho,rfl⟩) (h0 hn)
  refine af e64▸?_;refine af (oI e (by rw[ho];rfl))▸?_
  exact aC hq
 |some k=>
  refine av λGG kk=>?_
  obtain⟨m,m',e,ho,e',ho',i1,i2,i3,i4,i5⟩:=g1 k hn
  refine kk ?_;clear kk
  refine sq (m':=m') (λQ' hq=>?_) (.inl ⟨ho',rfl⟩) (h1 k m' hn i1 i2 i3 i4 i5)
  refine af e64▸?_;refine af (uP e ho)▸?_;refine af (oI e' (by refine af ho'▸?_;rfl))▸?_
  exact aj (wpAny_rule (aC hq))
end
end SR
namespace SR
open PySem.Sre PySem.Builtin PySem.Builtin.Re
theorem slot_sub:Slot "re.Pattern" "sub" "re.Pattern.sub":=
 .of (owner:="re.Pattern") (n:="sub") (by kernel_rfl) (by decide+kernel) (by decide+kernel) (by decide+kernel)
  (.inr (by decide+kernel)) (by kernel_rfl)
theorem type_sub:typeOf (.builtin "re.Pattern.sub")=pure (.type "method_descriptor"):=by show builtinType _=_;rw[builtinType_eq_fast];kernel_rfl
theorem entry_sub:entryFor table "re.Pattern.sub"=some Builtin.«re.Pattern.sub»:=entryFor_of_tree (by kernel_rfl)
theorem uJ:entryFor table "re.Pattern.sub.loop"=some Builtin.«re.Pattern.sub.loop»:=entryFor_of_tree (by kernel_rfl)
theorem zy(a b c:Value):argsOk "re.Pattern.sub" ⟨[a,b,c],[]⟩:=by kernel_rfl
theorem tY:plainId "re.Pattern.sub.loop"=true:=by decide+kernel
theorem slot_group:Slot "re.Match" "group" "re.Match.group":=
 .of (owner:="re.Match") (n:="group") (by kernel_rfl) (by decide+kernel) (by decide+kernel) (by decide+kernel)
  (.inr (by decide+kernel)) (by kernel_rfl)
theorem type_group:typeOf (.builtin "re.Match.group")=pure (.type "method_descriptor"):=by show builtinType _=_;rw[builtinType_eq_fast];kernel_rfl
theorem entry_group:entryFor table "re.Match.group"=some Builtin.«re.Match.group»:=entryFor_of_tree (by kernel_rfl)
theorem args_group(a b:Value):argsOk "re.Match.group" ⟨[a,b],[]⟩:=by unfold argsOk;kernel_rfl
theorem BQ:∃id,typeLookup (.type "function") "__call__"=pure (some (.builtin id)):=⟨"function.__call__",by kernel_rfl⟩
theorem attrs_pattern:PlainAttrs "re.Pattern":=
 ⟨(am ("object.__getattribute__") (by kernel_rfl) (by decide+kernel)),by kernel_rfl⟩
theorem attrs_match:PlainAttrs "re.Match":=
 ⟨(am ("object.__getattribute__") (by kernel_rfl) (by decide+kernel)),by kernel_rfl⟩
end SR
namespace SR
open PySem.Sre PySem.Builtin PySem.Builtin.Re
def PatAt(h:Heap):Prop:=(∃t1 t2,h.get? 45=some {cls:=.type "re.Pattern",data:=.fields #[.str "([&~|])" t1,.int 32 t2,.int 1 0,.none,.none,.ref 44,.int 0 0]})/\
 h.get? 44=some {cls:=.type "tuple",data:=.seq (code.map λ(n:Nat)=>Value.int (n:Int) 0)}
def tgt(cs:Array Nat)(t:Tok):ReTarget:={pattern:=.ref 45,string:=.str ⟨cs⟩ t,code:=code,text:=cs,kind:=0,groups:=1,pos:=0,lim:=cs.size}
section
variable{M:Model}
theorem whole(hp:PatAt s.heap)(h:Q (tgt cs t) s):wpAny M A (reWholeTarget (.ref 45) (.str ⟨cs⟩ t)) Q E s:=by
 refine aw hp λq1 h2=>dU q1 λt1 t2 h1=>aj (wpAny_fieldsOf h1 rfl ?_)
 refine aj (wpAny_of_eq (a:=(cs,0)) rfl ?_)
 refine aj (m:=reNoCollectionInside _ _) (wpAny_of_eq (a:=()) rfl ?_)
 refine aj (aj (wpAny_seqItems h2 rfl (aC (aC ?_))))
 simp only[Option.getD_some,(show(Array.map (λx:Int=>x.toNat) (Array.map reRawOf (code.map λ(n:Nat)=>Value.int (n:Int) 0)))=code from by decide+kernel)]
 exact h
end
end SR
end Internal
namespace Internal
open PyProof.Rows
namespace SR
open PySem.Sre PySem.Builtin PySem.Builtin.Re
noncomputable def dT(c:Nat):List Nat:=if c=38\/c=126\/c=124 then [92,c] else [c]
theorem BX(h:cE c=false):dT c=[c]:=by
 refine if_neg ?_
 rintro(rfl|rfl|rfl)<;>exact nomatch h
theorem BW(h:cE c=true):dT c=[92,c]:=by
 unfold cE at h
 simp only[Bool.or_eq_true,beq_iff_eq] at h
 exact if_pos (or_assoc.mp h)
theorem lA:∀(l:List Nat) (n:Nat),(∀i,i<n->i<l.length->cE (l.getD i 0)=false)->l.flatMap dT=l.take n++(l.drop n).flatMap dT
 |[],n,_=>by simp
 |_::_,0,_=>by rfl
 |c::r,n+1,h=>by
  simp only[List.flatMap_cons,BX (show cE c=false from h 0 (Nat.succ_pos _) (Nat.zero_lt_succ r.length)),lA r n λi a b=>h (i+1) (Nat.lt_succ_of_le ‹_›) (by simp;assumption)]
  rfl
section
theorem m4{M:Model}{items:Array Value}{Q:Unit->Shared->Prop}(hl:s.heap.IsList L items)(hz:items.size<=4096)(hQ:∀h',h'.IsList L (items.push v)->Heap.SameBut L s.heap h'->Q () {s with heap:=h'}):
 wpAny M A (updateSeq L (·.push v)) Q E s:=by
 refine av λGG kk=>?_
 obtain⟨o,ho,hc,n,hd⟩:=hl
 refine kk ?_;clear kk
 refine wpAny_updateSeq ho hd (hQ _ ?_ (Heap.SameBut.update ..)) (aA ‹_› (by decide)) (by rw[Array.size_push,sizeLine_eq];exact Nat.lt_of_le_of_lt ‹_› (by decide))
 refine aB (Obj.data_mapSeq hd (·.push v)) λn' e=>?_
 have hf:(Obj.mapSeq (·.push v) o).isFreed=false:=by
  obtain⟨c,d,dt,sl⟩:=o
  subst hd
  rfl
 exact⟨_,Heap.get?_update_self _ ho hf,by rw[Obj.cls_mapSeq];exact hc,n',e⟩
theorem slice_ok{M:Model}(hz:text.size<=4096)(h:Q (.str ⟨text.extract b e⟩ s.toks) {s with toks:=s.toks+1}):wpAny M A (reSlice text 0 b e) Q E s:=by
 refine wpAny_mkStr h ?_
 show(text.extract b e).size<=sizeLine
 rw[Array.size_extract,sizeLine_eq];exact aA (Nat.sub_le _ _) (aA (Nat.min_le_right _ _) (aA hz (by decide)))
def MatchAt(h:Heap)(f:Addr)(cs:Array Nat)(t:Tok)(k:Nat):Prop:=
 ∃tup,h.get? f=some {cls:=.type "re.Match",data:=.fields #[.str ⟨cs⟩ t,.ref 45,rawInt 0,rawInt cs.size,rawInt 1,.ref tup]}/\h.get? tup=some {cls:=.type "tuple",data:=.seq #[rawInt k,rawInt (k+1:Nat),rawInt k,rawInt (k+1:Nat)]}
theorem yI{M:Model}{m:Sre.M}(h1:m.start=k)(h2:m.handed=k+1)(h3:m.marks= #[some k,some (k+1)])(h4:m.lastmark=1)(h5:m.lastindex=1)
 (h:∀f h',MatchAt h' f cs t k->(∀b o,s.heap.get? b=some o->h'.get? b=some o)->Q (.ref f) {s with heap:=h'}):
 wpAny M A (reNewMatch (.ref 45) (.str ⟨cs⟩ t) 1 0 cs.size m) Q E s:=by
 unfold reNewMatch
 refine af h1▸?_;clear h1;refine af h2▸?_;clear h2;refine af h3▸?_;refine af h4▸?_;clear h4;refine af h5▸?_
 have e0:List.range 1=[0]:=rfl
 have e2:decide (k+1<k)=false:=decide_eq_false (Nat.not_succ_lt_self)
 show wpAny M A (if ((true&&decide (k+1<k))||false)=true then _ else (do
  let tup<-newTuple [rawInt k,rawInt (k+1:Nat),rawInt k,rawInt (k+1:Nat)]
  newFields "re.Match" [.str ⟨cs⟩ t,.ref 45,rawInt (0:Nat),rawInt cs.size,rawInt 1,tup])) Q E s
 clear h5
 rw[e2,if_neg (by decide)]
 refine aj (wpAny_newTuple ?_ (by show 4<=sizeLine;decide))
 refine wpAny_newObj_type ?_ (by size_fits)
 exact h _ _ (am s.heap.objs.size (bz _ rfl) (aX _ (bz _ rfl))) λb o e=>aX _ (aX _ e)
end
end SR
namespace SR
open PySem.Sre PySem.Builtin PySem.Builtin.Re
def Inv(s₁ s:Shared)(L:Addr):Prop:=∃h' tk,s={s₁ with heap:=h',toks:=tk}/\1<=tk/\∀b o,b≠L->s₁.heap.get? b=some o->h'.get? b=some o
theorem Inv.step(x:Inv s₁ s L){tk:Nat}(ht:1<=tk)(k:∀b o,b≠L->s.heap.get? b=some o->h'.get? b=some o):Inv s₁ {s with heap:=h',toks:=tk} L:=by
 refine bv x λh0 t0 q17 h1 k0=>?_
 clear x
 subst q17
 exact(ip h' tk rfl ht (λb o n e=>k b o n (k0 b o n e)))
theorem Inv.tk{L:Addr}(x:Inv s₁ s L):1<=s.toks:=by refine bv x λh0 t0 q18 h1 k0=>?_;clear x;subst q18;exact h1
section
variable{R:Result->Shared->Prop}{cs:List Nat}
theorem Bp(hp:PatAt s₁.heap)(h1:L≠44)(h2:L≠45)(x:Inv s₁ s L):PatAt s.heap:=by
 refine bv x λh0 t0 q13 U k=>?_
 simp only[q13]
 refine aw hp λq10 e2=>dU q10 λt1 t2 e1=>⟨(fT t1 t2 (k _ _ (Ne.symm h2) e1)),k _ _ (Ne.symm h1) e2⟩
theorem Di{M:Model}{a b:Sem α}(hc:c=true)(h:wpAny M A a Q E s):wpAny M A (if c=true then a else b) Q E s:=by subst hc;exact h
theorem wQ{M:Model} [Decidable c]{a b:Sem α}(hc:c)(h:wpAny M A a Q E s):wpAny M A (if c then a else b) Q E s:=by refine af (if_pos hc)▸?_;exact h
theorem sO{M:Model} [Decidable c]{a b:Sem α}(hc:¬c)(h:wpAny M A b Q E s):wpAny M A (if c then a else b) Q E s:=by refine af (if_neg hc)▸?_;exact h
theorem strs_snoc{u:Tok}(h:StrsAre vs ts)(e:x=y):StrsAre (vs++[.str x u]) (ts++[y]):=by
 subst e
 induction h with
 |nil=>exact .cons x u .nil
 |cons m t _ ih=>exact .cons m t ih
theorem joinL_flat:∀ps:List (List Nat),ck [] ps=ps.flatten
 |[]=>rfl
 |[x]=>(List.append_nil x).symm
 |x::y::r=>by
  show x++[]++ck [] (y::r)=x++(y::r).flatten
  rw[List.append_nil,joinL_flat (y::r)]
theorem za(c:Nat):(dT c).length<=2:=by unfold dT;split;exact Nat.le_refl _;exact Nat.le_succ _
theorem esc2_le:∀cs:List Nat,(cs.flatMap dT).length<=2*cs.length
 |[]=>Nat.le_refl _
 |c::r=>by
  rw[List.flatMap_cons,List.length_append,List.length_cons,Nat.mul_succ,Nat.add_comm]
  exact Nat.add_le_add (esc2_le r) (za c)
theorem loop(hp:PatAt s₁.heap)(hL1:L≠44)(hL2:L≠45)(hlen:cs.length<=256)
 (hrepl:∀s f k,Inv s₁ s L->MatchAt s.heap f cs.toArray t k->k<cs.length->wpAny (model prog w) A.in1 (call repl [.ref f]) (λv s'=>(∃u,v=.str ⟨#[92,cs.getD k 0]⟩ u)/\Keeps s s') F0 s)
 (hR:∀s' u,Inv s₁ s' L->R (.ok (.ret (.str ⟨(cs.flatMap dT).toArray⟩ u))) s'):
 ∀(m start:Nat) (ps:List (List Nat)) (s:Shared) (n:Nat) (items:Array Value),cs.length-start=m->start<=cs.length->Inv s₁ s L->s.heap.IsList L items->StrsAre items.toList (ps.map λp=>⟨p.toArray⟩)->ps.length<=2*start->
  ps.flatten++(cs.drop start).flatMap dT=cs.flatMap dT->
  codeAny (model prog w) A (.builtin "re.Pattern.sub.loop" ⟨[.ref 45,.str ⟨cs.toArray⟩ t,repl,rawInt 1,rawInt 0,rawInt n,rawInt start,rawInt start,.bool false,.ref L,.bool false],[]⟩) R s:=by
 intro m
 induction m using Nat.strongRecOn with
 |ind m ih=>
  intro start ps s n items hm hst hinv hl hs hps hfl
  refine codeAny_builtin uJ ?_
  refine af (Around.under_plainId tY _)▸?_
  refine aj (whole (Bp hp hL1 hL2 hinv) ?_)
  refine aj (next (text:=cs.toArray) rfl rfl rfl rfl (hst) (λhn=>?_) λk m hn i1 i2 i3 i4 i5=>?_)
  ·
   have hno:=kN hn (ln [_,_,_] [(1,.a (.v 0) (.k 1),.a (.v 1) (.v 2))] (.a (.v 0) (.k 1)) (.a (.v 2) (.v 1)) 1 rfl (Nat.le_of_eq (Nat.sub_add_cancel (ln [_,_] [(1,.v 0,.v 1)] (.v 0) (.a (.v 1) (.k 1)) 1 rfl hst)).symm))
   have hrest:(cs.drop start).flatMap dT=cs.drop start:=by
    have:=lA (cs.drop start) (cs.drop start).length λi U hi=>by
     have:=hno (start+i) (Nat.le_add_right _ _) (by simp at hi ⊢;exact Nat.add_lt_of_lt_sub' hi)
     simpa [List.getD_eq_getElem?_getD,Array.getD_eq_getD_getElem?] using this
    rw[List.take_length,List.drop_length,List.flatMap_nil,List.append_nil] at this
    exact this
   replace hfl:=hrest▸hfl
   have fin:∀(s2:Shared) (items2:Array Value) (ps2:List (List Nat)),Inv s₁ s2 L->s2.heap.IsList L items2->StrsAre items2.toList (ps2.map λp=>⟨p.toArray⟩)->ps2.length<=513->ps2.flatten=cs.flatMap dT->
    wpAny (model prog w) A.in1 (do
     let joiner<-reSlice cs.toArray 0 0 0
     let text<-if ((<-seqItems? (.ref L)).getD #[]).isEmpty then pure joiner else call (.builtin "str.join") [joiner,.ref L]
     ret text) (λfin s'=>match fin with
     | .done f=>R (.ok f) s'
     | .again c'=>c'.quiet=true/\codeAny (model prog w) A c' R s') (λe s'=>R (.error e) s') s2:=λs2 items2 ps2 inv2 hl2 hs2 hn2 hf2=>by
    refine aj (slice_ok (text:=cs.toArray) (show cs.toArray.size<=4096 by exact aA ‹_› (by decide)) ?_)
    refine af ((show(⟨cs.toArray.extract 0 0⟩:Str)=⟨([]:List Nat).toArray⟩ from by simp))▸?_
    refine av λGG kk=>av λGG kk=>?_
    obtain⟨ol,hol,hcl,nl,hdl⟩:=id hl2
    refine kk ?_;clear kk
    refine kk ?_;clear kk
    refine aj (m:=seqItems? _) (wpAny_seqItems (s:={s2 with toks:=s2.toks+1}) hol hdl ?_)
    simp only[Option.getD_some]
    clear hdl
    by_cases he:items2.isEmpty=true
    ·rw[if_pos he]
     refine av λGG kk=>?_
     have hi0:items2= #[]:=by exact Array.empty_of_isEmpty he
     have hp0:ps2=[]:=by
      subst hi0
      have:=hs2.length
      simpa using this.symm
     subst hp0
     refine kk ?_;clear kk
     refine aC ?_
     have:=hR {s2 with toks:=s2.toks+1} s2.toks (inv2.step (h':=s2.heap) (Nat.succ_pos _) λU U U e=>e)
     replace this:=af hf2▸this
     exact this
    ·rw[if_neg he]
     have htot:(ck [] ps2).length<=512:=by
      have h1:=joinL_flat ps2
      refine af h1▸?_;refine af hf2▸?_
      exact aA (esc2_le cs) (aA (Nat.mul_le_mul_left _ ‹_›) (by decide))
     refine aj (wpAny_mono (wpAny_toks_of (n:=1) (show 1<=s2.toks+1 by exact Nat.succ_pos _) (join_list (s:={s2 with toks:=s2.toks+1}) hl2 hs2 (by
      simp only[List.map_map,aV]
      simp only[(show(⟨([]:List Nat).toArray⟩:Str).length=0 from rfl),(show(List.map ((·.length) ∘ λp:List Nat=>(⟨p.toArray⟩:Str)) ps2)=ps2.map List.length from by rfl),<-gM];exact aA ‹_› (by decide)) (Q:=λv s'=>∃t' k,v=.str (Txt.join ⟨([]:List Nat).toArray⟩ (ps2.map λp=>⟨p.toArray⟩)) t'/\s'={s2 with toks:=k}) λt' k=>(bu t' k rfl rfl))) (λv s' hv=>?_) λU U x=>x.2)
     obtain⟨h1,t',k,rfl,rfl⟩:=hv
     refine aC ?_
     have hj:Txt.join ⟨([]:List Nat).toArray⟩ (ps2.map λs=>(⟨s.toArray⟩:Str))=⟨(cs.flatMap dT).toArray⟩:=by
      refine hf2▸?_;refine(joinL_flat ps2)▸?_
      exact(StrLaws.glued_eq_join _ _).trans (iW [] ps2)
     refine af hj▸?_
     exact hR {s2 with toks:=k} t' (inv2.step (h':=s2.heap) h1 λU U U e=>e)
   by_cases hlt:start<cs.toArray.size
   ·refine wQ (c:=start<cs.toArray.size) hlt (aj (slice_ok (text:=cs.toArray) (show cs.toArray.size<=4096 by exact aA ‹_› (by decide)) (aj (m4 (s:={s with toks:=s.toks+1}) hl (by have:=hs.length;simp at this;exact ln [_,_,_,_] [(2,.v 0,.k 256),(2,.v 1,.v 0),(1,.v 2,.m 2 (.v 1)),(1,.v 3,.v 2)] (.v 3) (.k 4096) 1 rfl hlen hst hps (Nat.le_of_eq this)) λh' hl' hsb=>?_))))
    refine fin {s with heap:=h',toks:=s.toks+1} _ (ps++[cs.drop start]) (hinv.step (Nat.succ_pos _) λb o n e=>hsb.extBut b o n e) hl' ?_ (by rw[List.length_append];exact ln [_,_,_] [(2,.v 0,.k 256),(2,.v 1,.v 0),(1,.v 2,.m 2 (.v 1))] (.a (.v 2) (.k 1)) (.k 513) 1 rfl hlen hst hps) (by refine af List.flatten_append▸?_;refine af List.flatten_singleton▸?_;exact hfl)
    simp only[Array.toList_push,List.map_append]
    refine strs_snoc hs ?_
    simp
    exact List.take_of_length_le (by rw[List.length_drop];exact Nat.le_refl (cs.length-start))
   ·refine sO (c:=start<cs.toArray.size) hlt (fin s items ps hinv hl hs (ln [_,_,_] [(2,.v 0,.k 256),(2,.v 1,.v 0),(1,.v 2,.m 2 (.v 1))] (.v 2) (.k 513) 1 rfl hlen hst hps) ?_)
    rw[(List.drop_eq_nil_of_le (by simpa using Nat.le_of_not_lt hlt)),List.append_nil] at hfl
    exact hfl
  ·
   refine cq (il hn) λa1 a2 a3 a4=>?_
   have a2':k<cs.length:=by exact a2
   have hg:cs.toArray.getD k 0=cs.getD k 0:=by simp[List.getD_eq_getElem?_getD,Array.getD_eq_getD_getElem?]
   rw[hg] at a3
   have hdk:cs.drop k=cs.getD k 0::cs.drop (k+1):=
    drop_eq_getD_cons 0 cs k a2
   have hseg:(cs.drop start).flatMap dT=(cs.drop start).take (k-start)++([92,cs.getD k 0]++(cs.drop (k+1)).flatMap dT):=by
    rw[lA (cs.drop start) (k-start) λi hi hi'=>by
     have:=a4 (start+i) (Nat.le_add_right _ _) (ln [_,_,_,_] [(1,.a (.v 0) (.k 1),.v 1),(1,.a (.v 1) (.v 2),.v 3)] (.a (.a (.v 2) (.v 0)) (.k 1)) (.v 3) 1 rfl hi (Nat.le_of_eq (Nat.sub_add_cancel a1)))
     simpa [List.getD_eq_getElem?_getD,Array.getD_eq_getD_getElem?] using this,List.drop_drop,show start+(k-start)=k by exact Nat.add_sub_cancel' ‹_›,hdk,List.flatMap_cons,BW a3]
   have fin:∀(s2:Shared) (items2:Array Value) (ps2:List (List Nat)),Inv s₁ s2 L->s2.heap.IsList L items2->StrsAre items2.toList (ps2.map λp=>⟨p.toArray⟩)->ps2.length<=2*start+1->ps2.length+1<=2*(k+1)->ps2.flatten=ps.flatten++(cs.drop start).take (k-start)->
    wpAny (model prog w) A.in1 (do
     let found<-reNewMatch (.ref 45) (.str ⟨cs.toArray⟩ t) 1 0 cs.toArray.size m
     let item<-holding [found] (call repl [found])
     if (item !=.none)=true then (do
      let _<-updateSeq L (·.push item)
      again (.builtin "re.Pattern.sub.loop" ⟨[.ref 45,.str ⟨cs.toArray⟩ t,repl,rawInt 1,rawInt 0,rawInt ((n:Int)+1),rawInt m.handed,rawInt m.handed,.bool (m.handed==m.start),.ref L,.bool false],[]⟩))
     else again (.builtin "re.Pattern.sub.loop" ⟨[.ref 45,.str ⟨cs.toArray⟩ t,repl,rawInt 1,rawInt 0,rawInt ((n:Int)+1),rawInt m.handed,rawInt m.handed,.bool (m.handed==m.start),.ref L,.bool false],[]⟩)) (λfin s'=>match fin with
     | .done f=>R (.ok f) s'
     | .again c'=>c'.quiet=true/\codeAny (model prog w) A c' R s') (λe s'=>R (.error e) s') s2:=λs2 items2 ps2 inv2 hl2 hs2 hn2 hn3 hf2=>by
    refine aj (yI i1 i2 i3 i4 i5 λf h2 hmat hk2=>?_)
    have inv3:=inv2.step (h':=h2) (tk:=s2.toks) inv2.tk λb o U e=>hk2 b o e
    refine aj (wpAny_holding (wpAny_mono (wpAny_toks_of (n:=1) inv3.tk (hrepl {s2 with heap:=h2} f k inv3 hmat a2')) (λv s3 hv=>?_) λU U x=>x.2.elim))
    refine av λGG kk=>?_
    obtain⟨htk3,⟨u,rfl⟩,h3,tk3,rfl,hk3⟩:=hv
    refine kk ?_;clear kk
    refine Di rfl (aj (m4 (s:={s2 with heap:=h3,toks:=tk3}) (hl2.at λo e=>hk3 _ _ (hk2 _ _ e)) (by have:=hs2.length;simp at this;exact ln [_,_,_,_] [(2,.v 0,.k 256),(2,.a (.v 1) (.k 1),.v 0),(1,.a (.v 2) (.k 1),.m 2 (.a (.v 1) (.k 1))),(1,.v 3,.v 2)] (.v 3) (.k 4096) 1 rfl hlen a2' hn3 (Nat.le_of_eq this)) λh4 hl4 hsb=>?_))
    have e1:(m.handed==m.start)=false:=by rw[i1,i2,beq_eq_false_iff_ne];exact Ne.symm (Nat.ne_add_one k)
    refine af e1▸?_;refine af i2▸?_
    refine aC ⟨Code.quiet_builtin _ (by decide+kernel),?_⟩
    refine ih (cs.length-(k+1)) (ln [_,_,_,_,_,_] [(1,.v 0,.v 1),(1,.v 2,.v 3),(1,.v 4,.a (.v 0) (.v 2)),(1,.a (.v 5) (.a (.v 3) (.k 1)),.v 4)] (.a (.v 5) (.k 1)) (.v 1) 1 rfl (Nat.le_of_eq hm) a1 (Nat.le_of_eq (Nat.sub_add_cancel hst).symm) (Nat.le_of_eq (Nat.sub_add_cancel a2'))) (k+1) (ps2++[[92,cs.getD k 0]]) _ (n+1) _ rfl ‹_› (inv3.step (h':=h4) (tk:=tk3) htk3 λb o nb e=>hsb.extBut b o nb (hk3 b o e)) hl4 ?_ (by simp;assumption) ?_
    ·simp only[Array.toList_push,List.map_append]
     exact strs_snoc hs2 rfl
    ·simp only[List.flatten_append,List.flatten_singleton,hf2,<-hfl,hseg]
     simp
   by_cases hlt:start<k
   ·refine wQ (c:=start<m.start) (by refine af i1▸?_;exact hlt) (aj (slice_ok (text:=cs.toArray) (show cs.toArray.size<=4096 by exact aA ‹_› (by decide)) (aj (m4 (s:={s with toks:=s.toks+1}) hl (by have:=hs.length;simp at this;exact ln [_,_,_,_] [(2,.v 0,.k 256),(2,.v 1,.v 0),(1,.v 2,.m 2 (.v 1)),(1,.v 3,.v 2)] (.v 3) (.k 4096) 1 rfl hlen hst hps (Nat.le_of_eq this)) λh' hl' hsb=>?_))))
    refine fin {s with heap:=h',toks:=s.toks+1} _ (ps++[(cs.drop start).take (k-start)]) (hinv.step (Nat.succ_pos _) λb o n e=>hsb.extBut b o n e) hl' ?_ (by simp;assumption) (by simp;exact ln [_,_,_] [(1,.v 0,.m 2 (.v 1)),(2,.v 1,.v 2)] (.a (.a (.v 0) (.k 1)) (.k 1)) (.m 2 (.a (.v 2) (.k 1))) 1 rfl hps a1) (List.flatten_concat)
    simp only[Array.toList_push,List.map_append]
    refine strs_snoc hs ?_
    rw[i1]
    simp
   ·refine sO (c:=start<m.start) (by refine af i1▸?_;exact hlt) (fin s items ps hinv hl hs (aA ‹_› (Nat.le_add_right _ _)) (ln [_,_,_] [(1,.v 0,.m 2 (.v 1)),(2,.v 1,.v 2)] (.a (.v 0) (.k 1)) (.m 2 (.a (.v 2) (.k 1))) 1 rfl hps a1) ?_)
    simp only[(Nat.le_antisymm (Nat.le_of_not_lt ‹_›) ‹_›),Nat.sub_self,List.take_zero,List.append_nil]
end
end SR
namespace SR
open PySem.Sre PySem.Builtin PySem.Builtin.Re
theorem named(a b:Value):reNamed "re.Pattern.sub" "sub" ["repl","string","count"] 2 [a,b] []=pure [some a,some b,none]:=by kernel_rfl
theorem rJ:isSubtype (.type "str") (.type "bytearray")=pure false:=by kernel_rfl
section
variable{cs:List Nat}
theorem sub_ok(hp:PatAt s.heap)(htk:1<=s.toks)(hlen:cs.length<=256)(hf:s.TypeIs (.ref f) "function")
 (hrepl:∀(L:Addr) s' g k,s.heap.get? L=none->Inv s s' L->MatchAt s'.heap g cs.toArray t k->k<cs.length->wpAny (model prog w) A.in1 (call (.ref f) [.ref g]) (λv s''=>(∃u,v=.str ⟨#[92,cs.getD k 0]⟩ u)/\Keeps s' s'') F0 s')
 (hQ:∀h' tk u,1<=tk->(∀b o,s.heap.get? b=some o->h'.get? b=some o)->Q (.str ⟨(cs.flatMap dT).toArray⟩ u) {s with heap:=h',toks:=tk}):
 wpAny (model prog w) A (call (.builtin "re.Pattern.sub") [.ref 45,.ref f,.str ⟨cs.toArray⟩ t]) Q E s:=by
 refine aw (id hp) λq1 hp2=>dU q1 λt1 t2 hp1=>wpAny_call (codeAny_call_builtin slot_sub.plain entry_sub (slot_sub.check _ _ _ _ _ _ _ _ (am _ hp1 rfl) (zy _ _ _) ?_))
 refine aB BQ λidc hcall=>aj (wpAny_of_eq (named _ _) ?_)
 refine aj (aC ?_)
 refine aj (wpAny_specialOf hf hcall ?_)
 refine aj (aC ?_)
 refine aj (aC ?_)
 refine aj (wpAny_holding (whole hp ?_))
 have hnot:∀{Q':Unit->Shared->Prop} {E':Value->Shared->Prop},Q' () s->wpAny (model prog w) A.in1 (reNotHeld "re.Pattern.sub" (.str ⟨cs.toArray⟩ t)) Q' E' s:=λh=>by
  refine aj (wpAny_isInstance (typeIs_str _ _ _) rJ ?_)
  exact aC h
 refine aj (hnot ?_)
 refine aj (wpAny_newList ?_ (Nat.zero_le _))
 have fr:s.heap.get? s.heap.objs.size=none:=aI _
 have hk:∀b o,s.heap.get? b=some o->(s.heap.push {cls:=.type "list",data:=.seq #[]}).get? b=some o:=λb o e=>aX _ e
 refine aC ⟨Code.quiet_builtin _ (by decide+kernel),?_⟩
 refine loop hp (λq=>by rw[<-q,fr] at hp2;exact no hp2) (λq=>by rw[<-q,fr] at hp1;exact no hp1) hlen (λs' g k i m hk=>hrepl _ s' g k fr i m hk) (λs' u inv=>?_) cs.length 0 [] _ 0 #[] (by rfl) (Nat.zero_le _) (ip _ s.toks rfl htk (λb o U e=>hk b o e))
  ⟨_,bz _ rfl,rfl,_,rfl⟩ .nil (Nat.le_mul_self [].length) (by rfl)
 refine bv inv λh' tk q5 h1 k=>?_
 refine q5▸?_
 exact hQ h' tk u h1 λb o e=>k b o (λq=>by rw[q,fr] at e;exact no e) e
end
end SR
noncomputable def fJ(pm:Pos):Arguments:={posonlyargs:=[],args:=[⟨"_m",none,pm⟩],vararg:=none,kwonlyargs:=[],kw_defaults:=[],kwarg:=none,defaults:=[]}
def EW(pm:Pos)(body:Expr)(c:Addr)(q:FuncData):FuncData:={q with params:=fJ pm,body:=.expr body,scope:=lamScope,closure:=[],defaults:=.none,kwdefaults:=.none,code:=.ref c}
def LamAt(h:Heap)(f:Addr)(pm:Pos)(body:Expr):Prop:=∃o q c,h.get? f=some o/\o.cls=.type "function"/\o.data=.func (EW pm body c q)/\h.CodeRec (.ref c) q.qualname
theorem LamAt.keeps{body:Expr}(x:LamAt h f pm body)(k:∀b o,h.get? b=some o->h'.get? b=some o):LamAt h' f pm body:=
 uN x λo q c e r d z=>⟨o,q,c,k _ _ e,r,d,eS z (k c)⟩
section
variable{env:Env}
theorem zi(GT:g8 C){mt:Addr->Prop}(ok:Ok C mt s)(hcode:env.code=.ref 70){body:FuncBody}{Q:Value->Shared->Prop}
 (h:∀c' h' tk,Ok C mt {s with heap:=h',toks:=tk}->Kp s.heap h'->s.heap.objs.size<=h'.objs.size->1<=tk->h'.CodeRec (.ref c') "_translate.<locals>.<lambda>"->Q (.ref c') {s with heap:=h',toks:=tk}):
 wpAny M A (functionCode env gJ fl name "_translate.<locals>.<lambda>" p scope body) Q E s:=by
 refine aZ ok.tb λps e1 e2 e3=>?_
 have hmem:(gJ,("_translate.<locals>.<lambda>":Str))∈C.places:=by refine af GT.pl▸?_;exact .tail _ (.head _)
 rcases e3 _ hmem with hnf|⟨c',hf,hrec,_⟩
 ·refine wpAny_with_toks ok.tk (wpAny_functionCodeX hcode ((CHd.of GT ok).code e1 e2) ((CHd.of GT ok).tab e1) hnf λc' h' tk hx hge hlt U hrec htab U htk=>?_)
  refine aw (ok.laid (tk:=tk) e1 GT.no66 hmem (n8 GT hmem) hx hge hrec htab.2 hnf htk) λo k=>h _ _ _ o k (aA ‹_› (Nat.le_of_lt ‹_›)) htk hrec
 ·exact wpAny_functionCode_hit hcode ((CHd.of GT ok).code e1 e2) hf (h c' s.heap s.toks ok (.refl _) (Nat.le_refl _) ok.tk hrec)
theorem zl(env:Env):closureFor lamScope env=pure []:=rfl
theorem yP(GT:g8 C)(hcode:env.code=.ref 70)(hqual:env.qual++"<lambda>"="_translate.<locals>.<lambda>")(F:Fm C X env Γ mB mo ρ s){M:Model}
 (h:∀f h' tk,St' C mB mo s {s with heap:=h',toks:=tk}->LamAt h' f pm body->(∀a,(mB a\/mo a)->a≠f)->f≠66->Q (.ref f) {s with heap:=h',toks:=tk}):
 wpAny M A (eval (.Lambda (fJ pm) body lamScope gJ) env) Q E s:=by
 refine aj (aC (aj (wpAny_holding (aC ?_))))
 rw[makeFunction_eq]
 simp only[List.zip_nil_right,List.filterMap_nil,List.isEmpty_nil,if_true,pure_bind]
 unfold makeTail
 rw[zl,hqual]
 refine aj (aC ?_)
 refine aj (aC ?_)
 refine aj (zi GT F.ok hcode λc' h1 tk1 ok1 k1 hsz htk1 hrec=>?_)
 refine dU (tc GT ok1) λbm ob MM=>af F.glob▸?_
 refine aj (wpAny_builtinsFor MM.ns MM.name MM.ne MM.obj MM.cls MM.dict MM.data ?_)
 refine aj (wpAny_nsGet MM.ns ?_)
 refine aj (aC (wpAny_newObj_type ?_ (by size_fits)))
 generalize hfo:({cls:=.type "function",data:=.func {name:="<lambda>",qualname:="_translate.<locals>.<lambda>",params:=fJ pm,body:=.expr body,scope:=lamScope,globals:=mainGlobals,closure:=[],closureTuple:=.none,code:=.ref c',builtins:=builtinsNs,defaults:=.none,kwdefaults:=.none,annotations:=none,pyModule:=(C.mg "__name__").getD .none,doc:=.none}}:Obj)=fo
 have kk:∀b o,h1.get? b=some o->(h1.push fo).get? b=some o:=λb o e=>aX _ e
 have fr:h1.get? h1.objs.size=none:=aI _
 refine h h1.objs.size (h1.push fo) tk1 ⟨k1.trans (ok1.kp (s':={s with heap:=h1.push fo,toks:=tk1}) kk),(ok1.keep (h':=h1.push fo) (tk:=tk1) htk1 kk)⟩ ?_ (λa m q=>?_) (λq=>?_)
 ·refine⟨fo,{name:="<lambda>",qualname:="_translate.<locals>.<lambda>",params:=fJ pm,body:=.expr body,scope:=lamScope,globals:=mainGlobals,closure:=[],closureTuple:=.none,code:=.ref c',builtins:=builtinsNs,defaults:=.none,kwdefaults:=.none,annotations:=none,pyModule:=(C.mg "__name__").getD .none,doc:=.none},c',bz _ (by refine hfo▸?_;rfl),by rw[<-hfo],by rw[<-hfo];rfl,?_⟩
  exact eS hrec λo e=>kk _ o e
 ·obtain⟨_,_,o,e⟩:=ok1.mtx a m
  rw[q,fr] at e;exact no e
 ·refine av λGG kk=>?_
  refine aB ok1.tab λps e=>kk ?_;clear kk
  rw[<-q,fr] at e;exact no e
end
end Internal
namespace Internal
open PyProof.Rows PySem.Builtin PySem.Builtin.Re PySem.Sre
section
theorem yW{cs:List Nat}(hm:SR.MatchAt s.heap g cs.toArray t k)(hlen:cs.length<=256)(hk:k<cs.length):
 wpAny (model prog w) A (call (.builtin "re.Match.group") [.ref g,.int 1 u]) (λv s'=>(∃u',v=.str ⟨#[cs.getD k 0]⟩ u')/\Keeps s s') E s:=by
 refine ai hm λtup h1 h2=>wpAny_call_entry SR.slot_group (am _ h1 rfl) SR.entry_group ?_ (SR.args_group _ _)
 refine aj (wpAny_of_eq (a:=()) rfl ?_)
 refine aj (aj (wpAny_fieldsOf h1 rfl ?_))
 refine aj (aj (wpAny_seqItems h2 rfl (aC (aC ?_))))
 refine af (show((some #[rawInt k,rawInt (k+1:Nat),rawInt k,rawInt (k+1:Nat)]).getD #[]).map reRawOf= #[(k:Int),((k+1:Nat):Int),(k:Int),((k+1:Nat):Int)] from by simp[rawInt,reRawOf])▸?_
 refine aj (m:=reGroupNumber _ _) (wpAny_of_eq (a:=1) rfl ?_)
 refine aj (m:=reGroupText _ _ _) ?_
 unfold reGroupText
 show wpAny _ _ (if (decide ((k:Int)<0)||decide (((k+1:Nat):Int)<0))=true then _ else (do
  let(text,kind)<-reTextOf (.str ⟨cs.toArray⟩ t)
  reSlice text kind k (k+1))) _ _ s
 refine aj (wpAny_of_eq (a:=(cs.toArray,0)) rfl ?_)
 refine SR.slice_ok (text:=cs.toArray) (show cs.toArray.size<=4096 by exact aA ‹_› (by decide)) ?_
 have e3:cs.toArray.extract k (k+1)= #[cs.getD k 0]:=by
  rw[List.extract_toArray]
  simp only[List.extract_eq_take_drop]
  refine af (show k+1-k=1 by exact Nat.add_sub_self_left k 1)▸?_;refine af (List.drop_eq_getElem_cons hk)▸?_
  have:cs.getD k 0=cs[k]:=by exact FinIter.getD_get cs k 0 hk
  refine af this▸?_;rfl
 rw[e3]
 exact aC (bc _ rfl ⟨_,rfl⟩ (bj s _))
noncomputable def nq(k1 k2 k3:Nat)(p1 p2 p3 p4 p5 p6 p7 p8:Pos):Expr:=
 .BinOp (.Constant (.str "\\") k1 p1) .Add (.BoolOp .Or [.Call (.Attribute (.Name "_m" p2) "group" p3) [.Constant (.int 1) k2 p4] [] p5,.Constant (.str "") k3 p6] p7) p8
theorem yQ(hroom:A.depth<recursionLimit){cs:List Nat}{p1 p2 p3 p4 p5 p6 p7 p8:Pos}(hline:(p3.endLine==p5.line)=true)(hl:LamAt s.heap f pm (nq k1 k2 k3 p1 p2 p3 p4 p5 p6 p7 p8))(hm:SR.MatchAt s.heap g cs.toArray t k)
 (hk:k<cs.length) (hlen:cs.length<=256) (hlim:s.heap.NoLimit):wpAny (model prog w) A (call (.ref f) [.ref g]) (λv s'=>(∃u,v=.str ⟨#[92,cs.getD k 0]⟩ u)/\Keeps s s') F0 s:=by
 refine av λGG kk=>?_
 obtain⟨o,q,c,ho,_,hd,c',oc,vs,tq,hc,hoc',hdc,hq⟩:=hl
 obtain rfl:c=c':=Value.ref.inj hc
 refine kk ?_;clear kk
 refine wpAny_call (codeAny_of_tree ?_)
 refine aj (wpAny_load ho ?_)
 refine af hd▸?_
 refine aj (m:=field (Value.ref c) 1) (wpAny_field hoc' hdc hq (aj (aC ?_)))
 refine aj (wpAny_of_eq (a:=[(Str.ofString "_m",Value.ref g)]) rfl ?_)
 refine aj (wpAny_newFunctionEnv (scope:=lamScope) (globals:=q.globals) (closure:=[]) (qual:=q.qualname++Str.ofString ".<locals>.") (code:=.ref c) (builtins:=q.builtins) (by decide) (λy hy=>by refine af (List.mem_singleton.mp hy)▸?_;exact(by decide+kernel:lamScope.names.lookup (Str.ofString "_m")=some .local)) (λh1 hns hsb=>?_) rfl)
 have kb:=λb o e=>hsb.extBut b o (Nat.ne_of_lt (Heap.lt_size e)) (aX _ e)
 refine aj (wpAny_enterFrame (hlim.keeps kb) hroom (aC ⟨rfl,codeAny_of_tree ?_⟩))
 generalize hen:newEnv lamScope s.heap.objs.size q.globals [] (q.qualname++Str.ofString ".<locals>.") (some f) (Value.ref c) none q.builtins=env
 have hloc:env.locals=s.heap.objs.size:=by refine hen▸?_;rfl
 have hsc2:env.scope=lamScope:=by refine hen▸?_;rfl
 show wpAny _ (A.deeper env) (do point;ret (<-(eval (nq k1 k2 k3 p1 p2 p3 p4 p5 p6 p7 p8) env).onRaise (leaving env))) _ _ _
 refine aj (wpAny_point (aj (wpAny_onRaise (wpAny_mono (Q:=λv s'=>(∃u,v=Value.str ⟨#[92,cs.getD k 0]⟩ u)/\Keeps s s') (E:=F0) ?_ (λv s' hv=>aC hv) λU U x=>x.elim))))
 let s1:Shared:={s with heap:=h1,toks:=s.toks+1}
 refine wpAny_BinOp (Calls.Constant_str (BoolOp_or ?_))
 refine cU (C:=⟨prog,w,s.heap,s.os,λU=>none,λU=>none,[]⟩) rfl hline (by simp) rfl SR.attrs_match SR.slot_group SR.type_group (wpAny_Name (wpAny_loadName_local (s:={s1 with toks:=s.toks+1+1}) (m:=λx=>List.lookup x [(Str.ofString "_m",Value.ref g)].reverse) (by refine af hsc2▸?_;rfl)
  (show env.scope.names.lookup (Str.ofString "_m")=some .local by rw[hsc2];decide+kernel) (by refine af hloc▸?_;exact hns) (show(λx=>List.lookup x [(Str.ofString "_m",Value.ref g)].reverse) (Str.ofString "_m")=some (Value.ref g) from by rfl) ?_) (by decide)) (bu _ _ rfl rfl)
 refine ai hm λtup hm1 hm2=>(a6 (am _ (kb _ _ hm1) rfl) (λa e=>by cases e;exact⟨_,kb _ _ hm1,rfl⟩) (args_cons (wpAny_Constant_int (args_nil ?_))))
 refine wm (yW (am tup (kb _ _ hm1) (kb _ _ hm2)) hlen hk) λv s2 hv=>?_
 obtain⟨⟨u',rfl⟩,kk⟩:=hv
 have hr1:Rep 0 s2.heap (λU=>False) (.str [cs.getD k 0]) (.str ⟨#[cs.getD k 0]⟩ u'):=⟨by simp,u',rfl⟩
 refine wm (ju (Av:=λU=>False) (X:=0) (d:=.str [cs.getD k 0]) (b:=true) rfl hr1) λb s3 hb=>?_
 obtain⟨rfl,k3'⟩:=hb
 refine wm (xk (X:=0) (Av:=λU=>False) (op:=.Add) (x:=.str [92]) (y:=.str [cs.getD k 0]) (d:=.str [92,cs.getD k 0]) (λa h=>h.elim) rfl ⟨by simp,_,rfl⟩ ⟨by simp,u',rfl⟩) λv s4 hv=>?_
 obtain⟨k4,_,u4,rfl⟩:=hv
 exact⟨⟨u4,rfl⟩,fK (show Keeps s s1 from(bu h1 (s.toks+1) rfl kb)) (fK (bj s1 _) (fK kk (fK k3' k4)))⟩
end
end Internal
namespace Internal
open PyProof.Rows
structure oZ(C:Cx):Prop where
 name:C.mg "_twin_re_1"=some (.ref 45)
 pat:SR.PatAt C.g
section
variable{env:Env}
theorem EE(G:Gd C)(GT:g8 C)(GP:oZ C)(hroom:A.depth<recursionLimit)(hcode:env.code=.ref 70)(hqual:env.qual++"<lambda>"="_translate.<locals>.<lambda>"){k1 k2 k3:Nat}
 (hg:fV env.scope.names "_twin_re_1"=true) (hl0:(ps.endLine==pq.line)=true) (hl1:(p3.endLine==p5.line)=true) (hx:aO env.scope.names Γ x j=true) (hv:(ρ[j]?).bind (Sl.view true)=some y) (hd:j5 1 y=some d) (F:Fm C X env Γ mB mo ρ s):
 wpAny (model C.prog C.w) A (eval (.Call (.Attribute (.Name "_twin_re_1" p0) "sub" ps) [.Lambda (fJ pm) (nq k1 k2 k3 p1 p2 p3 p4 p5 p6 p7 p8) lamScope gJ,.Name x px] [] pq) env) (λv s'=>St' C mB mo s s'/\Rep X s'.heap (aJ mB mo false) d v) F0 s:=by
 refine bi hd λcs hy hd=>cd hd λhlen hd=>?_
 obtain rfl:=so hd
 obtain rfl:=D.gS_eq hy
 have hpat:SR.PatAt s.heap:=by
  obtain⟨⟨t1,t2,e1⟩,e2⟩:=GP.pat
  exact⟨(fT t1 t2 (F.ok.gk _ _ e1)),F.ok.gk _ _ e2⟩
 refine aw (id hpat) λq2 e44=>dU q2 λt1 t2 e45=>cU rfl hl0 (List.getElem?_eq_none_iff.mp rfl) rfl SR.attrs_pattern SR.slot_sub SR.type_sub (qm G F hg GP.name (by decide) (a6 (am _ e45 rfl) (λa e=>by cases e;exact⟨_,e45,rfl⟩) (args_cons (yP GT hcode hqual F λf h1 tk1 st1 hlam hmt h66=>?_) rfl))) (bu _ _ rfl rfl)
 let s1:Shared:={s with heap:=h1,toks:=tk1}
 refine bi hv λsl es ev=>?_
 have hsl:sl=.sh (.str cs):=by
  cases sl with
  |sh d=>obtain rfl:=so ev;rfl
  |ow ds=>exact nomatch ev
  |_=>exact no ev
 subst hsl
 refine args_cons (wm (bH (s:=s1) (F.keep st1.1 st1.2) hx es (by rintro⟨⟩)) (λv s2 hv2=>args_nil ?_))
 refine cq hv2 λq15 U q16 U=>af q15▸?_
 obtain⟨_,t,rfl⟩:=q16
 have hpat1:SR.PatAt h1:=⟨(fT t1 t2 (st1.1.keep _ _ (by decide) e45)),st1.1.keep _ _ (by decide) e44⟩
 refine uN (id hlam) λof U U hof hofc U U=>?_
 refine SR.sub_ok (s:=s1) hpat1 st1.2.tk hlen (am _ hof hofc) (λL s' g k hL inv hm hk=>?_) λh2 tk2 u htk2 k2=>?_
 ·refine bv inv λh' tk' q23 htk' kk=>?_
  subst q23
  have kk':=λb o e=>kk b o (λq=>by replace e:=q▸e;rw[show h1.get? L=none from hL] at e;exact no e) e
  exact yQ (A:=A.in1) hroom hl1 (hlam.keeps kk') hm hk hlen ((G.lim.keeps λb o e=>st1.2.gk b o e).keeps kk')
 ·exact⟨⟨st1.1.trans (st1.2.kp (s':={s1 with heap:=h2,toks:=tk2}) k2),(st1.2.keep (h':=h2) (tk:=tk2) htk2 k2)⟩,aA (SR.esc2_le cs) (ln [_] [(2,.v 0,.k 256)] (.m 2 (.v 0)) (.k 4096) 1 rfl hlen),u,rfl⟩
theorem xZ(he:az H (n+1) (.spec k i j) ρ=some (f,ρ')):∃x d,(ρ[j]?).bind (Sl.view true)=some x/\j5 i x=some d/\bG k (.sh d) ρ=some ρ'/\f=.nx:=by
 refine av λGG kk=>bi he λx hx he=>ai (Option.bind_eq_some_iff.mp he) λd hd he=>mi he λρ₂ hst q=>?_
 refine kk ?_;clear kk
 clear he
 clear he
 cases q
 exact(jL x d hx hd hst rfl)
theorem AX(G:Gd C)(GT:g8 C)(GP:oZ C)(hh:A.handled=none)(hroom:A.depth<recursionLimit)(hcode:env.code=.ref 70)(hqual:env.qual="_translate.<locals>.")(k i j:Nat)(x:Str)(p:Pos)(y:Str)(r q:Pos):aT C X H A env Γ (.spec k i j x p y r q):=λ{n mB mo ρ ρ' s f} hc he F=>by
 refine bY (xZ he) λz d hx hd hst q28=>af q28▸?_
 have c3:=ag (ag hc)
 have fin:∀{v:Expr},swapsWith v (some (.Name x p)) q.line env=pure false->wpAny (model C.prog C.w) A (eval v env) (λu s'=>St' C mB mo s s'/\Rep X s'.heap (aJ mB mo false) d u) F0 s->wpAny (model C.prog C.w) A (exec (.Assign [.Name x p] v q) env) (SPost C X env Γ mB mo s .nx ρ') F0 s:=λhsw hw=>
  wpAny_Assign_Name (wm hw (λu s1 hu=>wm (bX (F.keep hu.1.1 hu.1.2) (ae c3) (sl:=.sh d) hu.2 (by rintro⟨⟩) (λa h=>by(injection h;done)) hst) λU s2 h=>.same ((KpM.of_kp hu.1.1).trans h.2 λU=>.inl) ⟨rfl,h.1⟩)) hsw
 rcases i with _|_|i
 ·cases z<;>try (exact no hd;done)
  exact fin rfl (EG G GT hh hroom hcode (by rw[hqual];decide+kernel) rfl rfl rfl (ag c3) hx hd F)
 ·exact fin rfl (EE G GT GP hroom hcode (by rw[hqual];decide+kernel) (ae hc) rfl rfl (ag c3) hx hd F)
 ·exact no hd
theorem nX(hg:fV env.scope.names "_twin_re_1"=false)(k i j:Nat)(x:Str)(p:Pos)(y:Str)(r q:Pos):aT C X H A env Γ (.spec k i j x p y r q):=λhc U U=>by
 have:=(ae hc).symm.trans hg
 (injection this;done)
end
end Internal
namespace Internal
noncomputable def p0:Pos:=⟨0,0,0,0⟩
def dE:AE .E:=.fn 0 "" p0
def dX:Expr:=.Name "" p0
structure XV where
 s:Str:=""
 p:Pos:=p0
 l:List Expr:=[]
 k:Nat:=0
 c:Const:=.none
 o:Operator:=.Add
 i:Option Expr×Option Expr:=(none,none)
 g:List Comprehension:=[]
 sc:Scope:=default
 t:Nat:=0
noncomputable def xv:Expr->XV
 | .Name x p=>{s:=x,p:=p}
 | .Constant c k p=>{c:=c,k:=k,p:=p}
 | .Attribute e x p=>{s:=x,p:=p,l:=[e]}
 | .BoolOp _ l p=>{l:=l,p:=p}
 | .BinOp x o y p=>{o:=o,l:=[x,y],p:=p}
 | .UnaryOp _ x p=>{l:=[x],p:=p}
 | .IfExp x y z p=>{l:=[x,y,z],p:=p}
 | .ListComp e g sc p=>{l:=[e],g:=g,sc:=sc,p:=p}
 | .GeneratorExp e g sc p=>{l:=[e],g:=g,sc:=sc,p:=p}
 | .Compare x _ l p=>{l:=x::l,p:=p}
 | .Call x l _ p=>{l:=x::l,p:=p}
 | .FormattedValue x _ _ p=>{l:=[x],p:=p}
 | .JoinedStr l p=>{l:=l,p:=p}
 | .Subscript x y p=>{l:=[x,y],p:=p}
 | .List l p=>{l:=l,p:=p,t:=1}
 | .Tuple l k p=>{l:=l,k:=k,p:=p,t:=2}
 | .Slice l u _ p=>{i:=(l,u),p:=p}
 |_=>{}
def xN(e:Expr):Str:=(xv e).s
def xP(e:Expr):Pos:=(xv e).p
def xL(e:Expr):List Expr:=(xv e).l
def xK(e:Expr):Nat:=(xv e).k
def xC(e:Expr):Const:=(xv e).c
def xO(e:Expr):Operator:=(xv e).o
def xI(e:Expr):Option Expr×Option Expr:=(xv e).i
def xG(e:Expr):List Comprehension:=(xv e).g
def xS(e:Expr):Scope:=(xv e).sc
noncomputable def cStr:Const->Str
 | .str s=>s
 |_=>""
def at'(i:Nat)(l:List Expr):Expr:=l.getD i dX
def xA(i:Nat)(e:Expr):Expr:=at' i (xL e)
def Hr(e:Expr):Bool:=Nat.beq (xv e).t 2
def Hs(e:Expr):Bool:=Nat.beq (xv e).t 1
def xp(e:Expr):AT:=cond (Hr e) (.many ((xL e).map xN) ((xL e).map xP) (xK e) (xP e)) (.one (xN e) (xP e))
noncomputable def jm(f:Expr->AE .E)(d:AE .O):Option Expr->AE .O
 |none=>d
 |some e=>.yes (f e)
noncomputable def Gw:IK->Bool
 | .of=>true
 |_=>false
def An(k:IK)(e:Expr):kT×Expr×Option Expr×Option Expr:=
 cond (Gw k) (⟨"",p0,p0⟩,e,none,none) (⟨xN (xA 0 e),xP (xA 0 e),xP e⟩,xA 1 e,(xL e)[2]?,(xL e)[3]?)
def Ao(gs:List Comprehension)(i:Nat):Comprehension:=gs.getD i ⟨dX,dX,[],0⟩
def DH(c:Const):List Nat:=(cStr c).cps.toList
structure AF where
 e:Expr->AE .E
 m:List Expr->AE .M
 hd:List Expr->AE .E
 tl:List Expr->AE .M
 sn:List Expr->AE .E
def AF.of(f:Expr->AE .E):AF:=⟨f,λU=>.nil,λU=>dE,λU=>.nil,λU=>dE⟩
def HC(d:D)(e:Expr):AE .E:=match d with
 | .fn f=>.fn f (xN e) (xP e)
 |_=>.const d (xC e) (xK e) (xP e)
noncomputable def an:IE->AF
 | .const d=>.of (HC d)
 | .var i=>.of λe=>.var i (xN e) (xP e)
 | .bin _ a b=>.of λe=>.bin (xO e) ((an a).e (xA 0 e)) ((an b).e (xA 1 e)) (xP e)
 | .neg a=>.of λe=>.neg ((an a).e (xA 0 e)) (xP e)
 | .not a=>.of λe=>.not ((an a).e (xA 0 e)) (xP e)
 | .and a b=>{AF.of (λe=>cond (Nat.beq (xL e).length 3) (.and3 ((an a).e (xA 0 e)) ((an b).hd (xL e).tail) ((an b).sn (xL e).tail) (xP e)) (.and ((an a).e (xA 0 e)) ((an b).e (xA 1 e)) (xP e))) with
  hd:=λl=>(an a).e (at' 0 l),sn:=λl=>(an b).e (at' 1 l)}
 | .or a b=>.of λe=>.or ((an a).e (xA 0 e)) ((an b).e (xA 1 e)) (xP e)
 | .cmp op a b=>.of λe=>.cmp op ((an a).e (xA 0 e)) ((an b).e (xA 1 e)) (xP e)
 | .cmp2 o o' a b c=>.of λe=>.cmp2 o o' ((an a).e (xA 0 e)) ((an b).e (xA 1 e)) ((an c).e (xA 2 e)) (xP e)
 | .ite t a b=>.of λe=>.ite ((an t).e (xA 0 e)) ((an a).e (xA 1 e)) ((an b).e (xA 2 e)) (xP e)
 | .call f a=>.of λe=>.call f (xN (xA 0 e)) (xP (xA 0 e)) ((an a).hd (xL e).tail) ((an a).tl (xL e).tail) (xP e)
 | .prim f a=>.of λe=>.prim f (xN (xA 0 e)) (xP (xA 0 e)) ((an a).hd (xL e).tail) (xP e)
 | .meth m o a=>.of λe=>.meth m (xN (xA 0 e)) ((an o).e (xA 0 (xA 0 e))) (xP (xA 0 e)) ((an a).hd (xL e).tail) ((an a).tl (xL e).tail) (xP e)
 | .repl o c a b=>.of λe=>.repl (xN (xA 0 e)) (cStr (xC (xA 1 e))) (cStr (xC (xA 2 e))) ((an o).e (xA 0 (xA 0 e))) c a b (xP (xA 0 e)) (xK (xA 1 e)) (xP (xA 1 e)) (xK (xA 2 e)) (xP (xA 2 e)) (xP e)
 | .nil=>.of λU=>dE
 | .cons a r=>⟨λU=>dE,λl=>.cons ((an a).e (at' 0 l)) ((an r).m l.tail),λl=>(an a).e (at' 0 l),λl=>(an r).m l.tail,λl=>(an r).hd l.tail⟩
 | .lst a=>.of λe=>.lst ((an a).m (xL e)) (xP e)
 | .tup a=>.of λe=>.tup ((an a).m (xL e)) (xK e) (xP e)
 | .sub a i=>.of λe=>.sub ((an a).e (xA 0 e)) ((an i).e (xA 1 e)) (xP e)
 | .slice a lo hi=>.of λe=>.slice ((an a).e (xA 0 e)) (jm (an lo).e .no (xI (xA 1 e)).1) (jm (an hi).e .no (xI (xA 1 e)).2) (xP (xA 1 e)) (xP e)
 | .fstr a=>.of λe=>.fstr (DH (xC (xA 0 e))) (cStr (xC (xA 0 e))) (xK (xA 0 e)) (xP (xA 0 e)) ((an a).sn [dX,xA 0 (xA 1 e)]) (xP (xA 1 e)) (DH (xC (xA 2 e))) (cStr (xC (xA 2 e))) (xK (xA 2 e)) (xP (xA 2 e)) (xP e)
 | .barr i=>.of λe=>.barr i (xN (xA 0 e)) (xP (xA 0 e)) (xN (xA 1 e)) (xP (xA 1 e)) (xP e)
 | .comp1 _ k a b c t f=>.of λe=>
  let g:=Ao (xG e) 0
  let j:=An k g.iter
  .comp1 (xp g.target) k j.1 ((an a).e j.2.1) (jm (an b).e .no j.2.2.1) (jm (an c).e .no j.2.2.2) (jm (an t).e .tt g.ifs.head?) ((an f).e (xA 0 e)) (xS e) (xP e)
 | .comp2 _ k a b c _ k' a' b' c' t f=>.of λe=>
  let g:=Ao (xG e) 0
  let j:=An k g.iter
  let g':=Ao (xG e) 1
  let j':=An k' g'.iter
  .comp2 (xp g.target) k j.1 ((an a).e j.2.1) (jm (an b).e .no j.2.2.1) (jm (an c).e .no j.2.2.2) (xp g'.target) k' j'.1 ((an a').e j'.2.1) (jm (an b').e .no j'.2.2.1) (jm (an c').e .no j'.2.2.2)
   (jm (an t).e .tt g'.ifs.head?) ((an f).e (xA 0 e)) (xS e) (xP e)
structure TV where
 t:Expr:=dX
 v:Expr:=dX
 p:Pos:=p0
 b:List Stmt:=[]
 b':List Stmt:=[]
 m:Option Expr:=none
noncomputable def sv:Stmt->TV
 | .Assign l v p=>{t:=at' 0 l,v:=v,p:=p}
 | .AugAssign t _ v p=>{t:=t,v:=v,p:=p}
 | .For t v b _ p=>{t:=t,v:=v,b:=b,p:=p}
 | .Expr v p=>{v:=v,p:=p}
 | .If v b b' p=>{v:=v,b:=b,b':=b',p:=p}
 | .While v b _ p=>{v:=v,b:=b,p:=p}
 | .Assert v m p=>{v:=v,m:=m,p:=p}
 | .Return v p=>{v:=v.getD dX,p:=p}
 | .Break p=>{p:=p}
 |_=>{}
def FI(i:Option IE)(e:Expr):AE .O:=match i with
 |some i=>.yes ((an i).e e)
 |none=>cond (Hs e) (.emp (xP e)) .no
noncomputable def rp(f:IS->Stmt->AS .S):List IS->List Stmt->AS .B
 |a::r,l=>match l with
  |s::q=>.cons (f a s) (rp f r q)
  |[]=>.nil
 |[],_=>.nil
noncomputable def th:Nat->IS->Stmt->AS .S
 |0,_,s=>.bad s
 |n+1,i,s=>
  let t:=(sv s).t
  let v:=(sv s).v
  let x:=xN t
  let p:=xP t
  let q:=(sv s).p
  let y:=xN (xA 0 t)
  let yp:=xP (xA 0 t)
  let c:=xA 0 v
  let a0:=xA 1 v
  match i with
  | .assign k e=>.assign k x p ((an e).e v) q
  | .newOwn k e=>.newOwn k x p ((an e).m (xL v)) (xP v) q
  | .newBarr k e=>.newBarr k x p (xN c) (xP c) ((an e).e a0) (xP v) q
  | .bindApp k k'=>.bindApp k k' x p (xN c) (xP c) (xN v) (xP v) q
  | .append k e=>.append k (xN (xA 0 c)) (xP (xA 0 c)) (xN c) (xP c) ((an e).e a0) (xP v) q
  | .addCall k e=>.addCall k (xN c) (xP c) ((an e).e a0) (xP v) q
  | .multi ks e=>.multi ks (xp t) ((an e).e v) q
  | .multiD ks is=>.multiD (ks.getD 0 0) (ks.getD 1 0) y yp (xN (xA 1 t)) (xP (xA 1 t)) (xK t) p (FI (is.getD 0 none) c) (FI (is.getD 1 none) a0) (xK v) (xP v) q
  | .setItem k i e=>.setItem k y yp ((an i).e (xA 1 t)) p ((an e).e v) q
  | .augItem k i e=>.augItem k y yp ((an i).e (xA 1 t)) p ((an e).e v) q
  | .aug k op e=>.aug k x p op ((an e).e v) q
  | .ife t a b=>.ife ((an t).e v) (rp (th n) a (sv s).b) (rp (th n) b (sv s).b') q
  | .whl t a=>.whl ((an t).e v) (rp (th n) a (sv s).b) q
  | .fr ks k a b c body=>let j:=An k v
    .fr ks (xp t) k j.1 ((an a).e j.2.1) (jm (an b).e .no j.2.2.1) (jm (an c).e .no j.2.2.2) (rp (th n) body (sv s).b) q
  | .ret e=>.ret ((an e).e v) q
  | .brk=>.brk q
  | .bad=>.bad s
  | .asrt e=>.asrt ((an e).e v) (sv s).m q
  | .spec k i j=>
    let z:=cond (Nat.beq (xL v).length 2) (Ao (xG a0) 0).iter (xA 2 v)
    .spec k i j x p (xN z) (xP z) q
noncomputable def AB:List Str:=["pat","STAR","QUESTION_MARK","res","add","i","n","c","j","stuff","chunks","k","chunk"]
noncomputable def xw:List IS:=[
 .newOwn 3 .nil,
 .bindApp 4 3,
 .multiD [5,6] [some (.const (.int 0)),some (.prim "len" (.cons (.var 0) .nil))],
 .whl (.cmp .Lt (.var 5) (.var 6)) [.assign 7 (.sub (.var 0) (.var 5)),.assign 5 (.bin .Add (.var 5) (.const (.int 1))),.ife (.cmp .Eq (.var 7) (.const (.str [42]))) [.ife (.or (.not (.var 3)) (.cmp .IsNot (.sub (.var 3) (.neg (.const (.int 1)))) (.var 1))) [.addCall 4 (.var 1)] []] [.ife (.cmp .Eq (.var 7) (.const (.str [63]))) [.addCall 4 (.var 2)] [.ife (.cmp .Eq (.var 7) (.const (.str [91]))) [.assign 8 (.var 5),.ife (.and (.cmp .Lt (.var 8) (.var 6)) (.cmp .Eq (.sub (.var 0) (.var 8)) (.const (.str [33])))) [.assign 8 (.bin .Add (.var 8) (.const (.int 1)))] [],.ife (.and (.cmp .Lt (.var 8) (.var 6)) (.cmp .Eq (.sub (.var 0) (.var 8)) (.const (.str [93])))) [.assign 8 (.bin .Add (.var 8) (.const (.int 1)))] [],.whl (.and (.cmp .Lt (.var 8) (.var 6)) (.cmp .NotEq (.sub (.var 0) (.var 8)) (.const (.str [93])))) [.assign 8 (.bin .Add (.var 8) (.const (.int 1)))],.ife (.cmp .GtE (.var 8) (.var 6)) [.addCall 4 (.const (.str [92,91]))] [.assign 9 (.slice (.var 0) (.var 5) (.var 8)),.ife (.cmp .NotIn (.const (.str [45])) (.var 9)) [.assign 9 (.repl (.var 9) 92 92 92)] [.newOwn 10 .nil,.assign 11 (.ite (.cmp .Eq (.sub (.var 0) (.var 5)) (.const (.str [33]))) (.bin .Add (.var 5) (.const (.int 2))) (.bin .Add (.var 5) (.const (.int 1)))),.whl (.const (.bool true)) [.assign 11 (.meth "find" (.var 0) (.cons (.const (.str [45])) (.cons (.var 11) (.cons (.var 8) .nil)))),.ife (.cmp .Lt (.var 11) (.const (.int 0))) [.brk] [],.append 10 (.slice (.var 0) (.var 5) (.var 11)),.assign 5 (.bin .Add (.var 11) (.const (.int 1))),.assign 11 (.bin .Add (.var 11) (.const (.int 3)))],.assign 12 (.slice (.var 0) (.var 5) (.var 8)),.ife (.var 12) [.append 10 (.var 12)] [.augItem 10 (.neg (.const (.int 1))) (.const (.str [45]))],.fr [11] .range3 (.bin .Sub (.prim "len" (.cons (.var 10) .nil)) (.const (.int 1))) (.const (.int 0)) (.neg (.const (.int 1))) [.ife (.cmp .Gt (.sub (.sub (.var 10) (.bin .Sub (.var 11) (.const (.int 1)))) (.neg (.const (.int 1)))) (.sub (.sub (.var 10) (.var 11)) (.const (.int 0)))) [.bad,.bad] []],.spec 9 0 10],.spec 9 1 9,.assign 5 (.bin .Add (.var 8) (.const (.int 1))),.ife (.not (.var 9)) [.addCall 4 (.const (.str [40,63,33,41]))] [.ife (.cmp .Eq (.var 9) (.const (.str [33]))) [.addCall 4 (.const (.str [46]))] [.ife (.cmp .Eq (.sub (.var 9) (.const (.int 0))) (.const (.str [33]))) [.assign 9 (.bin .Add (.const (.str [94])) (.slice (.var 9) (.const (.int 1)) (.const .none)))] [.ife (.cmp .In (.sub (.var 9) (.const (.int 0))) (.tup (.cons (.const (.str [94])) (.cons (.const (.str [91])) .nil)))) [.assign 9 (.bin .Add (.const (.str [92])) (.var 9))] []],.addCall 4 (.fstr (.cons (.const (.str [91])) (.cons (.var 9) (.cons (.const (.str [93])) .nil))))]]]] [.addCall 4 (.call 64 (.cons (.var 7) .nil))]]]],
 .asrt (.cmp .Eq (.var 5) (.var 6)),
 .ret (.var 3)]
noncomputable def AA:List Str:=["inp","STAR","res","add","i","n","fixed"]
noncomputable def I78:List IS:=[
 .newOwn 2 .nil,
 .bindApp 3 2,
 .multiD [4,5] [some (.const (.int 0)),some (.prim "len" (.cons (.var 0) .nil))],
 .whl (.and (.cmp .Lt (.var 4) (.var 5)) (.cmp .IsNot (.sub (.var 0) (.var 4)) (.var 1))) [.addCall 3 (.sub (.var 0) (.var 4)),.aug 4 .Add (.const (.int 1))],
 .whl (.cmp .Lt (.var 4) (.var 5)) [.asrt (.cmp .Is (.sub (.var 0) (.var 4)) (.var 1)),.aug 4 .Add (.const (.int 1)),.ife (.cmp .Eq (.var 4) (.var 5)) [.addCall 3 (.const (.str [46,42])),.brk] [],.asrt (.cmp .IsNot (.sub (.var 0) (.var 4)) (.var 1)),.newOwn 6 .nil,.whl (.and (.cmp .Lt (.var 4) (.var 5)) (.cmp .IsNot (.sub (.var 0) (.var 4)) (.var 1))) [.append 6 (.sub (.var 0) (.var 4)),.aug 4 .Add (.const (.int 1))],.assign 6 (.meth "join" (.const (.str [])) (.cons (.var 6) .nil)),.ife (.cmp .Eq (.var 4) (.var 5)) [.addCall 3 (.const (.str [46,42])),.addCall 3 (.var 6)] [.addCall 3 (.fstr (.cons (.const (.str [40,63,62,46,42,63])) (.cons (.var 6) (.cons (.const (.str [41])) .nil))))]],
 .asrt (.cmp .Eq (.var 4) (.var 5)),
 .assign 2 (.meth "join" (.const (.str [])) (.cons (.var 2) .nil)),
 .ret (.fstr (.cons (.const (.str [40,63,115,58])) (.cons (.var 2) (.cons (.const (.str [41,92,90])) .nil))))]
noncomputable def Az:List Str:=["data","width","swapped_data","i","j"]
noncomputable def As:List IS:=[
 .newBarr 2 (.prim "len" (.cons (.var 0) .nil)),
 .fr [3] .range3 (.const (.int 0)) (.prim "len" (.cons (.var 0) .nil)) (.var 1) [.fr [4] .range1 (.var 1) (.const .none) (.const .none) [.setItem 2 (.bin .Sub (.bin .Sub (.bin .Add (.var 3) (.var 1)) (.const (.int 1))) (.var 4)) (.sub (.var 0) (.bin .Add (.var 3) (.var 4)))]],
 .ret (.barr 2)]
noncomputable def Ay:List Str:=["signs","text","plain","size"]
noncomputable def Ar:List IS:=[
 .assign 1 (.ite (.cmp .In (.const (.str [93])) (.var 0)) (.const (.str [93])) (.const (.str []))),
 .assign 2 (.comp1 1 .of (.var 0) (.const .none) (.const .none) (.cmp .NotIn (.var 0) (.tup (.cons (.const (.str [93])) (.cons (.const (.str [45])) .nil)))) (.var 0)),
 .whl (.var 2) [.assign 3 (.const (.int 1)),.whl (.and (.cmp .Lt (.var 3) (.prim "len" (.cons (.var 2) .nil))) (.cmp .Eq (.prim "ord" (.cons (.sub (.var 2) (.var 3)) .nil)) (.bin .Add (.prim "ord" (.cons (.sub (.var 2) (.const (.int 0))) .nil)) (.var 3)))) [.aug 3 .Add (.const (.int 1))],.aug 1 .Add (.ite (.cmp .Eq (.var 3) (.const (.int 1))) (.sub (.var 2) (.const (.int 0))) (.bin .Add (.bin .Add (.sub (.var 2) (.const (.int 0))) (.const (.str [45]))) (.sub (.var 2) (.bin .Sub (.var 3) (.const (.int 1)))))),.assign 2 (.slice (.var 2) (.var 3) (.const .none))],
 .ret (.bin .Add (.var 1) (.ite (.cmp .In (.const (.str [45])) (.var 0)) (.const (.str [45])) (.const (.str []))))]
noncomputable def Ax:List Str:=["window","digits","radix","dress","signs","others"]
noncomputable def I95:List IS:=[
 .assign 4 (.comp1 1 .of (.var 1) (.const .none) (.const .none) (.const (.bool true)) (.sub (.var 1) (.var 0))),
 .assign 5 (.comp1 1 .of (.var 0) (.const .none) (.const .none) (.cmp .NotIn (.var 0) (.var 5)) (.var 0)),
 .ife (.and (.cmp .Eq (.var 3) (.const (.int 1))) (.var 5)) [.ret (.bin .Add (.bin .Add (.const (.str [91,33])) (.call 90 (.cons (.var 5) .nil))) (.const (.str [93])))] [],
 .ife (.and (.cmp .Lt (.var 3) (.const (.int 2))) (.cmp .Eq (.prim "len" (.cons (.var 4) .nil)) (.var 2))) [.ret (.const (.str [63]))] [],
 .ife (.and (.cmp .Eq (.var 3) (.const (.int 0))) (.and (.cmp .Eq (.prim "len" (.cons (.var 4) .nil)) (.const (.int 1))) (.cmp .NotIn (.sub (.var 4) (.const (.int 0))) (.tup (.cons (.const (.str [42])) (.cons (.const (.str [63])) (.cons (.const (.str [91])) .nil))))))) [.ret (.sub (.var 4) (.const (.int 0)))] [],
 .ret (.bin .Add (.bin .Add (.const (.str [91])) (.call 90 (.cons (.var 4) .nil))) (.const (.str [93])))]
noncomputable def vo:List Str:=["window","sets","radices","dresses","star","items"]
noncomputable def vh:List IS:=[
 .assign 5 (.comp1 3 .zip3 (.var 1) (.var 2) (.var 3) (.const (.bool true)) (.call 95 (.cons (.var 3) (.cons (.var 0) (.cons (.var 1) (.cons (.var 2) .nil)))))),
 .ife (.cmp .Is (.var 4) (.const .none)) [.ret (.meth "join" (.const (.str [])) (.cons (.var 5) .nil))] [],
 .ret (.bin .Add (.bin .Add (.meth "join" (.const (.str [])) (.cons (.slice (.var 5) (.const .none) (.sub (.var 4) (.const (.int 0)))) .nil)) (.const (.str [42]))) (.meth "join" (.const (.str [])) (.cons (.slice (.var 5) (.sub (.var 4) (.const (.int 1))) (.const .none)) .nil)))]
noncomputable def rD:List Str:=["text","place"]
noncomputable def rA:List IS:=[
 .ife (.cmp .Eq (.sub (.var 0) (.var 1)) (.const (.str [92]))) [.ret (.tup (.cons (.sub (.var 0) (.bin .Add (.var 1) (.const (.int 1)))) (.cons (.bin .Add (.var 1) (.const (.int 2))) .nil)))] [],
 .ret (.tup (.cons (.sub (.var 0) (.var 1)) (.cons (.bin .Add (.var 1) (.const (.int 1))) .nil)))]
noncomputable def rC:List Str:=["text","place","sign","barred","pairs","low","high"]
noncomputable def rz:List IS:=[
 .ife (.cmp .Eq (.sub (.var 0) (.var 1)) (.const (.str [46]))) [.ret (.tup (.cons (.tup (.cons (.const (.bool true)) (.cons (.lst .nil) .nil))) (.cons (.bin .Add (.var 1) (.const (.int 1))) .nil)))] [],
 .ife (.cmp .In (.sub (.var 0) (.var 1)) (.const (.str [94,36,42,43,63,123,125,124,40,41]))) [.ret (.tup (.cons (.tup (.cons (.const (.bool false)) (.cons (.lst .nil) .nil))) (.cons (.bin .Add (.var 1) (.const (.int 1))) .nil)))] [],
 .ife (.cmp .NotEq (.sub (.var 0) (.var 1)) (.const (.str [91]))) [.multi [2,1] (.call 107 (.cons (.var 0) (.cons (.var 1) .nil))),.ret (.tup (.cons (.tup (.cons (.const (.bool false)) (.cons (.lst (.cons (.tup (.cons (.var 2) (.cons (.var 2) .nil))) .nil)) .nil))) (.cons (.var 1) .nil)))] [],
 .multiD [3,4] [some (.cmp .Eq (.sub (.var 0) (.bin .Add (.var 1) (.const (.int 1)))) (.const (.str [94]))),none],
 .aug 1 .Add (.ite (.var 3) (.const (.int 2)) (.const (.int 1))),
 .whl (.or (.cmp .Eq (.var 4) (.lst .nil)) (.cmp .NotEq (.sub (.var 0) (.var 1)) (.const (.str [93])))) [.multi [5,1] (.call 107 (.cons (.var 0) (.cons (.var 1) .nil))),.assign 6 (.var 5),.ife (.cmp .Eq (.sub (.var 0) (.var 1)) (.const (.str [45]))) [.multi [6,1] (.call 107 (.cons (.var 0) (.cons (.bin .Add (.var 1) (.const (.int 1))) .nil)))] [],.append 4 (.tup (.cons (.var 5) (.cons (.var 6) .nil)))],
 .ret (.tup (.cons (.tup (.cons (.var 3) (.cons (.var 4) .nil))) (.cons (.bin .Add (.var 1) (.const (.int 1))) .nil)))]
noncomputable def vn:List Str:=["text","items","place","judge"]
noncomputable def vg:List IS:=[
 .multiD [1,2] [none,some (.const (.int 4))],
 .whl (.cmp .Lt (.var 2) (.bin .Sub (.prim "len" (.cons (.var 0) .nil)) (.const (.int 3)))) [.ife (.cmp .Eq (.slice (.var 0) (.var 2) (.bin .Add (.var 2) (.const (.int 2)))) (.const (.str [46,42]))) [.append 1 (.const .none),.aug 2 .Add (.const (.int 2))] [.multi [3,2] (.call 114 (.cons (.var 0) (.cons (.var 2) .nil))),.append 1 (.var 3)]],
 .ret (.ite (.cmp .Eq (.bin .Add (.slice (.var 0) (.const .none) (.const (.int 4))) (.slice (.var 0) (.neg (.const (.int 3))) (.const .none))) (.const (.str [40,63,115,58,41,92,90]))) (.var 1) (.lst .nil))]
noncomputable def vm:List Str:=["judges","signs","judge","sign","barred","pairs"]
noncomputable def vf:List IS:=[
 .fr [2,3] .zip2 (.var 0) (.var 1) (.const .none) [.multi [4,5] (.var 2),.ife (.cmp .Eq (.cmp .NotEq (.comp1 2 .of (.var 5) (.const .none) (.const .none) (.cmp2 .LtE .LtE (.var 0) (.var 5) (.var 1)) (.var 0)) (.lst .nil)) (.var 4)) [.ret (.const (.bool false))] []],
 .ret (.const (.bool true))]
noncomputable def vk:List Str:=["pattern","names","items","head","tail","told","name"]
noncomputable def I131:List IS:=[
 .assign 2 (.call 121 (.cons (.call 52 (.cons (.var 0) .nil)) .nil)),
 .ife (.cmp .Eq (.meth "count" (.var 2) (.cons (.const .none) .nil)) (.const (.int 0))) [.ret (.prim "bytes" (.cons (.comp1 1 .of (.var 1) (.const .none) (.const .none) (.const (.bool true)) (.ite (.and (.cmp .Eq (.prim "len" (.cons (.var 3) .nil)) (.const (.int 3))) (.call 126 (.cons (.var 3) (.cons (.var 0) .nil)))) (.const (.int 1)) (.const (.int 0)))) .nil))] [],
 .multiD [3,4] [some (.slice (.var 2) (.const .none) (.meth "index" (.var 2) (.cons (.const .none) .nil))),some (.slice (.var 2) (.bin .Add (.meth "index" (.var 2) (.cons (.const .none) .nil)) (.const (.int 1))) (.const .none))],
 .newOwn 5 .nil,
 .fr [6] .of (.var 1) (.const .none) (.const .none) [.append 5 (.ite (.and (.call 126 (.cons (.var 3) (.cons (.var 6) .nil))) (.call 126 (.cons (.var 4) (.cons (.slice (.var 6) (.bin .Sub (.const (.int 3)) (.prim "len" (.cons (.var 4) .nil))) (.const .none)) .nil)))) (.const (.int 1)) (.const (.int 0)))],
 .ret (.prim "bytes" (.cons (.var 5) .nil))]
noncomputable def vj:List Str:=["sets","radices","told","row","radix"]
noncomputable def ve:List IS:=[
 .assign 2 (.lst (.cons (.const (.int 1)) .nil)),
 .fr [3,4] .zip2 (.var 0) (.var 1) (.const .none) [.assign 2 (.comp2 1 .of (.var 2) (.const .none) (.const .none) 1 .range1 (.var 6) (.const .none) (.const .none) (.const (.bool true)) (.ite (.cmp .In (.var 0) (.var 5)) (.var 1) (.const (.int 0))))],
 .ret (.prim "bytes" (.cons (.var 2) .nil))]
noncomputable def vi:List Str:=["octets","width"]
noncomputable def vd:List IS:=[
 .ret (.call 85 (.cons (.call 85 (.cons (.var 0) (.cons (.const (.int 3)) .nil))) (.cons (.bin .Mult (.const (.int 3)) (.var 1)) .nil)))]
noncomputable def zC:List Str:=["script","drawn","cells","pick","window","radices","star","sets","place","radix","code","free","dresses","names","pattern","table","sizes","kinds","turned","fresh","looks","exchanged","moved","few","laid","lying"]
noncomputable def I148:List IS:=[
 .assign 1 (.comp1 1 .of (.slice (.var 0) (.const .none) (.const (.int 6))) (.const .none) (.const .none) (.const (.bool true)) (.bin .Mod (.prim "int" (.cons (.var 0) .nil)) (.bin .Pow (.const (.int 10)) (.const (.int 6))))),
 .assign 2 (.bin .Add (.var 1) (.slice (.lst (.cons (.const (.int 4)) (.cons (.const (.int 24)) (.cons (.const (.int 51)) .nil)))) (.prim "len" (.cons (.var 1) .nil)) (.const .none))),
 .assign 3 (.prim "sum" (.cons (.comp1 1 .of (.var 2) (.const .none) (.const .none) (.const (.bool true)) (.bin .FloorDiv (.var 0) (.const (.int 63)))) .nil)),
 .assign 4 (.comp1 1 .range1 (.const (.int 3)) (.const .none) (.const .none) (.const (.bool true)) (.prim "chr" (.cons (.bin .Add (.bin .Add (.const (.int 34)) (.bin .Mod (.bin .FloorDiv (.var 4) (.const (.int 44))) (.const (.int 91)))) (.var 0)) .nil))),
 .assign 5 (.lst (.cons (.bin .Add (.const (.int 2)) (.bin .Mod (.bin .FloorDiv (.var 3) (.const (.int 22))) (.const (.int 2)))) (.cons (.bin .Add (.const (.int 2)) (.bin .Mod (.bin .FloorDiv (.var 3) (.const (.int 11))) (.const (.int 2)))) (.cons (.bin .Sub (.const (.int 3)) (.bin .Mod (.bin .FloorDiv (.var 3) (.const (.int 22))) (.const (.int 2)))) .nil)))),
 .assign 6 (.sub (.bin .Add (.comp2 1 .range1 (.const (.int 4)) (.const .none) (.const .none) 1 .range2 (.var 1) (.const (.int 4)) (.const .none) (.const (.bool true)) (.tup (.cons (.var 1) (.cons (.var 0) .nil)))) (.lst (.cons (.const .none) .nil))) (.bin .Mod (.var 3) (.const (.int 11)))),
 .newOwn 7 .nil,
 .fr [8,9] .enum (.var 5) (.const .none) (.const .none) [.assign 10 (.bin .Add (.bin .Mod (.sub (.var 2) (.var 8)) (.bin .Sub (.bin .Pow (.const (.int 2)) (.var 9)) (.const (.int 1)))) (.const (.int 1))),.assign 11 (.and (.cmp .IsNot (.var 6) (.const .none)) (.cmp2 .LtE .Lt (.sub (.var 6) (.const (.int 0))) (.var 8) (.sub (.var 6) (.const (.int 1))))),.append 7 (.comp1 1 .range1 (.var 9) (.const .none) (.const .none) (.or (.var 12) (.cmp .Eq (.bin .Mod (.bin .FloorDiv (.var 11) (.bin .Pow (.const (.int 2)) (.var 0))) (.const (.int 2))) (.const (.int 1)))) (.var 0))],
 .assign 12 (.comp1 1 .range1 (.const (.int 3)) (.const .none) (.const .none) (.const (.bool true)) (.bin .Mod (.bin .FloorDiv (.sub (.var 3) (.var 0)) (.const (.int 7))) (.const (.int 3)))),
 .assign 13 (.lst (.cons (.const (.str [])) .nil)),
 .fr [9] .of (.var 5) (.const .none) (.const .none) [.assign 13 (.comp2 1 .of (.var 13) (.const .none) (.const .none) 1 .of (.slice (.var 6) (.const .none) (.var 11)) (.const .none) (.const .none) (.const (.bool true)) (.bin .Add (.var 1) (.var 0)))],
 .assign 14 (.call 100 (.cons (.var 4) (.cons (.var 7) (.cons (.var 5) (.cons (.var 12) (.cons (.var 6) .nil)))))),
 .assign 15 (.call 131 (.cons (.var 14) (.cons (.var 13) .nil))),
 .assign 16 (.lst (.cons (.sub (.var 5) (.const (.int 2))) (.cons (.bin .Mult (.sub (.var 5) (.const (.int 2))) (.sub (.var 5) (.const (.int 1)))) (.cons (.prim "len" (.cons (.var 13) .nil)) .nil)))),
 .assign 17 (.comp1 1 .of (.var 2) (.const .none) (.const .none) (.const (.bool true)) (.bin .Mod (.bin .FloorDiv (.var 0) (.const (.int 21))) (.const (.int 3)))),
 .assign 18 (.comp1 1 .range1 (.const (.int 3)) (.const .none) (.const .none) (.const (.bool true)) (.bin .Mod (.prim "len" (.cons (.comp1 1 .of (.var 18) (.const .none) (.const .none) (.cmp .GtE (.bin .Add (.var 0) (.var 1)) (.const (.int 2))) (.var 0)) .nil)) (.const (.int 2)))),
 .multiD [19,20] [none,none],
 .fr [8,9] .enum (.var 5) (.const .none) (.const .none) [.assign 21 (.ite (.sub (.var 18) (.var 8)) (.comp1 1 .of (.sub (.var 7) (.var 8)) (.const .none) (.const .none) (.const (.bool true)) (.bin .Sub (.bin .Sub (.var 10) (.const (.int 1))) (.var 0))) (.sub (.var 7) (.var 8))),.append 19 (.prim "sorted" (.cons (.var 21) .nil)),.append 20 (.bin .Mod (.bin .Add (.sub (.var 12) (.var 8)) (.const (.int 1))) (.const (.int 3)))],
 .assign 22 (.call 40 (.cons (.const (.fn 85)) (.cons (.comp1 1 .of (.var 17) (.const .none) (.const .none) (.const (.bool true)) (.sub (.var 17) (.var 0))) (.cons (.var 15) .nil)))),
 .ife (.cmp .NotEq (.var 22) (.call 136 (.cons (.var 19) (.cons (.var 5) .nil)))) [.ret (.const (.bool false))] [],
 .ife (.cmp .NotEq (.var 22) (.call 131 (.cons (.call 100 (.cons (.var 4) (.cons (.var 19) (.cons (.var 5) (.cons (.var 20) (.cons (.var 6) .nil)))))) (.cons (.var 13) .nil)))) [.ret (.const (.bool false))] [],
 .assign 23 (.comp1 1 .range1 (.const (.int 3)) (.const .none) (.const .none) (.cmp .NotEq (.sub (.var 19) (.var 0)) (.sub (.bin .Add (.lst (.cons (.const (.int 0)) .nil)) (.var 19)) (.var 0))) (.sub (.var 17) (.bin .Sub (.const (.int 2)) (.var 0)))),
 .ife (.cmp .NotEq (.call 40 (.cons (.const (.fn 85)) (.cons (.var 23) (.cons (.var 15) .nil)))) (.var 22)) [.ret (.const (.bool false))] [],
 .assign 24 (.call 40 (.cons (.const (.fn 143)) (.cons (.var 23) (.cons (.prim "bytes" (.cons (.comp2 1 .of (.var 13) (.const .none) (.const .none) 1 .of (.var 1) (.const .none) (.const .none) (.const (.bool true)) (.prim "ord" (.cons (.var 0) .nil))) .nil)) .nil)))),
 .assign 25 (.comp1 1 .range1 (.prim "len" (.cons (.var 13) .nil)) (.const .none) (.const .none) (.const (.bool true)) (.meth "join" (.const (.str [])) (.cons (.comp1 1 .of (.slice (.var 25) (.bin .Mult (.const (.int 3)) (.var 0)) (.bin .Add (.bin .Mult (.const (.int 3)) (.var 0)) (.const (.int 3)))) (.const .none) (.const .none) (.const (.bool true)) (.prim "chr" (.cons (.var 0) .nil))) .nil))),
 .ret (.cmp .Eq (.call 131 (.cons (.var 14) (.cons (.var 25) .nil))) (.var 22))]
noncomputable def Fl.gR:Fl->Option D
 | .rt d=>some d
 |_=>none
theorem Fl.gR_eq{x:Fl}(h:x.gR=some d):x=.rt d:=by
 induction x with
 |rt=>rw[so h]
 |_=>exact no h
def dx(H:Hook)(Γ:List Str)(I:List IS)(n:Nat)(ds:List D):Option D:=
 if ds.length=n then (aD (az H 12) I (ds.map .sh++List.replicate (Γ.length-n) .un)).bind λp=>p.1.gR
 else none
def oz(HA HK:Hook)(Γ:List Str)(I:List IS)(n:Nat)(ds:List D):Option D:=
 if ds.length=n then (aD (dy HA HK 11) I (ds.map .sh++List.replicate (Γ.length-n) .un)).bind λp=>p.1.gR
 else none
noncomputable def D.gF:D->Option Nat
 | .fn f=>some f
 |_=>Option.none
theorem D.gF_eq{x:D}(h:x.gF=some a):x=.fn a:=by
 cases x with
 |fn b=>rw[so h]
 |_=>exact no h
def qP(ds:List D):Option D:=(dq ds).bind λd=>d.gS.bind λs=>(dq s).bind λc=>if c<128 then some (.str (lD c)) else none
def H0:Hook:=λf ds=>if f=64 then qP ds else none
def H1:Hook:=λf ds=>
 if f=71 then dx H0 AB xw 3 ds else if f=78 then dx H0 AA I78 2 ds else if f=90 then dx H0 Ay Ar 1 ds else if f=107 then dx H0 rD rA 2 ds
 else if f=126 then dx H0 vm vf 2 ds else if f=136 then dx H0 vj ve 2 ds else none
def vD(ds:List D):Option D:=(dq ds).bind λd=>d.gS.bind λcs=>(aD (az H1 12) kW [.sh (.str cs),.sh .obj,.un]).bind λp=>p.1.gR.bind λd=>d.gS.map .str
def H2:Hook:=λf ds=>if f=52 then vD ds else if f=95 then dx H1 Ax I95 4 ds else if f=114 then dx H1 rC rz 2 ds else H1 f ds
def H3:Hook:=λf ds=>if f=100 then dx H2 vo vh 5 ds else if f=121 then dx H2 vn vg 1 ds else H2 f ds
def H4:Hook:=λf ds=>if f=131 then dx H3 vk I131 2 ds else H3 f ds
def K0:Hook:=λf ds=>if f=85 then oz H0 (λU U=>none) Az As 2 ds else none
def K1:Hook:=λf ds=>if f=143 then oz H0 K0 vi vd 2 ds else K0 f ds
def tX(ds:List D):Option D:=(uo ds).bind λp=>p.1.gF.bind λf=>p.2.1.gL.bind λws=>p.2.2.gY.bind λb=>if f=85\/f=143 then fX K1 f ws (.bytes b) else none
def K2:Hook:=λf ds=>if f=40 then tX ds else H4 f ds
def yO(script:List Int):Option D:=oz H4 K2 zC I148 1 [.raw (script.map .int)]
end Internal
namespace Internal
open PyProof.Rows
def KT:Ctx->Prop:=λU=>True
theorem uu:iG KT:=⟨λU U U U U U=>trivial,λU U U U=>trivial⟩
theorem mN{α:Type}{M:Model}{A:Around}{t:Sem α}{Q:α->Shared->Prop}{E:Value->Shared->Prop}{s:Shared}(h:aG KT M A t Q E s):wpAny M A t Q E s:=λΓ p hΓ=>h Γ p hΓ trivial
def jZ(C:Cx)(H:Hook)(m:Nat):Prop:=∀X A,Room m A->mK C X H A
theorem Room.deeper{A:Around}(r:Room (m+1) A)(env:Env):Room m (A.deeper env) where
 hh:=r.hh
 dp:=by have:=r.dp;exact ln [_,_] [(1,.a (.v 0) (.a (.v 1) (.k 1)),.k 900)] (.a (.a (.v 0) (.k 1)) (.v 1)) (.k 900) 1 rfl this
 un:=by have:=r.un;exact ln [_,_] [(1,.a (.v 0) (.m 8 (.a (.v 1) (.k 1))),.k 5000)] (.a (.a (.v 0) (.k 3)) (.m 8 (.v 1))) (.k 5000) 1 rfl this
theorem Room.less{A:Around}(r:Room m A)(h:m'<=m):Room m' A where
 hh:=r.hh
 dp:=by have:=r.dp;exact ln [_,_,_] [(1,.v 0,.v 1),(1,.a (.v 2) (.v 1),.k 900)] (.a (.v 2) (.v 0)) (.k 900) 1 rfl h this
 un:=by have:=r.un;exact ln [_,_,_] [(8,.v 0,.v 1),(1,.a (.v 2) (.m 8 (.v 1)),.k 5000)] (.a (.v 2) (.m 8 (.v 0))) (.k 5000) 1 rfl h this
theorem Room.rc{A:Around}(r:Room m A):A.depth<recursionLimit:=by have:=r.dp;exact ln [_,_] [(1,.a (.v 0) (.v 1),.k 900)] (.a (.v 0) (.k 1)) (.k 1000) 1 rfl this
theorem Room.cl{A:Around}(r:Room m A):A.in1.units<cLine:=by have:=r.un;exact ln [_,_] [(1,.a (.v 0) (.m 8 (.v 1)),.k 5000)] (.a (.a (.v 0) (.k 1)) (.k 1)) (.k 9900) 1 rfl this
section
structure dw(C:Cx)(f:Nat)(n:Nat)(Γ:List Str)(I:List IS):Prop where
 ex:∃ps fd,∃B:AS .B,kK C f ps Γ B.tx fd/\ps.length=n/\n<=Γ.length/\B.er=I/\B.ok Γ fd.scope.names=true/\(∀vs:List Value,vs.length=n->∀s,BindsTo s fd ⟨vs,[]⟩ (ps.zip vs))/\
  ((fV fd.scope.names "_twin_re_1"=false)\/(fd.code=.ref 70/\fd.qualname="_translate"))
theorem zN(G:Gd C)(GT:g8 C)(GP:oZ C){m:Nat}{Γ:List Str}{fd:FuncData}(r:Room m A)(hsp:(fV fd.scope.names "_twin_re_1"=false)\/(fd.code=.ref 70/\fd.qualname="_translate"))(hsc:env.scope=fd.scope)(hco:env.code=fd.code)(hqu:env.qual=fd.qualname++(".<locals>.":Str))
 (k i j:Nat) (x:Str) (p:Pos) (y:Str) (r' q:Pos):aT C X H A env Γ (.spec k i j x p y r' q):=by
 rcases hsp with h|⟨h1,h2⟩
 ·exact nX (by refine af hsc▸?_;exact h) k i j x p y r' q
 ·exact AX G GT GP r.hh r.rc (by rw[hco,h1]) (by rw[hqu,h2];decide+kernel) k i j x p y r' q
theorem cT(G:Gd C)(GT:g8 C)(GP:oZ C){I:List IS}(HL:jZ C H m)(FO:dw C f n Γ I)(hd:dx H Γ I n ds=some d)(r:Room (m+1) A){mt:Addr->Prop}
 (ok:Ok C mt s) (rl:RepL X s.heap (λa=>a=66\/mt a) ds vs):wpAny (model C.prog C.w) A (call (.ref f) vs) (bP C X mt s d) F0 s:=by
 obtain⟨ps,fd,B,DA,hps,hn,hI,hck,hbind,hsp⟩:=FO.ex
 refine cd hd λhlen hd=>bi hd λq hrun hd=>?_
 obtain⟨fl,ρ'⟩:=q
 obtain rfl:=Fl.gR_eq hd
 refine mN (mr (n:=Γ.length-n) uu G DA ok (hlen.trans hps.symm) rl (hbind vs (rl.length.trans hlen) s) r.rc λenv mo s₁ hsc hco hqu F hk=>?_)
 have r':Room m (A.deeper env):=r.deeper env
 exact⟨ρ',ay (oX (lC (env:=env) (Γ:=Γ) G (HL X _ r') r'.hh r'.cl (zN G GT GP r' hsp hsc hco hqu) B) (by rw[hsc];exact hck) (hI▸hrun) F)⟩
theorem y9(G:Gd C)(GE:Aw C)(DA:kK C 64 ["pattern"] ["pattern"] body fd)(hn:fd.scope.names=kz)(hbind:∀v s,BindsTo s fd ⟨[v],[]⟩ [("pattern",v)])
 (hb:∀{env:Env} {mB mo:Addr->Prop} {s:Shared} {A:Around} {c:Nat},A.handled=none->env.scope.names=kz->c<128->Fm C X env ["pattern"] mB mo [.sh (.str [c])] s->wpAny (model C.prog C.w) A (execs body env) (SPost C X env ["pattern"] mB mo s (.rt (.str (lD c))) [.sh (.str [c])]) F0 s)
 {d:D} (hd:qP ds=some d) (r:Room 1 A) {mt:Addr->Prop} (ok:Ok C mt s) (rl:RepL X s.heap (λa=>a=66\/mt a) ds vs):wpAny (model C.prog C.w) A (call (.ref 64) vs) (bP C X mt s d) F0 s:=by
 refine av λGG kk=>bi hd λd0 h1 hd=>bi hd λs0 h2 hd=>bi hd λc h3 hd=>cd hd λhc hd=>?_
 replace rl:=(cI h1)▸rl;replace rl:=(D.gS_eq h2)▸rl;replace rl:=(cI h3)▸rl
 refine kk ?_;clear kk
 refine(so hd)▸?_
 refine bv rl λv rest q1 U hr=>?_
 subst q1 hr
 refine mN (mr (n:=0) uu G DA ok rfl rl (hbind v s) r.rc λenv mo s₁ hsc U U F hk=>?_)
 exact⟨_,ay (hb (r.deeper env).hh (hsc.symm▸hn) hc F)⟩
end
structure Er(C:Cx):Prop where
 f71:dw C 71 3 AB xw
 f78:dw C 78 2 AA I78
 f90:dw C 90 1 Ay Ar
 f95:dw C 95 4 Ax I95
 f100:dw C 100 5 vo vh
 f107:dw C 107 2 rD rA
 f114:dw C 114 2 rC rz
 f121:dw C 121 1 vn vg
 f126:dw C 126 2 vm vf
 f131:dw C 131 2 vk I131
 f136:dw C 136 2 vj ve
 f85:dw C 85 2 Az As
 f143:dw C 143 2 vi vd
 f148:dw C 148 1 zC I148
 esc:∀(X:Addr) (A:Around) ds d,qP ds=some d->Room 1 A->∀(mt:Addr->Prop) s vs,Ok C mt s->RepL X s.heap (λa=>a=66\/mt a) ds vs->wpAny (model C.prog C.w) A (call (.ref 64) vs) (bP C X mt s d) F0 s
 tr:∀(X:Addr) (A:Around) ds d,vD ds=some d->Room 3 A->jZ C H1 2->∀(mt:Addr->Prop) s vs,Ok C mt s->RepL X s.heap (λa=>a=66\/mt a) ds vs->wpAny (model C.prog C.w) A (call (.ref 52) vs) (bP C X mt s d) F0 s
 red:∀(X:Addr) (A:Around) (m:Nat) ds d,tX ds=some d->Room (m+1) A->(∀X A,Room m A->cA Cl C X K1 A)->∀(mt:Addr->Prop) s vs,Ok C mt s->RepL X s.heap (λa=>a=66\/mt a) ds vs->aG Cl (model C.prog C.w) A (call (.ref 40) vs) (bP C X mt s d) F0 s
section
variable(G:Gd C)(GT:g8 C)(GP:oZ C)(FS:Er C)
include G GT GP FS
theorem yM:jZ C H0 1:=λX A r f ds d h mt s vs ok rl=>by
 exact ifs h (λe h=>e▸FS.esc X A ds d h r mt s vs ok rl) λh=>
  no h
theorem Gq:jZ C H1 2:=λX A r f ds d h mt s vs ok rl=>by
 have L0:=yM G GT GP FS
 exact ifs h (λe h=>e▸cT G GT GP L0 FS.f71 h r ok rl) λh=>
  ifs h (λe h=>e▸cT G GT GP L0 FS.f78 h r ok rl) λh=>
  ifs h (λe h=>e▸cT G GT GP L0 FS.f90 h r ok rl) λh=>
  ifs h (λe h=>e▸cT G GT GP L0 FS.f107 h r ok rl) λh=>
  ifs h (λe h=>e▸cT G GT GP L0 FS.f126 h r ok rl) λh=>
  ifs h (λe h=>e▸cT G GT GP L0 FS.f136 h r ok rl) λh=>
  no h
theorem Gp:jZ C H2 3:=λX A r f ds d h mt s vs ok rl=>by
 have L1:=Gq G GT GP FS
 exact ifs h (λe h=>e▸FS.tr X A ds d h r L1 mt s vs ok rl) λh=>
  ifs h (λe h=>e▸cT G GT GP L1 FS.f95 h r ok rl) λh=>
  ifs h (λe h=>e▸cT G GT GP L1 FS.f114 h r ok rl) λh=>
  L1 X A (r.less (Nat.le_add_left _ _)) f ds d h mt s vs ok rl
theorem Gn:jZ C H3 4:=λX A r f ds d h mt s vs ok rl=>by
 have L2:=Gp G GT GP FS
 exact ifs h (λe h=>e▸cT G GT GP L2 FS.f100 h r ok rl) λh=>
  ifs h (λe h=>e▸cT G GT GP L2 FS.f121 h r ok rl) λh=>
  L2 X A (r.less (Nat.le_add_left _ _)) f ds d h mt s vs ok rl
theorem Da:jZ C H4 5:=λX A r f ds d h mt s vs ok rl=>by
 have L3:=Gn G GT GP FS
 exact ifs h (λe h=>e▸cT G GT GP L3 FS.f131 h r ok rl) λh=>
  L3 X A (r.less (Nat.le_add_left _ _)) f ds d h mt s vs ok rl
end
section
theorem lz(G:Gd C){I:List IS}(HL:jZ C HA m)(HLK:∀X A,Room m A->cA Cl C X HK A)(FO:dw C f n Γ I)(GT:g8 C)(GP:oZ C)(hd:oz HA HK Γ I n ds=some d)(r:Room (m+1) A){mt:Addr->Prop}
 (ok:Ok C mt s) (rl:RepL X s.heap (λa=>a=66\/mt a) ds vs):aG Cl (model C.prog C.w) A (call (.ref f) vs) (bP C X mt s d) F0 s:=by
 obtain⟨ps,fd,B,DA,hps,hn,hI,hck,hbind,hsp⟩:=FO.ex
 refine cd hd λhlen hd=>bi hd λq hrun hd=>?_
 obtain⟨fl,ρ'⟩:=q
 obtain rfl:=Fl.gR_eq hd
 ·refine mr (n:=Γ.length-n) eO G DA ok (Eq.trans ‹_› (af ‹_›)) rl (hbind vs (rl.length.trans hlen) s) r.rc λenv mo s₁ hsc hco hqu F hk=>?_
  have r':Room m (A.deeper env):=r.deeper env
  have SE:∀{k:Kd} (e:AE k),ah C X HA (A.deeper env) e:=λe=>qM G (HL X _ r') r'.hh r'.cl (λU U U U U U=>lS G) e
  exact⟨ρ',CJ G (HLK X _ r') (Nat.lt_of_succ_lt r'.cl) SE (λa=>lC (env:=env) (Γ:=Γ) G (HL X _ r') r'.hh r'.cl (zN G GT GP r' hsp hsc hco hqu) a) B (n:=11) (by rw[hsc];exact hck) (show aD _ B.er _=_ by rw[hI];exact hrun) F⟩
end
section
variable(G:Gd C)(GT:g8 C)(GP:oZ C)(FS:Er C)
include G GT GP FS
theorem z0:∀X A,Room 2 A->cA Cl C X K0 A:=λX A r f ds d h mt s vs ok rl=>by
 exact ifs h (λe h=>e▸lz G (yM G GT GP FS) (λU U U U U U h=>no h) FS.f85 GT GP h r ok rl) λh=>
  no h
theorem ET:∀X A,Room 3 A->cA Cl C X K1 A:=λX A r f ds d h mt s vs ok rl=>by
 have L:jZ C H0 2:=λX A r=>yM G GT GP FS X A (r.less (Nat.succ_pos _))
 exact ifs h (λe h=>e▸lz G L (z0 G GT GP FS) FS.f143 GT GP h r ok rl) λh=>
  z0 G GT GP FS X A (r.less (by exact Nat.le_add_left _ _)) f ds d h mt s vs ok rl
theorem ER:∀X A,Room 5 A->cA Cl C X K2 A:=λX A r f ds d h mt s vs ok rl=>by
 exact ifs h (λe h=>e▸FS.red X A 3 ds d h (r.less (Nat.le_add_left _ _)) (ET G GT GP FS) mt s vs ok rl) λh=>
  ay (Da G GT GP FS X A r f ds d h mt s vs ok rl)
theorem Dd(r:Room 6 A){d:D}(hd:yO script=some d){mt:Addr->Prop}(ok:Ok C mt s)(rl:RepL X s.heap (λa=>a=66\/mt a) [.raw (script.map .int)] vs):
 aG Cl (model C.prog C.w) A (call (.ref 148) vs) (bP C X mt s d) F0 s:=
 lz G (Da G GT GP FS) (ER G GT GP FS) FS.f148 GT GP hd r ok rl
end
section
theorem Bu{Av:Addr->Prop}(e:ds=[d0])(rl:RepL X h Av ds vs):∃v,vs=[v]:=by
 subst e
 refine bv rl λv r q6 U q7=>af q6▸?_
 refine q7▸?_
 exact⟨v,rfl⟩
theorem AJ(G:Gd C)(hob:C.mg "object"=none/\C.mb "object"=some (.type "object")){B:AS .B}(DA:kK C 52 ["pat"] kL (.Assign [.Name "STAR" p1] (.Call (.Name "object" p2) [] [] p3) p4::B.tx) fd)
 (hn:fd.scope.names=eU) (hB:B.er=kW) (hc:B.ok kL eU=true) (hbind:∀v s,BindsTo s fd ⟨[v],[]⟩ [("pat",v)]) {d:D} (hd:vD ds=some d) (r:Room 3 A) (L:jZ C H1 2) {mt:Addr->Prop}
 (ok:Ok C mt s) (rl:RepL X s.heap (λa=>a=66\/mt a) ds vs):wpAny (model C.prog C.w) A (call (.ref 52) vs) (bP C X mt s d) F0 s:=by
 refine av λGG kk=>bi hd λd0 h1 hd=>bi hd λcs h2 hd=>bi hd λq hrun hd=>bi hd λe h3 hd=>mi hd λt h4 e5=>?_
 obtain⟨fl,ρ'⟩:=q
 have hfl:=(Fl.gR_eq h3).trans (congrArg Fl.rt (D.gS_eq h4))
 clear h3
 subst hfl
 replace rl:=(cI h1)▸rl;replace rl:=(D.gS_eq h2)▸rl
 refine kk ?_;clear kk
 refine e5▸?_
 refine aB (Bu rfl rl) λv q1=>?_
 subst q1
 refine mN (mr (n:=2) uu G DA ok rfl rl (hbind v s) r.rc λenv mo s₁ hsc U U F hk=>?_)
 exact⟨_,ay (AK G hob (λX=>L X _ (r.deeper env)) (r.deeper env).hh (r.deeper env).cl (λX env hn' k i j x p y r q=>nX (by refine af hn'▸?_;decide+kernel) k i j x p y r q) (by refine af hsc▸?_;exact hn) hB hc hrun F)⟩
theorem yw(G:Gd C)(G2:rB C X0){fd:FuncData}
 (DA:kK C 40 ["function","sequence","initial"] eT [.Assign [.Name "it" a1] (.Call (.Name "iter" a2) [.Name "sequence" a3] [] a4) a5,
  .If (.Compare (.Name "initial" c1) [.Is] [.Name "_initial_missing" c2] c3) yes [.Assign [.Name "value" c4] (.Name "initial" c5) c6] c7,
  .For (.Name "element" p1) (.Name "it" p2) [.Assign [.Name "value" p3] (.Call (.Name "function" p4) [.Name "value" p5,.Name "element" p6] [] p7) p8] [] p9,
  .Return (some (.Name "value" q1)) q2] fd) (hn:fd.scope.names=cH)
 (hbind:∀u v w s,(∀b o,C.g.get? b=some o->s.heap.get? b=some o)->BindsTo s fd ⟨[u,v,w],[]⟩ [("function",u),("sequence",v),("initial",w)]) (hd:tX ds=some d) (r:Room (m+1) A) (L:∀X A,Room m A->cA Cl C X K1 A) {mt:Addr->Prop}
 (ok:Ok C mt s) (rl:RepL X s.heap (λa=>a=66\/mt a) ds vs):aG Cl (model C.prog C.w) A (call (.ref 40) vs) (bP C X mt s d) F0 s:=by
 refine av λGG kk=>bi hd λp h1 hd=>bi hd λf h2 hd=>bi hd λws h3 hd=>bi hd λb h4 hd=>cd hd λhf hd=>?_
 replace rl:=(ni h1)▸rl;replace rl:=(D.gF_eq h2)▸rl;replace rl:=(D.gL_eq h3)▸rl;replace rl:=(D.gY_eq h4)▸rl
 refine bv rl λu r1 q1 U rl1=>bv rl1 λv r2 q2 U rl2=>bv rl2 λw r3 q3 U q4=>?_
 clear rl2
 clear rl1
 subst q4 q3 q2 q1
 refine kk ?_;clear kk
 refine mr (n:=3) eO G DA ok rfl rl (hbind u v w s λb o e=>ok.gk b o e) r.rc λenv mo s₁ hsc U U F hk=>⟨_,Bm G G2 eO (L X _ (r.deeper env)) (r.deeper env).hh (by refine af hsc▸?_;exact hn) (hf.elim (λe=>e▸(G.glob "_byteswap" 85 (by decide+kernel)).2) λe=>e▸(G.glob "_law_moved" 143 (by decide+kernel)).2) hd F⟩
end
theorem o6(ps:List Str):∀(vs:List Value),ps.Nodup->vs.length=ps.length->ps.filterMap (λn=>((ps.zip vs).lookup n).map (n,·))=ps.zip vs:=by
 induction ps with
 |nil=>intro _ _ _;rfl
 |cons p ps ih=>
  intro vs hn hl
  rcases vs with _|⟨v,vs⟩
  ·exact nomatch hl
  rw[List.nodup_cons] at hn
  refine af List.zip_cons_cons▸?_;refine af List.filterMap_cons▸?_;refine af (show((p,v)::ps.zip vs).lookup p=some v from by exact List.lookup_cons_self)▸?_
  have h2:ps.filterMap (λn=>(((p,v)::ps.zip vs).lookup n).map (n,·))=ps.filterMap (λn=>((ps.zip vs).lookup n).map (n,·)):=by
   have key:∀l:List Str,p ∉ l->l.filterMap (λn=>(((p,v)::ps.zip vs).lookup n).map (n,·))=l.filterMap (λn=>((ps.zip vs).lookup n).map (n,·)):=λl=>by
    induction l with
    |nil=>intro _;rfl
    |cons x r ih=>
     intro h
     simp only[List.mem_cons,not_or] at h
     rw[List.filterMap_cons,List.filterMap_cons,ih h.2,List.lookup_cons,show(x==p)=false from beq_eq_false_iff_ne.mpr λe=>h.1 e.symm]
   exact key ps hn.1
  refine af h2▸?_;refine af (ih vs hn.2 (by simpa using hl))▸?_
  rfl
theorem lI:∀(ps:List Str) (vs:List Value),vs.length=ps.length->∀n∈ps,((ps.zip vs).lookup n).isNone=false
 |[],_,_,n,h=>by cases h
 |p::ps,[],hl,n,h=>by simp at hl
 |p::ps,v::vs,hl,n,h=>by
  rw[List.zip_cons_cons,List.lookup_cons]
  induction e:n==p with
  |true=>rfl
  |false=>
   rcases List.mem_cons.mp h with rfl|h
   ·simp at e
   ·exact lI ps vs (by simpa using hl) n h
theorem uY{ps:List Str}(h1:fd.params.posonlyargs=[])(h2:fd.params.args.map (·.arg)=ps)(h3:fd.params.vararg=none)(h4:fd.params.kwonlyargs=[])(h5:fd.params.kwarg=none)(h6:fd.defaults=.none)(hn:ps.Nodup)
 (vs:List Value) (hl:vs.length=ps.length):bindArgs fd ⟨vs,[]⟩=pure (ps.zip vs):=by
 have hmiss:(ps.take (ps.length-0)).filter (λn=>((ps.zip vs).lookup n).isNone)=[]:=by
  rw[List.filter_eq_nil_iff]
  intro n hm
  rw[lI ps vs hl n (List.mem_of_mem_take hm)]
  exact Bool.false_ne_true
 cases fd with
 |mk fn fq fp fb fs fg fc fct fco fbi fdf=>
 cases fp with
 |mk po ar va kw kd kg df=>
 obtain rfl:po=[]:=h1
 obtain rfl:va=none:=h3
 obtain rfl:kw=[]:=h4
 obtain rfl:kg=none:=h5
 obtain rfl:fct=.none:=h6
 obtain rfl:ar.map (·.arg)=ps:=h2
 refine(if_neg (c:=(decide (vs.length>(ar.map (·.arg)).length)&&true)=true) (by simpa using Nat.le_of_eq hl)).trans ?_
 simp only[(show((none:Option (Array Value)).getD #[]).toList=[] from rfl),List.drop_nil,List.zip_nil_right,List.forIn_nil,List.length_nil]
 refine(if_neg (c:=(!((((ar.map (·.arg)).take ((ar.map (·.arg)).length-0)).filter λn=>(((ar.map (·.arg)).zip vs).lookup n).isNone)).isEmpty)=true) (by rw[hmiss];exact Bool.false_ne_true)).trans ?_
 refine Eq.trans (b:=pure ((ar.map Arg.arg++[]).filterMap λn=>(((ar.map Arg.arg).zip vs).lookup n).map (n,·))) rfl ?_
 rw[List.append_nil,o6 _ vs hn hl]
theorem DF{fd:FuncData}(h:FD d=some fd):d=.func fd:=by
 induction d with
 |func=>exact congrArg _ (so h)
 |_=>exact no h
theorem DG{vs:Array Value}(h:FE d=some vs):d=.fields vs:=by
 induction d with
 |fields=>exact congrArg _ (so h)
 |_=>exact no h
theorem vr{q:Str}(h:Cm v=some q):∃t,v=.str q t:=by
 induction v with
 |str q' t=>exact⟨t,congrArg (Value.str · t) (so h)⟩
 |_=>exact no h
theorem oy(e:ir h a=some v):∃o fd,h.get? a=some o/\o.data=.func fd/\v=(fd.body,fd.params,fd.scope,fd.globals,fd.closure,fd.defaults,fd.code,fd.qualname,fd.builtins):=
 bi e λo ho e=>mi e λfd hd e=>⟨o,fd,ho,DF hd,e.symm⟩
theorem zk(e:ix h c=some q):h.CodeRec (.ref c) q:=
 bi e λo ho e=>bi e λvs hd e=>bi e λU hq e=>aB (vr e) λt e=>⟨c,o,vs,t,rfl,ho,DG hd,hq.trans (congrArg some e)⟩
def nF(p:Program)(x:Str)(ps Γ:List Str)(sp:Bool)(ok:List (Str×NameKind)->List Stmt->Bool):Bool:=(p.theDef x).elim false λd=>
 d.1.posonlyargs.isEmpty&&d.1.args.map (·.arg)==ps&&d.1.vararg.isNone&&d.1.kwonlyargs.isEmpty&&d.1.kwarg.isNone&&d.2.2.kind==.function&& !d.2.2.isCoroutine&& !d.2.2.isGenerator&&
  decide ps.Nodup&&ps.all (λx=>d.2.2.names.lookup x==some .local||d.2.2.names.lookup x==some .cell)&&d.2.2.names.all (λq=>q.2 !=.free)&&Γ.take ps.length==ps&&(sp||fV d.2.2.names "_twin_re_1"==false)&&ok d.2.2.names d.2.1
theorem E4{P:Prop}(h:o.elim false f=true)(k:∀d,o=some d->f d=true->P):P:=by
 induction o with
 |none=>exact nomatch h
 |some d=>exact k d rfl h
theorem jb{ps Γ:List Str}{f cd:Nat}(hT:nF p x ps Γ sp ok=true)(ho:ir C.g f=iq p x df cd)(hc:ix C.g cd=some x):
 ∃body fd,kK C f ps Γ body fd/\ok fd.scope.names body=true/\(sp=true\/fV fd.scope.names "_twin_re_1"=false)/\fd.code=.ref cd/\fd.qualname=x/\fd.defaults=df/\
  (df=.none->∀vs:List Value,vs.length=ps.length->∀s,BindsTo s fd ⟨vs,[]⟩ (ps.zip vs))/\p.theDef x=some (fd.params,body,fd.scope):=by
 refine E4 hT λd hd hT=>?_
 replace ho:=ho.trans (aK hd)
 refine bv (oy ho) λo fd h1 h2 h3=>?_
 obtain⟨pa,b,sc⟩:=d
 injection h3 with e1 h3
 injection h3 with e2 h3
 injection h3 with e3 h3
 injection h3 with e4 h3
 injection h3 with e5 h3
 injection h3 with e6 h3
 injection h3 with e7 h3
 injection h3 with e8 e9
 clear ho
 subst e2 e3
 have hc:=e7▸e8▸zk hc
 refine⟨b,fd,{at_:=⟨o,h1,h2⟩,body_:=e1.symm,clo:=e5.symm,glob:=e4.symm,blt:=e9.symm,code:=hc,kind:=eq_of_beq (ag (ae (ae (ae (ae (ae (ae (ae (ae hT))))))))),co:=DX (ag (ae (ae (ae (ae (ae (ae (ae hT)))))))),gen:=DX (ag (ae (ae (ae (ae (ae (ae hT))))))),ps_:=⟨Γ.drop ps.length,?_⟩,nd:=of_decide_eq_true (ag (ae (ae (ae (ae (ae hT)))))),par:=λy hy=>?_,free:=λy hy=>?_},(ag hT),?_,e7.symm,e8.symm,e6.symm,λhdf vs hl s=>?_,hd⟩
 ·conv=>lhs;rw[<-List.take_append_drop ps.length Γ,eq_of_beq (ag (ae (ae hT)))]
 ·have:=List.all_eq_true.mp (ag (ae (ae (ae (ae hT))))) y hy
  simpa using this
 ·have:=List.all_eq_true.mp (ag (ae (ae (ae hT)))) y hy
  simpa using this
 ·have:=(ag (ae hT))
  simpa using this
 ·exact .of_eq (uY (List.isEmpty_iff.mp (ae (ae (ae (ae (ae (ae (ae (ae (ae (ae (ae (ae (ae hT)))))))))))))) (eq_of_beq (ag (ae (ae (ae (ae (ae (ae (ae (ae (ae (ae (ae (ae hT)))))))))))))) (Option.isNone_iff_eq_none.mp (ag (ae (ae (ae (ae (ae (ae (ae (ae (ae (ae (ae hT))))))))))))) (List.isEmpty_iff.mp (ag (ae (ae (ae (ae (ae (ae (ae (ae (ae (ae hT)))))))))))) (Option.isNone_iff_eq_none.mp (ag (ae (ae (ae (ae (ae (ae (ae (ae (ae hT))))))))))) (e6▸hdf) (of_decide_eq_true (ag (ae (ae (ae (ae (ae hT))))))) vs hl)
theorem BR{ps Γ:List Str}{f cd:Nat}{B:AS .B}(hT:nF p x ps Γ sp (λns U=>B.ok Γ ns)=true)(hb:(p.theDef x).map (λd=>d.2.1)=some B.tx)(hI:B.er=I)(ho:ir C.g f=iq p x .none cd)(hc:ix C.g cd=some x)(hsp:sp=true->cd=70/\x="_translate")(hΓ:ps.length<=Γ.length):
 dw C f ps.length Γ I:=by
 refine uO (jb hT ho hc) λbody fd DA h1 h2 h3 h4 U h5 h6=>?_
 rw[h6] at hb
 clear h6
 obtain rfl:=so hb
 refine⟨ps,fd,B,DA,rfl,hΓ,hI,h1,λvs hl s=>h5 rfl vs hl s,?_⟩
 rcases h2 with h2|h2
 ·refine aw (hsp h2) λq6 q7=>?_
  refine q6▸?_
  rw[<-q7]
  exact .inr ⟨h3,h4⟩
 ·exact .inl h2
noncomputable def bodyOf(n:Str):List Stmt:=((PW.theDef n).map λd=>d.2.1).getD []
def zA(I:List IS)(n:Str):AS .B:=rp (th 12) I (bodyOf n)
structure Told(x:Str)(ps Γ:List Str)(sp:Bool)(I:List IS):Prop where
 t:nF PW x ps Γ sp (λns U=>(zA I x).ok Γ ns)=true
 b:(PW.theDef x).map (λd=>d.2.1)=some (zA I x).tx
 e:(zA I x).er=I
theorem Ho:Told "_translate" ["pat","STAR","QUESTION_MARK"] AB true xw:=⟨by decide+kernel,by kernel_rfl,by kernel_rfl⟩
theorem Hn:Told "_join_translated_parts" ["inp","STAR"] AA false I78:=⟨by decide+kernel,by kernel_rfl,by kernel_rfl⟩
theorem Hm:Told "_byteswap" ["data","width"] Az false As:=⟨by decide+kernel,by kernel_rfl,by kernel_rfl⟩
theorem Hl:Told "_law_set" ["signs"] Ay false Ar:=⟨by decide+kernel,by kernel_rfl,by kernel_rfl⟩
theorem Hk:Told "_law_item" ["window","digits","radix","dress"] Ax false I95:=⟨by decide+kernel,by kernel_rfl,by kernel_rfl⟩
theorem FZ:Told "_law_pattern" ["window","sets","radices","dresses","star"] vo false vh:=⟨by decide+kernel,by kernel_rfl,by kernel_rfl⟩
theorem FY:Told "_law_sign" ["text","place"] rD false rA:=⟨by decide+kernel,by kernel_rfl,by kernel_rfl⟩
theorem FX:Told "_law_judge" ["text","place"] rC false rz:=⟨by decide+kernel,by kernel_rfl,by kernel_rfl⟩
theorem FW:Told "_law_read" ["text"] vn false vg:=⟨by decide+kernel,by kernel_rfl,by kernel_rfl⟩
theorem FV:Told "_law_fits" ["judges","signs"] vm false vf:=⟨by decide+kernel,by kernel_rfl,by kernel_rfl⟩
theorem FU:Told "_law_table" ["pattern","names"] vk false I131:=⟨by decide+kernel,by kernel_rfl,by kernel_rfl⟩
theorem FT:Told "_law_told" ["sets","radices"] vj false ve:=⟨by decide+kernel,by kernel_rfl,by kernel_rfl⟩
theorem FR:Told "_law_moved" ["octets","width"] vi false vd:=⟨by decide+kernel,by kernel_rfl,by kernel_rfl⟩
theorem FQ:Told "law" ["script"] zC false I148:=⟨by decide+kernel,by kernel_rfl,by kernel_rfl⟩
theorem yK{f:α->β}(h:o=some x)(e:o.map f=some y):f x=y:=so ((congrArg (Option.map f) h).symm.trans e)
theorem HB:∃(yes:List Stmt) (P:Nat->Pos),(PW.theDef "reduce").map (λd=>(d.2.1,d.2.2.names))=some ([.Assign [.Name "it" (P 0)] (.Call (.Name "iter" (P 1)) [.Name "sequence" (P 2)] [] (P 3)) (P 4),
 .If (.Compare (.Name "initial" (P 5)) [.Is] [.Name "_initial_missing" (P 6)] (P 7)) yes [.Assign [.Name "value" (P 8)] (.Name "initial" (P 9)) (P 10)] (P 11),
 .For (.Name "element" (P 12)) (.Name "it" (P 13)) [.Assign [.Name "value" (P 14)] (.Call (.Name "function" (P 15)) [.Name "value" (P 16),.Name "element" (P 17)] [] (P 18)) (P 19)] [] (P 20),
 .Return (some (.Name "value" (P 21))) (P 22)],cH):=
 (fT _ (λn=>[_,_,_,_,_,_,_,_,_,_,_,_,_,_,_,_,_,_,_,_,_,_,_].getD n default) rfl)
def trB:AS .B:=rp (th 12) kW (bodyOf "translate").tail
theorem Hz:∃p1 p2 p3 p4,(PW.theDef "translate").map (λd=>(d.2.1,d.2.2.names))=some (.Assign [.Name "STAR" p1] (.Call (.Name "object" p2) [] [] p3) p4::trB.tx,eU):=(GB _ _ _ _ rfl)
theorem b52e:trB.er=kW/\trB.ok kL eU=true:=⟨by kernel_rfl,by kernel_rfl⟩
theorem Hy:∃(els:List Stmt) (P:Nat->Pos),(PW.theDef "escape").map (λd=>(d.2.1,d.2.2.names))=some ([.If (.Call (.Name "isinstance" (P 0)) [.Name "pattern" (P 1),.Name "str" (P 2)] [] (P 3))
 [.Return (some (.Call (.Attribute (.Name "pattern" (P 4)) "translate" (P 5)) [.Name "_special_chars_map" (P 6)] [] (P 7))) (P 8)] els (P 9)],kz)/\((P 5).endLine==(P 7).line)=true:=
 (bu _ (λn=>[_,_,_,_,_,_,_,_,_,_].getD n default) rfl rfl)
theorem Hh:nF PW "reduce" ["function","sequence","initial"] eT false (λU U=>true)=true:=by decide+kernel
theorem Hg:nF PW "translate" ["pat"] kL false (λU U=>true)=true:=by decide+kernel
theorem Hf:nF PW "escape" ["pattern"] ["pattern"] false (λU U=>true)=true:=by decide+kernel
section
theorem Dx(G:Gd C)(GE:Aw C)(ho:ir C.g 64=iq PW "escape" .none 63)(hc:ix C.g 63=some "escape")(hd:qP ds=some d)(r:Room 1 A){mt:Addr->Prop}
 (ok:Ok C mt s) (rl:RepL X s.heap (λa=>a=66\/mt a) ds vs):wpAny (model C.prog C.w) A (call (.ref 64) vs) (bP C X mt s d) F0 s:=by
 refine av λGG kk=>uO (jb Hf ho hc) λbody fd DA U U U U U hb hdef=>bK Hy λels P e hline=>?_
 have e:=yK hdef e
 refine aw (Prod.mk.inj e) λe hn=>?_
 clear hdef
 subst e
 refine kk ?_;clear kk
 exact y9 G GE DA hn (λv s=>hb rfl [v] rfl s) (λhh hn hc F=>B0 G GE hh hn hc hline F) hd r ok rl
theorem EA(G:Gd C)(hob:C.mg "object"=none/\C.mb "object"=some (.type "object"))(ho:ir C.g 52=iq PW "translate" .none 51)(hc:ix C.g 51=some "translate")(hd:vD ds=some d)(r:Room 3 A)(L:jZ C H1 2){mt:Addr->Prop}
 (ok:Ok C mt s) (rl:RepL X s.heap (λa=>a=66\/mt a) ds vs):wpAny (model C.prog C.w) A (call (.ref 52) vs) (bP C X mt s d) F0 s:=by
 refine av λGG kk=>uO (jb Hg ho hc) λbody fd DA U U U U U hb hdef=>G1 Hz λp1 p2 p3 p4 e=>?_
 rw[hdef,Option.map_some,Option.some.injEq,Prod.mk.injEq] at e
 clear hdef
 obtain⟨rfl,hn⟩:=e
 refine kk ?_;clear kk
 exact AJ G hob DA hn b52e.1 b52e.2 (λv s=>hb rfl [v] rfl s) hd r L ok rl
theorem yx{T:Obj}{s:Shared}
 (x:(fd.params.posonlyargs.length,fd.params.args.map (·.arg),fd.params.vararg.isNone,fd.params.kwonlyargs.length,fd.params.kwarg.isNone)=(0,[("function":Str),"sequence","initial"],true,0,true)) (hdf:fd.defaults=.ref b)
 (hT:s.heap.get? b=some T) (hTd:T.data=.seq #[dv] n):BindsTo s fd ⟨[u,v,w],[]⟩ [("function",u),("sequence",v),("initial",w)]:=by
 have x1:=List.length_eq_zero_iff.mp (congrArg (·.1) x)
 have x2:fd.params.args.map (·.arg)=[("function":Str),"sequence","initial"]:=congrArg (·.2.1) x
 have x3:=Option.isNone_iff_eq_none.mp (congrArg (·.2.2.1) x)
 have x4:=List.length_eq_zero_iff.mp (congrArg (·.2.2.2.1) x)
 have x5:=Option.isNone_iff_eq_none.mp (congrArg (·.2.2.2.2) x)
 clear x
 induction fd with
 |mk fn fq fp fb fs fg fc fct fco fbi fdf=>
 cases fp with
 |mk po ar va kw kd kg df=>
 subst x1;subst x3;subst x4;subst x5;subst hdf
 intro M A E Q hq
 refine aj (aC ?_)
 refine aj (wpAny_seqItems hT hTd ?_)
 refine af (show ar.map (·.arg)=_ from x2)▸?_
 exact aC hq
theorem CX(G:Gd C)(G2:rB C X0)(ho:ir C.g 40=iq PW "reduce" (.ref 33) 39)(hc:ix C.g 39=some "reduce"){T:Obj}(hT:C.g.get? 33=some T)(hTd:T.data=.seq #[dv] n){ds:List D}(hd:tX ds=some d)(r:Room (m+1) A)(L:∀X A,Room m A->cA Cl C X K1 A){mt:Addr->Prop}
 (ok:Ok C mt s) (rl:RepL X s.heap (λa=>a=66\/mt a) ds vs):aG Cl (model C.prog C.w) A (call (.ref 40) vs) (bP C X mt s d) F0 s:=by
 refine av λGG kk=>uO (jb Hh ho hc) λbody fd DA U U U U hdf U hdef=>dU HB λyes P e=>?_
 have hpar:(PW.theDef "reduce").map (λd=>(d.1.posonlyargs.length,d.1.args.map (·.arg),d.1.vararg.isNone,d.1.kwonlyargs.length,d.1.kwarg.isNone))=some (0,[("function":Str),"sequence","initial"],true,0,true):=by decide+kernel
 have e:=yK hdef e
 refine aw (Prod.mk.inj e) λe hn=>?_
 subst e
 have hpar:=yK hdef hpar
 refine kk ?_;clear kk
 exact yw G G2 DA hn (λu v w s hk=>yx hpar hdf (hk _ _ hT) hTd) hd r L ok rl
end
end Internal
namespace Internal
open PyProof.Rows PySem.W
theorem wW(k:∀o,h.get? a=some o->h'.get? a=some o)(e:ir h a=some v):ir h' a=some v:=bi e λo ho e=>bo (k o ho) e
theorem xb(k:∀o,h.get? a=some o->h'.get? a=some o)(e:ix h a=some v):ix h' a=some v:=bi e λo ho e=>bo (k o ho) e
def sC:List (Pos×Str):=[(fL,Str.ofString "_translate.<locals>.<genexpr>"),(gJ,Str.ofString "_translate.<locals>.<lambda>")]
def FF(w:World)(s:Shared)(mg mb:Str->Option Value):Cx:=⟨PW,w,s.heap.hide 66,s.os,mg,mb,sC⟩
theorem ou:∀q∈fnL,(iq PW q.1 q.2.2.2 q.2.2.1).isSome=true:=by decide+kernel
theorem sU:∀q∈fnL,q.2.1≠66/\q.2.2.1≠66:=by decide+kernel
structure Gr(C:Cx):Prop where
 pr:C.prog=PW
 fn:∀q∈fnL,ir C.g q.2.1=iq PW q.1 q.2.2.2 q.2.2.1
 cd:∀q∈fnL,ix C.g q.2.2.1=some q.1
 nm:∀q∈mgN,C.mg q.1=q.2
 ob:∀q∈obL,q.1≠66->C.g.get? q.1=some q.2
 no66:C.g.get? 66=none
 ns:C.g.Ns mainGlobals C.mg
 nb:C.g.Ns builtinsNs C.mb
 lim:C.g.NoLimit
 bm:∃bm ob,BMod C.g mainGlobals C.mg bm ob
 mb:∀x:Str,x≠"__name__"->C.mb x=bootBuiltins x
 pl:C.places=sC
theorem E0{R:WRecords}{mg mb:Str->Option Value}(G:Ground q loose R XP w s₀ mg mb s₁.heap)(Y:m7 s₀=mP w)(emg:mg=s₀.heap.nsMap mainGlobals)
 (hk:∀b o,s₀.heap.get? b=some o->s₁.heap.get? b=some o):Gr (FF w s₁ mg mb):=by
 simp only[m7,mP,Prod.mk.injEq] at Y
 refine iw Y λU y1 y2 y3 y4=>?_
 rw[List.map_inj_left] at y1 y2 y3 y4
 have kk:∀b o,b≠66->s₀.heap.get? b=some o->(s₁.heap.hide 66).get? b=some o:=λb o n e=>by rw[Heap.hide_ne _ n];exact hk b o e
 have k1:∀b o,b≠66->s₁.heap.get? b=some o->(s₁.heap.hide 66).get? b=some o:=λb o n e=>by rw[Heap.hide_ne _ n];exact e
 have h66:s₁.heap.get? 66=some (W.tabObj #[]):=hk _ _ (y4 (66,W.tabObj #[]) (mem_of_lookupK rfl))
 have nsk:∀{a m},s₁.heap.Ns a m->(s₁.heap.hide 66).Ns a m:=λ{a m} h=>by
  refine h.at' λo e=>k1 a o (λq=>?_) e
  subst q
  refine qS h λo' es ep ho hd U=>?_
  replace ho:=h66.symm.trans ho;obtain rfl:=so ho;(injection hd;done)
 refine {pr:=rfl,fn:=λq hq=>?_,cd:=λq hq=>?_,nm:=λq hq=>?_,ob:=λq hq n=>kk _ _ n (y4 q hq),no66:=Heap.hide_self _ _,ns:=nsk G.T.g,nb:=nsk G.T.b,lim:=?_,bm:=?_,mb:=G.T.builtins,pl:=rfl}
 ·have:=y1 q hq
  induction hv:iq PW q.1 q.2.2.2 q.2.2.1 with
  |none=>have:=ou q hq;rw[hv] at this;(injection this;done)
  |some v=>
   rw[hv] at this
   exact wW (λo e=>kk _ o (sU q hq).1 e) this
 ·exact xb (λo e=>kk _ o (sU q hq).2 e) (y2 q hq)
 ·show mg q.1=q.2
  refine af emg▸?_;exact y3 q hq
 ·refine ai G.T.nolimit λmc h1 h2=>?_
  exact(am mc (nsk h1) h2)
 ·refine dU (bmod_of_top G.T) λbm ob hb=>?_
  refine⟨bm,ob,nsk G.T.g,hb.name,hb.ne,k1 _ _ (λq=>?_) hb.obj,hb.cls,hb.dict,hb.data⟩
  have:=hb.obj
  rw[q,h66] at this
  obtain rfl:=so this
  have:=hb.cls
  (injection this;done)
end Internal
namespace Internal
open PyProof.Rows
theorem BJ:∀q∈globs,(q.1,some (Value.ref q.2))∈mgN:=by decide+kernel
theorem BK:∀q∈globs,∃r∈fnL,r.2.1=q.2:=by decide+kernel
theorem DY:∀q∈bltin,(q.1,(none:Option Value))∈mgN/\q.1≠"__name__"/\bootBuiltins q.1=some (cY q.2):=by decide+kernel
theorem Co:∀q∈typs,(q.1,(none:Option Value))∈mgN/\q.1≠"__name__"/\bootBuiltins q.1=some (.type q.2):=by decide+kernel
section
theorem BP(g:Gr C)(hq:q∈fnL):∃o fd,C.g.get? q.2.1=some o/\o.data=.func fd:=by
 have:=g.fn q hq
 induction hv:iq PW q.1 q.2.2.2 q.2.2.1 with
 |none=>have h:=ou q hq;rw[hv] at h;(injection h;done)
 |some v=>
  rw[hv] at this
  refine bv (oy this) λo fd h1 h2 U=>(bu o fd h1 h2)
theorem Ac(g:Gr C):Gd C where
 ns:=g.ns
 nb:=g.nb
 lim:=g.lim
 glob:=λx f h=>by
  refine⟨g.nm _ (BJ _ (mem_of_lookup h)),?_⟩
  refine ai (BK _ (mem_of_lookup h)) λr hr e=>?_
  have:=BP g hr
  replace this:=e▸this
  exact this
 blt:=λx y h=>by
  obtain⟨h1,h2,h3⟩:=DY _ (mem_of_lookup h)
  exact⟨g.nm _ h1,(g.mb x h2).trans h3⟩
 typ:=λx y h=>by
  obtain⟨h1,h2,h3⟩:=Co _ (mem_of_lookup h)
  exact⟨g.nm _ h1,(g.mb x h2).trans h3⟩
theorem none_of{v:Value}(g:Gr C)(h1:(x,(none:Option Value))∈mgN)(h2:x≠"__name__")(h3:bootBuiltins x=some v):C.mg x=none/\C.mb x=some v:=⟨g.nm _ h1,(g.mb x h2).trans h3⟩
theorem Dr(g:Gr C):rB C 32 where
 iter:=none_of g (by decide+kernel) (by decide+kernel) (by decide+kernel)
 miss:=g.nm ("_initial_missing",some (.ref 32)) (by decide+kernel)
theorem Dp(g:Gr C):oZ C where
 name:=g.nm ("_twin_re_1",some (.ref 45)) (by decide+kernel)
 pat:=⟨(fT 300 335 (g.ob (45,C1) (W.mem_of_lookupK rfl) (by decide))),g.ob (44,_) (W.mem_of_lookupK rfl) (by decide)⟩
theorem Do(g:Gr C):g8 C where
 head:=⟨qZ,_,g.ob (70,qZ) (W.mem_of_lookupK rfl) (by decide),rfl,rfl,rfl,_,_,_,_,_,_,_,rfl,rfl,rfl,rfl,rfl⟩
 bmod:=g.bm
 no66:=g.no66
 pl:=g.pl
noncomputable def escEs:Array DictEntry:=match escO.data with
 | .dict es _=>es
 |_=> #[]
noncomputable def vI:Value->Option Int
 | .int i _=>some i
 |_=>none
theorem Ez{i:Int}(h:vI v=some i):∃t,v=.int i t:=by
 induction v with
 |int j t=>exact⟨t,congrArg (Value.int · t) (so h)⟩
 |_=>exact no h
theorem y8:∀e∈escEs.toList,((vI e.key).bind λi=>if e.hash==hashInt i then some () else none)=some ():=by decide+kernel
theorem qO:∀c:Nat,c<128->(if escs.contains c=true then (findBy Value.isInt escEs (c:Int)).bind Cm==some (⟨#[92,c]⟩:Str) else (findBy Value.isInt escEs (c:Int)).isNone)=true:=by decide+kernel
theorem Dq(g:Gr C):Aw C where
 name:=g.nm ("_special_chars_map",some (.ref 54)) (by decide+kernel)
 isin:=none_of g (by decide+kernel) (by decide+kernel) (by decide+kernel)
 str:=none_of g (by decide+kernel) (by decide+kernel) (by decide+kernel)
 tab:=by
  refine(am (findBy Value.isInt escEs) (yU escO escEs _ (g.ob (54,escO) (W.mem_of_lookupK rfl) (by decide)) ⟨rfl,rfl,rfl⟩ rfl (λe he=>?_) (λk=>rfl)) (λc hc=>?_))
  ·refine bi (y8 e (Array.mem_toList_iff.mpr he)) λi h1 h2=>aB (Ez h1) λt q=>?_
   refine⟨i,by rw[q];exact W.isInt_self i t,ifs h2 (λh U=>beq_iff_eq.mp h) λh=>no h⟩
  ·refine⟨λh=>?_,λh=>?_⟩
   ·have:=qO c hc
    rw[if_pos h] at this
    exact bi (beq_iff_eq.mp this) λv h1 h2=>aB (vr h2) λt e=>⟨t,h1.trans (congrArg some e)⟩
   ·have:=qO c hc
    rw[if_neg (by rw[h];exact Bool.false_ne_true)] at this
    exact Option.isNone_iff_eq_none.mp this
theorem Ds(g:Gr C):Er C:=by
 have G:=Ac g
 have fo:∀{x:Str} {f cd:Nat} {ps Γ:List Str} {sp:Bool} {I:List IS},(x,f,cd,Value.none)∈fnL->Told x ps Γ sp I->(sp=true->cd=70/\x="_translate")->ps.length<=Γ.length->dw C f ps.length Γ I:=
  λ{x f cd ps Γ sp I} hm ht hsp hl=>BR ht.t ht.b ht.e (g.fn _ hm) (g.cd _ hm) hsp hl
 exact {
  f71:=fo (by decide+kernel) Ho (λU=>⟨rfl,rfl⟩) (by decide)
  f78:=fo (cd:=77) (by decide+kernel) Hn (λh=>by(injection h;done)) (by decide)
  f90:=fo (cd:=89) (by decide+kernel) Hl (λh=>by(injection h;done)) (by decide)
  f95:=fo (cd:=94) (by decide+kernel) Hk (λh=>by(injection h;done)) (by decide)
  f100:=fo (cd:=99) (by decide+kernel) FZ (λh=>by(injection h;done)) (by decide)
  f107:=fo (cd:=106) (by decide+kernel) FY (λh=>by(injection h;done)) (by decide)
  f114:=fo (cd:=113) (by decide+kernel) FX (λh=>by(injection h;done)) (by decide)
  f121:=fo (cd:=120) (by decide+kernel) FW (λh=>by(injection h;done)) (by decide)
  f126:=fo (cd:=125) (by decide+kernel) FV (λh=>by(injection h;done)) (by decide)
  f131:=fo (cd:=130) (by decide+kernel) FU (λh=>by(injection h;done)) (by decide)
  f136:=fo (cd:=135) (by decide+kernel) FT (λh=>by(injection h;done)) (by decide)
  f85:=fo (cd:=84) (by decide+kernel) Hm (λh=>by(injection h;done)) (by decide)
  f143:=fo (cd:=142) (by decide+kernel) FR (λh=>by(injection h;done)) (by decide)
  f148:=fo (cd:=147) (by decide+kernel) FQ (λh=>by(injection h;done)) (by decide)
  esc:=λX A ds d h r mt s vs ok rl=>Dx G (Dq g) (g.fn ("escape",64,63,.none) (by decide+kernel)) (g.cd ("escape",64,63,.none) (by decide+kernel)) h r ok rl
  tr:=λX A ds d h r L mt s vs ok rl=>EA G (none_of g (by decide+kernel) (by decide+kernel) (by decide+kernel)) (g.fn ("translate",52,51,.none) (by decide+kernel)) (g.cd ("translate",52,51,.none) (by decide+kernel)) h r L ok rl
  red:=λX A m ds d h r L mt s vs ok rl=>CX G (Dr g) (g.fn ("reduce",40,39,.ref 33) (by decide+kernel)) (g.cd ("reduce",40,39,.ref 33) (by decide+kernel)) (g.ob (33,{cls:=.type "tuple",data:=.seq #[.ref 32]}) (W.mem_of_lookupK rfl) (by decide)) rfl h r L ok rl}
end
end Internal
namespace Internal
open PyProof.Rows PySem.W
theorem wK{R:WRecords}:∀(ns:List Int) (s:Shared) (r:List Value×Shared),layAllW R cl P ord (ofPys (ns.map PyData.int)) s=some r->s.toks<=r.2.toks:=λns=>by
 induction ns with
 |nil=>
  intro s r e
  refine(so e)▸?_;exact Nat.le_refl _
 |cons n ns ih=>
  intro s r e
  simp only[List.map_cons,ofPys,ofPy,layAllW,layW] at e
  induction q:layAllW R cl P ord (ofPys (List.map PyData.int ns)) {s with toks:=s.toks+1} with
  |none=>rw[q] at e;exact no e
  |some r'=>
   rw[q] at e
   rw[<-so e]
   exact Nat.le_of_succ_le (ih {s with toks:=s.toks+1} r' q)
theorem wA{R:WRecords}{ns:List Int}(L:Laid R w s₀ s₁ [ofPy (PyData.list (ns.map PyData.int))] [.ref a] as):s₀.toks<=s₁.toks:=by
 refine ai L.laid λord U e=>?_
 simp only[ofPy,layAllW,layW] at e
 induction q:layAllW R (classAt s₀.heap) w.params ord (ofPys (List.map PyData.int ns)) s₀ with
 |none=>rw[q] at e;exact no e
 |some r=>
  rw[q] at e
  simp only[Option.some.injEq,Prod.mk.injEq] at e
  rw[<-e.2]
  exact(wK ns s₀ r q)
theorem n4:∀{vs:List Value} {ns:List Int},IntsAre vs ns->RepL X h Av (ns.map .int) vs
 |_,_,.nil=>RepL.nil
 |_,_,.cons n t r=>RepL.cons (show Rep X h Av (.int n) (.int n t) from⟨t,rfl⟩) (n4 r)
theorem AD{R:WRecords}{mg mb:Str->Option Value}(G:Ground q loose R XP w s₀ mg mb s₁.heap)(Y:m7 s₀=mP w)(emg:mg=s₀.heap.nsMap mainGlobals)
 (hk:∀b o,s₀.heap.get? b=some o->s₁.heap.get? b=some o) (hg:s₁.gens= #[]) {as:List Addr} (hlist:s₁.heap.IsList a vs.toArray) (hI:IntsAre vs ns) (hL:Laid R w s₀ s₁ [ofPy (PyData.list (ns.map PyData.int))] [.ref a] as)
 (hn:ns.length<=63) (hlaw:yO ns=some (.bool true)) {args:List WData} (hr:∀cls,c.raises args cls=false) (hp:c.post args (.bool true) args=true):
 ∃f,mg (Str.ofString "law")=some f/\aG Cl (model PW w) callerA (call f [.ref a]) (λv s'=>GoodWG c cl mean args s₁ (.ok (.ret v)) s') (λe s'=>GoodWG c cl mean args s₁ (.error e) s') s₁:=by
 have g:=E0 G Y emg hk
 refine(am (.ref 148) (g.nm ("law",some (.ref 148)) (by decide+kernel)) ?_)
 simp only[m7,mP,Prod.mk.injEq,decide_eq_true_eq] at Y
 refine iw Y λhtk U U U y4=>?_
 rw[List.map_inj_left] at y4
 have h66:s₁.heap.get? 66=some (W.tabObj #[]):=hk _ _ (y4 (66,W.tabObj #[]) (mem_of_lookupK rfl))
 have ok:Ok (FF w s₁ mg mb) (λU=>False) s₁:={
  gk:=λb o e=>Heap.of_hide e
  tb:=(bc (#[]) h66 trivial (λq U=>.inl rfl))
  bare:=λx hx=>by rw[hg] at hx;simp at hx
  os:=rfl
  tk:=aA htk (wA hL)
  mtx:=λU h=>h.elim}
 have ha66:a≠66:=λq=>by
  refine aZ hlist λo ho hc U=>?_
  rw[q,h66] at ho
  obtain rfl:=so ho;(injection hc;done)
 refine aF (Dd (Ac g) (Do g) (Dp g) (Ds g) ⟨rfl,by decide+kernel,by decide+kernel⟩ hlaw ok (show RepL 0 s₁.heap (λa=>a=66\/False) [.raw (ns.map .int)] [.ref a] from RepL.cons (dD a vs rfl hlist (λh=>h.elim ha66 id) (by rw[aV];exact aA ‹_› (by decide)) (n4 hI)) RepL.nil)) (λv s' h=>?_) λU U x=>x.elim
 obtain⟨kp,ok',rv⟩:=h
 have rv':v=.bool true:=rv
 refine rv'▸?_
 refine(lu (.inl (yU _ (.bool true) ([]) rfl hr (.bool true) hp (λU=>⟨List.nodup_nil,λb hb=>nomatch hb⟩))) ⟨λb o e=>?_,λb o e=>?_⟩ ok'.os ok'.bare)
 ·by_cases hb:b=66
  ·subst hb
   rw[h66] at e;refine(so e)▸?_
   refine ai ok'.tb λps e' U=>.inr (.inl ⟨(uF 70 qZ _ (hk _ _ (y4 (70,qZ) (mem_of_lookupK rfl))) rfl rfl rfl),rfl,#[],ps,rfl,by rw[e',Array.empty_append]⟩)
  ·exact .inl (kp.keep b o hb e)
 ·by_cases hb:b=66
  ·subst hb
   refine ai ok'.tb λps e' U=>⟨_,e'⟩
  ·exact⟨o,kp.keep b o hb e⟩
theorem Bo(ns:List Int):PySem.Challenge.rw_rx0006_01.row.claim.post [ofPy (PyData.list (List.map PyData.int ns))] (WData.bool true) [ofPy (PyData.list (List.map PyData.int ns))]=true:=by
 with_unfolding_all rfl
end Internal
namespace Internal
inductive DS where
 |c (d:D)
 |off (d:Nat)
 |pat
 |len
 |tup (ds:List DS)
 deriving Inhabited
inductive SS where
 |un
 |sh (d:DS)
 |ow (ds:List D)
 |owp (ds:List D)
 |ap3
 |jk (i:Nat)
 deriving Inhabited
noncomputable abbrev RS:=List SS
mutual
noncomputable def DS.get:DS->Option D
 | .c d=>some d
 | .tup ds=>(DS.getL ds).map .tuple
 |_=>none
noncomputable def DS.getL:List DS->Option (List D)
 |[]=>some []
 |d::r=>(DS.get d).bind λx=>(DS.getL r).map (x:: ·)
end
mutual
noncomputable def DS.val(pre t post:List Nat):DS->D
 | .c d=>d
 | .off d=>.int ((pre.length+d:Nat):Int)
 | .pat=>.str (pre++t++post)
 | .len=>.int ((pre.length+t.length+post.length:Nat):Int)
 | .tup ds=>.tuple (DS.valL pre t post ds)
noncomputable def DS.valL(pre t post:List Nat):List DS->List D
 |[]=>[]
 |d::r=>DS.val pre t post d::DS.valL pre t post r
end
structure Bs where
 b:List D
 j:Nat->Sl
 hj:∀i k,(j i).kill k=j i
noncomputable def Bs.nil:Bs:=⟨[],λU=>.un,λU U=>rfl⟩
noncomputable def SS.val(pre t post:List Nat)(base:Bs):SS->Sl
 | .un=>.un
 | .sh d=>.sh (d.val pre t post)
 | .ow ds=>.ow ds
 | .owp ds=>.ow (base.b++ds)
 | .ap3=>.ap 3
 | .jk i=>base.j i
noncomputable abbrev fO:=Nat->List DS->Option DS
noncomputable def SS.view(pk:Bool):SS->Option DS
 | .sh d=>some d
 | .ow ds=>if pk then some (.c (.list ds)) else none
 |_=>none
noncomputable def u6(d:Nat)(i:Int):Option DS:=if 0<=(d:Int)+i then some (.off ((d:Int)+i).toNat) else none
noncomputable def fR:RS->Nat->Option SS
 |[],_=>none
 |s::_,0=>some s
 |_::r,k+1=>fR r k
theorem m8:∀(ρ:RS) (k:Nat),fR ρ k=ρ[k]?
 |[],_=>rfl
 |s::_,0=>rfl
 |_::r,k+1=>m8 r k
noncomputable def Ag:List Nat->List Nat->Bool
 |[],b=>b.isEmpty
 |a::r,l=>match l with
  |[]=>false
  |b::q=>Nat.beq a b&&Ag r q
theorem w3:∀a b:List Nat,Ag a b=(a==b)
 |[],[]=>rfl
 |[],_::_=>rfl
 |_::_,[]=>rfl
 |a::r,b::q=>by
  show(Nat.beq a b&&Ag r q)=(a==b&&r==q)
  simp only[(show Nat.beq a b=(a==b) from by rw[Bool.eq_iff_iff,Nat.beq_eq,beq_iff_eq]),w3 r q]
noncomputable def D3(op:Operator):DS->DS->Option DS
 | .off d,.c (.int i)=>match op with
   | .Add=>u6 d i
   | .Sub=>u6 d (-i)
   |_=>none
 |x,y=>x.get.bind λa=>y.get.bind λb=>(nP op a b).map .c
def genS(op:CmpOp)(x y:DS):Option Bool:=x.get.bind λa=>y.get.bind λb=>cN op a b
noncomputable def DR:DS->DS->Option Bool
 | .c (.str a),.c (.str b)=>some (Ag a b)
 | .off d,.off e=>some (Nat.beq d e)
 |x,y=>genS .Eq x y
noncomputable def FG(n:Nat):DS->DS->Option Bool
 | .off d,.off e=>some (Nat.blt d e)
 | .off d,.len=>if Nat.blt d n then some true else none
 | .off _,.c (.int 0)=>some false
 |x,y=>genS .Lt x y
noncomputable def FH(n:Nat):DS->DS->Option Bool
 | .off d,.off e=>some (Nat.ble e d)
 | .off d,.len=>if Nat.blt d n then some false else none
 |x,y=>genS .GtE x y
def DM(n:Nat)(op:CmpOp)(x y:DS):Option Bool:=match op with
 | .Eq=>DR x y
 | .NotEq=>(DR x y).map (!·)
 | .Lt=>FG n x y
 | .GtE=>FH n x y
 |op=>genS op x y
def fF(x:DS):Option Bool:=x.get.bind aE
mutual
theorem DS.get_val(pre t post:List Nat):∀(x:DS) {a:D},x.get=some a->x.val pre t post=a
 | .c _,_,h=>so h
 | .tup ds,_,h=>mi h λU h1 h2=>(congrArg D.tuple (DS.getL_val pre t post ds h1)).trans h2
 | .off _,_,h| .pat,_,h| .len,_,h=>no h
theorem DS.getL_val(pre t post:List Nat):∀(xs:List DS) {l:List D},DS.getL xs=some l->DS.valL pre t post xs=l
 |[],_,h=>so h
 |x::r,_,h=>bi h λU h1 h=>mi h λU h2 h3=>by
  rw[<-h3,<-DS.get_val pre t post x h1,<-DS.getL_val pre t post r h2];rfl
end
theorem da{x y:DS}{f:D->D->Option α}(h:(x.get.bind λa=>y.get.bind λb=>f a b)=some z):f (x.val pre t post) (y.val pre t post)=some z:=by
 refine bi h λa h1 h=>bi h λb h2 h=>af (x.get_val pre t post h1)▸?_;refine af (y.get_val pre t post h2)▸?_;exact h
theorem qz{x y z:DS}{f:D->D->Option D}(h:(x.get.bind λa=>y.get.bind λb=>(f a b).map .c)=some z):f (x.val pre t post) (y.val pre t post)=some (z.val pre t post):=by
 refine bi h λa h1 h=>bi h λb h2 h=>mi h λr h3 h4=>af (x.get_val pre t post h1)▸?_;refine af (y.get_val pre t post h2)▸?_;refine h4▸?_;exact h3
section
theorem nR(h:u6 d i=some z):z.val pre t post=.int ((pre.length+d:Nat)+i):=by
 refine cd h λhi h=>(so h)▸?_
 exact congrArg D.int ((congrArg (λx:Int=>(pre.length:Int)+x) (Int.toNat_of_nonneg hi)).trans (Int.add_assoc ..).symm)
theorem Cc{x y z:DS}(h:D3 op x y=some z):nP op (x.val pre t post) (y.val pre t post)=some (z.val pre t post):=by
 cases x with
 |off d=>
  cases y with
  |c y=>
   cases y with
   |int i=>
    induction op with
    |Add=>rw[nR h];rfl
    |Sub=>rw[nR h];exact congrArg (λi=>some (D.int i)) Int.sub_eq_add_neg
    |_=>exact no h
   |_=>exact qz h
  |_=>exact qz h
 |_=>exact qz h
theorem iD{x y:DS}{b:Bool}(h:genS .Eq x y=some b):oG (x.val pre t post) (y.val pre t post)=some b:=da (f:=cN .Eq) h
theorem xf{b:Bool}(h:DR x y=some b):oG (x.val pre t post) (y.val pre t post)=some b:=by
 cases x with
 |c x=>
  cases x with
  |str a=>
   cases y with
   |c y=>
    cases y with
    |str b=>simp only[<-so h,w3];rfl
    |_=>exact iD h
   |_=>exact iD h
  |_=>exact iD h
 |off d=>
  cases y with
  |off e=>
   rw[<-so h]
   refine congrArg some ?_
   rw[Bool.eq_iff_iff,beq_iff_eq,Nat.beq_eq];exact Int.ofNat_inj.trans (Nat.add_left_cancel_iff)
  |_=>exact iD h
 |_=>exact iD h
theorem DP(h:FG t.length x y=some b):cN .Lt (x.val pre t post) (y.val pre t post)=some b:=by
 cases x with
 |off d=>
  cases y with
  |off e=>
   refine(so h)▸?_
   refine congrArg some ?_
   rw[Bool.eq_iff_iff,decide_eq_true_eq,Nat.blt_eq];exact Int.ofNat_lt.trans (Nat.add_lt_add_iff_left)
  |len=>
   refine cd h λhd h=>(so h)▸?_
   exact congrArg some (decide_eq_true (Int.ofNat_lt.mpr (Nat.lt_of_lt_of_le (Nat.add_lt_add_left (Nat.blt_eq.mp hd) _) (Nat.le_add_right _ _))))
  |c y=>
   cases y with
   |int i=>
    induction i with
    |ofNat i=>
     induction i with
     |zero=>
      refine(so h)▸?_
      exact congrArg some (decide_eq_false (Int.not_lt.mpr (Int.natCast_nonneg _)))
     |_=>exact da h
    |_=>exact da h
   |_=>exact da h
  |_=>exact da h
 |_=>exact da h
theorem DQ(h:FH t.length x y=some b):cN .GtE (x.val pre t post) (y.val pre t post)=some b:=by
 cases x with
 |off d=>
  cases y with
  |off e=>
   refine(so h)▸?_
   refine congrArg some ?_
   rw[Bool.eq_iff_iff,decide_eq_true_eq,Nat.ble_eq];exact Int.ofNat_le.trans (Nat.add_le_add_iff_left)
  |len=>
   refine cd h λhd h=>(so h)▸?_
   exact congrArg some (decide_eq_false (Int.not_le.mpr (Int.ofNat_lt.mpr (Nat.lt_of_lt_of_le (Nat.add_lt_add_left (Nat.blt_eq.mp hd) _) (Nat.le_add_right _ _)))))
  |_=>exact da h
 |_=>exact da h
theorem B5(h:DM t.length op x y=some b):cN op (x.val pre t post) (y.val pre t post)=some b:=by
 induction op with
 |Eq=>exact xf h
 |NotEq=>
  refine mi h λu h1 h2=>?_
  show(oG _ _).map _=_
  refine af (xf h1)▸?_;exact congrArg some h2
 |Lt=>exact DP h
 |GtE=>exact DQ h
 |_=>exact da h
end
noncomputable def Ct(t:List Nat):DS->DS->Option DS
 | .pat,.off d=>(t[d]?).map λc=>.c (.str [c])
 |x,y=>x.get.bind λa=>y.get.bind λb=>(eJ a b).map .c
def v5(t:List Nat)(x lo hi:DS):Option DS:=match x,lo,hi with
 | .pat,.off a,.off b=>if a<=t.length/\b<=t.length then some (.c (.str (cut t a b))) else none
 |x,lo,hi=>x.get.bind λa=>lo.get.bind λb=>hi.get.bind λc=>(bI a b c).map .c
noncomputable def DS.cD:DS->Option D
 | .c d=>some d
 |_=>none
noncomputable def DS.patU:DS->Option Unit
 | .pat=>some ()
 |_=>none
noncomputable def DS.offN:DS->Option Nat
 | .off n=>some n
 |_=>none
theorem DS.cD_eq{x:DS}{d}(h:x.cD=some d):x=.c d:=by
 cases x with
 |c=>exact congrArg _ (so h)
 |_=>exact no h
theorem DS.patU_eq{x:DS}{d}(h:x.patU=some d):x=.pat:=by
 cases x with
 |pat=>rfl
 |_=>exact no h
theorem DS.offN_eq{x:DS}{d}(h:x.offN=some d):x=.off d:=by
 cases x with
 |off=>exact congrArg _ (so h)
 |_=>exact no h
def findS(t:List Nat)(x:DS)(args:List DS):Option DS:=x.patU.bind λU=>(uo args).bind λp=>p.1.cD.bind λd=>d.gS.bind λcs=>(dq cs).bind λc=>p.2.1.offN.bind λlo=>p.2.2.offN.bind λhi=>
 if lo<=t.length+8/\hi<=t.length then some (if aP c t 0 lo hi= -1 then .c (.int (-1)) else .off (aP c t 0 lo hi).toNat) else none
section
theorem AR(h:Ct t x y=some z):eJ (x.val pre t post) (y.val pre t post)=some (z.val pre t post):=by
 cases x with
 |pat=>
  cases y with
  |off d=>
   refine mi h λc h1 h2=>?_
   have:(pre++t++post)[pre.length+d]? =some c:=by
    rw[List.append_assoc,List.getElem?_append_right (Nat.le_add_right _ _),Nat.add_sub_cancel_left,List.getElem?_append_left ((List.getElem?_eq_some_iff.mp h1).1),h1]
   refine h2▸?_
   exact congrArg (Option.map λc=>D.str [c]) this
  |_=>exact qz h
 |_=>exact qz h
theorem B3(ha:a<=t.length)(hb:b<=t.length):cut (pre++t++post) (pre.length+a) (pre.length+b)=cut t a b:=by
 unfold cut
 simp only[List.append_assoc,List.take_append,List.take_of_length_le (Nat.le_add_right _ _),Nat.add_sub_cancel_left,List.drop_append,List.drop_eq_nil_of_le (Nat.le_add_right _ _),Nat.add_sub_cancel_left,List.nil_append,List.take_append_of_le_length hb]
theorem v4{x lo hi z:DS}(h:v5 t x lo hi=some z):bI (x.val pre t post) (lo.val pre t post) (hi.val pre t post)=some (z.val pre t post):=by
 have g:((x.get.bind λa=>lo.get.bind λb=>hi.get.bind λc=>(bI a b c).map .c)=some z)->bI (x.val pre t post) (lo.val pre t post) (hi.val pre t post)=some (z.val pre t post):=λh=>by
  refine bi h λa h1 h=>bi h λb h2 h=>bi h λc h3 h=>mi h λr h4 h5=>af (DS.get_val pre t post _ h1)▸?_;refine af (DS.get_val pre t post _ h2)▸?_;refine af (DS.get_val pre t post _ h3)▸?_;refine h5▸?_;exact h4
 cases x with
 |pat=>
  cases lo with
  |off a=>
   cases hi with
   |off b=>
    refine cd h λhab h=>?_
    refine(so h)▸?_
    have e:∀{k},k<=t.length->min (pre.length+k) (pre++t++post).length=pre.length+k:=λ{k} h=>Nat.min_eq_left (by simp;exact ln [_,_,_] [(1,.v 0,.v 1)] (.v 0) (.a (.v 1) (.v 2)) 1 rfl h)
    have l:∀{k},k<=t.length->dR (pre++t++post).length (.int ((pre.length+k:Nat):Int))=some (pre.length+k):=λh=>congrArg some (e h)
    show((dR (pre++t++post).length (.int ((pre.length+a:Nat):Int))).bind λx=>(dS (pre++t++post).length (.int ((pre.length+b:Nat):Int))).map λy=>D.str (cut (pre++t++post) x y))=_
    refine af (l hab.1)▸?_;refine af ((show∀{k},k<=t.length->dS (pre++t++post).length (.int ((pre.length+k:Nat):Int))=some (pre.length+k) from λh=>congrArg some (e h)) hab.2)▸?_
    exact congrArg (λl=>some (D.str l)) (B3 hab.1 hab.2)
   |_=>exact g h
  |_=>exact g h
 |_=>exact g h
end
theorem Fx{n:Nat}{i:Int}(h:0<=i):dR n (.int i)=some (min i.toNat n):=by
 show(if 0<=i then some (min i.toNat n) else some (n-(-i).toNat))=_
 exact if_pos h
theorem FA{n:Nat}{i:Int}(h:0<=i):dS n (.int i)=some (min i.toNat n):=by
 show(if 0<=i then some (min i.toNat n) else some (n-(-i).toNat))=_
 exact if_pos h
theorem CG(l:List Nat)(x y:D):bI (.bytes l) x y=(dR l.length x).bind λa=>(dS l.length y).map λb=>.bytes (cut l a b):=rfl
theorem lU(l:List Nat)(x y:D):bI (.str l) x y=(dR l.length x).bind λa=>(dS l.length y).map λb=>.str (cut l a b):=rfl
theorem jA(l:List D)(x y:D):bI (.list l) x y=(dR l.length x).bind λa=>(dS l.length y).map λb=>.list (cut l a b):=rfl
theorem CH(l:List D)(x y:D):bI (.raw l) x y=(dR l.length x).bind λa=>(dS l.length y).map λb=>.list (cut l a b):=rfl
theorem sJ(n:Nat):dR n .none=some 0:=rfl
theorem qx(n:Nat):dS n .none=some n:=rfl
theorem qs(n:Nat)(i:Int):dR n (.int i)=if 0<=i then some (min i.toNat n) else some (n-(-i).toNat):=rfl
theorem sP(n:Nat)(i:Int):dS n (.int i)=if 0<=i then some (min i.toNat n) else some (n-(-i).toNat):=rfl
theorem bB(b:Bool):aE (.bool b)=some b:=rfl
theorem i8(c x:Nat)(r:List Nat)(i lo hi:Nat):aP c (x::r) i lo hi=if lo<=i/\i<hi/\x=c then (i:Int) else aP c r (i+1) lo hi:=rfl
theorem oC(c:Nat):∀(l:List Nat) (i lo hi:Nat),hi<=i->aP c l i lo hi= -1
 |[],_,_,_,_=>rfl
 |x::r,i,lo,hi,h=>by
  rw[i8,if_neg λq=>Nat.lt_irrefl _ (Nat.lt_of_lt_of_le q.2.1 h)]
  exact oC c r (i+1) lo hi (Nat.le_add_right_of_le h)
theorem qG(c:Nat):∀(pre l:List Nat) (i lo hi:Nat),i+pre.length<=lo->aP c (pre++l) i lo hi=aP c l (i+pre.length) lo hi
 |[],l,i,lo,hi,_=>by rfl
 |x::r,l,i,lo,hi,h=>by
  rw[List.cons_append,i8,List.length_cons,if_neg λq=>Nat.lt_irrefl _ (Nat.lt_of_lt_of_le (Nat.lt_of_lt_of_le (Nat.lt_add_of_pos_right (Nat.succ_pos r.length)) h) q.1),qG c r l (i+1) lo hi (ln [_,_,_] [(1,.a (.v 0) (.a (.v 1) (.k 1)),.v 2)] (.a (.a (.v 0) (.k 1)) (.v 1)) (.v 2) 1 rfl h),show i+1+r.length=i+(r.length+1) by exact Nat.succ_add_eq_add_succ i r.length]
theorem oB(c:Nat):∀(t post:List Nat) (i lo hi:Nat),hi<=i+t.length->aP c (t++post) i lo hi=aP c t i lo hi
 |[],post,i,lo,hi,h=>by simp only[List.nil_append,oC c post i lo hi (by simpa using h)];rfl
 |x::r,post,i,lo,hi,h=>by
  rw[List.cons_append,i8,i8,oB c r post (i+1) lo hi (ln [_,_,_] [(1,.v 0,.a (.v 1) (.a (.v 2) (.k 1)))] (.v 0) (.a (.a (.v 1) (.k 1)) (.v 2)) 1 rfl h)]
theorem mu(c p:Nat):∀(t:List Nat) (i lo hi:Nat),aP c t (i+p) (lo+p) (hi+p)=if aP c t i lo hi= -1 then-1 else aP c t i lo hi+p
 |[],i,lo,hi=>by rfl
 |x::r,i,lo,hi=>by
  have e1:=i8 c x r i lo hi
  have e2:=i8 c x r (i+p) (lo+p) (hi+p)
  by_cases h:lo<=i/\i<hi/\x=c
  ·rw[if_pos h] at e1
   rw[if_pos (⟨ln [_,_,_] [(1,.v 0,.v 1)] (.a (.v 0) (.v 2)) (.a (.v 1) (.v 2)) 1 rfl h.1,⟨ln [_,_,_] [(1,.a (.v 0) (.k 1),.v 1)] (.a (.a (.v 0) (.v 2)) (.k 1)) (.a (.v 1) (.v 2)) 1 rfl h.2.1,Nat.le_antisymm ((Nat.le_of_eq h.2.2)) ((Nat.le_of_eq h.2.2.symm))⟩⟩)] at e2
   rw[e2,e1,if_neg (PyProof.Rows.bi_ine.mp rfl)];rfl
  ·rw[if_neg h] at e1
   rw[if_neg λq=>h (a6 (Nat.le_of_add_le_add_right q.1) (Nat.lt_of_add_lt_add_right q.2.1) q.2.2),show i+p+1=i+1+p by exact Nat.add_right_comm i p 1,mu c p r (i+1) lo hi] at e2
   rw[e2,e1]
theorem mv(c:Nat):∀(t:List Nat) (i lo hi:Nat),aP c t i lo hi= -1\/0<=aP c t i lo hi
 |[],_,_,_=>.inl rfl
 |x::r,i,lo,hi=>by
  rw[i8]
  split
  ·right;exact Int.natCast_nonneg _
  ·exact mv c r (i+1) lo hi
theorem t7(cs:List Nat)(c:Nat)(i j:Int):d8 "find" (.str cs) [.str [c],.int i,.int j]=if 0<=i/\0<=j/\i<2^20/\j<2^20 then some (.int (aP c cs 0 i.toNat j.toNat)) else none:=rfl
theorem w0{c lo hi:Nat}(hlen:pre.length+t.length+8<2^20)(hh:lo<=t.length+8/\hi<=t.length):d8 "find" (.str (pre++t++post)) [.str [c],.int ((pre.length+lo:Nat):Int),.int ((pre.length+hi:Nat):Int)]=
 some (DS.val pre t post (if aP c t 0 lo hi= -1 then .c (.int (-1)) else .off (aP c t 0 lo hi).toNat)):=by
 have e:aP c (pre++t++post) 0 (pre.length+lo) (pre.length+hi)=if aP c t 0 lo hi= -1 then-1 else aP c t 0 lo hi+pre.length:=by
  rw[List.append_assoc,qG c pre (t++post) 0 _ _ (by simp),oB c t post _ _ _ (by exact ln [_,_,_] [(1,.v 0,.v 1)] (.a (.v 2) (.v 0)) (.a (.a (.k 0) (.v 2)) (.v 1)) 1 rfl hh.2)]
  have:=mu c pre.length t 0 lo hi
  rw[Nat.add_comm lo,Nat.add_comm hi] at this
  exact this
 refine(t7 _ _ _ _).trans ((if_pos (lu (Int.natCast_nonneg _) (Int.natCast_nonneg _) ((show∀{k},k<=t.length+8->((pre.length+k:Nat):Int)<2^20 from λh=>Int.ofNat_lt.mpr (Nat.lt_of_le_of_lt (Nat.add_le_add_left h _) hlen)) hh.1) ((show∀{k},k<=t.length+8->((pre.length+k:Nat):Int)<2^20 from λh=>Int.ofNat_lt.mpr (Nat.lt_of_le_of_lt (Nat.add_le_add_left h _) hlen)) (aA hh.2 (Nat.le_add_right _ _))))).trans ?_)
 refine congrArg some ((congrArg D.int e).trans ?_)
 rcases mv c t 0 lo hi with hr|hr
 ·rw[if_pos hr,if_pos hr];rfl
 ·rw[if_neg (Ne.symm (Int.ne_of_lt hr)),if_neg (Ne.symm (Int.ne_of_lt hr))]
  exact congrArg D.int ((Int.add_comm _ _).trans (congrArg (λx:Int=>(pre.length:Int)+x) (Int.toNat_of_nonneg hr).symm))
theorem y0(hlen:pre.length+t.length+8<2^20)(h:findS t x args=some z):d8 "find" (x.val pre t post) (DS.valL pre t post args)=some (z.val pre t post):=by
 refine av λGG kk=>bi h λu h1 h=>bi h λp h2 h=>bi h λd h3 h=>bi h λcs h4 h=>bi h λc h5 h=>bi h λlo h6 h=>bi h λhi h7 h=>cd h λhh h=>kk ?_;clear kk
 refine af (DS.patU_eq h1)▸?_;refine af (ni h2)▸?_;refine af (DS.cD_eq h3)▸?_;refine af (D.gS_eq h4)▸?_;refine af (cI h5)▸?_;refine af (DS.offN_eq h6)▸?_;refine af (DS.offN_eq h7)▸?_;refine(so h)▸?_
 exact w0 hlen hh
noncomputable def jR(ρ:RS):IE->Option DS->Option DS
 | .var k,_=>(fR ρ k).bind (SS.view true)
 |_,o=>o
abbrev EF:=Bool->RS->Option DS
noncomputable def DS.tupL:DS->Option (List DS)
 | .tup ds=>some ds
 |_=>none
theorem DS.tupL_eq:∀{x:DS} {ds},x.tupL=some ds->x=.tup ds
 | .tup _,_,h=>by refine(so h)▸?_;rfl
 | .c _,_,h| .off _,_,h| .pat,_,h| .len,_,h=>no h
noncomputable def DS.consS(x:DS):DS->Option DS
 | .tup ds=>some (.tup (x::ds))
 |_=>none
noncomputable def DS.negS:DS->Option DS
 | .c (.int i)=>some (.c (.int (-i)))
 |_=>none
noncomputable def Gj(u:Bool):DS:=.c (.bool (!u))
noncomputable def Fe(u:Bool):DS:=.c (.bool u)
def GL(k:Nat):EF:=λpk ρ=>(fR ρ k).bind (SS.view pk)
def GU(op:Operator)(a b:IE)(fa fb:EF):EF:=λpk ρ=>(jR ρ a (fa pk ρ)).bind λx=>(jR ρ b (fb pk ρ)).bind λy=>D3 op x y
def GQ(fa:EF):EF:=λU ρ=>(fa true ρ).bind DS.negS
def GO(fa:EF):EF:=λU ρ=>(fa true ρ).bind λx=>(fF x).map Gj
def GV(fa fb:EF):EF:=λpk ρ=>(fa pk ρ).bind λx=>(fF x).bind λu=>if u then fb pk ρ else some x
def Hv(fa fb:EF):EF:=λpk ρ=>(fa pk ρ).bind λx=>(fF x).bind λu=>if u then some x else fb pk ρ
def GS(n:Nat)(op:CmpOp)(fa fb:EF):EF:=λU ρ=>(fa true ρ).bind λx=>(fb true ρ).bind λy=>(DM n op x y).map Fe
def GR(fq fa fb:EF):EF:=λpk ρ=>(fq true ρ).bind λx=>(fF x).bind λu=>if u then fa pk ρ else fb pk ρ
def E8(t:List Nat)(m:String)(fo fa:EF):EF:=λU ρ=>if m="find" then (fo true ρ).bind λx=>(fa true ρ).bind λy=>y.tupL.bind λds=>findS t x ds else none
def E9(fa fr:EF):EF:=λpk ρ=>(fa pk ρ).bind λx=>(fr pk ρ).bind λy=>x.consS y
def GN(t:List Nat)(a:IE)(fa fi:EF):EF:=λpk ρ=>(jR ρ a (fa pk ρ)).bind λx=>(fi true ρ).bind λy=>Ct t x y
def DC(t:List Nat)(a:IE)(fa fl fh:EF):EF:=λpk ρ=>(jR ρ a (fa pk ρ)).bind λx=>(fl true ρ).bind λy=>(fh true ρ).bind λz=>v5 t x y z
def mz(g:List D->Option D)(fa:EF):EF:=λpk ρ=>(fa pk ρ).bind λy=>y.tupL.bind λds=>(DS.getL ds).bind λl=>(g l).map .c
def E7(c a b:Nat)(fo:EF):EF:=λU ρ=>(fo true ρ).bind λx=>x.get.bind λd=>(zS c a b d).map .c
def GM(fa:EF):EF:=λpk ρ=>(fa pk ρ).bind λy=>y.tupL.bind λds=>if ds.length<=ax then some (.tup ds) else none
def Fb(H:fO)(f:Nat)(fa:EF):EF:=λpk ρ=>(fa true ρ).bind λx=>x.tupL.bind λds=>(H f ds).bind λd=>match d with
 | .c d=>if pk||d.flat then some (.c d) else none
 | .tup es=>if pk then some (.tup es) else (fa false ρ).bind λx'=>x'.tupL.bind λds'=>H f ds'
 |_=>none
noncomputable def bA(t:List Nat)(H:fO):IE->EF
 | .const d=>λU U=>some (.c d)
 | .var k=>GL k
 | .bin op a b=>GU op a b (bA t H a) (bA t H b)
 | .neg a=>GQ (bA t H a)
 | .not a=>GO (bA t H a)
 | .and a b=>GV (bA t H a) (bA t H b)
 | .or a b=>Hv (bA t H a) (bA t H b)
 | .cmp op a b=>GS t.length op (bA t H a) (bA t H b)
 | .ite q a b=>GR (bA t H q) (bA t H a) (bA t H b)
 | .meth m o a=>E8 t m (bA t H o) (bA t H a)
 | .nil=>λU U=>some (.tup [])
 | .cons a r=>E9 (bA t H a) (bA t H r)
 | .sub a i=>GN t a (bA t H a) (bA t H i)
 | .slice a l h=>DC t a (bA t H a) (bA t H l) (bA t H h)
 | .prim f a=>λU=>mz (dJ f) (bA t H a) true
 | .repl o c a b=>E7 c a b (bA t H o)
 | .fstr a=>λU=>mz (λl=>(fG l).map .str) (bA t H a) true
 | .lst a=>mz (eN ax) (bA t H a)
 | .tup a=>GM (bA t H a)
 | .call f a=>Fb H f (bA t H a)
 |_=>λU U=>none
def nS(pre t post:List Nat)(HS:fO)(H:Hook):Prop:=∀f ds z,HS f ds=some z->H f (DS.valL pre t post ds)=some (z.val pre t post)
section
noncomputable abbrev RS.val(pre t post:List Nat)(base:Bs)(ρ:RS):R:=ρ.map (SS.val pre t post base)
theorem kV(h:(fR ρ k).bind (SS.view pk)=some d):((RS.val pre t post base ρ)[k]?).bind (Sl.view pk)=some (d.val pre t post):=by
 refine bi h λsl h1 h2=>?_
 rw[m8] at h1
 clear h
 refine af (List.getElem?_map)▸?_;refine af h1▸?_
 clear h1
 induction sl with
 |sh x=>rw[<-so (show some x=some d from h2)];rfl
 |ow ds=>
  induction pk with
  |true=>rw[<-so (show some _=some d from h2)];rfl
  |false=>exact no h2
 |_=>exact no h2
theorem eu(h:fF x=some b):aE (x.val pre t post)=some b:=by
 refine bi h λa h1 h2=>af (x.get_val pre t post h1)▸?_;exact h2
theorem hU{o:Option DS}(ih:∀z,o=some z->ev H a pk (RS.val pre t post base ρ)=some (z.val pre t post))(h:jR ρ a o=some x):aq (RS.val pre t post base ρ) a (ev H a pk (RS.val pre t post base ρ))=some (x.val pre t post):=by
 cases a<;>first|exact ih x h|exact kV h
end
section
theorem ig(pre t post:List Nat):∀ds:List DS,(DS.valL pre t post ds).length=ds.length
 |[]=>rfl
 |_::r=>congrArg (· +1) (ig pre t post r)
theorem Bx:∀{x z:DS},x.negS=some z->∃i,x=.c (.int i)/\z=.c (.int (-i))
 | .c (.int i),_,h=>by obtain rfl:=so h;exact⟨i,rfl,rfl⟩
 | .c .none,_,h| .c (.bool _),_,h| .c (.str _),_,h| .c (.bytes _),_,h| .c (.list _),_,h| .c (.raw _),_,h| .c (.tuple _),_,h| .c (.fn _),_,h| .c .obj,_,h
 | .off _,_,h| .pat,_,h| .len,_,h| .tup _,_,h=>no h
theorem zg:∀{x y z:DS},x.consS y=some z->∃ds,y=.tup ds/\z=.tup (x::ds)
 |_,.tup ds,_,h=>by obtain rfl:=so h;exact⟨ds,rfl,rfl⟩
 |_,.c _,_,h|_,.off _,_,h|_,.pat,_,h|_,.len,_,h=>no h
theorem zd{z:DS}(h:mz g fa pk ρ=some z):∃ds l d,fa pk ρ=some (.tup ds)/\DS.getL ds=some l/\g l=some d/\z=.c d:=by
 refine bi h λy h1 hh=>?_
 clear h;have h:=hh;clear hh
 refine bi h λds h2 hh=>?_
 clear h;have h:=hh;clear hh
 refine bi h λl h3 hh=>?_
 clear h;have h:=hh;clear hh
 refine mi h λd h4 h5=>?_
 obtain rfl:=DS.tupL_eq h2
 exact⟨ds,l,d,h1,h3,h4,h5.symm⟩
theorem dN{op:CmpOp}{a b:IE}{pk:Bool}{r:R}:ev H (.cmp op a b) pk r=(ev H a true r).bind λx=>(ev H b true r).bind λy=>(cN op x y).map .bool:=rfl
theorem kx{a b:IE}{pk:Bool}{r:R}:ev H (.and a b) pk r=(ev H a pk r).bind λx=>(aE x).bind λt=>if t then ev H b pk r else some x:=rfl
theorem sX{op:Operator}{a b:IE}{pk:Bool}{r:R}:ev H (.bin op a b) pk r=(aq r a (ev H a pk r)).bind λx=>(aq r b (ev H b pk r)).bind λy=>nP op x y:=rfl
theorem jP{a l h:IE}{pk:Bool}{r:R}:ev H (.slice a l h) pk r=(aq r a (ev H a pk r)).bind λx=>(ev H l true r).bind λy=>(ev H h true r).bind λz=>bI x y z:=rfl
theorem oE{a b c t e:IE}{ds:List D}(hx:aq r a (ev H a false r)=some x)(hy:aq r b (ev H b false r)=some y)(hz:aq r c (ev H c false r)=some z)(hi:a9 k x y z=some ds):
 ev H (.comp1 n k a b c t e) pk r=(bL (λd=>(bg n d).bind λbs=>(ev H t true (bs++r.map Sl.inn)).bind λu=>(aE u).bind λq=>if q then (ev H e pk (bs++r.map Sl.inn)).map λv=>[v] else some []) ds).bind λl=>eN ax l.flatten:=
 bo hx (bo hy (bo hz (bo hi rfl)))
theorem BV{t a b:IE}{pk:Bool}{r:R}:ev H (.ite t a b) pk r=(ev H t true r).bind λx=>(aE x).bind λu=>if u then ev H a pk r else ev H b pk r:=rfl
theorem bs{β δ:Type}{f:DS->Option β}{f':D->Option δ}{z:β}{z':δ}(h1:∀x,o=some x->o'=some (x.val pre t post))(h2:∀x,f x=some z->f' (x.val pre t post)=some z')(h:o.bind f=some z):o'.bind f'=some z':=by
 induction o with
 |none=>exact no h
 |some x=>rw[h1 x rfl];exact h2 x h
theorem bq{α β δ:Type}{o o':Option α}{f:α->Option β}{f':α->Option δ}{z:β}{z':δ}(h1:∀x,o=some x->o'=some x)(h2:∀x,f x=some z->f' x=some z')(h:o.bind f=some z):o'.bind f'=some z':=by
 induction o with
 |none=>exact no h
 |some x=>rw[h1 x rfl];exact h2 x h
theorem bm{α β δ:Type}{o o':Option α}{f:α->β}{f':α->δ}{z:β}{z':δ}(h1:∀x,o=some x->o'=some x)(h2:∀x,f x=z->f' x=z')(h:o.map f=some z):o'.map f'=some z':=by
 induction o with
 |none=>exact no h
 |some x=>rw[h1 x rfl,Option.map_some,h2 x (Option.some.inj h)]
theorem bt{β δ:Type}{o:Option DS}{f:List DS->Option β}{f':D->Option δ}{z:β}{z':δ}(h1:∀x,o=some x->o'=some (x.val pre t post))(h2:∀ds,f ds=some z->f' (.tuple (DS.valL pre t post ds))=some z'):(o.bind λy=>y.tupL.bind f)=some z->o'.bind f'=some z':=
 bs h1 λy h=>by
  refine bi h λds h3 h4=>?_
  clear h
  obtain rfl:=DS.tupL_eq h3
  exact h2 ds h4
theorem kQ [Decidable p]{z:α}(h:(if p then o else none)=some z):p/\o=some z:=by
 by_cases hp:p
 ·rw[if_pos hp] at h;exact⟨hp,h⟩
 ·rw[if_neg hp] at h;exact no h
def ES(pre t post:List Nat)(base:Bs)(ρ:RS)(HS:fO)(H:Hook)(e:IE):Prop:=
 ∀pk z,bA t HS e pk ρ=some z->ev H e pk (RS.val pre t post base ρ)=some (z.val pre t post)
theorem el{z:DS}(h1:∀x,fa pk ρ=some x->o'=some (x.val pre t post))(h2:∀l,f' (.tuple l)=g l)(h:mz g fa pk ρ=some z):o'.bind f'=some (z.val pre t post):=by
 obtain⟨ds,l,d,h3,h4,h5,rfl⟩:=zd h
 rw[h1 _ h3]
 show f' (.tuple (DS.valL pre t post ds))=some d
 rw[DS.getL_val pre t post _ h4,h2];exact h5
theorem BZ(hH:nS pre t post HS H){a:IE}(ha:ES pre t post base ρ HS H a):ES pre t post base ρ HS H (.call f a):=λpk z=>bt (ha true) λds h=>by
 refine bi h λd h1 h2=>?_
 show(H f (DS.valL pre t post ds)).bind _=_
 rw[hH _ _ _ h1]
 cases d with
 |c d=>obtain⟨h3,h4⟩:=kQ h2;obtain rfl:=so h4;exact if_pos h3
 |tup es=>
  induction pk with
  |true=>obtain rfl:=so h2;rfl
  |false=>
   show(ev H a false _).bind _=_
   exact bt (ha false) (λds' h=>hH _ _ _ h) h2
 |_=>exact no h2
theorem w2(hH:nS pre t post HS H)(hlen:pre.length+t.length+8<2^20)(e:IE):ES pre t post base ρ HS H e:=by
 induction e with
 |const d=>exact λU U h=>by obtain rfl:=so h;rfl
 |var k=>exact λU U h=>kV h
 |bin op a b ha hb=>exact λpk z=>bs (λU h=>hU (ha pk) h) λx=>bs (λU h=>hU (hb pk) h) λy=>Cc
 |neg a ha=>exact λpk z=>bs (ha true) λx h=>by obtain⟨i,rfl,rfl⟩:=Bx h;rfl
 |not a ha=>exact λpk z=>bs (ha true) λx=>bm (λU h=>eu h) λu h=>by subst h;rfl
 |and a b ha hb=>exact λpk z=>bs (ha pk) λx=>bq (λU h=>eu h) fun
  |true=>hb pk z
  |false=>λh=>by obtain rfl:=so h;rfl
 |or a b ha hb=>exact λpk z=>bs (ha pk) λx=>bq (λU h=>eu h) fun
  |true=>λh=>by obtain rfl:=so h;rfl
  |false=>hb pk z
 |cmp op a b ha hb=>exact λpk z=>bs (ha true) λx=>bs (hb true) λy=>bm (λU h=>B5 h) λu h=>by subst h;rfl
 |ite q a b hq ha hb=>exact λpk z=>bs (hq true) λx=>bq (λU h=>eu h) fun
  |true=>ha pk z
  |false=>hb pk z
 |nil=>exact λU U h=>by obtain rfl:=so h;rfl
 |cons a r ha hr=>exact λpk z=>bs (ha pk) λx=>bs (hr pk) λy h=>by obtain⟨ds,rfl,rfl⟩:=zg h;rfl
 |sub a i ha hi=>exact λpk z=>bs (λU h=>hU (ha pk) h) λx=>bs (hi true) λy=>AR
 |slice a l u ha hl hu=>exact λpk z=>bs (λU h=>hU (ha pk) h) λx=>bs (hl true) λy=>bs (hu true) λw=>v4
 |meth m o a ho ha=>
  exact λpk z h=>by
   obtain⟨rfl,h⟩:=kQ h
   exact bs (ho true) (λx=>bt (ha true) λds=>y0 hlen) h
 |prim f a ha=>exact λpk z=>el (ha true) λU=>rfl
 |fstr a ha=>exact λpk z=>el (ha true) λU=>rfl
 |lst a ha=>exact λpk z=>el (ha pk) λU=>rfl
 |repl o c a b ho=>
  exact λpk z=>bs (ho true) λx h=>by
   refine bi h λd h2 h=>mi h λr h4 h5=>?_
   subst h5
   rw[x.get_val pre t post h2];exact h4
 |tup a ha=>
  exact λpk z=>bt (ha pk) λds h=>by
   obtain⟨hl,h⟩:=kQ h
   obtain rfl:=so h
   exact if_pos (by rw[ig];exact hl)
 |call f a ha=>exact BZ hH ha
 |_=>intros;exact λU U h=>no h
end
theorem iL(ds:List D)(k:Nat):eJ (.list ds) (.int k)=ds[k]? :=by
 show(if 0<=((k:Nat):Int) then ds[((k:Nat):Int).toNat]? else if ((k:Nat):Int)= -1 then ds.getLast? else none)=_
 exact if_pos (Int.natCast_nonneg k)
theorem sub_str(cs:List Nat)(k:Nat):eJ (.str cs) (.int k)=(cs[k]?).map λc=>.str [c]:=by
 show(if 0<=((k:Nat):Int) then (cs[((k:Nat):Int).toNat]?).map (λc=>D.str [c]) else if ((k:Nat):Int)= -1 then cs.getLast?.map (λc=>D.str [c]) else none)=_
 exact if_pos (Int.natCast_nonneg k)
theorem AQ(bs:List Nat)(k:Nat):eJ (.bytes bs) (.int k)=(bs[k]?).map λ(b:Nat)=>.int (b:Int):=by
 show(if 0<=((k:Nat):Int) then (bs[((k:Nat):Int).toNat]?).map _ else none)=_
 exact if_pos (Int.natCast_nonneg k)
theorem xQ(ds:List D)(x:D):eJ (.list (ds++[x])) (.int (-1))=some x:=by
 show(ds++[x]).getLast?=_
 exact List.getLast?_concat
section
theorem ex_whl{b:List IS}:az H (n+1) (.whl t b) ρ=dK (λρ=>(ev H t true ρ).bind aE) (aD (az H n) b) cW ρ:=rfl
theorem cw{a b:List IS}{u:Bool}(h:ev H t true ρ=some d)(hu:aE d=some u):az H (n+1) (.ife t a b) ρ=if u then aD (az H n) a ρ else aD (az H n) b ρ:=bo h (bo hu rfl)
theorem qI{d:D}(h:ev H e true ρ=some d):az H (n+1) (.ret e) ρ=some (.rt d,ρ):=aK h
theorem cy{e:IE}(h:ev H e false ρ=some d)(hs:bG k (.sh d) ρ=some ρ'):az H (n+1) (.assign k e) ρ=some (.nx,ρ'):=bo h (aK hs)
theorem ku{d:D}(h:ev H e true ρ=some d)(hu:aE d=some true):az H (n+1) (.asrt e) ρ=some (.nx,ρ):=bo h (bo hu rfl)
theorem i9{body:List IS}(ha:ev H a false ρ=some x)(hb:ev H b false ρ=some y)(hc:ev H c false ρ=some z)(hi:a9 k x y z=some ds):az H (n+1) (.fr ks k a b c body) ρ=cb ks (aD (az H n) body) ds ρ:=bo ha (bo hb (bo hc (bo hi rfl)))
theorem mw{e:IE}{ds:List D}(h:ev H e false ρ=some d)(hk:ρ[k]? =some (.ow ds))(hl:ds.length<ax):az H (n+1) (.append k e) ρ=(d6 k (.ow (ds++[d])) ρ).map λρ'=>(.nx,ρ'):=bo h (by rw[hk];exact if_pos hl)
theorem Du{ds:List D}(hk:ρ[k]? =some (.ap k'))(h:ev H e false ρ=some d)(hk':ρ[k']? =some (.ow ds))(hl:ds.length<ax):az H (n+1) (.addCall k e) ρ=(d6 k' (.ow (ds++[d])) ρ).map λρ'=>(.nx,ρ'):=by
 show(match ρ[k]? with|some (.ap k')=>_|_=>_)=_
 rw[hk];exact bo h (by rw[hk'];exact if_pos hl)
theorem ak(h:one s ρ=some (.nx,ρ')):aD one (s::r) ρ=aD one r ρ':=bo h rfl
theorem cS{d:D}(h:one s ρ=some (.rt d,ρ')):aD one (s::r) ρ=some (.rt d,ρ'):=bo h rfl
theorem CL(h:one s ρ=some (.br,ρ')):aD one (s::r) ρ=some (.br,ρ'):=bo h rfl
end
inductive FS where
 |nx|br|rt (d:DS)
 deriving Inhabited
noncomputable def SS.kill3:SS->SS
 | .ap3=>.un
 |s=>s
noncomputable def fD:RS->Nat->SS->Option RS
 |[],_,_=>none
 |_::r,0,s=>some (s::r)
 |a::r,k+1,s=>(fD r k s).map (a:: ·)
def iM(k:Nat)(s:SS)(ρ:RS):Option RS:=if Nat.beq k 3 then fD (ρ.map SS.kill3) k s else fD ρ k s
theorem lc:∀(ρ:RS) (k:Nat) (s:SS) {ρ':RS},fD ρ k s=some ρ'->k<ρ.length/\ρ'=ρ.set k s
 |[],_,_,_,h=>no h
 |_::r,0,s,_,h=>by rw[<-so h];exact⟨by simp,rfl⟩
 |a::r,k+1,s,_,h=>by
  refine mi h λq h1 h2=>h2▸?_
  refine aw (lc r k s h1) λh3 h4=>⟨by simpa using h3,by rw[h4];rfl⟩
noncomputable def iR(one:IS->RS->Option (FS×RS)):List IS->RS->Option (FS×RS)
 |[],ρ=>some (.nx,ρ)
 |s::r,ρ=>(one s ρ).bind λp=>match p.1 with
  | .nx=>iR one r p.2
  |f=>some (f,p.2)
noncomputable def ur(test:RS->Option Bool)(body:RS->Option (FS×RS)):Nat->RS->Option (FS×RS)
 |0,_=>none
 |n+1,ρ=>(test ρ).bind λu=>if u then (body ρ).bind λp=>match p.1 with
   | .nx=>ur test body n p.2
   | .br=>some (.nx,p.2)
   | .rt d=>some (.rt d,p.2)
  else some (.nx,ρ)
section
theorem wC(s:SS):(s.kill3).val pre t post base=(s.val pre t post base).kill 3:=by
 induction s with
 |jk i=>exact(base.hj i 3).symm
 |_=>rfl
theorem yS(hk:k≠3)(s:SS):s.val pre t post base=(s.val pre t post base).kill k:=by
 induction s with
 |jk i=>exact(base.hj i k).symm
 |ap3=>exact(if_neg (Ne.symm hk)).symm
 |_=>rfl
theorem yu(h:fD ρ k s=some ρ'):d6 k (s.val pre t post base) (RS.val pre t post base ρ)=some (RS.val pre t post base ρ'):=by
 refine aw (lc ρ k s h) λhk q2=>?_
 rw[q2]
 unfold d6
 rw[if_pos (by simpa using hk)]
 show some ((ρ.map (SS.val pre t post base)).set k _)=some ((ρ.set k s).map (SS.val pre t post base))
 rw[List.map_set]
theorem mY(h:iM k s ρ=some ρ'):bG k (s.val pre t post base) (RS.val pre t post base ρ)=some (RS.val pre t post base ρ'):=by
 unfold iM at h
 have e1:∀ρ1:RS,ρ1.length=ρ.length->(ρ1.map (SS.val pre t post base))=((ρ.map (SS.val pre t post base)).map (Sl.kill k))->fD ρ1 k s=some ρ'->bG k (s.val pre t post base) (RS.val pre t post base ρ)=some (RS.val pre t post base ρ'):=λρ1 hl he h=>by
  refine aw (lc ρ1 k s h) λhk q1=>af q1▸?_
  unfold bG
  rw[if_pos (by simpa [<-hl] using hk),<-he]
  simp only[List.map_set]
 by_cases hk:Nat.beq k 3=true
 ·rw[if_pos hk] at h
  have hk':k=3:=by simpa using hk
  subst hk'
  refine e1 (ρ.map SS.kill3) (aV SS.kill3) ?_ h
  simp only[List.map_map,List.map_map]
  congr 1
  funext x
  exact wC x
 ·rw[if_neg hk] at h
  have hk':k≠3:=by simpa using hk
  refine e1 ρ rfl ?_ h
  simp only[List.map_map]
  congr 1
  funext x
  exact yS hk' x
end
noncomputable def qr(k:Nat)(body:RS->Option (FS×RS)):List D->RS->Option (FS×RS)
 |[],ρ=>some (.nx,ρ)
 |d::r,ρ=>(iM k (.sh (.c d)) ρ).bind λρ₁=>(body ρ₁).bind λp=>match p.1 with
   | .nx=>qr k body r p.2
   | .br=>some (.nx,p.2)
   | .rt d=>some (.rt d,p.2)
noncomputable def iz:List Nat->List SS->RS->Option RS
 |[],[],ρ=>some ρ
 |k::ks,d::ds,ρ=>(iM k d ρ).bind (iz ks ds)
 |_,_,_=>none
noncomputable def zV(t:List Nat)(HS:fO)(ρ:RS):Option IE->Option SS
 |some e=>(bA t HS e false ρ).map .sh
 |none=>some (.ow [])
noncomputable def uH(run:List IS->RS->Option (FS×RS))(Γ:List Str)(I:List IS)(n:Nat)(ds:List DS):Option DS:=
 if ds.length=n then (run I (ds.map .sh++List.replicate (Γ.length-n) .un)).bind λp=>match p.1 with
  | .rt d=>some d
  |_=>none
 else none
abbrev SF:=RS->Option (FS×RS)
noncomputable def jh(ρ:RS):FS×RS:=(.nx,ρ)
noncomputable def Hp(ρ:RS)(d:DS):FS×RS:=(.rt d,ρ)
noncomputable def SS.owL:SS->Option (List D)
 | .ow ds=>some ds
 |_=>none
noncomputable def SS.owpL:SS->Option (List D)
 | .owp ds=>some ds
 |_=>none
noncomputable def SS.apK:SS->Option Nat
 | .ap3=>some 3
 |_=>none
noncomputable def SS.shD:SS->Option DS
 | .sh d=>some d
 |_=>none
theorem SS.owL_eq:∀{s:SS} {l},s.owL=some l->s=.ow l
 | .ow _,_,h=>by refine(so h)▸?_;rfl
 | .un,_,h| .sh _,_,h| .owp _,_,h| .ap3,_,h| .jk _,_,h=>no h
theorem SS.owpL_eq:∀{s:SS} {l},s.owpL=some l->s=.owp l
 | .owp _,_,h=>by refine(so h)▸?_;rfl
 | .un,_,h| .sh _,_,h| .ow _,_,h| .ap3,_,h| .jk _,_,h=>no h
theorem SS.apK_eq:∀{s:SS} {l},s.apK=some l->s=.ap3/\l=3
 | .ap3,_,h=>by refine(so h)▸?_;exact⟨rfl,rfl⟩
 | .un,_,h| .sh _,_,h| .ow _,_,h| .owp _,_,h| .jk _,_,h=>no h
theorem SS.shD_eq:∀{s:SS} {l},s.shD=some l->s=.sh l
 | .sh _,_,h=>by refine(so h)▸?_;rfl
 | .un,_,h| .ap3,_,h| .ow _,_,h| .owp _,_,h| .jk _,_,h=>no h
noncomputable def xT:D->Option (List Nat)
 | .str s=>some s
 |_=>none
theorem sj:∀{d:D} {s},xT d=some s->d=.str s
 | .str _,_,h=>by refine(so h)▸?_;rfl
 | .none,_,h| .bool _,_,h| .int _,_,h| .bytes _,_,h| .list _,_,h| .raw _,_,h| .tuple _,_,h| .fn _,_,h| .obj,_,h=>no h
noncomputable def intD:D->Option Int
 | .int s=>some s
 |_=>none
theorem BF:∀{d:D} {s},intD d=some s->d=.int s
 | .int _,_,h=>by refine(so h)▸?_;rfl
 | .none,_,h| .bool _,_,h| .str _,_,h| .bytes _,_,h| .list _,_,h| .raw _,_,h| .tuple _,_,h| .fn _,_,h| .obj,_,h=>no h
def Bg(k:Nat)(f:EF):SF:=λρ=>(f false ρ).bind λd=>(iM k (.sh d) ρ).map jh
def CP(k:Nat)(f:EF):SF:=λρ=>(f false ρ).bind λd=>d.tupL.bind λds=>(DS.getL ds).bind λl=>if l.length<=ax then (iM k (.ow l) ρ).map jh else none
def CR(k:Nat)(f:EF):SF:=λρ=>(f false ρ).bind λd=>d.get.bind λx=>((fR ρ k).bind SS.owL).bind λds=>if ds.length<ax then (fD ρ k (.ow (ds++[x]))).map jh else none
def CS(k:Nat)(f:EF):SF:=λρ=>((fR ρ k).bind SS.apK).bind λk'=>(f false ρ).bind λd=>d.get.bind λx=>((fR ρ k').bind SS.owpL).bind λds=>if ds.length<16 then (fD ρ k' (.owp (ds++[x]))).map jh else none
def wa(ks:List Nat)(f:EF):SF:=λρ=>(f false ρ).bind λd=>d.tupL.bind λds=>(iz ks (ds.map .sh) ρ).map jh
def Bf(ks:List Nat)(g:RS->Option (List SS)):SF:=λρ=>(g ρ).bind λds=>if ks.length=ds.length then (iz ks.reverse ds.reverse ρ).map jh else none
def zQ(k:Nat)(fi fe:EF):SF:=λρ=>(fi true ρ).bind λj=>j.get.bind λj=>(intD j).bind λj=>((fR ρ k).bind SS.owL).bind λds=>if j= -1 then (ds.getLast?.bind xT).bind λold=>(fe true ρ).bind λd=>d.get.bind λd=>(xT d).bind λd=>
 if old.length+d.length<=ax then (fD ρ k (.ow (ds.set (ds.length-1) (.str (old++d))))).map jh else none else none
noncomputable def G9:DS->DS->Option DS
 | .off a,.c (.int i)=>u6 a i
 | .c (.int a),.c (.int b)=>some (.c (.int (a+b)))
 | .c (.str a),.c (.str b)=>if a.length+b.length<=ax then some (.c (.str (a++b))) else none
 |_,_=>none
def CQ(k:Nat)(op:Operator)(f:EF):SF:=λρ=>((fR ρ k).bind SS.shD).bind λold=>(f true ρ).bind λd=>if op=.Add then (G9 old d).bind λz=>(iM k (.sh z) ρ).map jh else none
def Gf(f:EF)(a b:SF):SF:=λρ=>(f true ρ).bind λd=>(fF d).bind λu=>if u then a ρ else b ρ
def Gc(f:EF)(a:SF):SF:=λρ=>ur (λρ=>(f true ρ).bind fF) a cW ρ
def Gg(k:Nat)(fa fb fc:EF)(a:SF):SF:=λρ=>(fa false ρ).bind λx=>(fb false ρ).bind λy=>(fc false ρ).bind λz=>x.get.bind λx=>y.get.bind λy=>z.get.bind λz=>(a9 .range3 x y z).bind λds=>qr k a ds ρ
def EI(k i j:Nat):SF:=λρ=>((fR ρ j).bind (SS.view true)).bind λx=>x.get.bind λx=>(j5 i x).bind λd=>(iM k (.sh (.c d)) ρ).map jh
def Ge(f:EF):SF:=λρ=>(f true ρ).map (Hp ρ)
noncomputable def jO(t:List Nat)(HS:fO):Nat->IS->SF
 |0=>λU U=>none
 |n+1=>λs=>match s with
  | .assign k e=>Bg k (bA t HS e)
  | .newOwn k e=>CP k (bA t HS e)
  | .append k e=>CR k (bA t HS e)
  | .addCall k e=>CS k (bA t HS e)
  | .multi ks e=>wa ks (bA t HS e)
  | .multiD ks es=>Bf ks (λρ=>bL (zV t HS ρ) es)
  | .augItem k i e=>zQ k (bA t HS i) (bA t HS e)
  | .aug k op e=>CQ k op (bA t HS e)
  | .ife q a b=>Gf (bA t HS q) (iR (jO t HS n) a) (iR (jO t HS n) b)
  | .whl q body=>Gc (bA t HS q) (iR (jO t HS n) body)
  | .fr [k] .range3 a b c body=>Gg k (bA t HS a) (bA t HS b) (bA t HS c) (iR (jO t HS n) body)
  | .spec k i j=>EI k i j
  | .ret e=>Ge (bA t HS e)
  | .brk=>λρ=>some (.br,ρ)
  |_=>λU=>none
noncomputable def FS.val(pre t post:List Nat):FS->Fl
 | .nx=>.nx
 | .br=>.br
 | .rt d=>.rt (d.val pre t post)
section
def eR(pre t post:List Nat)(base:Bs)(f:RS->Option (FS×RS))(g:R->Option (Fl×R)):Prop:=
 ∀ρ x ρ',f ρ=some (x,ρ')->g (RS.val pre t post base ρ)=some (x.val pre t post,RS.val pre t post base ρ')
theorem ew(h1:∀st,eR pre t post base (one st) (one' st)):∀sts,eR pre t post base (iR one sts) (aD one' sts)
 |[],ρ,x,ρ',h=>by obtain⟨rfl,rfl⟩:=dP h;rfl
 |st::r,ρ,x,ρ',h=>by
  refine bi h λq23 e1 h=>?_
  obtain⟨y,ρ1⟩:=q23
  refine bo (h1 st ρ y ρ1 e1) ?_
  clear e1
  induction y with
  |nx=>exact ew h1 r ρ1 x ρ' h
  |br=>obtain⟨rfl,rfl⟩:=dP h;rfl
  |rt d=>obtain⟨rfl,rfl⟩:=dP h;rfl
theorem qq{body':R->Option (Fl×R)}(ht:∀ρ b,test ρ=some b->test' (RS.val pre t post base ρ)=some b)(hb:eR pre t post base body body'):
 ∀n,eR pre t post base (ur test body n) (dK test' body' n)
 |0,_,_,_,h=>no h
 |n+1,ρ,x,ρ',h=>by
  refine bi h λu e1 h=>bo (ht ρ u e1) ?_
  clear e1
  induction u with
  |false=>refine aw (dP h) λq1 q2=>?_;refine q1▸?_;rw[<-q2];rfl
  |true=>
   refine bi h λq8 e2 h=>?_
   obtain⟨y,ρ1⟩:=q8
   refine bo (hb ρ y ρ1 e2) ?_
   clear e2
   induction y with
   |nx=>exact qq ht hb n ρ1 x ρ' h
   |br=>obtain⟨rfl,rfl⟩:=dP h;rfl
   |rt d=>obtain⟨rfl,rfl⟩:=dP h;rfl
end
section
theorem oo{body:RS->Option (FS×RS)}(hb:eR pre t post base body body'):∀(ds:List D),eR pre t post base (qr k body ds) (cb [k] body' ds)
 |[],ρ,x,ρ',h=>by obtain⟨rfl,rfl⟩:=dP h;rfl
 |d::r,ρ,x,ρ',h=>by
  refine bi h λρ1 e1 h=>bi h λq3 e2 h=>?_
  obtain⟨y,ρ2⟩:=q3
  refine bo (show bindTo [k] d (RS.val pre t post base ρ)=some (RS.val pre t post base ρ1) from bo rfl (bo (mY e1) rfl)) (bo (hb ρ1 y ρ2 e2) ?_)
  clear e2
  induction y with
  |nx=>exact oo hb r ρ2 x ρ' h
  |br=>obtain⟨rfl,rfl⟩:=dP h;rfl
  |rt d=>obtain⟨rfl,rfl⟩:=dP h;rfl
end
section
theorem lV:∀(ks:List Nat) (ss:List SS) {ρ ρ':RS},iz ks ss ρ=some ρ'->fH ks (ss.map (SS.val pre t post base)) (RS.val pre t post base ρ)=some (RS.val pre t post base ρ')
 |[],[],_,_,h=>congrArg some (congrArg _ (so h))
 |_::ks,_::ss,_,_,h=>bi h λU h1 h=>bo (mY h1) (lV ks ss h)
 |[],_::_,_,_,h|_::_,[],_,_,h=>no h
theorem mQ:∀ds:List DS,DS.valL pre t post ds=ds.map (DS.val pre t post)
 |[]=>rfl
 |d::r=>congrArg (d.val pre t post:: ·) (mQ r)
theorem qh(hH:nS pre t post HS H)(hlen:pre.length+t.length+8<2^20):∀(es:List (Option IE)) {ss:List SS},bL (zV t HS ρ) es=some ss->bL (lj H (RS.val pre t post base ρ)) es=some (ss.map (SS.val pre t post base))
 |[],_,h=>congrArg (λl=>some (List.map (SS.val pre t post base) l)) (so h)
 |e::r,ss,h=>bi h λs h1 h=>mi h λq h2 h3=>by
  have e1:lj H (RS.val pre t post base ρ) e=some (s.val pre t post base):=by
   induction e with
   |none=>refine(so h1)▸?_;rfl
   |some e=>exact mi h1 λd h4 h5=>by refine h5▸?_;exact aK (w2 hH hlen e _ _ h4)
  rw[<-h3]
  exact bo e1 (aK (qh hH hlen r h2))
theorem zM{s:SS}(h:(iM k s ρ).map jh=some (x,ρ')):((bG k (s.val pre t post base) (RS.val pre t post base ρ)).map λr=>(Fl.nx,r))=some (x.val pre t post,RS.val pre t post base ρ'):=by
 refine mi h λρ1 h2 h3=>?_
 clear h
 cases h3
 rw[mY h2];rfl
theorem Cr{s:SS}(h:(fD ρ k s).map jh=some (x,ρ')):((d6 k (s.val pre t post base) (RS.val pre t post base ρ)).map λr=>(Fl.nx,r))=some (x.val pre t post,RS.val pre t post base ρ'):=by
 refine mi h λρ1 h2 h3=>?_
 clear h
 cases h3
 rw[yu h2];rfl
theorem Ft{ss:List SS}(h:(iz ks ss ρ).map jh=some (x,ρ')):((fH ks (ss.map (SS.val pre t post base)) (RS.val pre t post base ρ)).map λr=>(Fl.nx,r))=some (x.val pre t post,RS.val pre t post base ρ'):=by
 refine mi h λρ1 h2 h3=>?_
 clear h
 cases h3
 rw[lV _ _ h2];rfl
theorem gb{f:SS->Option α}(h:(fR ρ k).bind f=some z):∃s,(RS.val pre t post base ρ)[k]? =some (s.val pre t post base)/\f s=some z:=by
 refine bi h λs h1 h2=>?_
 rw[m8] at h1
 exact(am s (by simp only[List.getElem?_map,h1];rfl) h2)
theorem gv{x:DS}(h:x.get.bind f=some z):f (x.val pre t post)=some z:=by
 refine bi h λd h1 h3=>af (x.get_val pre t post h1)▸?_;exact h3
def vp(pre t post:List Nat)(base:Bs)(f:EF)(f':Bool->R->Option D):Prop:=∀(ρ:RS) pk z,f pk ρ=some z->f' pk (RS.val pre t post base ρ)=some (z.val pre t post)
section
variable(he:vp pre t post base fe (ev H e))(hi:vp pre t post base fi (ev H i))
include he
theorem Et:eR pre t post base (CP k fe) (az H (n+1) (.newOwn k e)):=λρ x ρ'=>bt (he ρ false) λds h=>by
 refine bi h λl h3 h=>?_
 obtain⟨hl,h⟩:=kQ h
 show(if (DS.valL pre t post ds).length<=ax then _ else _)=_
 rw[DS.getL_val pre t post _ h3,if_pos hl]
 exact zM h
theorem Ew:eR pre t post base (CR k fe) (az H (n+1) (.append k e)):=λρ x ρ'=>bs (he ρ false) λd h=>by
 refine bi (gv (pre:=pre) (t:=t) (post:=post) h) λds h3 h=>ai (gb (pre:=pre) (t:=t) (post:=post) (base:=base) h3) λs h4 h5=>?_
 obtain rfl:=SS.owL_eq h5
 obtain⟨hl,h⟩:=kQ h
 refine af h4▸?_
 exact(if_pos hl).trans (Cr h)
theorem Ex(hb:base.b.length<=1000):eR pre t post base (CS k fe) (az H (n+1) (.addCall k e)):=λρ x ρ' h=>by
 refine av λGG kk=>bi h λk' h3 h=>ai (gb (pre:=pre) (t:=t) (post:=post) (base:=base) h3) λs h4 h5=>?_
 clear h3
 obtain⟨rfl,rfl⟩:=SS.apK_eq h5
 refine kk ?_;clear kk
 show(match (RS.val pre t post base ρ)[k]? with|some (.ap k')=>_|_=>_)=_
 refine af h4▸?_
 refine bs (he ρ false) (λd h=>?_) h
 refine av λGG kk=>bi (gv (pre:=pre) (t:=t) (post:=post) h) λds h6 h=>?_
 refine ai (gb (pre:=pre) (t:=t) (post:=post) (base:=base) h6) λs' h7 h8=>?_
 obtain rfl:=SS.owpL_eq h8
 refine aw (kQ h) λhl h=>kk ?_;clear kk
 refine af h7▸?_
 refine(if_pos (by rw[List.length_append];exact ln [_,_] [(1,.v 0,.k 1000),(1,.a (.v 1) (.k 1),.k 16)] (.a (.a (.v 0) (.v 1)) (.k 1)) (.k 4096) 1 rfl hb hl)).trans ?_
 rw[List.append_assoc];exact(Cr (pre:=pre) (t:=t) (post:=post) (base:=base) h)
theorem AC:eR pre t post base (wa ks fe) (az H (n+1) (.multi ks e)):=λρ x ρ'=>bt (he ρ false) λds h=>by
 have h5:=Ft (pre:=pre) (t:=t) (post:=post) (base:=base) h
 show((fH ks ((DS.valL pre t post ds).map .sh) _).map _)=_
 rw[mQ,List.map_map]
 rw[List.map_map] at h5
 exact h5
theorem Ck(hi:vp pre t post base fi (ev H i)):eR pre t post base (zQ k fi fe) (az H (n+1) (.augItem k i e)):=λρ x ρ'=>bs (hi ρ true) λj h=>by
 refine bi (gv (pre:=pre) (t:=t) (post:=post) h) λj2 h3 h=>?_
 rw[BF h3]
 refine av λGG kk=>bi h λds h4 h=>ai (gb (pre:=pre) (t:=t) (post:=post) (base:=base) h4) λs h5 h6=>?_
 clear h3
 obtain rfl:=SS.owL_eq h6
 refine aw (kQ h) λq10 h=>?_
 subst q10
 refine bi h λold h7 h=>bi h7 λol h8 h9=>?_
 obtain rfl:=sj h9
 refine kk ?_;clear kk
 refine af h5▸?_
 show(match ds.getLast? with|some (.str old)=>_|_=>_)=_
 refine af h8▸?_
 refine bs (he ρ true) (λd h=>?_) h
 refine bi (gv (pre:=pre) (t:=t) (post:=post) h) λd2 h12 h=>?_
 rw[sj h12]
 refine aw (kQ h) λhl h=>?_
 exact(if_pos hl).trans (Cr h)
theorem Eu:eR pre t post base (CQ k op fe) (az H (n+1) (.aug k op e)):=λρ x ρ' h=>by
 refine bi h λold h1 h=>ai (gb (pre:=pre) (t:=t) (post:=post) (base:=base) h1) λs h2 h3=>?_
 clear h1
 obtain rfl:=SS.shD_eq h3
 show(match (RS.val pre t post base ρ)[k]? with|some (.sh old)=>_|_=>_)=_
 clear h3
 rw[h2]
 refine bs (he ρ true) (λd h=>?_) h
 refine av λGG kk=>aw (kQ h) λq2 h=>?_
 clear h2
 subst q2
 refine bi h λz h5 h=>?_
 have h6:=zM (pre:=pre) (t:=t) (post:=post) (base:=base) h
 refine kk ?_;clear kk
 clear h
 cases old with
 |off a=>
  clear h
  cases d with
  |c y=>
   clear h
   cases y with
   |int i=>rw[show SS.val pre t post base (.sh z)=_ from congrArg Sl.sh (nR h5)] at h6;exact(if_pos rfl).trans h6
   |_=>exact no h5
  |_=>exact no h5
 |c x=>
  cases x with
  |int a=>
   cases d with
   |c y=>
    cases y with
    |int b=>obtain rfl:=so h5;exact(if_pos rfl).trans h6
    |_=>exact no h5
   |_=>exact no h5
  |str a=>
   cases d with
   |c y=>
    cases y with
    |str b=>
     refine cd h5 λhl h5=>?_
     obtain rfl:=so h5
     exact(if_pos ⟨rfl,hl⟩).trans h6
    |_=>exact no h5
   |_=>exact no h5
  |_=>exact no h5
 |_=>exact no h5
end
theorem nC(hH:nS pre t post HS H)(hlen:pre.length+t.length+8<2^20)(hb:base.b.length<=1000)(n:Nat):∀st,eR pre t post base (jO t HS n st) (az H n st):=by
 have E:∀e,vp pre t post base (bA t HS e) (ev H e):=λe ρ=>w2 hH hlen e
 induction n with
 |zero=>exact λst ρ x ρ' h=>no h
 |succ n ih=>
  intro st
  cases st with
  |assign k e=>exact λρ x ρ'=>bs (E e ρ false) λd h=>zM h
  |newOwn k e=>exact Et (E e)
  |append k e=>exact Ew (E e)
  |addCall k e=>exact Ex (E e) hb
  |multi ks e=>exact AC (E e)
  |multiD ks es=>
   exact λρ x ρ' h=>by
    refine bi h λss h1 h=>aw (kQ h) λhl h=>?_
    have h5:=Ft (pre:=pre) (t:=t) (post:=post) (base:=base) h
    rw[List.map_reverse] at h5
    show(bL (lj H (RS.val pre t post base ρ)) es).bind _=_
    refine af (qh hH hlen es h1)▸?_
    exact(if_pos (by simp only[aV];exact hl)).trans h5
  |augItem k i e=>exact Ck (E e) (E i)
  |aug k op e=>exact Eu (E e)
  |ife q a b=>exact λρ x ρ'=>bs (E q ρ true) λd=>bq (λU h=>eu h) fun
   |true=>ew ih a ρ x ρ'
   |false=>ew ih b ρ x ρ'
  |whl q body=>exact qq (test:=λρ=>(bA t HS q true ρ).bind fF) (test':=λρ=>(ev H q true ρ).bind aE) (λρ b=>bs (E q ρ true) λd h=>eu h) (ew ih body) cW
  |fr ks ik a b c body=>
   match ks,ik with
   |[k],.range3=>
    exact λρ x ρ' h=>by
     refine av λGG kk=>bi h λd1 h1 h=>bi h λd2 h2 h=>?_
     refine bi h λd3 h3 h=>bi h λe1 g1 h=>bi h λe2 g2 h=>bi h λe3 g3 h=>?_
     refine bi h λds h4 h=>kk ?_;clear kk
     show(ev H a false (RS.val pre t post base ρ)).bind _=_
     refine af (E a ρ _ _ h1)▸?_;refine af (E b ρ _ _ h2)▸?_;refine af (E c ρ _ _ h3)▸?_;refine af (d1.get_val pre t post g1)▸?_;refine af (d2.get_val pre t post g2)▸?_;refine af (d3.get_val pre t post g3)▸?_
     show(a9 .range3 e1 e2 e3).bind _=_
     rw[h4]
     exact oo (ew ih body) ds ρ x ρ' h
   |[k],.of|[k],.enum|[k],.zip2|[k],.zip3|[k],.range1|[k],.range2=>exact λU U U h=>no h
   |[],_|_::_::_,_=>exact λU U U h=>no h
  |spec k i j=>
   exact λρ x ρ' h=>by
    refine bi h λd h1 h=>?_
    show(((RS.val pre t post base ρ)[j]?).bind (Sl.view true)).bind _=_
    refine af (kV h1)▸?_
    refine bi (gv (pre:=pre) (t:=t) (post:=post) h) λz h3 h=>?_
    show(j5 i (d.val pre t post)).bind _=_
    refine af h3▸?_
    exact zM h
  |ret e=>
   exact λρ x ρ' h=>by
    refine mi h λd h1 h2=>?_
    cases h2
    show(ev H e true (RS.val pre t post base ρ)).map _=_
    rw[E e ρ _ _ h1];rfl
  |brk=>exact λρ x ρ' h=>by refine aw (dP h) λq5 q6=>?_;refine q5▸?_;refine q6▸?_;rfl
  |_=>exact λρ x ρ' h=>by exact no h
set_option tactic.hygienic true in
theorem sV{run:List IS->RS->Option (FS×RS)}{run':List IS->R->Option (Fl×R)}(hr:∀I,eR pre t post .nil (run I) (run' I)){ds:List DS}(h:uH run Γ I n ds=some z):
 (if (DS.valL pre t post ds).length=n then (run' I ((DS.valL pre t post ds).map .sh++List.replicate (Γ.length-n) .un)).bind λp=>match p.1 with
 | .rt d=>some d
 |_=>none
 else none)=some (z.val pre t post):=by
 unfold uH at h
 split at h<;>try (exact no h;done)
 rename_i hn
 refine bi h λq21 h1 h2=>?_
 obtain⟨f,ρ1⟩:=q21
 induction f<;>try ((first|exact no h2|rw[so h2]);done)
 rw[<-so h2]
 have h3:=hr I _ _ _ h1
 have e1:RS.val pre t post .nil (ds.map SS.sh++List.replicate (Γ.length-n) SS.un)=(DS.valL pre t post ds).map .sh++List.replicate (Γ.length-n) .un:=by
  simp only[List.map_append,List.map_map,List.map_replicate,mQ,List.map_map];rfl
 rw[e1] at h3
 rw[if_pos (by rw[ig];exact hn),h3]
 rfl
end
def Ei:fO:=λf ds=>if f=64 then (DS.getL ds).bind λl=>(qP l).map .c else none
def Eg(t:List Nat):fO:=λf ds=>if f=107 then uH (iR (jO t (λU U=>none) 12)) rD rA 2 ds else none
noncomputable def D.gT:D->Option (List D)
 | .tuple l=>some l
 |_=>Option.none
theorem D.gT_eq{x:D}(h:x.gT=some a):x=.tuple a:=by
 cases x with
 |tuple b=>rw[so h]
 |_=>exact no h
noncomputable def DS.lenU:DS->Option Unit
 | .len=>some ()
 |_=>none
noncomputable def SS.ap3U:SS->Option Unit
 | .ap3=>some ()
 |_=>none
theorem DS.lenU_eq{x:DS}{d}(h:x.lenU=some d):x=.len:=by
 cases x with
 |len=>rfl
 |_=>exact no h
theorem SS.ap3U_eq{x:SS}{d}(h:x.ap3U=some d):x=.ap3:=by
 induction x with
 |ap3=>rfl
 |_=>exact no h
noncomputable def nU{α:Type}:List α->Option (α×List α)
 |x::r=>some (x,r)
 |[]=>none
theorem gq(h:nU l=some x):l=x.1::x.2:=by
 induction l with
 |nil=>exact no h
 |cons=>rw[<-so h]
def DS.jd(z:DS):Option (D×Nat):=z.tupL.bind λl=>(nj l).bind λp=>p.2.offN.bind λn=>p.1.get.map λd=>(d,n)
def wD(x:List Nat):Option (D×Nat):=(uH (iR (jO x (Eg x) 12)) rC rz 2 [.pat,.off 0]).bind DS.jd
noncomputable def j4:List IS:=match xw with
 |[_,_,_,.whl _ b,_,_]=>b
 |_=>[]
noncomputable def zL:RS:=[.sh .pat,.sh (.c .obj),.sh (.c (.str [46])),.owp [],.ap3,.sh (.off 0),.sh .len,.jk 0,.jk 1,.jk 2,.jk 3,.jk 4,.jk 5]
noncomputable def SS.noAp:SS->Bool
 | .ap3=>false
 |_=>true
def zK(n:Nat)(ρ:RS):Option (List Nat):=
 (nU ρ).bind λa=>a.1.shD.bind λx=>x.patU.bind λU=>(nU a.2).bind λb=>b.1.shD.bind λx=>x.cD.bind λy=>y.gO.bind λU=>(nU b.2).bind λc=>c.1.shD.bind λx=>x.cD.bind λy=>y.gS.bind λz=>if z=[46] then
  (nU c.2).bind λd=>d.1.owpL.bind λl=>(dq l).bind λy=>y.gS.bind λw=>(nU d.2).bind λe=>e.1.ap3U.bind λU=>(nU e.2).bind λf=>f.1.shD.bind λx=>x.offN.bind λk=>if k=n then
  (nU f.2).bind λg=>g.1.shD.bind λx=>x.lenU.bind λU=>if g.2.all SS.noAp=true/\g.2.length=6 then some w else none else none else none
noncomputable def FS.isNx:FS->Bool
 | .nx=>true
 |_=>false
def zJ(t:List Nat):Option (List Nat):=(iR (jO t Ei 11) j4 zL).bind λp=>if p.1.isNx then zK t.length p.2 else none
noncomputable def pairD(p:Nat×Nat):D:=.tuple [.str [p.1],.str [p.2]]
def gP(b:Bool)(ps:List (Nat×Nat)):D:=.tuple [.bool b,.list (ps.map pairD)]
def eH(d:D):Option (Nat×Nat):=d.gT.bind λl=>(nj l).bind λp=>p.1.gS.bind λs=>(dq s).bind λa=>p.2.gS.bind λs=>(dq s).map λb=>(a,b)
def Cn(d:D):Option (Bool×List (Nat×Nat)):=d.gT.bind λl=>(nj l).bind λp=>p.1.gB.bind λb=>p.2.gL.bind λps=>(bL eH ps).map λl=>(b,l)
noncomputable def cj(b:Bool)(ps:List (Nat×Nat))(c:Nat):Bool:=(ps.any λp=>Nat.ble p.1 c&&Nat.ble c p.2) !=b
noncomputable def jM(x:List Nat):Bool:=match x with
 |[]=>false
 |[c]=>c !=42
 |c::_=>c !=42&&c !=46
theorem sQ(c d:Nat)(q:List Nat):jM (c::d::q)=(c !=42&&c !=46):=rfl
structure It where
 t:List Nat
 x:List Nat
 b:Bool
 ps:List (Nat×Nat)
structure It.Good(i:It):Prop where
 turn:zJ i.t=some i.x
 judge:wD i.x=some (gP i.b i.ps,i.x.length)
 head:jM i.x=true
 tl:i.t.length<=64
 xl:i.x.length<=64
 ne:i.t≠[]
 pl:i.ps.length<=64
def yJ(t:List Nat):Option It:=
 (zJ t).bind λx=>(wD x).bind λp=>if p.2=x.length then (Cn p.1).map λq=>⟨t,x,q.1,q.2⟩ else none
def uG(i:It):Bool:=jM i.x&&decide (i.t.length<=64)&&decide (i.x.length<=64)&& !i.t.isEmpty&&decide (i.ps.length<=64)
theorem vy{p}(h:eH d=some p):d=pairD p:=
 bi h λl h1 h=>bi h λq h2 h=>bi h λs h3 h=>bi h λa h4 h=>bi h λs' h5 h=>mi h λb h6 h=>by
  refine af (D.gT_eq h1)▸?_;refine af (ka h2)▸?_;refine af (D.gS_eq h3)▸?_;refine af (cI h4)▸?_;refine af (D.gS_eq h5)▸?_;refine af (cI h6)▸?_;refine h▸?_;rfl
theorem lM:∀{ds:List D} {l},bL eH ds=some l->ds=l.map pairD
 |[],l,h=>by refine(so h)▸?_;rfl
 |d::r,l,h=>by
  refine bi h λp h1 h=>mi h λq h2 h3=>?_
  refine h3▸?_
  simp only[List.map_cons,<-vy h1,<-lM h2]
theorem AG{p}(h:Cn d=some p):d=gP p.1 p.2:=
 bi h λl h1 h=>bi h λq h2 h=>bi h λb h3 h=>bi h λps h4 h=>mi h λr h5 h=>by
  refine af (D.gT_eq h1)▸?_;refine af (ka h2)▸?_;refine af (D.gB_eq h3)▸?_;refine af (D.gL_eq h4)▸?_;refine af (lM h5)▸?_;refine h▸?_;rfl
theorem oj(h:yJ t=some i)(hg:uG i=true):i.Good/\i.t=t:=by
 refine bi h λx h1 h=>bi h λp h2 h=>?_
 by_cases hp:p.2=x.length
 ·replace h:=(if_pos hp).symm.trans h
  refine mi h λq h3 h4=>?_
  subst h4
  simp only[uG,Bool.and_eq_true,decide_eq_true_eq,Bool.not_eq_true',List.isEmpty_eq_false_iff] at hg
  refine⟨⟨h1,?_,hg.1.1.1.1,hg.1.1.1.2,hg.1.1.2,hg.1.2,hg.2⟩,rfl⟩
  simp only[h2,<-AG h3,<-hp]
 ·replace h:=(if_neg hp).symm.trans h;exact no h
noncomputable def Cv:D->Option (List Nat)
 | .str t=>some t
 |_=>none
theorem AU:∀{d:D} {s},Cv d=some s->d=.str s
 | .str _,_,h=>by refine(so h)▸?_;rfl
 | .none,_,h| .bool _,_,h| .int _,_,h| .bytes _,_,h| .list _,_,h| .raw _,_,h| .tuple _,_,h| .fn _,_,h| .obj,_,h=>no h
noncomputable def bJ(A:List Nat):D:=.list (A.map λc=>.str [c])
def yt(A:List Nat):Option (List Nat):=(dx H0 Ay Ar 1 [bJ A]).bind Cv
noncomputable def rj(neg:Bool)(s:List Nat):List Nat:=if neg then [91,33]++s++[93] else [91]++s++[93]
def E2(i:It)(a:Nat)(told:Nat->Bool):Bool:=[0,1,2,3,4].all λd=>cj i.b i.ps (a+d-2)==told (a+d-2)
def rg(t:List Nat)(a:Nat)(told:Nat->Bool):Bool:=match yJ t with
 |some i=>uG i&&E2 i a told
 |none=>false
noncomputable def t9(A:List Nat)(c:Nat):Bool:=A.any λx=>Nat.beq x c
noncomputable def shapes:List (List Nat):=[[0],[0,1],[0,2],[0,1,2]]
def rh(a:Nat)(A:List Nat):Bool:=match yt A with
 |some s=>rg (rj false s) a (t9 A)&&rg (rj true s) a λc=> !t9 A c
 |none=>false
def nK(a:Nat):Bool:=shapes.all λsh=> !(sh.all λd=>Nat.ble (a+d) 126)||rh a (sh.map λd=>a+d)
def kF(c:Nat):Bool:=Nat.beq c 42||Nat.beq c 63||Nat.beq c 91||rg [c] c (Nat.beq c)
def dI(k:Nat):Bool:=[0,1,2,3,4,5,6,7].all λd=>nK (34+8*k+d)
def cR(k:Nat):Bool:=[0,1,2,3,4,5,6,7].all λd=>Nat.ble 127 (34+8*k+d)||kF (34+8*k+d)
theorem Ba:dI 0=true:=by kernel_rfl
theorem yn:cR 0=true:=by kernel_rfl
theorem A9:dI 1=true:=by kernel_rfl
theorem ym:cR 1=true:=by kernel_rfl
theorem A8:dI 2=true:=by kernel_rfl
theorem yl:cR 2=true:=by kernel_rfl
theorem A7:dI 3=true:=by kernel_rfl
theorem yk:cR 3=true:=by kernel_rfl
theorem A6:dI 4=true:=by kernel_rfl
theorem yj:cR 4=true:=by kernel_rfl
theorem A5:dI 5=true:=by kernel_rfl
theorem yi:cR 5=true:=by kernel_rfl
theorem A4:dI 6=true:=by kernel_rfl
theorem yh:cR 6=true:=by kernel_rfl
theorem A3:dI 7=true:=by kernel_rfl
theorem yg:cR 7=true:=by kernel_rfl
theorem A2:dI 8=true:=by kernel_rfl
theorem yf:cR 8=true:=by kernel_rfl
theorem A1:dI 9=true:=by kernel_rfl
theorem ye:cR 9=true:=by kernel_rfl
theorem yq:dI 10=true:=by kernel_rfl
theorem v8:cR 10=true:=by kernel_rfl
theorem yo:dI 11=true:=by kernel_rfl
theorem v7:cR 11=true:=by kernel_rfl
theorem vt{p:Nat->Prop}(h0:p 0)(h1:p 1)(h2:p 2)(h3:p 3)(h4:p 4)(h5:p 5)(h6:p 6)(h7:p 7)(h8:p 8)(h9:p 9)(h10:p 10)(h11:p 11):∀k,k<12->p k
 |0,_=>h0|1,_=>h1|2,_=>h2|3,_=>h3|4,_=>h4|5,_=>h5|6,_=>h6|7,_=>h7|8,_=>h8|9,_=>h9|10,_=>h10|11,_=>h11
 |k+12,h=>absurd h (Nat.not_lt.mpr (Nat.le_add_left 12 k))
theorem zI{p:Nat->Bool}(h:[0,1,2,3,4,5,6,7].all p=true):∀k,k<8->p k=true:=λk hk=>List.all_eq_true.mp h k (by
 match k,hk with
 |0,_|1,_|2,_|3,_|4,_|5,_|6,_|7,_=>decide
 |k+8,h=>exact absurd h (Nat.not_lt.mpr (Nat.le_add_left 8 k)))
theorem a8{a:Nat}(h2:a<=126):(a-34)/8<12:=Nat.div_lt_of_lt_mul (Nat.lt_of_le_of_lt (Nat.sub_le_sub_right h2 34) (by decide))
theorem b8{a:Nat}(h1:34<=a):34+8*((a-34)/8)+(a-34)%8=a:=
 (Nat.add_assoc _ _ _).trans ((congrArg (34+ ·) (Nat.div_add_mod (a-34) 8)).trans (Nat.add_sub_of_le h1))
theorem A0{a:Nat}(h1:34<=a)(h2:a<=126):nK a=true:=by
 have:=zI (p:=λd=>nK (34+8*((a-34)/8)+d)) (vt (p:=λk=>dI k=true) Ba A9 A8 A7 A6 A5 A4 A3 A2 A1 yq yo ((a-34)/8) (a8 h2)) ((a-34)%8) (Nat.mod_lt _ (by decide))
 rwa [b8 h1] at this
theorem yd{a:Nat}(h1:34<=a)(h2:a<=126):kF a=true:=by
 have:=zI (p:=λd=>Nat.ble 127 (34+8*((a-34)/8)+d)||kF (34+8*((a-34)/8)+d)) (vt (p:=λk=>cR k=true) yn ym yl yk yj yi yh yg yf ye v8 v7 ((a-34)/8) (a8 h2)) ((a-34)%8) (Nat.mod_lt _ (by decide))
 rw[b8 h1] at this
 exact(Bool.or_eq_true _ _▸this).resolve_left λh=>Nat.not_lt.mpr h2 (Nat.le_of_ble_eq_true h)
def NoK(ρ:R):Prop:=∀s∈ρ,∀k,Sl.kill k s=s
theorem NoK.map(h:NoK ρ)(k:Nat):ρ.map (Sl.kill k)=ρ:=by
 conv=>rhs;rw[<-List.map_id ρ]
 exact List.map_congr_left λs hs=>h s hs k
theorem ft{α:Type}(l:List α):l.filter (λU=>true)=l:=by induction l with|nil=>rfl|cons a r ih=>exact PyProof.Rows.filter_allG (a::r)
section
theorem eM{p:D->Bool}:∀{ds:List D},(∀d∈ds,g d=some (if p d then [f d] else []))->(bL g ds).map List.flatten=some ((ds.filter p).map f)
 |[],_=>rfl
 |d::r,h=>by
  refine mi (eM (ds:=r) λx hx=>h x (List.mem_cons_of_mem d hx)) λl e1 e2=>?_
  rw[show bL g (d::r)=_ from bo (h d (List.mem_cons_self)) (congrArg (Option.map _) e1),List.filter_cons]
  show some (_++l.flatten)=_
  rw[e2]
  induction p d<;>rfl
theorem gV{ds:List D}(hx:aq ρ a (ev H a false ρ)=some x)(hy:aq ρ b (ev H b false ρ)=some y)(hz:aq ρ c (ev H c false ρ)=some z)
 (hi:a9 k x y z=some ds) (hq:∀d∈ds,(ev H q true (.sh d::ρ.map Sl.inn)).bind aE=some (p d)) (he:∀d∈ds,p d=true->ev H e pk (.sh d::ρ.map Sl.inn)=some (f d)) (hl:ds.length<=ax):
 ev H (.comp1 1 k a b c q e) pk ρ=some (.list ((ds.filter p).map f)):=by
 have hg:∀d∈ds,((bg 1 d).bind λbs=>(ev H q true (bs++ρ.map Sl.inn)).bind λu=>(aE u).bind λq=>if q then (ev H e pk (bs++ρ.map Sl.inn)).map λv=>[v] else some [])=some (if p d then [f d] else []):=λd hd=>by
  refine bi (hq d hd) λu e1 e2=>?_
  simp only[(show bg 1 d=some [.sh d] from rfl),Option.bind_some,List.singleton_append,e1,e2]
  by_cases hp:p d=true
  ·simp only[hp,if_true,he d hd hp,Option.map_some]
  ·simp only[hp,Bool.false_eq_true,if_false]
 refine mi (eM hg) λl e1 e2=>?_
 simp only[oE hx hy hz hi,e1,Option.bind_some,e2]
 unfold eN
 rw[if_pos]
 rw[aV]
 exact aA (List.length_filter_le _ _) hl
theorem b9{ds:List D}(hx:aq ρ a (ev H a false ρ)=some x)(hy:aq ρ b (ev H b false ρ)=some y)(hz:aq ρ c (ev H c false ρ)=some z)
 (hi:a9 k x y z=some ds) (he:∀d∈ds,ev H e pk (.sh d::ρ.map Sl.inn)=some (f d)) (hl:ds.length<=ax):
 ev H (.comp1 1 k a b c (.const (.bool true)) e) pk ρ=some (.list (ds.map f)):=by
 have:=gV (q:=.const (.bool true)) (p:=λU=>true) (pk:=pk) hx hy hz hi (λd U=>rfl) (λd hd U=>he d hd) hl
 rwa [ft] at this
theorem ma:∀{ds:List α},(∀d∈ds,g d=some (f d))->bL g ds=some (ds.map f)
 |[],_=>rfl
 |d::r,h=>by
  exact bo (h d (List.mem_cons_self)) (congrArg (Option.map _) (ma (ds:=r) λx hx=>h x (List.mem_cons_of_mem d hx)))
theorem lE{ds:List D}{f:D->D->D}{gx gy gz:D->D}(hx:aq ρ a₁ (ev H a₁ false ρ)=some x)(hy:aq ρ b₁ (ev H b₁ false ρ)=some y)(hz:aq ρ c₁ (ev H c₁ false ρ)=some z)
 (hi:a9 k₁ x y z=some ds)
 (hx2:∀d∈ds,aq (.un::.sh d::ρ.map Sl.inn) a₂ (ev H a₂ false (.un::.sh d::ρ.map Sl.inn))=some (gx d)) (hy2:∀d∈ds,aq (.un::.sh d::ρ.map Sl.inn) b₂ (ev H b₂ false (.un::.sh d::ρ.map Sl.inn))=some (gy d)) (hz2:∀d∈ds,aq (.un::.sh d::ρ.map Sl.inn) c₂ (ev H c₂ false (.un::.sh d::ρ.map Sl.inn))=some (gz d))
 (hi2:∀d∈ds,a9 k₂ (gx d) (gy d) (gz d)=some (g d))
 (he:∀d∈ds,∀d2∈g d,ev H e pk (.sh d2::.sh d::ρ.map Sl.inn)=some (f d d2)) (hl:(ds.flatMap g).length<=ax):
 ev H (.comp2 1 k₁ a₁ b₁ c₁ 1 k₂ a₂ b₂ c₂ (.const (.bool true)) e) pk ρ=some (.list (ds.flatMap λd=>(g d).map (f d))):=by
 have h1:bL (λd=>(bg 1 d).bind λbs=>(aq (aY 1++(bs++ρ.map Sl.inn)) a₂ (ev H a₂ false (aY 1++(bs++ρ.map Sl.inn)))).bind λx=>
  (aq (aY 1++(bs++ρ.map Sl.inn)) b₂ (ev H b₂ false (aY 1++(bs++ρ.map Sl.inn)))).bind λy=>(aq (aY 1++(bs++ρ.map Sl.inn)) c₂ (ev H c₂ false (aY 1++(bs++ρ.map Sl.inn)))).bind λz=>(a9 k₂ x y z).bind λds₂=>
  (bL (λd=>(bg 1 d).bind λbs₂=>(ev H (.const (.bool true)) true (bs₂++(bs++ρ.map Sl.inn))).bind λu=>(aE u).bind λq=>if q then (ev H e pk (bs₂++(bs++ρ.map Sl.inn))).map λv=>[v] else some []) ds₂).map List.flatten) ds=some (ds.map λd=>(g d).map (f d)):=by
  refine ma λd hd=>?_
  have e4:∀r:R,aY 1++([.sh d]++r)=.un::.sh d::r:=λU=>rfl
  simp only[(show∀d,bg 1 d=some [.sh d] from λU=>rfl),Option.bind_some,e4,hx2 d hd,hy2 d hd,hz2 d hd,hi2 d hd]
  have:=eM (ds:=g d) (p:=λU=>true) (f:=f d) (g:=λd2=>(ev H (.const (.bool true)) true ([.sh d2]++([.sh d]++ρ.map Sl.inn))).bind λu=>(aE u).bind λq=>if q then (ev H e pk ([.sh d2]++([.sh d]++ρ.map Sl.inn))).map λv=>[v] else some []) λd2 hd2=>by
   have e5:∀r:R,[.sh d2]++([.sh d]++r)=.sh d2::.sh d::r:=λU=>rfl
   rw[e5]
   show Option.map _ (ev H e pk _)=_
   rw[he d hd d2 hd2];rfl
  rw[ft] at this
  exact this
 refine bo hx (bo hy (bo hz (bo hi (bo h1 ?_))))
 unfold eN
 rw[((List.flatMap_def).symm),if_pos]
 simpa using hl
end
theorem gw(hw:w<91)(h:x<3):34+w+x<128:=Nat.lt_of_lt_of_le (Nat.add_lt_add_left h _) (aA (Nat.add_le_add_right (Nat.add_le_add_left (Nat.le_of_lt_succ hw) 34) 3) (by decide))
noncomputable def dH(w d:Nat):D:=.str [34+w+d]
def cV(w:Nat):D:=.list [dH w 0,dH w 1,dH w 2]
noncomputable def aN(S:List Nat):D:=.list (S.map λ(d:Nat)=>D.int (d:Int))
noncomputable def cv(w:Nat)(S:List Nat):List Nat:=S.map λd=>34+w+d
noncomputable def others(S:List Nat):List Nat:=[0,1,2].filter λd=> !S.contains d
def Dg(w r:Nat)(S:List Nat)(dr:Nat):R:=[.sh (cV w),.sh (aN S),.sh (.int r),.sh (.int dr),.un,.un]
def Df(w r:Nat)(S:List Nat)(dr:Nat):R:=[.sh (cV w),.sh (aN S),.sh (.int r),.sh (.int dr),.sh (bJ (cv w S)),.sh (bJ (cv w (others S)))]
theorem BH(w i:Nat)(S:List Nat):inD (.str [34+w+i]) ((cv w S).map λc=>.str [c])=some (S.contains i):=by
 unfold inD
 rw[if_pos]
 ·congr 1
  induction S with
  |nil=>rfl
  |cons d r ih=>
   simp only[cv,List.map_cons,List.any_cons,List.contains_cons] at ih ⊢
   congr 1
   show([34+w+d]==[34+w+i])=(i==d)
   rw[Bool.eq_iff_iff];simp;exact eq_comm
 ·rw[List.all_eq_true]
  intro x hx
  refine ai (List.mem_map.mp hx) λc U q4=>q4▸?_
  rfl
theorem Cg(H:Hook)(w r:Nat)(S:List Nat)(dr:Nat)(hS:∀d∈S,d<3)(hl:S.length<=3):aD (az H 12) I95 (Dg w r S dr)=aD (az H 12) (I95.drop 2) (Df w r S dr):=by
 have e0:ev H (.comp1 1 .of (.var 1) (.const .none) (.const .none) (.const (.bool true)) (.sub (.var 1) (.var 0))) false (Dg w r S dr)=some (bJ (cv w S)):=by
  refine(b9 (ds:=S.map λ(d:Nat)=>.int (d:Int)) (f:=λd=>d.gI.elim .none λi=>.str [34+w+i.toNat]) rfl rfl rfl rfl ?_ ?_).trans ?_
  ·intro d hd
   refine ai (List.mem_map.mp hd) λk hk q1=>?_
   subst q1
   have:=hS k hk
   clear hk
   rcases Cp this with rfl|rfl|rfl<;>rfl
  ·rw[aV];exact aA hl (by decide)
  ·rw[List.map_map]
   unfold bJ cv
   rw[List.map_map]
   rfl
 have e1:ev H (.comp1 1 .of (.var 0) (.const .none) (.const .none) (.cmp .NotIn (.var 0) (.var 5)) (.var 0)) false [.sh (cV w),.sh (aN S),.sh (.int r),.sh (.int dr),.sh (bJ (cv w S)),.un]=some (bJ (cv w (others S))):=by
  refine(gV (ds:=[dH w 0,dH w 1,dH w 2]) (p:=λd=>(d.gS.bind dq).elim false λc=> !S.contains (c-(34+w))) (f:=λd=>d) rfl rfl rfl rfl ?_ ?_ ?_).trans ?_
  ·intro d hd
   have h:∃i,i<3/\d=dH w i:=by
    simp only[List.mem_cons,List.not_mem_nil,or_false] at hd
    rcases hd with rfl|rfl|rfl
    ·exact(am 0 (by decide) rfl)
    ·exact(am 1 (by decide) rfl)
    ·exact(am 2 (by decide) rfl)
   refine ai h λi U q3=>af q3▸?_
   show((((inD (.str [34+w+i]) ((cv w S).map _)).map (!·)).map D.bool).bind aE)=_
   rw[BH]
   show some (!S.contains i)=some (!S.contains (34+w+i-(34+w)))
   rw[Nat.add_sub_cancel_left]
  ·intro d _ _
   rfl
  ·exact(by decide:3<=ax)
  ·unfold bJ cv others
   simp only[List.map_id',List.map_map,dH]
   have pe:∀i,(((D.str [34+w+i]).gS.bind dq).elim false λc=> !S.contains (c-(34+w)))= !S.contains i:=λi=>by
    show(!S.contains (34+w+i-(34+w)))=_
    rw[Nat.add_sub_cancel_left]
   simp only[List.filter_cons,pe,List.filter_nil]
   induction S.contains 0<;>induction S.contains 1<;>induction S.contains 2<;>rfl
 refine(ak (ρ':=[.sh (cV w),.sh (aN S),.sh (.int r),.sh (.int dr),.sh (bJ (cv w S)),.un]) ?_).trans (ak (ρ':=Df w r S dr) ?_)
 ·exact cy e0 rfl
 ·exact cy e1 rfl
section
theorem dm{d:D}(h1:∀pk,ev H a pk ρ=some (.tuple ds))(h2:H f ds=some d):ev H (.call f a) pk ρ=some d:=by
 have e:ev H (.call f a) pk ρ=if pk||d.flat then some d else H f ds:=
  bo (h1 true) (bo h2 (by rw[bo (h1 false) (h2:(λx=>match x with|D.tuple ds=>H f ds|_=>none) (.tuple ds)=_),h2]))
 rw[e,h2]
 split<;>rfl
theorem gh(h1:aq ρ a (ev H a pk ρ)=some (.str x))(h2:aq ρ b (ev H b pk ρ)=some (.str y))(hl:x.length+y.length<=ax):ev H (.bin .Add a b) pk ρ=some (.str (x++y)):=
 bo h1 (bo h2 (if_pos hl))
theorem cx{d:D}(h:ev H e true ρ=some d)(r:List IS):aD (az H (n+1)) (.ret e::r) ρ=some (.rt d,ρ):=cS (qI h)
theorem rH(A:List Nat):aE (bJ A)=some (!A.isEmpty):=by
 induction A<;>rfl
theorem len_signs(A:List Nat):dJ "len" [bJ A]=some (.int A.length):=by
 unfold bJ
 show eL "len" _=_
 unfold eL
 rw[if_pos rfl]
 show some (D.int _)=_
 simp
end
section
abbrev itR(x0 x1:D)(r dr:Int)(A O:List Nat):R:=[.sh x0,.sh x1,.sh (.int r),.sh (.int dr),.sh (bJ A),.sh (bJ O)]
theorem Ae(hk:∀pk,ev H (.cons (.var k) .nil) pk (itR x0 x1 r dr A O)=some (.tuple [bJ B]))(h:H 90 [bJ B]=some (.str s))(hs:s.length<=64)(hh:hd.length<=2):
 ev H (.bin .Add (.bin .Add (.const (.str hd)) (.call 90 (.cons (.var k) .nil))) (.const (.str [93]))) true (itR x0 x1 r dr A O)=some (.str (hd++s++[93])):=by
 refine gh (x:=hd++s) ?_ rfl ?_
 ·exact gh rfl (dm hk h) (by show _<=4096;exact aA (Nat.add_le_add ‹_› ‹_›) (by decide))
 ·show _<=4096
  rw[List.length_append]
  show _+1<=4096
  exact Nat.lt_of_le_of_lt (Nat.add_le_add ‹_› ‹_›) (by decide)
theorem Cj(hO:O≠[])(h:H 90 [bJ O]=some (.str s))(hs:s.length<=64):
 aD (az H 12) (I95.drop 2) (itR x0 x1 r 1 A O)=some (.rt (.str (rj true s)),itR x0 x1 r 1 A O):=by
 refine cS ?_
 rw[cw (d:=bJ O) (u:=true) rfl (by rw[rH];induction O with|nil=>exact absurd rfl hO|cons a l=>rfl),if_pos rfl]
 exact cx (Ae (hd:=[91,33]) (λpk=>by induction pk<;>rfl) h hs (by decide)) _
theorem zr(h:dr≠1\/O=[]):∃d,ev H (.and (.cmp .Eq (.var 3) (.const (.int 1))) (.var 5)) true (itR x0 x1 r dr A O)=some d/\aE d=some false:=by
 have e:ev H (.and (.cmp .Eq (.var 3) (.const (.int 1))) (.var 5)) true (itR x0 x1 r dr A O)=if dr==1 then some (bJ O) else some (.bool (dr==1)):=by
  rfl
 rw[e]
 clear e
 by_cases hd:dr=1
 ·subst hd
  have hO:=h.resolve_left (λh=>h rfl)
  clear h
  subst hO
  exact⟨_,rfl,rfl⟩
 ·rw[if_neg (by simpa using hd)]
  exact⟨_,rfl,by simpa [bB] using hd⟩
theorem zq:ev H (.and (.cmp .Lt (.var 3) (.const (.int 2))) (.cmp .Eq (.prim "len" (.cons (.var 4) .nil)) (.var 2))) true (itR x0 x1 r dr A O)=some (.bool (decide (dr<2)&&((A.length:Int)==r))):=by
 have e:ev H (.prim "len" (.cons (.var 4) .nil)) true (itR x0 x1 r dr A O)=some (.int A.length):=len_signs A
 have e1:ev H (.cmp .Eq (.prim "len" (.cons (.var 4) .nil)) (.var 2)) true (itR x0 x1 r dr A O)=some (.bool ((A.length:Int)==r)):=by
  rw[dN]
  rw[e]
  rfl
 have e2:ev H (.cmp .Lt (.var 3) (.const (.int 2))) true (itR x0 x1 r dr A O)=some (.bool (decide (dr<2))):=rfl
 rw[kx]
 rw[e2,e1]
 by_cases h:dr<2
 ·simp[bB,h]
 ·simp[bB,h]
theorem DT:∃d,ev H (.and (.cmp .Eq (.var 3) (.const (.int 0))) (.and (.cmp .Eq (.prim "len" (.cons (.var 4) .nil)) (.const (.int 1))) (.cmp .NotIn (.sub (.var 4) (.const (.int 0))) (.tup (.cons (.const (.str [42])) (.cons (.const (.str [63])) (.cons (.const (.str [91])) .nil))))))) true (itR x0 x1 r dr A O)=some d/\
 aE d=some ((dr==0)&&(A.length==1)&& !(A.head?==some 42||A.head?==some 63||A.head?==some 91)):=by
 have e:ev H (.prim "len" (.cons (.var 4) .nil)) true (itR x0 x1 r dr A O)=some (.int A.length):=len_signs A
 have e1:ev H (.cmp .Eq (.prim "len" (.cons (.var 4) .nil)) (.const (.int 1))) true (itR x0 x1 r dr A O)=some (.bool ((A.length:Int)==1)):=by
  rw[dN]
  rw[e]
  rfl
 have e2:ev H (.cmp .Eq (.var 3) (.const (.int 0))) true (itR x0 x1 r dr A O)=some (.bool (dr==0)):=rfl
 clear e
 rw[kx]
 rw[e2]
 clear e2
 by_cases h:dr=0
 ·subst h
  simp only[Option.bind_some,bB,BEq.rfl,if_true,Bool.true_and]
  rw[kx]
  rw[e1]
  clear e1
  by_cases h1:A.length=1
  ·obtain⟨c,rfl⟩:=List.length_eq_one_iff.mp h1
   ·refine⟨.bool (!(c==42||c==63||c==91)),?_,?_⟩
    ·have e3:ev H (.cmp .NotIn (.sub (.var 4) (.const (.int 0))) (.tup (.cons (.const (.str [42])) (.cons (.const (.str [63])) (.cons (.const (.str [91])) .nil))))) true (itR x0 x1 r 0 [c] O)=some (.bool (!([42]==[c]||([63]==[c]||([91]==[c]||false))))):=by
      rfl
     simp only[Option.bind_some,bB]
     rw[if_pos (by simp),e3]
     congr 3
     have q:∀k:Nat,([k]==[c])=(c==k):=λk=>by rw[Bool.eq_iff_iff,beq_iff_eq,beq_iff_eq];exact⟨λh=>by cases h;rfl,λh=>by rw[h]⟩
     rw[q,q,q,Bool.or_false,Bool.or_assoc]
    ·have q:∀k:Nat,([c].head?==some k)=(c==k):=λk=>rfl
     simp only[bB,q]
     rfl
  ·have h2:((A.length:Int)==1)=false:=by simpa using λh=>h1 (by exact af ((λ{m n}=>Int.ofNat_inj.mp) (id (af h))))
   have h3:(A.length==1)=false:=by simpa using h1
   rw[h2,h3]
   exact⟨_,rfl,by simp[bB]⟩
 ·have h2:(dr==0)=false:=by simpa using h
  rw[h2]
  exact⟨_,rfl,by simp[bB]⟩
theorem Ci(h1:dr≠1\/O=[])(h2:dr<2)(h3:(A.length:Int)=r):aD (az H 12) (I95.drop 2) (itR x0 x1 r dr A O)=some (.rt (.str [63]),itR x0 x1 r dr A O):=by
 obtain⟨d,e1,e2⟩:=zr (H:=H) (x0:=x0) (x1:=x1) (r:=r) (dr:=dr) (A:=A) (O:=O) h1
 refine(ak (ρ':=itR x0 x1 r dr A O) (by rw[cw e1 e2];rfl)).trans (cS ?_)
 rw[cw zq (u:=true) (by simp[bB,h2,h3]),if_pos rfl]
 exact cx rfl _
theorem xu(h1:dr≠1\/O=[])(h2:(1:Int)≠r)(h3:dr=0)(hc:c≠42/\c≠63/\c≠91):aD (az H 12) (I95.drop 2) (itR x0 x1 r dr [c] O)=some (.rt (.str [c]),itR x0 x1 r dr [c] O):=by
 obtain⟨d,e1,e2⟩:=zr (H:=H) (x0:=x0) (x1:=x1) (r:=r) (dr:=dr) (A:=[c]) (O:=O) h1
 obtain⟨d',e3,e4⟩:=DT (H:=H) (x0:=x0) (x1:=x1) (r:=r) (dr:=dr) (A:=[c]) (O:=O)
 refine(ak (ρ':=itR x0 x1 r dr [c] O) (by rw[cw e1 e2];rfl)).trans ((ak (ρ':=itR x0 x1 r dr [c] O) ?_).trans (cS ?_))
 ·rw[cw zq (u:=false) (by simpa [bB] using λU=>h2)];rfl
 ·rw[cw e3 (u:=true) (by rw[e4];simp[h3,hc]),if_pos rfl]
  exact cx rfl _
theorem Cf(h1:dr≠1\/O=[])(h2:¬(dr<2/\(A.length:Int)=r))(h3:¬(dr=0/\∃c,A=[c]/\c≠42/\c≠63/\c≠91))(h:H 90 [bJ A]=some (.str s))(hs:s.length<=64):
 aD (az H 12) (I95.drop 2) (itR x0 x1 r dr A O)=some (.rt (.str (rj false s)),itR x0 x1 r dr A O):=by
 obtain⟨d,e1,e2⟩:=zr (H:=H) (x0:=x0) (x1:=x1) (r:=r) (dr:=dr) (A:=A) (O:=O) h1
 obtain⟨d',e3,e4⟩:=DT (H:=H) (x0:=x0) (x1:=x1) (r:=r) (dr:=dr) (A:=A) (O:=O)
 refine(ak (ρ':=itR x0 x1 r dr A O) (by rw[cw e1 e2];rfl)).trans ((ak (ρ':=itR x0 x1 r dr A O) ?_).trans ((ak (ρ':=itR x0 x1 r dr A O) ?_).trans ?_))
 ·rw[cw zq (u:=false) (by simpa [bB] using λa b=>h2 ⟨a,b⟩)];rfl
 ·have q:((dr==0)&&(A.length==1)&& !(A.head?==some 42||A.head?==some 63||A.head?==some 91))=false:=by
   by_cases g:((dr==0)&&(A.length==1)&& !(A.head?==some 42||A.head?==some 63||A.head?==some 91))=true
   ·exfalso
    simp only[Bool.and_eq_true,beq_iff_eq] at g
    refine h3 ⟨g.1.1,?_⟩
    obtain⟨c,hA⟩:=List.length_eq_one_iff.mp g.1.2
    exact⟨c,hA,by rw[hA] at g;simpa [and_assoc] using g.2⟩
   ·simpa using g
  rw[cw e3 (u:=false) (by rw[e4,q])];rfl
 ·exact cx (Ae (hd:=[91]) (λpk=>by induction pk<;>rfl) h hs (by decide)) _
end
theorem wd(hw:w<91)(h:a+d<=2):34+w+a+d<=126:=ln [_,_,_] [(1,.a (.v 0) (.k 1),.k 91),(1,.a (.v 1) (.v 2),.k 2)] (.a (.a (.a (.k 34) (.v 0)) (.v 1)) (.v 2)) (.k 126) 1 rfl hw h
set_option tactic.hygienic true in
theorem nJ(h:rg t a told=true):∃i:It,i.Good/\i.t=t/\∀c,a<=c+2->c<=a+2->cj i.b i.ps c=told c:=by
 unfold rg at h
 split at h
 ·rename_i i hi
  simp only[Bool.and_eq_true] at h
  refine aw (oj hi h.1) λg1 g2=>(bc i g1 g2 (λc h1 h2=>?_))
  have key:=λk hk e=>by
   have:=(List.all_eq_true.mp h.2) k hk
   rw[show a+k-2=c by exact af (Nat.eq_sub_of_add_eq (id (af e)))] at this
   simpa using this
  have:c+2-a<5:=by exact ln [_,_,_] [(1,.v 0,.a (.v 1) (.k 2)),(1,.a (.v 2) (.v 1),.a (.v 0) (.k 2))] (.a (.v 2) (.k 1)) (.k 5) 1 rfl h2 (Nat.le_of_eq (Nat.sub_add_cancel h1))
  refine key (c+2-a) ?_ (Nat.add_sub_of_le h1)
  exact(List.mem_range.mpr this:_∈List.range 5)
 ·(injection h;done)
theorem sF(w d:Nat)(S:List Nat):t9 (cv w S) (34+w+d)=S.contains d:=by
 unfold t9 cv
 induction S with
 |nil=>rfl
 |cons x r ih=>
  simp only[List.map_cons,List.any_cons,List.contains_cons,ih]
  congr 1
  rw[Bool.eq_iff_iff,Nat.beq_eq,beq_iff_eq];exact Nat.add_left_cancel_iff.trans eq_comm
theorem t8{d:Nat}(hd:d<3):(others S).contains d= !S.contains d:=by
 unfold others
 rcases Cp hd with rfl|rfl|rfl<;>induction h0:S.contains 0<;>induction h1:S.contains 1<;>induction h2:S.contains 2<;>simp only[List.filter_cons,List.filter_nil,h0,h1,h2,Bool.not_true,Bool.not_false,Bool.false_eq_true,if_true,if_false]<;>rfl
structure Ap(w:Nat)(S:List Nat)(s:List Nat):Prop where
 txt:yt (cv w S)=some s
 pos:∃i:It,i.Good/\i.t=rj false s/\∀d,d<3->cj i.b i.ps (34+w+d)=S.contains d
 neg:∃i:It,i.Good/\i.t=rj true s/\∀d,d<3->cj i.b i.ps (34+w+d)= !S.contains d
 len:s.length<=64
set_option tactic.hygienic true in
theorem gA(k:Nat)(sh:List Nat)(hs:sh∈shapes)(hw:∀d∈sh,34+w+k+d<=126)(h0:k<=2)(hk:34+w+k<=126)(he:(sh.map λd=>34+w+k+d)=cv w S):∃s,Ap w S s:=by
 have h1:=List.all_eq_true.mp (A0 (a:=34+w+k) (ln [_,_] [] (.k 34) (.a (.a (.k 34) (.v 0)) (.v 1)) 1 rfl) hk) sh hs
 have ha:=List.all_eq_true.mpr λd hd=>by rw[Nat.ble_eq];exact hw d hd
 rw[ha] at h1
 have h2:rh (34+w+k) (sh.map λd=>34+w+k+d)=true:=h1
 rw[he] at h2
 unfold rh at h2
 split at h2
 ·rename_i s hs2
  rw[Bool.and_eq_true] at h2
  refine aZ (nJ h2.1) λi g1 g2 g3=>aZ (nJ h2.2) λj g4 g5 g6=>⟨s,hs2,⟨i,g1,g2,λd hd=>?_⟩,⟨j,g4,g5,λd hd=>?_⟩,?_⟩
  ·rw[g3 _ (by exact ln [_,_,_] [(1,.v 0,.k 2)] (.a (.a (.k 34) (.v 1)) (.v 0)) (.a (.a (.a (.k 34) (.v 1)) (.v 2)) (.k 2)) 1 rfl h0) (by exact ln [_,_,_] [(1,.a (.v 0) (.k 1),.k 3)] (.a (.a (.k 34) (.v 1)) (.v 0)) (.a (.a (.a (.k 34) (.v 1)) (.v 2)) (.k 2)) 1 rfl hd),sF]
  ·rw[g6 _ (by exact ln [_,_,_] [(1,.v 0,.k 2)] (.a (.a (.k 34) (.v 1)) (.v 0)) (.a (.a (.a (.k 34) (.v 1)) (.v 2)) (.k 2)) 1 rfl h0) (by exact ln [_,_,_] [(1,.a (.v 0) (.k 1),.k 3)] (.a (.a (.k 34) (.v 1)) (.v 0)) (.a (.a (.a (.k 34) (.v 1)) (.v 2)) (.k 2)) 1 rfl hd),sF]
  ·have:=g1.tl
   rw[g2] at this
   unfold rj at this
   simp at this
   exact aA ‹_› (by decide)
 ·(injection h2;done)
noncomputable def dQ:List (List Nat):=[[0],[1],[2],[0,1],[0,2],[1,2],[0,1,2]]
theorem si(hw:w<91){S:List Nat}(h:S∈dQ):∃s,Ap w S s:=by
 simp only[dQ,List.mem_cons,List.not_mem_nil,or_false] at h
 rcases h with rfl|rfl|rfl|rfl|rfl|rfl|rfl
 ·exact gA 0 [0] (by decide) (by intro d hd;simp at hd;exact ln [_,_] [(1,.a (.v 0) (.k 1),.k 91),(1,.v 1,.k 0)] (.a (.a (.a (.k 34) (.v 0)) (.k 0)) (.v 1)) (.k 126) 1 rfl hw (Nat.le_of_eq hd)) (Nat.zero_le _) (ln [_] [(1,.a (.v 0) (.k 1),.k 91)] (.a (.a (.k 34) (.v 0)) (.k 0)) (.k 126) 1 rfl hw) (by rfl)
 ·exact gA 1 [0] (by decide) (by intro d hd;simp at hd;exact ln [_,_] [(1,.a (.v 0) (.k 1),.k 91),(1,.v 1,.k 0)] (.a (.a (.a (.k 34) (.v 0)) (.k 1)) (.v 1)) (.k 126) 1 rfl hw (Nat.le_of_eq hd)) (Nat.succ_pos _) (ln [_] [(1,.a (.v 0) (.k 1),.k 91)] (.a (.a (.k 34) (.v 0)) (.k 1)) (.k 126) 1 rfl hw) (by rfl)
 ·exact gA 2 [0] (by decide) (by intro d hd;simp at hd;exact ln [_,_] [(1,.a (.v 0) (.k 1),.k 91),(1,.v 1,.k 0)] (.a (.a (.a (.k 34) (.v 0)) (.k 2)) (.v 1)) (.k 126) 1 rfl hw (Nat.le_of_eq hd)) (Nat.le_refl _) (ln [_] [(1,.a (.v 0) (.k 1),.k 91)] (.a (.a (.k 34) (.v 0)) (.k 2)) (.k 126) 1 rfl hw) (by rfl)
 ·exact gA 0 [0,1] (by decide) (λd hd=>wd hw ((by decide:∀d∈[0,1],0+d<=2) d hd)) (Nat.zero_le _) (ln [_] [(1,.a (.v 0) (.k 1),.k 91)] (.a (.a (.k 34) (.v 0)) (.k 0)) (.k 126) 1 rfl hw) (by simp[cv])
 ·exact gA 0 [0,2] (by decide) (λd hd=>wd hw ((by decide:∀d∈[0,2],0+d<=2) d hd)) (Nat.zero_le _) (ln [_] [(1,.a (.v 0) (.k 1),.k 91)] (.a (.a (.k 34) (.v 0)) (.k 0)) (.k 126) 1 rfl hw) (by rfl)
 ·exact gA 1 [0,1] (by decide) (λd hd=>wd hw ((by decide:∀d∈[0,1],1+d<=2) d hd)) (Nat.succ_pos _) (ln [_] [(1,.a (.v 0) (.k 1),.k 91)] (.a (.a (.k 34) (.v 0)) (.k 1)) (.k 126) 1 rfl hw) (by rfl)
 ·exact gA 0 [0,1,2] (by decide) (λd hd=>wd hw ((by decide:∀d∈[0,1,2],0+d<=2) d hd)) (Nat.zero_le _) (ln [_] [(1,.a (.v 0) (.k 1),.k 91)] (.a (.a (.k 34) (.v 0)) (.k 0)) (.k 126) 1 rfl hw) (by rfl)
theorem nZ(h:yt A=some s):H1 90 [bJ A]=some (.str s):=by
 refine bi h λd h1 h2=>?_
 rw[AU h2] at h1
 exact h1
theorem de{n:Nat}(hn:ds.length=n)(h:aD (az H 12) I (ds.map .sh++List.replicate (Γ.length-n) .un)=some (.rt d,ρ')):dx H Γ I n ds=some d:=(if_pos hn).trans (bo h rfl)
theorem Fn(ds:List D):H2 95 ds=dx H1 Ax I95 4 ds:=rfl
theorem Gm:yJ [63]=some ⟨[63],[46],true,[]⟩:=by kernel_rfl
theorem t4(h:S∈dQ)(ho:others S≠[]):others S∈dQ:=
 (by decide:∀S∈dQ,others S≠[]->others S∈dQ) S h ho
theorem yX(h:S∈dQ){r:Nat}(hr:r=2\/r=3)(hS2:∀d∈S,d<r)(hl:S.length=r){d:Nat}(hd:d<r):S.contains d=true:=
 (by decide:∀S∈dQ,∀r∈[2,3],(∀d∈S,d<r)->S.length=r->∀d,d<r->S.contains d=true) S h r (by simpa using hr) hS2 hl d hd
theorem C5(he:cv w S=[c]):∃d,S=[d]/\c=34+w+d:=by
 refine ai (List.map_eq_singleton_iff.mp he) λd h1 h2=>(am d h1 h2.symm)
theorem Gs{S:List Nat}(h:S∈dQ):S.length<=3:=(by decide:∀S∈dQ,S.length<=3) S h
theorem rm{a k:Nat}(h:a≠k):Nat.beq a k=false:=by
 rw[<-Bool.not_eq_true,Nat.beq_eq];exact h
theorem sL{r:Nat}(hr:r=2\/r=3):r<=3:=hr.elim (λe=>aA (Nat.le_of_eq e) (by decide)) Nat.le_of_eq
theorem Dh(hw:w<91)(h:d<r)(hr:r=2\/r=3):34<=34+w+d/\34+w+d<=126:=⟨aA (Nat.le_add_right 34 w) (Nat.le_add_right _ d),ln [_,_,_] [(1,.a (.v 0) (.k 1),.k 91),(1,.a (.v 1) (.k 1),.v 2),(1,.v 2,.k 3)] (.a (.a (.k 34) (.v 0)) (.v 1)) (.k 126) 1 rfl hw h (sL hr)⟩
theorem near(hr:r=2\/r=3)(h:d<r)(hc:c<r):34+w+c<=34+w+d+2:=aA (Nat.add_le_add_left (Nat.le_of_lt_succ (Nat.lt_of_lt_of_le hc (sL hr))) _) (Nat.add_le_add_right (Nat.le_add_right _ _) 2)
theorem qp{r d:Nat}(hr:r=2\/r=3)(h:d<r):d<3:=Nat.lt_of_lt_of_le h (sL hr)
theorem F9(w d0 d:Nat):Nat.beq (34+w+d0) (34+w+d)=[d0].contains d:=by
 rw[Bool.eq_iff_iff,Nat.beq_eq];simp;exact eq_comm
theorem C4{r:Nat}(hr:r=2\/r=3):(1:Int)≠r:=hr.elim (λe=>e▸by decide) λe=>e▸by decide
theorem nr(hw:w<91){r:Nat}(hr:r=2\/r=3){S:List Nat}(hS:S∈dQ)(hS2:∀d∈S,d<r)(dr:Nat):
 ∃i:It,i.Good/\H2 95 [cV w,aN S,.int r,.int dr]=some (.str i.t)/\∀d,d<r->cj i.b i.ps (34+w+d)=S.contains d:=by
 have run:∀t ρ',aD (az H1 12) (I95.drop 2) (itR (cV w) (aN S) r dr (cv w S) (cv w (others S)))=some (.rt (.str t),ρ')->H2 95 [cV w,aN S,.int r,.int dr]=some (.str t):=λt ρ' h=>by
  rw[Fn]
  refine de (ρ':=ρ') rfl ?_
  exact(Cg H1 w r S dr (λd hd=>qp hr (hS2 d hd)) (Gs hS)).trans h
 have la:(cv w S).length=S.length:=by exact af (PyProof.Rows.len_of_map_eq rfl)
 by_cases c1:dr=1/\others S≠[]
 ·refine av λGG kk=>?_
  obtain⟨s,h1,_,⟨i,h2,h3,h4⟩,h5⟩:=si hw (t4 hS c1.2)
  refine kk ?_;clear kk
  refine(bc i h2 ?_ (λd hd=>?_))
  ·refine af h3▸?_
   have:=Cj (x0:=cV w) (x1:=aN S) (r:=r) (A:=cv w S) (λrfl=>c1.2 (List.map_eq_nil_iff.mp rfl)) (nZ h1) h5
   rw[c1.1] at run ⊢
   exact run _ _ this
  ·simp only[h4 d (qp hr hd),t8 (qp hr hd),Bool.not_not]
 ·have hc1:(dr:Int)≠1\/cv w (others S)=[]:=by
   by_cases hd:dr=1
   ·right
    have:others S=[]:=Classical.byContradiction λh=>c1 ⟨hd,h⟩
    rw[this];rfl
   ·exact .inl λh=>hd (Int.ofNat.inj h)
  by_cases c2:dr<2/\S.length=r
  ·refine aw (oj Gm (by decide)) λg1 g2=>?_
   refine(bc _ g1 (run _ _ (Ci hc1 (Int.ofNat_lt.mpr c2.1) (by rw[la,c2.2]))) (λd hd=>?_))
   rw[yX hS hr hS2 c2.2 hd];rfl
  ·by_cases c3:(dr:Int)=0/\∃c,cv w S=[c]/\c≠42/\c≠63/\c≠91
   ·refine av λGG kk=>?_
    obtain⟨h0,c,he,hc⟩:=c3
    refine ai (C5 he) λd0 q6 q7=>?_
    clear he
    subst q6
    subst q7
    have hd0:=hS2 d0 List.mem_cons_self
    have hs:=yd (Dh hw hd0 hr).1 (Dh hw hd0 hr).2
    unfold kF at hs
    rw[rm hc.1,rm hc.2.1,rm hc.2.2] at hs
    refine aZ (nJ (hs)) λi g1 g2 g3=>kk ?_;clear kk
    refine(bc i g1 ?_ (λd hd=>?_))
    ·rw[g2]
     refine run _ (itR (cV w) (aN [d0]) r dr [34+w+d0] (cv w (others [d0]))) ?_
     have:=xu (H:=H1) (x0:=cV w) (x1:=aN [d0]) (r:=r) (dr:=dr) (O:=cv w (others [d0])) hc1 (C4 hr) h0 hc
     exact this
    ·rw[g3 _ (near hr hd hd0) (near hr hd0 hd)]
     exact F9 w d0 d
   ·refine av λGG kk=>?_
    obtain⟨s,h1,⟨i,h2,h3,h4⟩,_,h5⟩:=si hw hS
    refine kk ?_;clear kk
    refine⟨i,h2,?_,λd hd=>h4 d (qp hr hd)⟩
    rw[h3]
    exact run _ _ (Cf hc1 (λh=>c2 ⟨Int.ofNat_lt.mp h.1,Int.ofNat.inj (la▸h.2)⟩) c3 (nZ h1) h5)
theorem Eh(pre t post:List Nat):nS pre t post Ei H0:=λf ds z h=>by
 unfold Ei at h
 by_cases hf:f=64
 ·rw[if_pos hf] at h
  refine bi h λl h1 h2=>mi h2 λd h3 h4=>?_
  clear h2
  subst h4
  unfold H0
  rw[if_pos hf,DS.getL_val pre t post ds h1,h3]
  rfl
 ·rw[if_neg hf] at h;exact no h
theorem Eo(ds:List D):H1 107 ds=dx H0 rD rA 2 ds:=rfl
theorem Ef(pre x post:List Nat)(hlen:pre.length+x.length+8<2^20):nS pre x post (Eg x) H1:=λf ds z h=>by
 unfold Eg at h
 by_cases hf:f=107
 ·subst hf
  rw[if_pos rfl] at h
  rw[Eo]
  exact sV (run':=aD (az H0 12)) (λI=>ew (nC (λf ds z h=>no h) hlen (by show 0<=1000;exact Nat.zero_le _) 12) I) h
 ·rw[if_neg hf] at h;exact no h
theorem Em(ds:List D):H2 114 ds=dx H1 rC rz 2 ds:=rfl
theorem EY{z:DS}{d n}(h:z.jd=some (d,n)):∃y,z=.tup [y,.off n]/\y.get=some d:=
 bi h λl h1 h=>bi h λp h2 h=>bi h λk h3 h=>mi h λd' h4 h=>by
  obtain⟨rfl,rfl⟩:=Prod.mk.inj h
  exact⟨p.1,by rw[DS.tupL_eq h1,ka h2,DS.offN_eq h3],h4⟩
theorem judge_ok{i:It}(g:i.Good)(pre post:List Nat)(hlen:pre.length+i.x.length+8<2^20):H2 114 [.str (pre++i.x++post),.int pre.length]=some (.tuple [gP i.b i.ps,.int ((pre.length+i.x.length:Nat):Int)]):=by
 refine bi (g.judge) λz h1 h2=>?_
 obtain⟨y,rfl,h3⟩:=EY h2
 have h4:=sV (pre:=pre) (t:=i.x) (post:=post) (run':=aD (az H1 12)) (λI=>ew (nC (Ef pre i.x post hlen) hlen (by show 0<=1000;exact Nat.zero_le _) 12) I) h1
 rw[Em]
 have e:DS.valL pre i.x post [y,.off i.x.length]=[_,_]:=congrArg (· ::[D.int ((pre.length+i.x.length:Nat):Int)]) (y.get_val pre i.x post h3)
 exact h4.trans (congrArg (λl=>some (D.tuple l)) e)
noncomputable def cf(txt:List Nat)(i:Nat)(base:List D)(jk:R):R:=[.sh (.str txt),.sh .obj,.sh (.str [46]),.ow base,.ap 3,.sh (.int i),.sh (.int txt.length)]++jk
theorem EQ:∀{f:FS},f.isNx=true->f=.nx
 | .nx,_=>rfl
 | .br,h| .rt _,h=>by(injection h;done)
theorem yF(pre t post:List Nat)(base:Bs){s:SS}(h:s.noAp=true)(k:Nat):Sl.kill k (s.val pre t post base)=s.val pre t post base:=by
 induction s with
 |ap3=>(injection h;done)
 |jk i=>exact base.hj i k
 |_=>rfl
theorem xJ{ρ:RS}{x}(h:zK n ρ=some x):∃r,ρ=[.sh .pat,.sh (.c .obj),.sh (.c (.str [46])),.owp [.str x],.ap3,.sh (.off n),.sh .len]++r/\r.length=6/\∀s∈r,s.noAp=true:=
 bi h λa ua h=>bi h λU a1 h=>bi h λU a2 h=>bi h λb ub h=>bi h λU b1 h=>bi h λU b2 h=>bi h λU b3 h=>bi h λc uc h=>bi h λU c1 h=>bi h λU c2 h=>bi h λU c3 h=>cd h λc4 h=>
 bi h λd ud h=>bi h λU d1 h=>bi h λU d2 h=>bi h λU d3 h=>bi h λe ue h=>bi h λU e1 h=>bi h λf uf h=>bi h λU f1 h=>bi h λU f2 h=>cd h λf3 h=>bi h λg ug h=>bi h λU g1 h=>bi h λU g2 h=>cd h λhc h=>
 ⟨g.2,by
  rw[gq ua,SS.shD_eq a1,DS.patU_eq a2,gq ub,SS.shD_eq b1,DS.cD_eq b2,D.gO_eq b3,gq uc,SS.shD_eq c1,DS.cD_eq c2,D.gS_eq c3,c4,gq ud,SS.owpL_eq d1,cI d2,D.gS_eq d3,gq ue,SS.ap3U_eq e1,gq uf,SS.shD_eq f1,DS.offN_eq f2,f3,gq ug,SS.shD_eq g1,DS.lenU_eq g2,so h];rfl,
  hc.2,λs hs=>List.all_eq_true.mp hc.1 s hs⟩
theorem BL(l:R)(n:Nat):l.getD n .un=.un\/l.getD n .un∈l:=by
 rw[List.getD_eq_getElem?_getD]
 induction h:l[n]? with
 |none=>exact .inl rfl
 |some x=>exact .inr (List.mem_of_getElem? h)
theorem six{l:R}(h:l.length=6):[l.getD 0 .un,l.getD 1 .un,l.getD 2 .un,l.getD 3 .un,l.getD 4 .un,l.getD 5 .un]=l:=by
 rcases l with _|⟨a,_|⟨b,_|⟨c,_|⟨d,_|⟨e,_|⟨f,_|⟨g,l⟩⟩⟩⟩⟩⟩⟩<;>first|rfl|exact nomatch h
set_option tactic.hygienic true in
theorem AH{i:It}(g:i.Good)(pre post:List Nat)(base:List D)(jk:R)(hlen:pre.length+i.t.length+8<2^20)(hb:base.length<=1000)(hj:jk.length=6)(hk:NoK jk):
 ∃jk',jk'.length=6/\NoK jk'/\aD (az H0 11) j4 (cf (pre++i.t++post) pre.length base jk)=some (.nx,cf (pre++i.t++post) (pre.length+i.t.length) (base++[.str i.x]) jk'):=by
 obtain⟨⟨f,ρ'⟩,h1,h2⟩:=Option.bind_eq_some_iff.mp g.turn
 split at h2
 ·rename_i hf
  obtain rfl:=EQ hf
  obtain⟨r,rfl,hr,ha⟩:=xJ h2
  let bs:Bs:=⟨base,λn=>jk.getD n .un,λn k=>(BL jk n).elim (λe=>by rw[e];rfl) λe=>hk _ e k⟩
  have h3:=ew (base:=bs) (nC (base:=bs) (Eh pre i.t post) hlen hb 11) j4 _ _ _ h1
  have e1:RS.val pre i.t post bs zL=cf (pre++i.t++post) pre.length base jk:=by
   unfold cf
   rw[List.length_append,List.length_append]
   show [Sl.sh (D.str (pre++i.t++post)),.sh .obj,.sh (.str [46]),.ow (base++[]),.ap 3,.sh (.int ((pre.length+0:Nat):Int)),.sh (.int ((pre.length+i.t.length+post.length:Nat):Int))]++[jk.getD 0 .un,jk.getD 1 .un,jk.getD 2 .un,jk.getD 3 .un,jk.getD 4 .un,jk.getD 5 .un]=_
   rw[List.append_nil,six hj]
   rfl
  refine⟨r.map (SS.val pre i.t post bs),(aV _).trans hr,λs hs k=>?_,?_⟩
  ·obtain⟨s',hs',rfl⟩:=List.mem_map.mp hs
   exact yF pre i.t post bs (ha s' hs') k
  ·rw[e1] at h3
   rw[h3]
   unfold cf
   rw[List.length_append,List.length_append]
   show some _=some _
   congr 2
 ·exact no h2
theorem vC{jk:R}(hk:NoK jk)(h3:k≠3):(cf txt i base jk).map (Sl.kill k)=cf txt i base jk:=by
 unfold cf
 simp only[List.map_append,hk.map]
 congr 1
 show [_,_,_,_,(if 3=k then Sl.un else .ap 3),_,_]=_
 rw[if_neg (Ne.symm h3)]
 rfl
theorem pM{jk:R}(hk:NoK jk)(h3:k≠3)(hl:k<7+jk.length)(s:Sl):bG k s (cf txt i base jk)=some ((cf txt i base jk).set k s):=by
 unfold bG
 rw[if_pos (by show k<(_++jk).length;simp only[List.length_append];exact hl),vC hk h3]
theorem Cu{c:Nat}:eJ (.str (pre++[c]++post)) (.int (pre.length:Nat))=some (.str [c]):=by
 simp only[sub_str,List.append_assoc,List.getElem?_append_right (Nat.le_refl _),Nat.sub_self]
 rfl
theorem AW(pre post:List Nat)(bs:List (List Nat))(j0:Sl)(jr:R)(hb:bs.length<=1000)(hk:NoK (j0::jr)):
 aD (az H0 11) j4 (cf (pre++[42]++post) pre.length (bs.map .str) (j0::jr))=some (.nx,cf (pre++[42]++post) (pre.length+1) (bs.map .str++[.obj]) (.sh (.str [42])::jr)):=by
 have hk2:NoK (.sh (.str [42])::jr):=λs hs k=>by
  rcases List.mem_cons.mp hs with rfl|hs
  ·rfl
  ·exact hk s (List.mem_cons_of_mem _ hs) k
 have hl:∀x:Sl,7+(x::jr).length>7:=λx=>by simp
 have e1:az H0 11 (.assign 7 (.sub (.var 0) (.var 5))) (cf (pre++[42]++post) pre.length (bs.map .str) (j0::jr))=some (.nx,cf (pre++[42]++post) pre.length (bs.map .str) (.sh (.str [42])::jr)):=by
  refine cy (d:=.str [42]) ?_ ?_
  ·show eJ (.str (pre++[42]++post)) (.int (pre.length:Nat))=_
   exact Cu
  ·rw[pM hk (by decide) (hl _)];rfl
 have e2:az H0 11 (.assign 5 (.bin .Add (.var 5) (.const (.int 1)))) (cf (pre++[42]++post) pre.length (bs.map .str) (.sh (.str [42])::jr))=some (.nx,cf (pre++[42]++post) (pre.length+1) (bs.map .str) (.sh (.str [42])::jr)):=by
  refine cy (d:=.int ((pre.length+1:Nat):Int)) ?_ ?_
  ·rfl
  ·rw[pM hk2 (by decide) (Nat.lt_of_add_left_lt (hl (Sl.sh (D.str [42]))))];rfl
 have e3:∃d,ev H0 (.or (.not (.var 3)) (.cmp .IsNot (.sub (.var 3) (.neg (.const (.int 1)))) (.var 1))) true (cf (pre++[42]++post) (pre.length+1) (bs.map .str) (.sh (.str [42])::jr))=some d/\aE d=some true:=by
  cases hbs:bs.reverse with
  |nil=>
   refine av λGG kk=>?_
   have:bs=[]:=List.reverse_eq_nil_iff.mp hbs
   subst this
   refine kk ?_;clear kk
   exact(am (.bool true) rfl rfl)
  |cons x r=>
   refine af (show bs=r.reverse++[x] from by rw[<-List.reverse_reverse bs,hbs,List.reverse_cons])▸?_
   refine(am (.bool true) ?_ rfl)
   have g1:ev H0 (.not (.var 3)) true (cf (pre++[42]++post) (pre.length+1) ((r.reverse++[x]).map .str) (.sh (.str [42])::jr))=some (.bool false):=by
    cases r.reverse<;>rfl
   have g2:ev H0 (.cmp .IsNot (.sub (.var 3) (.neg (.const (.int 1)))) (.var 1)) true (cf (pre++[42]++post) (pre.length+1) ((r.reverse++[x]).map .str) (.sh (.str [42])::jr))=some (.bool true):=by
    show((eJ (D.list ((r.reverse++[x]).map .str)) (.int (-1))).bind λx=>(some D.obj).bind λy=>(cN .IsNot x y).map D.bool)=_
    have:eJ (D.list ((r.reverse++[x]).map .str)) (.int (-1))=some (.str x):=by
     rw[List.map_append];exact xQ _ _
    refine af this▸?_;rfl
   exact bo g1 g2
 refine ai e3 λd e3 e4=>(ak e1).trans ((ak e2).trans (ak ?_))
 refine ak ?_
 rw[cw e3 e4,if_pos rfl]
 refine ak ?_
 have hlt:(bs.map D.str).length<ax:=by rw[aV];exact Nat.lt_of_le_of_lt ‹_› (by decide)
 show(if (bs.map D.str).length<ax then _ else _)=_
 rw[if_pos hlt]
 rfl
noncomputable abbrev Part:=Option It
noncomputable def Part.t:Part->List Nat
 |none=>[42]
 |some i=>i.t
noncomputable def Part.d:Part->D
 |none=>.obj
 |some i=>.str i.x
def aL(l:List Part):List Nat:=l.flatMap Part.t
noncomputable def iF:Bool->List Part->Prop
 |_,[]=>True
 |ok,none::r=>ok=true/\iF false r
 |ok,some i::r=>i.Good/\iF ok r
theorem eA{ρ ρ':R}(h1:test ρ=some true)(h2:body ρ=some (.nx,ρ')):dK test body (n+1) ρ=dK test body n ρ':=by
 show(test ρ).bind _=_
 rw[h1]
 show(body ρ).bind _=_
 rw[h2]
 rfl
theorem gH{ρ:R}(h1:test ρ=some false):dK test body (n+1) ρ=some (.nx,ρ):=
 bo h1 rfl
abbrev vB:R->Option Bool:=λρ=>(ev H0 (.cmp .Lt (.var 5) (.var 6)) true ρ).bind aE
theorem jv(txt:List Nat)(i:Nat)(base:List D)(jk:R):vB (cf txt i base jk)=some (decide (i<txt.length)):=by
 show some (decide ((i:Int)<(txt.length:Nat)))=_
 congr 1
 rw[decide_eq_decide];exact Int.ofNat_lt
theorem mT:∀(l:List Part) (ok:Bool) (pre:List Nat) (base:List D) (jk:R) (fuel:Nat),iF ok l->(ok=true->∃bs:List (List Nat),base=bs.map .str)->l.length<fuel->base.length+l.length<=1000->pre.length+(aL l).length+8<2^20->
 jk.length=6->NoK jk->∃jk',jk'.length=6/\NoK jk'/\dK vB (aD (az H0 11) j4) fuel (cf (pre++aL l) pre.length base jk)=some (.nx,cf (pre++aL l) (pre++aL l).length (base++l.map Part.d) jk')
 |[],ok,pre,base,jk,fuel,_,_,hf,hb,hl,hj,hk=>by
  refine(bc jk hj hk ?_)
  match fuel,hf with
  |f+1,_=>
   have:(pre++aL []).length=pre.length:=by simp[aL]
   rw[gH (by simp only[jv,this];simp),this,List.map_nil,List.append_nil]
 |none::r,ok,pre,base,jk,fuel,hs,ho,hf,hb,hl,hj,hk=>by
  obtain⟨bs,rfl⟩:=ho hs.1
  simp only[aV,List.length_cons] at hb hf
  match fuel,hf,jk,hj with
  |f+1,hf,j0::jr,hj=>
   have el:(aL (none::r)).length=1+(aL r).length:=by exact Nat.add_comm _ _
   have hk2:NoK (.sh (.str [42])::jr):=λs hs k=>by
    rcases List.mem_cons.mp hs with rfl|hs
    ·rfl
    ·exact hk s (List.mem_cons_of_mem _ hs) k
   refine aZ (mT r false (pre++[42]) (bs.map .str++[.obj]) (.sh (.str [42])::jr) f hs.2 (λh=>by(injection h;done)) (Nat.le_of_lt_succ ‹_›) (by simp;exact ln [_,_] [(1,.a (.v 0) (.a (.v 1) (.k 1)),.k 1000)] (.a (.a (.v 0) (.k 1)) (.v 1)) (.k 1000) 1 rfl hb) (by simp;exact ln [_,_,_] [(1,.a (.a (.a (.v 0) (.v 1)) (.k 8)) (.k 1),.k 1048576),(1,.a (.k 1) (.v 2),.v 1)] (.a (.a (.a (.a (.v 0) (.k 1)) (.v 2)) (.k 8)) (.k 1)) (.k 1048576) 1 rfl hl (Nat.le_of_eq el.symm)) hj hk2) λjk' g1 g2 g3=>?_
   refine(bc jk' g1 g2 ?_)
   rw[(show pre++aL (none::r)=pre++[42]++aL r from by simp[aL,Part.t]),eA (by rw[jv];simp) (AW pre (aL r) bs j0 jr (Nat.le_of_add_right_le hb) hk)]
   rw[show pre.length+1=(pre++[42]).length by simp,g3,List.append_assoc (bs.map D.str)]
   rfl
 |some i::r,ok,pre,base,jk,fuel,hs,ho,hf,hb,hl,hj,hk=>by
  simp only[List.length_cons] at hb hf
  match fuel,hf with
  |f+1,hf=>
   refine av λGG kk=>?_
   have el:(aL (some i::r)).length=i.t.length+(aL r).length:=by simp[aL,Part.t]
   have hne:=List.length_pos_iff.mpr hs.1.ne
   refine aZ (AH hs.1 pre (aL r) base jk (ln [_,_,_,_] [(1,.a (.a (.a (.v 0) (.v 1)) (.k 8)) (.k 1),.k 1048576),(1,.a (.v 2) (.v 3),.v 1)] (.a (.a (.a (.v 0) (.v 2)) (.k 8)) (.k 1)) (.k 1048576) 1 rfl hl (Nat.le_of_eq el.symm)) (Nat.le_of_add_right_le hb) hj hk) λjk1 g4 g5 g6=>aZ (mT r ok (pre++i.t) (base++[.str i.x]) jk1 f hs.2 (λh=>by
    obtain⟨bs,hbs⟩:=ho h
    exact⟨bs++[i.x],by rw[hbs];simp⟩) (Nat.le_of_lt_succ ‹_›) (by simp;exact ln [_,_] [(1,.a (.v 0) (.a (.v 1) (.k 1)),.k 1000)] (.a (.a (.v 0) (.k 1)) (.v 1)) (.k 1000) 1 rfl hb) (by simp;exact ln [_,_,_,_] [(1,.a (.a (.a (.v 0) (.v 1)) (.k 8)) (.k 1),.k 1048576),(1,.a (.v 2) (.v 3),.v 1)] (.a (.a (.a (.a (.v 0) (.v 2)) (.v 3)) (.k 8)) (.k 1)) (.k 1048576) 1 rfl hl (Nat.le_of_eq el.symm)) g4 g5) λjk' g1 g2 g3=>?_
   refine kk ?_;clear kk
   refine(bc jk' g1 g2 ?_)
   rw[(show pre++aL (some i::r)=pre++i.t++aL r from by simp[aL,Part.t]),eA (by rw[jv];simp;exact Nat.lt_of_lt_of_le ‹_› (Nat.le_add_right _ _)) g6]
   rw[show pre.length+i.t.length=(pre++i.t).length by simp,g3,List.append_assoc base]
   rfl
theorem Fp(ds:List D):H1 71 ds=dx H0 AB xw 3 ds:=rfl
theorem Cq(hs:iF true l)(hl:l.length<200)(ht:(aL l).length+8<2^20):H1 71 [.str (aL l),.obj,.str [46]]=some (.list (l.map Part.d)):=by
 refine aZ (mT l true [] [] (List.replicate 6 .un) cW hs (λU=>⟨[],rfl⟩) (aA ‹_› (by decide)) (by simp;exact Nat.le_of_lt (Nat.lt_of_lt_of_le ‹_› (by decide))) (by simpa using ht) rfl (λs hs k=>by
  refine af (List.eq_of_mem_replicate hs)▸?_;rfl)) λjk' g1 g2 g3=>?_
 rw[Fp]
 refine de (ρ':=cf (aL l) (aL l).length (l.map Part.d) jk') rfl ?_
 show aD (az H0 12) [_,_,_,.whl _ j4,_,_] [.sh (.str (aL l)),.sh .obj,.sh (.str [46]),.un,.un,.un,.un,.un,.un,.un,.un,.un,.un]=_
 refine(ak (ρ':=[.sh (.str (aL l)),.sh .obj,.sh (.str [46]),.ow [],.un,.un,.un,.un,.un,.un,.un,.un,.un]) (by kernel_rfl)).trans ((ak (ρ':=[.sh (.str (aL l)),.sh .obj,.sh (.str [46]),.ow [],.ap 3,.un,.un,.un,.un,.un,.un,.un,.un]) (by kernel_rfl)).trans ((ak (ρ':=cf (aL l) 0 [] (List.replicate 6 .un)) (by kernel_rfl)).trans ((ak (ρ':=cf (aL l) (aL l).length (l.map Part.d) jk') ?_).trans ((ak (ρ':=cf (aL l) (aL l).length (l.map Part.d) jk') ?_).trans (cS ?_)))))
 ·exact g3
 ·have:ev H0 (.cmp .Eq (.var 5) (.var 6)) true (cf (aL l) (aL l).length (l.map Part.d) jk')=some (.bool (((aL l).length:Int)==((aL l).length:Nat))):=rfl
  exact ku this (congrArg some BEq.rfl)
 ·rfl
theorem om(S:Nat->R)(m:Nat)(h1:∀k,k<m->test (S k)=some true/\body (S k)=some (.nx,S (k+1)))(h2:test (S m)=some false):∀{fuel},m<fuel->dK test body fuel (S 0)=some (.nx,S m):=by
 have go:∀(j k fuel:Nat),k+j=m->j<fuel->dK test body fuel (S k)=some (.nx,S m):=by
  intro j
  induction j with
  |zero=>
   intro k fuel hk hf
   match fuel,hf with
   |f+1,_=>subst hk;exact gH h2
  |succ j ih=>
   intro k fuel hk hf
   match fuel,hf with
   |f+1,hf=>
    refine aw (h1 k (ln [_,_,_] [(1,.a (.v 0) (.a (.v 1) (.k 1)),.v 2)] (.a (.v 0) (.k 1)) (.v 2) 1 rfl (Nat.le_of_eq hk))) λg1 g2=>af (eA g1 g2)▸?_
    exact ih (k+1) f (Nat.le_antisymm (ln [_,_,_] [(1,.a (.v 0) (.a (.v 1) (.k 1)),.v 2)] (.a (.a (.v 0) (.k 1)) (.v 1)) (.v 2) 1 rfl (Nat.le_of_eq hk)) (ln [_,_,_] [(1,.v 0,.a (.v 1) (.a (.v 2) (.k 1)))] (.v 0) (.a (.a (.v 1) (.k 1)) (.v 2)) 1 rfl (Nat.le_of_eq hk.symm))) (Nat.le_of_lt_succ ‹_›)
 intro fuel hf
 exact go m 0 fuel (Nat.add_comm _ _) hf
noncomputable def bD(ds:List D)(i:Nat)(acc:List D)(s6:Sl):R:=[.sh (.list ds),.sh .obj,.ow acc,.ap 2,.sh (.int i),.sh (.int ds.length),s6]
noncomputable abbrev ml:IE:=.and (.cmp .Lt (.var 4) (.var 5)) (.cmp .IsNot (.sub (.var 0) (.var 4)) (.var 1))
section
theorem uw:ev H (.sub (.var 0) (.var 4)) pk (bD ds i acc s6)=ds[i]? :=
 iL ds i
theorem ux:ev H (.cmp .Lt (.var 4) (.var 5)) true (bD ds i acc s6)=some (.bool (decide (i<ds.length))):=by
 show some (D.bool (decide ((i:Int)<(ds.length:Nat))))=_
 congr 2
 rw[decide_eq_decide];exact Int.ofNat_lt
theorem mj(h:(i<ds.length/\∃d,ds[i]? =some d/\mm d .obj=some (!u))\/(i=ds.length/\u=false)):(ev H ml true (bD ds i acc s6)).bind aE=some u:=by
 simp only[kx]
 refine af ux▸?_
 rcases h with ⟨h1,d,h2,h3⟩|⟨h1,rfl⟩
 ·have e:ev H (.cmp .IsNot (.sub (.var 0) (.var 4)) (.var 1)) true (bD ds i acc s6)=some (.bool u):=by
   simp only[dN]
   rw[uw,h2]
   show((mm d .obj).map (!·)).map D.bool=_
   refine af h3▸?_
   clear h3
   induction u<;>rfl
  simp only[Option.bind_some,bB,decide_eq_true h1,if_true,e]
 ·simp[bB,h1]
theorem Gv(h:∃d,ds[i]? =some d/\mm d .obj=some u):ev H (.cmp .Is (.sub (.var 0) (.var 4)) (.var 1)) true (bD ds i acc s6)=some (.bool u):=by
 refine ai h λd h2 h3=>?_
 simp only[dN]
 simp only[uw,h2]
 show(mm d .obj).map D.bool=_
 rw[h3];rfl
theorem BE(h:∃d,ds[i]? =some d/\mm d .obj=some u):ev H (.cmp .IsNot (.sub (.var 0) (.var 4)) (.var 1)) true (bD ds i acc s6)=some (.bool (!u)):=by
 refine ai h λd h2 h3=>?_
 simp only[dN]
 simp only[uw,h2]
 show((mm d .obj).map (!·)).map D.bool=_
 rw[h3];rfl
theorem uy:ev H (.cmp .Eq (.var 4) (.var 5)) true (bD ds i acc s6)=some (.bool (i==ds.length)):=by
 show some (D.bool ((i:Int)==(ds.length:Nat)))=_
 congr 2
 rw[Bool.eq_iff_iff,beq_iff_eq,beq_iff_eq];exact Int.ofNat_inj
theorem pB{d:D}(h:ev H e false (bD ds i acc s6)=some d)(hl:acc.length<ax):az H (n+1) (.addCall 3 e) (bD ds i acc s6)=some (.nx,bD ds i (acc++[d]) s6):=
 (Du rfl h rfl hl).trans rfl
theorem EZ(h:ev H e false (bD ds i acc (.ow fx))=some d)(hl:fx.length<ax):az H (n+1) (.append 6 e) (bD ds i acc (.ow fx))=some (.nx,bD ds i acc (.ow (fx++[d]))):=
 (mw h rfl hl).trans rfl
theorem uA(hs:Sl.kill 4 s6=s6):az H (n+1) (.aug 4 .Add (.const (.int 1))) (bD ds i acc s6)=some (.nx,bD ds (i+1) acc s6):=by
 show(bG 4 (.sh (.int ((i:Int)+1))) (bD ds i acc s6)).map _=_
 have:bG 4 (.sh (.int ((i:Int)+1))) (bD ds i acc s6)=some [.sh (.list ds),.sh .obj,.ow acc,.ap 2,.sh (.int ((i:Int)+1)),.sh (.int ds.length),Sl.kill 4 s6]:=rfl
 rw[this,hs]
 rfl
end
theorem wH:∀ss:List (List Nat),ck [] ss=ss.flatten
 |[]=>rfl
 |[x]=>SR.joinL_flat [x]
 |x::y::r=>by exact SR.joinL_flat (x::y::r)
theorem lQ:∀ss:List (List Nat),strsOf (ss.map .str)=some ss
 |[]=>rfl
 |_::r=>bo rfl (aK (lQ r))
theorem jI{ss:List (List Nat)}(h:ss.flatten.length<=ax):d8 "join" (.str []) [.list (ss.map .str)]=some (.str ss.flatten):=by
 show(strsOf (ss.map D.str)).bind _=_
 rw[lQ]
 show(if (ck [] ss).length<=ax then some (D.str (ck [] ss)) else none)=_
 rw[wH,if_pos h]
section
theorem sM{xs:List (List Nat)}(hp:post=[]\/∃r,post=.obj::r){n:Nat}(hx:xs.length<256):
 az H (n+2) (.whl ml [.addCall 3 (.sub (.var 0) (.var 4)),.aug 4 .Add (.const (.int 1))]) (bD (xs.map .str++post) 0 [] .un)=some (.nx,bD (xs.map .str++post) xs.length (xs.map .str) .un):=by
 have h:=om (test:=λρ=>(ev H ml true ρ).bind aE) (body:=aD (az H (n+1)) [.addCall 3 (.sub (.var 0) (.var 4)),.aug 4 .Add (.const (.int 1))]) (λk=>bD (xs.map .str++post) k ((xs.take k).map .str) .un) xs.length ?_ ?_ (fuel:=cW) hx
 ·rw[List.take_length] at h
  exact ex_whl.trans h
 ·intro k hk
  have hd:(xs.map D.str++post)[k]? =some (.str xs[k]):=by
   rw[List.getElem?_append_left (by simpa using hk),List.getElem?_map,List.getElem?_eq_getElem hk];rfl
  refine⟨mj (.inl ⟨by simp;exact Nat.lt_add_right post.length hk,_,hd,rfl⟩),?_⟩
  refine(ak (pB (d:=.str xs[k]) (by exact hd) (by simp only[aV,List.length_take];exact ln [_,_] [(1,.a (.v 0) (.k 1),.k 256),(1,.v 1,.v 0)] (.a (.v 1) (.k 1)) (.k 4096) 1 rfl hx (Nat.min_le_right _ _)))).trans ((ak (uA rfl)).trans ?_)
  simp only[List.take_succ,List.getElem?_eq_getElem hk,List.map_append]
  rfl
 ·refine mj ?_
  rcases hp with rfl|⟨r,rfl⟩
  ·exact .inr ⟨by simp,rfl⟩
  ·exact .inl ⟨by simp,.obj,by rw[List.getElem?_append_right (by simp)];simp,rfl⟩
theorem BD{ys:List (List Nat)}(hy:ys.length<256):
 az H (n+2) (.whl ml [.append 6 (.sub (.var 0) (.var 4)),.aug 4 .Add (.const (.int 1))]) (bD (pre++ys.map .str) pre.length acc (.ow []))=some (.nx,bD (pre++ys.map .str) (pre.length+ys.length) acc (.ow (ys.map .str))):=by
 have h:=om (test:=λρ=>(ev H ml true ρ).bind aE) (body:=aD (az H (n+1)) [.append 6 (.sub (.var 0) (.var 4)),.aug 4 .Add (.const (.int 1))]) (λk=>bD (pre++ys.map .str) (pre.length+k) acc (.ow ((ys.take k).map .str))) ys.length ?_ ?_ (fuel:=cW) hy
 ·rw[List.take_length] at h
  exact ex_whl.trans h
 ·intro k hk
  have hd:(pre++ys.map D.str)[pre.length+k]? =some (.str ys[k]):=by
   rw[List.getElem?_append_right (Nat.le_add_right _ _),Nat.add_sub_cancel_left,List.getElem?_map,List.getElem?_eq_getElem hk];rfl
  refine⟨mj (.inl ⟨by simp;assumption,_,hd,rfl⟩),?_⟩
  refine(ak (EZ (d:=.str ys[k]) (by exact hd) (by simp only[aV,List.length_take];show _<4096;exact Nat.lt_of_le_of_lt (Nat.min_le_right _ _) (Nat.lt_trans hy (by decide))))).trans ((ak (uA rfl)).trans ?_)
  simp only[List.take_succ,List.getElem?_eq_getElem hk,List.map_append]
  rfl
 ·exact mj (.inr ⟨by simp,rfl⟩)
theorem uz{ss:List (List Nat)}(h6:Sl.kill 2 s6=s6)(hl:ss.flatten.length<=2000):∃ρ',aD (az H 12) (I78.drop 5) (bD ds ds.length (ss.map .str) s6)=some (.rt (.str ([40,63,115,58]++ss.flatten++[41,92,90])),ρ'):=by
 refine⟨[.sh (.list ds),.sh .obj,.sh (.str ss.flatten),.un,.sh (.int ds.length),.sh (.int ds.length),s6],(ak (ρ':=bD ds ds.length (ss.map .str) s6) ?_).trans ((ak (ρ':=[.sh (.list ds),.sh .obj,.sh (.str ss.flatten),.un,.sh (.int ds.length),.sh (.int ds.length),s6]) ?_).trans (cS ?_))⟩
 ·exact ku uy (congrArg some BEq.rfl)
 ·refine cy (d:=.str ss.flatten) ?_ ?_
  ·exact jI (aA ‹_› (by decide))
  ·have:bG 2 (.sh (.str ss.flatten)) (bD ds ds.length (ss.map .str) s6)=some [.sh (.list ds),.sh .obj,.sh (.str ss.flatten),.un,.sh (.int ds.length),.sh (.int ds.length),Sl.kill 2 s6]:=rfl
   rw[this,h6]
 ·refine qI ?_
  show(fG [.str [40,63,115,58],.str ss.flatten,.str [41,92,90]]).map D.str=_
  have hl3:([40,63,115,58]:List Nat).length+(ss.flatten++[41,92,90]).length<=ax:=by refine af List.length_append▸?_;exact ln [_] [(1,.v 0,.k 2000)] (.a (.k 4) (.a (.v 0) (.k 3))) (.k 4096) 1 rfl hl
  have h2:ss.flatten.length+([41,92,90]:List Nat).length<=ax:=ln [_] [(1,.v 0,.k 2000)] (.a (.v 0) (.k 3)) (.k 4096) 1 rfl hl
  have e1:fG [.str [41,92,90]]=some [41,92,90]:=rfl
  have e2:fG [.str ss.flatten,.str [41,92,90]]=some (ss.flatten++[41,92,90]):=bo rfl (bo e1 (if_pos h2))
  exact(aK (bo rfl (bo e2 (if_pos hl3)))).trans (congrArg (λl=>some (D.str l)) (List.append_assoc ..).symm)
end
theorem Au(ds:List D):H1 78 ds=dx H0 AA I78 2 ds:=rfl
noncomputable abbrev lL(b:List Nat):List Nat:=[40,63,115,58]++b++[41,92,90]
theorem ww{body:List IS}:az H0 12 (.whl (.cmp .Lt (.var 4) (.var 5)) body) (bD ds ds.length acc s6)=some (.nx,bD ds ds.length acc s6):=
 ex_whl.trans<|gH (by rw[ux];simp[bB])
theorem Bz{ρ ρ':R}(h1:test ρ=some true)(h2:body ρ=some (.br,ρ')):dK test body (n+1) ρ=some (.nx,ρ'):=
 bo h1 (bo h2 rfl)
theorem uv{xs:List (List Nat)}(hx:xs.length<200)(hl:xs.flatten.length<=2000):H1 78 [.list (xs.map D.str),D.obj]=some (.str (lL xs.flatten)):=by
 refine aB (uz (H:=H0) (ds:=xs.map D.str) (s6:=.un) rfl hl) λρ' h=>?_
 rw[Au]
 refine de (ρ':=ρ') rfl ?_
 have h1:=sM (H:=H0) (xs:=xs) (post:=[]) (.inl rfl) (n:=10) (aA ‹_› (by decide))
 rw[List.append_nil] at h1
 rw[<-(aV _)] at h1
 exact(ak h1).trans ((ak ww).trans h)
noncomputable abbrev z8:List IS:=[.asrt (.cmp .Is (.sub (.var 0) (.var 4)) (.var 1)),.aug 4 .Add (.const (.int 1)),.ife (.cmp .Eq (.var 4) (.var 5)) [.addCall 3 (.const (.str [46,42])),.brk] [],.asrt (.cmp .IsNot (.sub (.var 0) (.var 4)) (.var 1)),.newOwn 6 .nil,.whl (.and (.cmp .Lt (.var 4) (.var 5)) (.cmp .IsNot (.sub (.var 0) (.var 4)) (.var 1))) [.append 6 (.sub (.var 0) (.var 4)),.aug 4 .Add (.const (.int 1))],.assign 6 (.meth "join" (.const (.str [])) (.cons (.var 6) .nil)),.ife (.cmp .Eq (.var 4) (.var 5)) [.addCall 3 (.const (.str [46,42])),.addCall 3 (.var 6)] [.addCall 3 (.fstr (.cons (.const (.str [40,63,62,46,42,63])) (.cons (.var 6) (.cons (.const (.str [41])) .nil))))]]
theorem wF{xs ys:List (List Nat)}(hx:xs.length<200)(hy:ys.length<200)(hl:xs.flatten.length+ys.flatten.length<=1900):H1 78 [.list (xs.map D.str++D.obj::ys.map D.str),D.obj]=some (.str (lL (xs.flatten++[46,42]++ys.flatten))):=by
 simp only[Au]
 have h1:=sM (H:=H0) (xs:=xs) (post:=D.obj::ys.map D.str) (.inr ⟨_,rfl⟩) (n:=10) (aA ‹_› (by decide))
 have hd:(xs.map D.str++D.obj::ys.map D.str)[xs.length]? =some D.obj:=by
  rw[List.getElem?_append_right (by simp)];simp
 have hlen:(xs.map D.str++D.obj::ys.map D.str).length=xs.length+1+ys.length:=by simp;exact af (Nat.succ_add_eq_add_succ xs.length ys.length)
 have b1:az H0 11 (.asrt (.cmp .Is (.sub (.var 0) (.var 4)) (.var 1))) (bD (xs.map D.str++D.obj::ys.map D.str) xs.length (xs.map D.str) .un)=some (.nx,bD (xs.map D.str++D.obj::ys.map D.str) xs.length (xs.map D.str) .un):=
  ku (Gv (am _ hd rfl)) rfl
 have b2:=uA (H:=H0) (n:=10) (ds:=xs.map D.str++D.obj::ys.map D.str) (i:=xs.length) (acc:=xs.map D.str) (s6:=.un) rfl
 have tt:(ev H0 (.cmp .Lt (.var 4) (.var 5)) true (bD (xs.map D.str++D.obj::ys.map D.str) xs.length (xs.map D.str) .un)).bind aE=some true:=by
  rw[ux,hlen];simp[bB];exact Nat.le_add_right _ _
 have lx:(xs.map D.str).length<ax:=by rw[aV];exact aA ‹_› (by decide)
 induction ys with
 |nil=>
  obtain⟨ρ',h⟩:=uz (H:=H0) (ds:=xs.map D.str++[D.obj]) (ss:=xs++[[46,42]]) (s6:=.un) rfl (by simp at hl ⊢;exact aA ‹_› (by decide))
  have e:(xs.map D.str++D.obj::([]:List (List Nat)).map D.str)=xs.map D.str++[D.obj]:=rfl
  simp only[e] at h1 hd hlen b1 b2 tt ⊢
  have b3:az H0 11 (.ife (.cmp .Eq (.var 4) (.var 5)) [.addCall 3 (.const (.str [46,42])),.brk] []) (bD (xs.map D.str++[D.obj]) (xs.length+1) (xs.map D.str) .un)=some (.br,bD (xs.map D.str++[D.obj]) (xs.length+1) (xs.map D.str++[.str [46,42]]) .un):=by
   rw[cw uy (u:=true) (by simp[bB]),if_pos rfl]
   refine(ak (pB (d:=.str [46,42]) rfl lx)).trans ?_
   rfl
  have w:az H0 12 (.whl (.cmp .Lt (.var 4) (.var 5)) z8) (bD (xs.map D.str++[D.obj]) xs.length (xs.map D.str) .un)=some (.nx,bD (xs.map D.str++[D.obj]) (xs.map D.str++[D.obj]).length ((xs++[[46,42]]).map D.str) .un):=by
   simp only[ex_whl,hlen,List.map_append]
   exact Bz (n:=255) tt ((ak b1).trans ((ak b2).trans (CL b3)))
  refine de (ρ':=ρ') rfl ?_
  refine(ak h1).trans ((ak w).trans (h.trans ?_))
  simp[List.flatten_append]
 |cons y ys=>
  obtain⟨ρ',h⟩:=uz (H:=H0) (ds:=xs.map D.str++D.obj::(y::ys).map D.str) (ss:=xs++[[46,42]]++[(y::ys).flatten]) (s6:=.sh (.str (y::ys).flatten)) rfl (by simp at hl ⊢;exact Nat.succ_lt_succ (Nat.lt_of_le_of_lt ‹_› (by decide)))
  generalize hds:(xs.map D.str++D.obj::(y::ys).map D.str)=ds at*
  have hne:¬xs.length+1=ds.length:=by rw[hlen];simp
  have b3:az H0 11 (.ife (.cmp .Eq (.var 4) (.var 5)) [.addCall 3 (.const (.str [46,42])),.brk] []) (bD ds (xs.length+1) (xs.map D.str) .un)=some (.nx,bD ds (xs.length+1) (xs.map D.str) .un):=by
   rw[cw uy (u:=false) (by simpa [bB] using hne)];rfl
  have hd1:ds[xs.length+1]? =some (.str y):=by
   rw[<-hds,List.getElem?_append_right (by simp)];simp
  have b4:az H0 11 (.asrt (.cmp .IsNot (.sub (.var 0) (.var 4)) (.var 1))) (bD ds (xs.length+1) (xs.map D.str) .un)=some (.nx,bD ds (xs.length+1) (xs.map D.str) .un):=by
   exact ku (BE ⟨_,hd1,rfl⟩) rfl
  have b6:=BD (H:=H0) (n:=9) (pre:=xs.map D.str++[D.obj]) (ys:=y::ys) (acc:=xs.map D.str) (aA ‹_› (by decide))
  have eds:xs.map D.str++[D.obj]++(y::ys).map D.str=ds:=by refine hds▸?_;exact af (List.append_cons (List.map D.str xs) D.obj (List.map D.str (y::ys)))
  rw[eds,(show(xs.map D.str++[D.obj]).length=xs.length+1 from by simp),<-hlen] at b6
  have b7:az H0 11 (.assign 6 (.meth "join" (.const (.str [])) (.cons (.var 6) .nil))) (bD ds ds.length (xs.map D.str) (.ow ((y::ys).map D.str)))=some (.nx,bD ds ds.length (xs.map D.str) (.sh (.str (y::ys).flatten))):=by
   refine cy (d:=.str (y::ys).flatten) ?_ ?_
   ·exact jI (ln [_,_] [(1,.a (.v 0) (.v 1),.k 1900)] (.v 1) (.k 4096) 1 rfl hl)
   ·rfl
  have b8:∀a b:List IS,az H0 11 (.ife (.cmp .Eq (.var 4) (.var 5)) [.addCall 3 (.const (.str [46,42])),.addCall 3 (.var 6)] b) (bD ds ds.length (xs.map D.str) (.sh (.str (y::ys).flatten)))=some (.nx,bD ds ds.length (xs.map D.str++[.str [46,42]]++[.str (y::ys).flatten]) (.sh (.str (y::ys).flatten))):=by
   intro _ b
   rw[cw uy (u:=true) (by simp[bB]),if_pos rfl]
   refine(ak (pB (d:=.str [46,42]) rfl lx)).trans ((ak (pB (d:=.str (y::ys).flatten) rfl (by rw[List.length_append,aV];exact Nat.lt_of_le_of_lt ‹_› (by decide)))).trans rfl)
  have w:az H0 12 (.whl (.cmp .Lt (.var 4) (.var 5)) z8) (bD ds xs.length (xs.map D.str) .un)=some (.nx,bD ds ds.length ((xs++[[46,42]]++[(y::ys).flatten]).map D.str) (.sh (.str (y::ys).flatten))):=by
   simp only[ex_whl,List.map_append,List.map_append]
   refine(eA (n:=255) tt ((ak b1).trans ((ak b2).trans ((ak b3).trans ((ak b4).trans ((ak (by kernel_rfl)).trans ((ak b6).trans ((ak b7).trans ((ak (b8 [] _)).trans (by rfl)))))))))).trans ?_
   exact gH (n:=254) (by rw[ux];simp[bB])
  refine de (ρ':=ρ') rfl ?_
  refine(ak h1).trans ((ak w).trans (h.trans ?_))
  simp[List.flatten_append]
theorem Fo(ds:List D):H2 52 ds=vD ds:=rfl
theorem vA{res:D}(h1:H1 71 [.str cs,.obj,.str [46]]=some res)(h2:H1 78 [res,.obj]=some (.str t)):H2 52 [.str cs]=some (.str t):=by
 rw[Fo]
 have:aD (az H1 12) kW [.sh (.str cs),.sh .obj,.un]=some (.rt (.str t),[.sh (.str cs),.sh .obj,.sh res]):=by
  refine(ak (ρ':=[.sh (.str cs),.sh .obj,.sh res]) (cy (d:=res) (dm (λpk=>by induction pk<;>rfl) h1) rfl)).trans (cx (dm (λpk=>by induction pk<;>rfl) h2) _)
 exact bo (x:=D.str cs) rfl (bo (x:=cs) rfl (bo this rfl))
noncomputable def eE(is:List It):List Nat:=(is.map It.x).flatten
theorem iJ:∀{is:List It},(∀i∈is,i.Good)->(aL (is.map some)).length<=64*is.length/\(eE is).length<=64*is.length
 |[],_=>⟨by simp[aL],by exact Nat.le_mul_self (eE []).length⟩
 |i::r,h=>by
  have h1:=iJ (is:=r) λj hj=>h j (List.mem_cons_of_mem i hj)
  simp only[aL,List.map_cons,List.flatMap_cons,List.length_append,Part.t,List.length_cons,eE,List.flatten_cons] at h1 ⊢
  exact⟨ln [_,_,_] [(1,.v 0,.m 64 (.v 1)),(1,.v 2,.k 64)] (.a (.v 2) (.v 0)) (.m 64 (.a (.v 1) (.k 1))) 1 rfl h1.1 ((h i (by simp)).tl),ln [_,_,_] [(1,.v 0,.m 64 (.v 1)),(1,.v 2,.k 64)] (.a (.v 2) (.v 0)) (.m 64 (.a (.v 1) (.k 1))) 1 rfl h1.2 ((h i (List.mem_cons_self)).xl)⟩
theorem iN:∀{is:List It} {ok:Bool},(∀i∈is,i.Good)->iF ok (is.map some)
 |[],_,_=>trivial
 |i::r,ok,h=>⟨h i (List.mem_cons_self),iN λj hj=>h j (List.mem_cons_of_mem i hj)⟩
theorem lR{js:List It}(hj:∀i∈js,i.Good):∀{is:List It},(∀i∈is,i.Good)->iF true (is.map some++none::js.map some)
 |[],_=>⟨rfl,iN hj⟩
 |i::r,h=>⟨h i (List.mem_cons_self),lR hj λj hj=>h j (List.mem_cons_of_mem i hj)⟩
theorem ul(is:List It):(is.map some).map Part.d=(is.map It.x).map .str:=by
 simp only[List.map_map,List.map_map];rfl
theorem xM(h:∀i∈is,i.Good)(hl:is.length<=3):H2 52 [.str (aL (is.map some))]=some (.str (lL (eE is))):=by
 refine aw (iJ h) λl1 l2=>?_
 have h1:=Cq (iN (ok:=true) h) (by simp;exact Nat.lt_of_le_of_lt ‹_› (by decide)) (ln [_,_] [(64,.v 0,.k 3),(1,.v 1,.m 64 (.v 0))] (.a (.a (.v 1) (.k 8)) (.k 1)) (.k 1048576) 1 rfl hl l1)
 rw[ul] at h1
 exact vA h1 (uv (by simp;exact Nat.lt_of_le_of_lt ‹_› (by decide)) (ln [_,_] [(64,.v 0,.k 3),(1,.v 1,.m 64 (.v 0))] (.v 1) (.k 2000) 1 rfl hl l2))
theorem AI{is js:List It}(h:∀i∈is,i.Good)(hj:∀i∈js,i.Good)(hl:is.length<=3)(hl2:js.length<=3):H2 52 [.str (aL (is.map some++none::js.map some))]=some (.str (lL (eE is++[46,42]++eE js))):=by
 refine aw (iJ h) λl1 l2=>aw (iJ hj) λl3 l4=>?_
 have e:(aL (is.map some++none::js.map some)).length=(aL (is.map some)).length+1+(aL (js.map some)).length:=by
  simp only[aL,List.flatMap_append,List.flatMap_cons,List.length_append,Part.t,List.length_cons,List.length_nil];exact(Nat.add_assoc _ _ _).symm
 have h1:=Cq (lR hj h) (by simp;exact ln [_,_] [(1,.v 0,.k 3),(1,.v 1,.k 3)] (.a (.a (.v 0) (.a (.v 1) (.k 1))) (.k 1)) (.k 200) 1 rfl hl hl2) (ln [_,_,_,_,_] [(64,.v 0,.k 3),(64,.v 1,.k 3),(1,.v 2,.m 64 (.v 0)),(1,.v 3,.m 64 (.v 1)),(1,.v 4,.a (.a (.v 2) (.k 1)) (.v 3))] (.a (.a (.v 4) (.k 8)) (.k 1)) (.k 1048576) 1 rfl hl hl2 l1 l3 (Nat.le_of_eq e))
 rw[List.map_append,List.map_cons,ul,ul] at h1
 exact vA h1 (wF (by simp;exact Nat.lt_of_le_of_lt ‹_› (by decide)) (by simp;exact Nat.lt_of_le_of_lt ‹_› (by decide)) (ln [_,_,_,_] [(64,.v 0,.k 3),(64,.v 1,.k 3),(1,.v 2,.m 64 (.v 0)),(1,.v 3,.m 64 (.v 1))] (.a (.v 2) (.v 3)) (.k 1900) 1 rfl hl hl2 l2 l4))
noncomputable def Part.x:Part->List Nat
 |none=>[46,42]
 |some i=>i.x
noncomputable def Part.j:Part->D
 |none=>.none
 |some i=>gP i.b i.ps
def aM(l:List Part):List Nat:=l.flatMap Part.x
noncomputable def kI(l:List Part):Prop:=∀p∈l,∀i,p=some i->i.Good
noncomputable def cM(T:List Nat)(items:List D)(p:Nat)(s3:Sl):R:=[.sh (.str T),.ow items,.sh (.int p),s3]
theorem wR(h:jM x=true)(r:List Nat):(x++r).head?≠some 42:=by
 match x,h with
 |[c],h=>exact bne_iff_ne.mp h
 |c::d::q,h=>
  simp only[sQ,Bool.and_eq_true,bne_iff_ne,ne_eq] at h
  simpa using h.1
theorem Cb(h:kI l):(aM l++[41,92,90]).head?≠some 42:=by
 induction l with
 |nil=>decide
 |cons p r=>
  refine af (show aM (p::r)++[41,92,90]=p.x++(aM r++[41,92,90]) from by simp[aM])▸?_
  induction p with
  |none=>exact Ne.symm (not_eq_of_beq_eq_false rfl)
  |some i=>exact wR (h _ (List.mem_cons_self) i rfl).head _
theorem B2(pre r:List Nat):cut (pre++r) pre.length (pre.length+2)=r.take 2:=by
 unfold cut
 simp only[List.take_append,List.take_of_length_le (Nat.le_add_right _ _),Nat.add_sub_cancel_left,List.drop_left]
theorem vZ(pre r:List Nat)(h:2<=r.length):bI (.str (pre++r)) (.int pre.length) (.int ((pre.length:Int)+2))=some (.str (r.take 2)):=by
 rw[lU,Fx (Int.natCast_nonneg _),FA (by exact Int.natCast_nonneg _)]
 simp only[Option.bind_some,Option.map_some]
 simp only[(show min (pre.length:Int).toNat (pre++r).length=pre.length from by simp),(show min ((pre.length:Int)+2).toNat (pre++r).length=pre.length+2 from Nat.min_eq_left (by simp only[List.length_append];exact Nat.add_le_add_left h _)),B2]
theorem xH(h:jM x=true)(hr:r.head?≠some 42):([46,42]==(x++r).take 2)=false/\((x++r).take 2==[46,42])=false:=by
 have:(x++r).take 2≠[46,42]:=by
  match x,h with
  |[c],h=>
   induction r with
   |nil=>simp
   |cons d q=>
    simp at hr
    simp;intro _;exact hr
  |c::d::q,h=>
   simp only[sQ,Bool.and_eq_true,bne_iff_ne,ne_eq] at h
   simp;intro e;exact absurd e h.2
 exact⟨by simpa using this.symm,by exact beq_false_of_ne this⟩
noncomputable abbrev pZ:IE:=.cmp .Lt (.var 2) (.bin .Sub (.prim "len" (.cons (.var 0) .nil)) (.const (.int 3)))
noncomputable abbrev lZ:List IS:=[.ife (.cmp .Eq (.slice (.var 0) (.var 2) (.bin .Add (.var 2) (.const (.int 2)))) (.const (.str [46,42]))) [.append 1 (.const .none),.aug 2 .Add (.const (.int 2))] [.multi [3,2] (.call 114 (.cons (.var 0) (.cons (.var 2) .nil))),.append 1 (.var 3)]]
theorem m3(T:List Nat)(items:List D)(p:Nat)(s3:Sl):(ev H2 pZ true (cM T items p s3)).bind aE=some (decide (p+3<T.length)):=by
 show some _=_
 congr 1
 exact decide_eq_decide.mpr ⟨λh=>Int.ofNat_lt.mp (Int.add_lt_of_lt_sub_right h),λh=>Int.lt_sub_right_of_add_lt (Int.ofNat_lt.mpr h)⟩
theorem sA(h:2<=r.length):ev H2 (.cmp .Eq (.slice (.var 0) (.var 2) (.bin .Add (.var 2) (.const (.int 2)))) (.const (.str [46,42]))) true (cM (pre++r) items pre.length s3)=some (.bool (r.take 2==[46,42])):=by
 simp only[dN]
 refine af ((show ev H2 (.slice (.var 0) (.var 2) (.bin .Add (.var 2) (.const (.int 2)))) true (cM (pre++r) items pre.length s3)=some (.str (r.take 2)) from vZ pre r h))▸?_
 rfl
theorem lh:∀(l:List Part) (pre:List Nat) (items:List D) (s3:Sl) (fuel:Nat),kI l->l.length<fuel->items.length+l.length<=1000->(pre++aM l).length+8<2^20->(∀k,Sl.kill k s3=s3)->
 ∃s3',dK (λρ=>(ev H2 pZ true ρ).bind aE) (aD (az H2 11) lZ) fuel (cM (pre++(aM l++[41,92,90])) items pre.length s3)=some (.nx,cM (pre++(aM l++[41,92,90])) (items++l.map Part.j) (pre++aM l).length s3')
 |[],pre,items,s3,fuel,_,hf,_,_,_=>by
  match fuel,hf with
  |f+1,_=>
   refine⟨s3,?_⟩
   rw[gH (by rw[m3];simp[aM])]
   simp[aM]
 |none::r,pre,items,s3,fuel,hp,hf,hb,hl,hk=>by
  simp only[List.length_cons] at hf hb
  match fuel,hf with
  |f+1,hf=>
   have eb:aM (none::r)=[46,42]++aM r:=rfl
   rw[eb] at hl ⊢
   have b1:aD (az H2 11) lZ (cM (pre++([46,42]++aM r++[41,92,90])) items pre.length s3)=some (.nx,cM (pre++([46,42]++aM r++[41,92,90])) (items++[.none]) (pre.length+2) s3):=by
    refine(ak (ρ':=cM (pre++([46,42]++aM r++[41,92,90])) (items++[.none]) (pre.length+2) s3) ?_).trans rfl
    rw[cw (sA (by simp)) (u:=true) rfl,if_pos rfl]
    refine(ak (ρ':=cM (pre++([46,42]++aM r++[41,92,90])) (items++[.none]) pre.length s3) ?_).trans ((ak (ρ':=cM (pre++([46,42]++aM r++[41,92,90])) (items++[.none]) (pre.length+2) s3) ?_).trans rfl)
    ·show(if items.length<ax then _ else _)=_
     rw[if_pos (by exact ln [_,_] [(1,.a (.v 0) (.a (.v 1) (.k 1)),.k 1000)] (.a (.v 0) (.k 1)) (.k 4096) 1 rfl hb)]
     rfl
    ·show(some [_,_,_,Sl.kill 2 s3]).map _=_
     rw[hk]
     rfl
   obtain⟨s3',g⟩:=lh r (pre++[46,42]) (items++[.none]) s3 f (λp h=>hp p (by simp[h])) (Nat.le_of_lt_succ ‹_›) (by simp;exact ln [_,_] [(1,.a (.v 0) (.a (.v 1) (.k 1)),.k 1000)] (.a (.a (.v 0) (.k 1)) (.v 1)) (.k 1000) 1 rfl hb) (by simpa using hl) hk
   refine⟨s3',?_⟩
   rw[eA (by rw[m3];simp) b1]
   have e1:pre++([46,42]++aM r++[41,92,90])=pre++[46,42]++(aM r++[41,92,90]):=by simp
   have e2:pre.length+2=(pre++[46,42]).length:=by simp
   simp only[e1,e2,g]
   simp[Part.j]
 |some i::r,pre,items,s3,fuel,hp,hf,hb,hl,hk=>by
  simp only[List.length_cons] at hf hb
  match fuel,hf with
  |f+1,hf=>
   have gi:=hp (some i) (by simp) i rfl
   have eb:aM (some i::r)=i.x++aM r:=rfl
   rw[eb] at hl ⊢
   have hr:kI r:=λp h=>hp p (by simp[h])
   have hx:0<i.x.length:=by
    have:=gi.head
    induction h:i.x with
    |nil=>rw[h] at this;(injection this;done)
    |cons a q=>simp
   have e0:pre++(i.x++aM r++[41,92,90])=pre++i.x++(aM r++[41,92,90]):=by simp
   have hj:=judge_ok gi pre (aM r++[41,92,90]) (by simp at hl ⊢;exact ln [_,_,_] [(1,.a (.a (.a (.v 0) (.a (.v 1) (.v 2))) (.k 8)) (.k 1),.k 1048576)] (.a (.a (.a (.v 0) (.v 1)) (.k 8)) (.k 1)) (.k 1048576) 1 rfl hl)
   rw[<-e0] at hj
   have b1:aD (az H2 11) lZ (cM (pre++(i.x++aM r++[41,92,90])) items pre.length s3)=some (.nx,cM (pre++(i.x++aM r++[41,92,90])) (items++[gP i.b i.ps]) (pre.length+i.x.length) (.sh (gP i.b i.ps))):=by
    refine(ak (ρ':=cM (pre++(i.x++aM r++[41,92,90])) (items++[gP i.b i.ps]) (pre.length+i.x.length) (.sh (gP i.b i.ps))) ?_).trans rfl
    rw[cw (sA (by simp;exact Nat.le_add_left _ _)) (u:=false) (by
     rw[List.append_assoc]
     exact congrArg some (xH gi.head (Cb hr)).2),if_neg (by decide)]
    refine(ak (ρ':=cM (pre++(i.x++aM r++[41,92,90])) items (pre.length+i.x.length) (.sh (gP i.b i.ps))) ?_).trans ((ak (ρ':=cM (pre++(i.x++aM r++[41,92,90])) (items++[gP i.b i.ps]) (pre.length+i.x.length) (.sh (gP i.b i.ps))) ?_).trans rfl)
    ·have ec:ev H2 (.call 114 (.cons (.var 0) (.cons (.var 2) .nil))) false (cM (pre++(i.x++aM r++[41,92,90])) items pre.length s3)=some (.tuple [gP i.b i.ps,.int ((pre.length+i.x.length:Nat):Int)]):=dm (λpk=>by cases pk<;>rfl) hj
     exact bo ec rfl
    ·show(if items.length<ax then _ else _)=_
     rw[if_pos (by exact ln [_,_] [(1,.a (.v 0) (.a (.v 1) (.k 1)),.k 1000)] (.a (.v 0) (.k 1)) (.k 4096) 1 rfl hb)]
     rfl
   obtain⟨s3',g⟩:=lh r (pre++i.x) (items++[gP i.b i.ps]) (.sh (gP i.b i.ps)) f hr (Nat.le_of_lt_succ ‹_›) (by simp;exact ln [_,_] [(1,.a (.v 0) (.a (.v 1) (.k 1)),.k 1000)] (.a (.a (.v 0) (.k 1)) (.v 1)) (.k 1000) 1 rfl hb) (by simpa using hl) (λU=>rfl)
   refine⟨s3',?_⟩
   rw[eA (by rw[m3];simp;exact ln [_,_] [(1,.a (.k 0) (.k 1),.v 0)] (.a (.k 3) (.k 1)) (.a (.v 0) (.a (.v 1) (.k 3))) 1 rfl hx) b1]
   have e2:pre.length+i.x.length=(pre++i.x).length:=by simp
   simp only[e0,e2,g]
   simp[Part.j]
theorem El(ds:List D):H3 121 ds=dx H2 vn vg 1 ds:=rfl
theorem sz(hp:kI l)(hl:l.length<=200)(hb:(aM l).length<=4000):H3 121 [.str (lL (aM l))]=some (.list (l.map Part.j)):=by
 rw[El]
 refine aB (lh l [40,63,115,58] [] .un cW hp (Nat.lt_of_le_of_lt ‹_› (by decide)) (by simp;exact aA ‹_› (by decide)) (ln [_] [(1,.v 0,.k 4000)] (.a (.a (.a (.a (.a (.a (.v 0) (.k 1)) (.k 1)) (.k 1)) (.k 1)) (.k 8)) (.k 1)) (.k 1048576) 1 rfl hb) (λU=>rfl)) λs3' h=>?_
 refine de (ρ':=cM ([40,63,115,58]++(aM l++[41,92,90])) (l.map Part.j) ([40,63,115,58]++aM l).length s3') rfl ?_
 show aD (az H2 12) [_,.whl pZ lZ,_] [.sh (.str _),.un,.un,.un]=_
 refine(ak (ρ':=cM ([40,63,115,58]++(aM l++[41,92,90])) [] 4 .un) (by kernel_rfl)).trans ((ak (h)).trans (cx ?_ _))
 generalize hT:([40,63,115,58]++(aM l++[41,92,90]):List Nat)=T
 have lT:T.length=(aM l).length+7:=by refine hT▸?_;simp
 have e1:ev H2 (.slice (.var 0) (.const .none) (.const (.int 4))) true (cM T (l.map Part.j) ([40,63,115,58]++aM l).length s3')=some (.str [40,63,115,58]):=by
  show(bI (.str T) .none (.int 4))=_
  simp only[lU,sJ,qs,qx,sP]
  have:min (4:Int).toNat T.length=4:=by refine af lT▸?_;exact Nat.min_eq_left (Nat.le_add_left _ _)
  refine af this▸?_;refine hT▸?_
  rfl
 have e2:ev H2 (.slice (.var 0) (.neg (.const (.int 3))) (.const .none)) true (cM T (l.map Part.j) ([40,63,115,58]++aM l).length s3')=some (.str [41,92,90]):=by
  show(bI (.str T) (.int (-3)) .none)=_
  simp only[lU,sJ,qs,qx,sP]
  rw[if_neg (by decide)]
  simp only[Option.bind_some,Option.map_some]
  have:T.length-(-(-3):Int).toNat=(4+(aM l).length):=by refine af lT▸?_;exact Nat.add_comm _ _
  refine af this▸?_
  unfold cut
  rw[List.take_of_length_le (Nat.le_refl _),<-hT,<-List.append_assoc,List.drop_left' (af (Nat.add_comm 4 (aM l).length))]
 have e4:ev H2 (.cmp .Eq (.bin .Add (.slice (.var 0) (.const .none) (.const (.int 4))) (.slice (.var 0) (.neg (.const (.int 3))) (.const .none))) (.const (.str [40,63,115,58,41,92,90]))) true (cM T (l.map Part.j) ([40,63,115,58]++aM l).length s3')=some (.bool true):=by
  simp only[dN]
  rw[(gh (x:=[40,63,115,58]) (y:=[41,92,90]) (by exact e1) (by exact e2) (by decide))]
  rfl
 simp only[BV]
 refine af e4▸?_
 rfl
theorem oQ{n:Nat}{ds:List D}{bs:D->R}(hx:aq ρ a (ev H a false ρ)=some x)(hy:aq ρ b (ev H b false ρ)=some y)(hz:aq ρ c (ev H c false ρ)=some z)
 (hi:a9 k x y z=some ds) (hb:∀d∈ds,bg n d=some (bs d)) (hq:∀d∈ds,(ev H q true (bs d++ρ.map Sl.inn)).bind aE=some (p d)) (he:∀d∈ds,p d=true->ev H e pk (bs d++ρ.map Sl.inn)=some (f d)) (hl:ds.length<=ax):
 ev H (.comp1 n k a b c q e) pk ρ=some (.list ((ds.filter p).map f)):=by
 have hg:∀d∈ds,((bg n d).bind λbs=>(ev H q true (bs++ρ.map Sl.inn)).bind λu=>(aE u).bind λq=>if q then (ev H e pk (bs++ρ.map Sl.inn)).map λv=>[v] else some [])=some (if p d then [f d] else []):=λd hd=>by
  refine bi (hq d hd) λu e1 e2=>?_
  simp only[hb d hd,Option.bind_some,e1,e2]
  by_cases hp:p d=true
  ·simp only[hp,if_true,he d hd hp,Option.map_some]
  ·simp only[hp,Bool.false_eq_true,if_false]
 refine mi (eM hg) λl e1 e2=>?_
 simp only[oE hx hy hz hi,e1,Option.bind_some,e2]
 unfold eN
 rw[if_pos]
 rw[aV]
 exact aA (List.length_filter_le _ _) hl
noncomputable abbrev en(J S:D)(s2 s3 s4 s5:Sl):R:=[.sh J,.sh S,s2,s3,s4,s5]
theorem sH(a b:Nat):sI [a] [b]=decide (a<b):=by
 unfold sI
 simp[List.cons_lt_cons_iff]
noncomputable abbrev qA:IE:=.cmp .Eq (.cmp .NotEq (.comp1 2 .of (.var 5) (.const .none) (.const .none) (.cmp2 .LtE .LtE (.var 0) (.var 5) (.var 1)) (.var 0)) (.lst .nil)) (.var 4)
theorem BN{ps:List (Nat×Nat)}(hl:ps.length<=4000):ev H qA true (en J S (.sh d2) (.sh (.str [c])) (.sh (.bool b)) (.sh (.list (ps.map pairD))))=some (.bool (!cj b ps c)):=by
 have e1:ev H (.comp1 2 .of (.var 5) (.const .none) (.const .none) (.cmp2 .LtE .LtE (.var 0) (.var 5) (.var 1)) (.var 0)) true (en J S (.sh d2) (.sh (.str [c])) (.sh (.bool b)) (.sh (.list (ps.map pairD))))=
  some (.list (((ps.map pairD).filter λd=>match eH d with|some p=>Nat.ble p.1 c&&Nat.ble c p.2|none=>false).map λd=>match eH d with|some p=>.str [p.1]|none=>.none)):=by
  refine oQ (x:=.list (ps.map pairD)) (ds:=ps.map pairD) (bs:=λd=>match eH d with|some p=>[.sh (.str [p.1]),.sh (.str [p.2])]|none=>[]) rfl rfl rfl rfl ?_ ?_ ?_ (by rw[aV];exact aA ‹_› (by decide))
  ·intro d hd
   refine ai (List.mem_map.mp hd) λp U q1=>q1▸?_
   rfl
  ·intro d hd
   refine ai (List.mem_map.mp hd) λp U q4=>q4▸?_
   have g1:cN .LtE (.str [p.1]) (.str [c])=some (Nat.ble p.1 c):=by
    show some (!sI [c] [p.1])=_
    rw[sH,Option.some.injEq,Bool.eq_iff_iff];simp
   have g2:cN .LtE (.str [c]) (.str [p.2])=some (Nat.ble c p.2):=by
    show some (!sI [p.2] [c])=_
    rw[sH,Option.some.injEq,Bool.eq_iff_iff];simp
   show(Option.bind (cN .LtE (.str [p.1]) (.str [c])) λt=>if t then (cN .LtE (.str [c]) (.str [p.2])).map D.bool else some (.bool false)).bind aE=some (Nat.ble p.1 c&&Nat.ble c p.2)
   refine af g1▸?_;refine af g2▸?_
   induction Nat.ble p.1 c<;>rfl
  ·intro d hd _
   refine ai (List.mem_map.mp hd) λp U q6=>?_
   clear hd
   subst q6
   rfl
 have e2:∀l:List (Nat×Nat),((((l.map pairD).filter λd=>match eH d with|some p=>Nat.ble p.1 c&&Nat.ble c p.2|none=>false).map λd=>match eH d with|some p=>D.str [p.1]|none=>.none)).isEmpty= !(l.any λp=>Nat.ble p.1 c&&Nat.ble c p.2):=by
  intro l
  induction l with
  |nil=>rfl
  |cons p r ih=>
   simp only[List.map_cons,List.filter_cons,List.any_cons]
   have:eH (pairD p)=some p:=rfl
   simp only[this]
   induction Nat.ble p.1 c&&Nat.ble c p.2
   ·exact ih
   ·rfl
 have e3:ev H (.cmp .NotEq (.comp1 2 .of (.var 5) (.const .none) (.const .none) (.cmp2 .LtE .LtE (.var 0) (.var 5) (.var 1)) (.var 0)) (.lst .nil)) true (en J S (.sh d2) (.sh (.str [c])) (.sh (.bool b)) (.sh (.list (ps.map pairD))))=some (.bool (ps.any λp=>Nat.ble p.1 c&&Nat.ble c p.2)):=by
  have e5:ev H (.lst .nil) true (en J S (.sh d2) (.sh (.str [c])) (.sh (.bool b)) (.sh (.list (ps.map pairD))))=some (.list []):=by
   rfl
  simp only[dN]
  simp only[e1,e5]
  show some (D.bool (!(List.isEmpty _)))=_
  rw[e2,Bool.not_not]
 rw[dN]
 simp only[e3]
 show some (D.bool ((ps.any λp=>Nat.ble p.1 c&&Nat.ble c p.2)==b))=_
 unfold cj
 clear e3
 induction (ps.any λp=>Nat.ble p.1 c&&Nat.ble c p.2)<;>cases b<;>rfl
def a7(is:List It)(cs:List Nat):Bool:=(is.zip cs).all λp=>cj p.1.b p.1.ps p.2
abbrev aW(i:It):D:=gP i.b i.ps
abbrev mq:List IS:=[.multi [4,5] (.var 2),.ife qA [.ret (.const (.bool false))] []]
theorem BO{c:Nat}(hl:i.ps.length<=4000)(k4:∀k,Sl.kill k s4=s4)(k5:∀k,Sl.kill k s5=s5):
 aD (az H 11) mq (en J S (.sh (aW i)) (.sh (.str [c])) s4 s5)=
  some (if cj i.b i.ps c then .nx else .rt (.bool false),en J S (.sh (aW i)) (.sh (.str [c])) (.sh (.bool i.b)) (.sh (.list (i.ps.map pairD)))):=by
 refine(ak (ρ':=en J S (.sh (aW i)) (.sh (.str [c])) (.sh (.bool i.b)) (.sh (.list (i.ps.map pairD)))) rfl).trans ?_
 have e:=cw (H:=H) (n:=10) (t:=qA) (a:=[.ret (.const (.bool false))]) (b:=[]) (BN (J:=J) (S:=S) (d2:=aW i) (b:=i.b) (ps:=i.ps) (c:=c) hl) (u:= !cj i.b i.ps c) rfl
 induction hf:cj i.b i.ps c with
 |true=>
  rw[hf] at e
  exact(ak (e.trans rfl)).trans rfl
 |false=>
  rw[hf] at e
  exact cS (e.trans (cx rfl _))
theorem sS:∀(is:List It) (cs:List Nat) (s2 s3 s4 s5:Sl),(∀i∈is,i.ps.length<=4000)->(∀k,Sl.kill k s2=s2)->(∀k,Sl.kill k s3=s3)->(∀k,Sl.kill k s4=s4)->(∀k,Sl.kill k s5=s5)->
 ∃ρ',cb [2,3] (aD (az H 11) mq) (hG (is.map aW) (cs.map λc=>.str [c])) (en J S s2 s3 s4 s5)=some (if a7 is cs then .nx else .rt (.bool false),ρ')
 |[],cs,s2,s3,s4,s5,_,_,_,_,_=>⟨en J S s2 s3 s4 s5,by induction cs<;>rfl⟩
 |i::is,[],s2,s3,s4,s5,_,_,_,_,_=>⟨en J S s2 s3 s4 s5,rfl⟩
 |i::is,c::cs,s2,s3,s4,s5,hl,k2,k3,k4,k5=>by
  have hb:bindTo [2,3] (.tuple [aW i,.str [c]]) (en J S s2 s3 s4 s5)=some (en J S (.sh (aW i)) (.sh (.str [c])) s4 s5):=by
   show some [Sl.sh J,.sh S,.sh (aW i),.sh (.str [c]),Sl.kill 3 (Sl.kill 2 s4),Sl.kill 3 (Sl.kill 2 s5)]=_
   simp only[k4,k5,k4,k5]
  have fb:=BO (H:=H) (J:=J) (S:=S) (c:=c) (hl i (List.mem_cons_self)) k4 k5
  induction hf:cj i.b i.ps c with
  |true=>
   obtain⟨ρ',h⟩:=sS is cs (.sh (aW i)) (.sh (.str [c])) (.sh (.bool i.b)) (.sh (.list (i.ps.map pairD))) (λj hj=>hl j (List.mem_cons_of_mem i hj)) (λU=>rfl) (λU=>rfl) (λU=>rfl) (λU=>rfl)
   refine⟨ρ',bo hb (bo fb ?_)⟩
   have:a7 (i::is) (c::cs)=a7 is cs:=by simp[a7,hf]
   rw[this,hf]
   exact h
  |false=>
   refine⟨en J S (.sh (aW i)) (.sh (.str [c])) (.sh (.bool i.b)) (.sh (.list (i.ps.map pairD))),bo hb (bo fb ?_)⟩
   have:a7 (i::is) (c::cs)=false:=by simp[a7,hf]
   rw[this,hf]
   rfl
theorem En(ds:List D):H1 126 ds=dx H0 vm vf 2 ds:=rfl
theorem nA(h:∀i∈is,i.ps.length<=4000)(hc:∀c∈cs,c<128):H1 126 [.list (is.map aW),.str cs]=some (.bool (a7 is cs)):=by
 rw[En]
 refine aB (sS (H:=H0) (J:=.list (is.map aW)) (S:=.str cs) is cs .un .un .un .un h (λU=>rfl) (λU=>rfl) (λU=>rfl) (λU=>rfl)) λρ' e=>?_
 have hi:a9 .zip2 (.list (is.map aW)) (.str cs) .none=some (hG (is.map aW) (cs.map λc=>.str [c])):=
  (if_pos (List.all_eq_true.mpr λc h=>decide_eq_true (hc c h)))
 have e1:az H0 12 (.fr [2,3] .zip2 (.var 0) (.var 1) (.const .none) mq) (en (.list (is.map aW)) (.str cs) .un .un .un .un)=some (if a7 is cs then .nx else .rt (.bool false),ρ'):=
  (i9 rfl rfl rfl hi).trans e
 refine de (ρ':=ρ') rfl ?_
 show aD (az H0 12) [.fr [2,3] .zip2 (.var 0) (.var 1) (.const .none) mq,.ret (.const (.bool true))] (en (.list (is.map aW)) (.str cs) .un .un .un .un)=_
 induction hf:a7 is cs with
 |true=>
  rw[hf] at e1
  refine(ak e1).trans (cx rfl _)
 |false=>
  rw[hf] at e1
  exact cS e1
section
theorem mx{d:D}(h:∀pk,ev H e pk ρ=some d)(pk:Bool):ev H (.cons e .nil) pk ρ=some (.tuple [d]):=bo (h pk) rfl
theorem qL{d d2:D}(h:∀pk,ev H e pk ρ=some d)(h2:∀pk,ev H f pk ρ=some d2)(pk:Bool):ev H (.cons e (.cons f .nil)) pk ρ=some (.tuple [d,d2]):=bo (h pk) (bo (bo (h2 pk) rfl) rfl)
theorem bR{d:D}(h1:ev H a true ρ=some (.tuple ds))(h2:dJ f ds=some d):ev H (.prim f a) pk ρ=some d:=bo h1 h2
theorem gg{ds:List D}(h0:ev H o true ρ=some x)(h1:ev H a true ρ=some (.tuple ds))(h2:d8 f x ds=some d):ev H (.meth f o a) pk ρ=some d:=bo h0 (bo h1 h2)
theorem my{x y:Bool}(h1:ev H a pk ρ=some (.bool x))(h2:x=true->ev H b pk ρ=some (.bool y)):ev H (.and a b) pk ρ=some (.bool (x&&y)):=by
 refine bo h1 ?_
 clear h1
 induction x with
 |true=>exact h2 rfl
 |false=>rfl
theorem qN(h1:ev H t true ρ=some (.bool u))(h2:u=true->ev H a pk ρ=some d)(h3:u=false->ev H b pk ρ=some d):ev H (.ite t a b) pk ρ=some d:=by
 refine bo h1 ?_
 clear h1
 induction u with
 |true=>exact h2 rfl
 |false=>exact h3 rfl
theorem pC(h1:ev H a true ρ=some x)(h2:ev H b true ρ=some y)(h3:oG x y=some u):ev H (.cmp .Eq a b) pk ρ=some (.bool u):=bo h1 (bo h2 (aK h3))
end
noncomputable def bit(b:Bool):Nat:=if b then 1 else 0
def fz(b:Bool):D:=.int (bit b:Nat)
theorem mE(f:α->Bool):∀l:List α,bytesOf (l.map λa=>fz (f a))=some (l.map λa=>bit (f a))
 |[]=>rfl
 |a::r=>by
  have hb:0<=((bit (f a):Nat):Int)/\((bit (f a):Nat):Int)<256:=⟨Int.natCast_nonneg _,by unfold bit;split<;>decide⟩
  exact bo (x:=((bit (f a):Nat):Int)) rfl ((if_pos hb).trans (aK (mE f r)))
theorem l5{α:Type}(f:α->Bool)(l:List α):dJ "bytes" [.list (l.map λa=>fz (f a))]=some (.bytes (l.map λa=>bit (f a))):=by
 exact aK (mE f l)
theorem eX(ds:List D):dJ "len" [.list ds]=some (.int ds.length):=rfl
theorem Ek(ds:List D):H3 126 ds=H1 126 ds:=rfl
theorem xx(ds:List D):H4 131 ds=dx H3 vk I131 2 ds:=rfl
noncomputable abbrev eI(P:List Nat)(N:D)(s2 s3 s4 s5 s6:Sl):R:=[.sh (.str P),.sh N,s2,s3,s4,s5,s6]
theorem pO(h1:H2 52 [.str (aL l)]=some (.str t))(h2:H3 121 [.str t]=some (.list (l.map Part.j)))(n:Nat):
 az H3 (n+1) (.assign 2 (.call 121 (.cons (.call 52 (.cons (.var 0) .nil)) .nil))) (eI (aL l) N .un .un .un .un .un)=some (.nx,eI (aL l) N (.sh (.list (l.map Part.j))) .un .un .un .un):=
 cy (dm (mx λpk=>dm (λpk=>by induction pk<;>rfl) (by exact h1)) h2) rfl
theorem rW(is:List It):d8 "count" (.list ((is.map some).map Part.j)) [.none]=some (.int 0):=by
 have h1:((is.map some).map Part.j).all cn=true:=List.all_eq_true.mpr λd hd=>by
  simp only[List.map_map,List.mem_map] at hd
  obtain⟨i,_,rfl⟩:=hd
  rfl
 have h2:((is.map some).map Part.j).filter isNone=[]:=List.filter_eq_nil_iff.mpr λd hd=>by
  simp only[List.map_map,List.mem_map] at hd
  obtain⟨i,_,rfl⟩:=hd
  exact ne_true_of_eq_false rfl
 show(if ((is.map some).map Part.j).all cn=true then some (D.int (((is.map some).map Part.j).filter isNone).length) else none)=_
 refine af h1▸?_;refine af h2▸?_;rfl
theorem uk(is:List It):(is.map some).map Part.j=is.map aW:=by
 rw[List.map_map];rfl
noncomputable def jY(cs:List Nat):Prop:=cs.length=3/\∀c∈cs,c<128
theorem rI(h:∀i∈is,i.Good)(hl:is.length=3){names:List (List Nat)}(hn:∀cs∈names,jY cs)(hnl:names.length<=64):
 H4 131 [.str (aL (is.map some)),.list (names.map .str)]=some (.bytes (names.map λcs=>bit (a7 is cs))):=by
 have ex:aM (is.map some)=eE is:=by
  unfold aM eE
  simp only[List.flatMap_def,List.map_map];rfl
 have h2:=sz (l:=is.map some) (λp hp i e=>by
  refine ai (List.mem_map.mp hp) λj hj q1=>?_
  clear hp
  subst q1
  cases e;exact h i hj) (by simp;exact aA (Nat.le_of_eq ‹_›) (by decide)) (by refine af ex▸?_;have:=(iJ h).2;exact ln [_,_] [(64,.v 0,.k 3),(1,.v 1,.m 64 (.v 0))] (.v 1) (.k 4000) 1 rfl (Nat.le_of_eq hl) this)
 rw[ex] at h2
 rw[xx]
 refine de (ρ':=eI (aL (is.map some)) (.list (names.map .str)) (.sh (.list ((is.map some).map Part.j))) .un .un .un .un) rfl ?_
 show aD (az H3 12) (_::_::I131.drop 2) (eI (aL (is.map some)) (.list (names.map .str)) .un .un .un .un .un)=_
 refine(ak (pO (xM h (Nat.le_of_eq ‹_›)) h2 11)).trans (cS ?_)
 refine af (cw (show ev H3 (.cmp .Eq (.meth "count" (.var 2) (.cons (.const .none) .nil)) (.const (.int 0))) true (eI (aL (is.map some)) (.list (names.map .str)) (.sh (.list ((is.map some).map Part.j))) .un .un .un .un)=some (.bool true) from pC (y:=.int 0) (gg rfl rfl (rW is)) rfl rfl) (u:=true) rfl)▸?_;refine af (if_pos rfl)▸?_
 refine cx (bR (mx (λpk=>?_) _) (l5 (a7 is) names)) _
 have hg:∀i∈is,i.ps.length<=4000:=λi hi=>by have:=(h i hi).pl;exact aA ‹_› (by decide)
 refine(b9 (x:=.list (names.map .str)) (ds:=names.map .str) (f:=λd=>match d with| .str cs=>fz (a7 is cs)|_=>.none) rfl rfl rfl rfl ?_ (by rw[aV];exact aA ‹_› (by decide))).trans (by rw[List.map_map];rfl)
 intro d hd
 refine ai (List.mem_map.mp hd) λcs hcs q3=>q3▸?_
 have e1:ev H3 (.cmp .Eq (.prim "len" (.cons (.var 3) .nil)) (.const (.int 3))) true (.sh (.str cs)::(eI (aL (is.map some)) (.list (names.map .str)) (.sh (.list ((is.map some).map Part.j))) .un .un .un .un).map Sl.inn)=some (.bool true):=
  pC (y:=.int 3) (bR (mx (d:=.list ((is.map some).map Part.j)) (λpk=>by induction pk<;>rfl) _) (eX _)) rfl (by
   rw[aV,aV,hl];rfl)
 have e2:ev H3 (.call 126 (.cons (.var 3) (.cons (.var 0) .nil))) true (.sh (.str cs)::(eI (aL (is.map some)) (.list (names.map .str)) (.sh (.list ((is.map some).map Part.j))) .un .un .un .un).map Sl.inn)=some (.bool (a7 is cs)):=
  dm (qL (d:=.list ((is.map some).map Part.j)) (d2:=.str cs) (λpk=>by induction pk<;>rfl) (λpk=>by induction pk<;>rfl)) (by
   rw[Ek,uk];exact nA hg (hn cs hcs).2)
 refine qN (my e1 λU=>e2) (λhu=>?_) (λhu=>?_)
 ·have:a7 is cs=true:=by exact hu
  show _=some (fz (a7 is cs))
  rw[this];rfl
 ·have:a7 is cs=false:=by exact hu
  show _=some (fz (a7 is cs))
  rw[this];rfl
theorem Cy(is js:List It):(is.map some++none::js.map some).map Part.j=is.map aW++D.none::js.map aW:=by
 simp only[List.map_append,List.map_cons,uk,uk];rfl
theorem jK{is:List It}{d:D}(h:d∈is.map aW):isNone d=false/\cn d=true:=by
 refine ai (List.mem_map.mp h) λi U q1=>q1▸?_
 exact⟨rfl,rfl⟩
theorem pV(is js:List It):(is.map aW++D.none::js.map aW).all cn=true:=List.all_eq_true.mpr λd hd=>by
 rcases List.mem_append.mp hd with hd|hd
 ·exact(jK hd).2
 ·rcases List.mem_cons.mp hd with rfl|hd
  ·rfl
  ·exact(jK hd).2
theorem oD(is:List It):(is.map aW).filter isNone=[]:=List.filter_eq_nil_iff.mpr λd hd=>by refine af ((jK hd).1)▸?_;decide
theorem uQ(is js:List It):d8 "count" (.list (is.map aW++D.none::js.map aW)) [.none]=some (.int 1):=by
 have h2:(is.map aW++D.none::js.map aW).filter isNone=[D.none]:=by
  simp only[List.filter_append,oD,List.filter_cons,oD];rfl
 show(if (is.map aW++D.none::js.map aW).all cn=true then some (D.int ((is.map aW++D.none::js.map aW).filter isNone).length) else none)=_
 rw[pV,h2];rfl
theorem uB(is js:List It):d8 "index" (.list (is.map aW++D.none::js.map aW)) [.none]=some (.int (is.length:Nat)):=by
 have h2:(is.map aW++D.none::js.map aW).findIdx? isNone=some is.length:=by
  induction is with
  |nil=>rfl
  |cons i r ih=>
   simp only[List.map_cons,List.cons_append,List.findIdx?_cons,ih]
   rfl
 show(if (is.map aW++D.none::js.map aW).all cn=true then ((is.map aW++D.none::js.map aW).findIdx? isNone).map λ(i:Nat)=>D.int (i:Int) else none)=_
 rw[pV,h2];rfl
theorem tQ(A B:List D):bI (.list (A++B)) .none (.int (A.length:Nat))=some (.list A):=by
 simp only[jA,sJ,sP]
 simp only[Option.bind_some,Option.map_some]
 simp[cut]
theorem tO(A B:List D)(x:D):bI (.list (A++x::B)) (.int ((A.length:Nat)+1)) .none=some (.list B):=by
 simp only[jA,qs,qx]
 rw[if_pos (by exact Int.natCast_nonneg _)]
 simp only[Option.bind_some,Option.map_some]
 have:min (((A.length:Nat):Int)+1).toNat (A++x::B).length=A.length+1:=by simp
 refine af this▸?_
 unfold cut
 rw[List.take_length,List.append_cons,List.drop_left' (by simp)]
theorem tP(cs:List Nat)(k:Nat)(hk:k<=3)(hc:cs.length=3):bI (.str cs) (.int (3-(k:Nat))) .none=some (.str (cs.drop (3-k))):=by
 simp only[lU,qs,qx]
 rw[if_pos (by exact Int.sub_nonneg.mpr (Int.ofNat_le.mpr hk))]
 simp only[Option.bind_some,Option.map_some]
 have:min ((3:Int)-(k:Nat)).toNat cs.length=3-k:=by rw[hc];simp
 rw[this]
 unfold cut
 rw[List.take_length]
def ci(is js:List It)(cs:List Nat):Bool:=a7 is cs&&a7 js (cs.drop (3-js.length))
noncomputable abbrev vF:List IS:=[.append 5 (.ite (.and (.call 126 (.cons (.var 3) (.cons (.var 6) .nil))) (.call 126 (.cons (.var 4) (.cons (.slice (.var 6) (.bin .Sub (.const (.int 3)) (.prim "len" (.cons (.var 4) .nil))) (.const .none)) .nil)))) (.const (.int 1)) (.const (.int 0)))]
section
abbrev fU(P:List Nat)(N d2:D)(is js:List It)(acc:List D)(s6:Sl):R:=eI P N (.sh d2) (.sh (.list (is.map aW))) (.sh (.list (js.map aW))) (.ow acc) s6
theorem AM(hi:∀i∈is,i.ps.length<=4000)(hj:∀i∈js,i.ps.length<=4000)(hl:js.length<=3){cs:List Nat}(hc:jY cs):
 ev H3 (.ite (.and (.call 126 (.cons (.var 3) (.cons (.var 6) .nil))) (.call 126 (.cons (.var 4) (.cons (.slice (.var 6) (.bin .Sub (.const (.int 3)) (.prim "len" (.cons (.var 4) .nil))) (.const .none)) .nil)))) (.const (.int 1)) (.const (.int 0))) false (fU P N d2 is js acc (.sh (.str cs)))=some (fz (ci is js cs)):=by
 have e3:∀pk,ev H3 (.prim "len" (.cons (.var 4) .nil)) pk (fU P N d2 is js acc (.sh (.str cs)))=some (.int (js.length:Nat)):=λpk=>
  bR (mx (d:=.list (js.map aW)) (λpk=>by induction pk<;>rfl) _) (by rw[eX,aV])
 have e4:∀pk,ev H3 (.slice (.var 6) (.bin .Sub (.const (.int 3)) (.prim "len" (.cons (.var 4) .nil))) (.const .none)) pk (fU P N d2 is js acc (.sh (.str cs)))=some (.str (cs.drop (3-js.length))):=λpk=>by
  have e5:ev H3 (.bin .Sub (.const (.int 3)) (.prim "len" (.cons (.var 4) .nil))) true (fU P N d2 is js acc (.sh (.str cs)))=some (.int (3-(js.length:Nat))):=by
   simp only[sX]
   simp only[aq,e3]
   rfl
  simp only[jP]
  rw[e5]
  exact tP cs js.length hl hc.1
 refine qN (my (dm (qL (d:=.list (is.map aW)) (d2:=.str cs) (λpk=>by induction pk<;>rfl) (λpk=>by induction pk<;>rfl)) (nA hi hc.2)) λU=>(dm (qL (d:=.list (js.map aW)) (d2:=.str (cs.drop (3-js.length))) (λpk=>by cases pk<;>rfl) e4) (nA hj λc h=>hc.2 c (List.mem_of_mem_drop h)))) (λhu=>?_) (λhu=>?_)
 ·have:ci is js cs=true:=hu
  rw[this];rfl
 ·have:ci is js cs=false:=hu
  rw[this];rfl
theorem se(hi:∀i∈is,i.ps.length<=4000)(hj:∀i∈js,i.ps.length<=4000)(hl:js.length<=3):∀(names:List (List Nat)) (acc:List D) (s6:Sl),(∀cs∈names,jY cs)->acc.length+names.length<=1000->
 ∃s6',cb [6] (aD (az H3 11) vF) (names.map .str) (fU P N d2 is js acc s6)=some (.nx,fU P N d2 is js (acc++names.map λcs=>fz (ci is js cs)) s6')
 |[],acc,s6,_,_=>⟨s6,by show some (Fl.nx,fU P N d2 is js acc s6)=some (Fl.nx,fU P N d2 is js (acc++[]) s6);rw[List.append_nil]⟩
 |cs::r,acc,s6,hn,hb=>by
  have b2:aD (az H3 11) vF (fU P N d2 is js acc (.sh (.str cs)))=some (.nx,fU P N d2 is js (acc++[fz (ci is js cs)]) (.sh (.str cs))):=by
   refine(ak (ρ':=fU P N d2 is js (acc++[fz (ci is js cs)]) (.sh (.str cs))) ?_).trans rfl
   exact(mw (AM hi hj hl (hn cs (List.mem_cons_self))) rfl (ln [_,_] [(1,.a (.v 0) (.a (.v 1) (.k 1)),.k 1000)] (.a (.v 0) (.k 1)) (.k 4096) 1 rfl hb)).trans rfl
  obtain⟨s6',h⟩:=se hi hj hl r (acc++[fz (ci is js cs)]) (.sh (.str cs)) (λc h=>hn c (List.mem_cons_of_mem cs h)) (by simp at hb ⊢;exact ln [_,_] [(1,.a (.v 0) (.a (.v 1) (.k 1)),.k 1000)] (.a (.a (.v 0) (.k 1)) (.v 1)) (.k 1000) 1 rfl hb)
  refine⟨s6',?_⟩
  exact bo (show bindTo [6] (.str cs) (fU P N d2 is js acc s6)=some (fU P N d2 is js acc (.sh (.str cs))) from rfl) (bo b2 (h.trans (by rw[List.append_assoc];rfl)))
end
theorem tv{is js:List It}(h:∀i∈is,i.Good)(h':∀i∈js,i.Good)(hl:is.length<=3)(hl2:js.length<=3){names:List (List Nat)}(hn:∀cs∈names,jY cs)(hnl:names.length<=64):
 H4 131 [.str (aL (is.map some++none::js.map some)),.list (names.map .str)]=some (.bytes (names.map λcs=>bit (ci is js cs))):=by
 have h1:=AI h h' hl hl2
 have exi:∀is:List It,aM (is.map some)=eE is:=λis=>by
  unfold aM eE
  simp only[List.flatMap_def,List.map_map];rfl
 have ex:aM (is.map some++none::js.map some)=eE is++[46,42]++eE js:=by
  have:aM (is.map some++none::js.map some)=aM (is.map some)++([46,42]++aM (js.map some)):=by
   unfold aM
   simp only[List.flatMap_append,List.flatMap_cons];rfl
  simp only[this,exi,exi,List.append_assoc]
 have h2:=sz (l:=is.map some++none::js.map some) (λp hp i e=>by
  subst e
  rcases List.mem_append.mp hp with hp|hp
  ·obtain⟨j,hj,e⟩:=List.mem_map.mp hp
   cases e;exact h i hj
  ·rcases List.mem_cons.mp hp with e|hp
   ·cases e
   ·refine ai (List.mem_map.mp hp) λj hj e=>?_
    cases e;exact h' i hj) (by simp;exact Nat.lt_of_le_of_lt (Nat.add_le_add ‹_› ‹_›) (by decide)) (by rw[ex];have:=(iJ h).2;have:=(iJ h').2;simp;exact ln [_,_,_,_] [(1,.v 0,.m 64 (.v 1)),(1,.v 2,.m 64 (.v 3)),(64,.v 1,.k 3),(64,.v 3,.k 3)] (.a (.v 0) (.a (.a (.v 2) (.k 1)) (.k 1))) (.k 4000) 1 rfl ‹(eE is).length<=_› ‹(eE js).length<=_› hl hl2)
 rw[ex] at h2
 have hg:∀i∈is,i.ps.length<=4000:=λi hi=>by have:=(h i hi).pl;exact aA ‹_› (by decide)
 have hg':∀i∈js,i.ps.length<=4000:=λi hi=>by have:=(h' i hi).pl;exact aA ‹_› (by decide)
 generalize hP:aL (is.map some++none::js.map some)=P at*
 generalize hN:D.list (names.map .str)=N
 obtain⟨s6',hloop⟩:=se (P:=P) (N:=N) (d2:=.list (is.map aW++D.none::js.map aW)) hg hg' hl2 names [] .un hn (by simp;exact aA ‹_› (by decide))
 simp only[xx]
 refine de (ρ':=fU P N (.list (is.map aW++D.none::js.map aW)) is js (names.map λcs=>fz (ci is js cs)) s6') rfl ?_
 have t1:=pO (l:=is.map some++none::js.map some) (N:=N) (by refine af hP▸?_;exact h1) h2 11
 rw[hP,Cy] at t1
 have hx:ev H3 (.meth "index" (.var 2) (.cons (.const .none) .nil)) true (eI P N (.sh (.list (is.map aW++D.none::js.map aW))) .un .un .un .un)=some (.int (is.length:Nat)):=gg rfl rfl (uB is js)
 have li:(is.map aW).length=is.length:=aV _
 have s1:ev H3 (.slice (.var 2) (.const .none) (.meth "index" (.var 2) (.cons (.const .none) .nil))) false (eI P N (.sh (.list (is.map aW++D.none::js.map aW))) .un .un .un .un)=some (.list (is.map aW)):=by
  simp only[jP]
  refine af hx▸?_
  refine li▸?_
  exact tQ _ _
 have s2:ev H3 (.slice (.var 2) (.bin .Add (.meth "index" (.var 2) (.cons (.const .none) .nil)) (.const (.int 1))) (.const .none)) false (eI P N (.sh (.list (is.map aW++D.none::js.map aW))) .un .un .un .un)=some (.list (js.map aW)):=by
  have e5:ev H3 (.bin .Add (.meth "index" (.var 2) (.cons (.const .none) .nil)) (.const (.int 1))) true (eI P N (.sh (.list (is.map aW++D.none::js.map aW))) .un .un .un .un)=some (.int ((is.length:Nat)+1)):=by
   rw[sX]
   simp only[aq,hx]
   rfl
  simp only[jP]
  rw[e5]
  rw[<-li]
  exact tO _ _ _
 refine(ak t1).trans ((ak (ρ':=eI P N (.sh (.list (is.map aW++D.none::js.map aW))) .un .un .un .un) (by rw[cw (pC (y:=.int 0) (gg rfl rfl (uQ is js)) rfl rfl) (u:=false) rfl];rfl)).trans ((ak (ρ':=eI P N (.sh (.list (is.map aW++D.none::js.map aW))) (.sh (.list (is.map aW))) (.sh (.list (js.map aW))) .un .un) ?_).trans
  ((ak (ρ':=fU P N (.list (is.map aW++D.none::js.map aW)) is js [] .un) rfl).trans ((ak (ρ':=fU P N (.list (is.map aW++D.none::js.map aW)) is js (names.map λcs=>fz (ci is js cs)) s6') ?_).trans (cx ?_ _)))))
 ·exact bo (bo (aK s1) (aK (bo (aK s2) rfl))) rfl
 ·have hi:a9 .of N .none .none=some (names.map .str):=by refine hN▸?_;rfl
  exact(i9 rfl rfl rfl hi).trans hloop
 ·exact bR (ds:=[.list (names.map λcs=>fz (ci is js cs))]) rfl (l5 _ names)
theorem xy(ds:List D):H3 100 ds=dx H2 vo vh 5 ds:=rfl
theorem jt(is:List It):aL (is.map some)=(is.map It.t).flatten:=by
 unfold aL
 simp only[List.flatMap_def,List.map_map];rfl
noncomputable abbrev jD(x0 x1 x2 x3 x4:D)(s5:Sl):R:=[.sh x0,.sh x1,.sh x2,.sh x3,.sh x4,s5]
section
variable{i0 i1 i2:It}
theorem qa(h0:H2 95 [W,X0,Y0,Z0]=some (.str i0.t))(h1:H2 95 [W,X1,Y1,Z1]=some (.str i1.t))(h2:H2 95 [W,X2,Y2,Z2]=some (.str i2.t))(star:D):
 az H2 12 (.assign 5 (.comp1 3 .zip3 (.var 1) (.var 2) (.var 3) (.const (.bool true)) (.call 95 (.cons (.var 3) (.cons (.var 0) (.cons (.var 1) (.cons (.var 2) .nil))))))) (jD W (.list [X0,X1,X2]) (.list [Y0,Y1,Y2]) (.list [Z0,Z1,Z2]) star .un)=
  some (.nx,jD W (.list [X0,X1,X2]) (.list [Y0,Y1,Y2]) (.list [Z0,Z1,Z2]) star (.sh (.list ([i0.t,i1.t,i2.t].map .str)))):=by
 refine cy (d:=.list ([i0.t,i1.t,i2.t].map .str)) ?_ rfl
 have c:∀{X Y Z:D} {i:It},H2 95 [W,X,Y,Z]=some (.str i.t)->ev H2 (.call 95 (.cons (.var 3) (.cons (.var 0) (.cons (.var 1) (.cons (.var 2) .nil))))) false ((bg 3 (.tuple [X,Y,Z])).getD []++(jD W (.list [X0,X1,X2]) (.list [Y0,Y1,Y2]) (.list [Z0,Z1,Z2]) star .un).map Sl.inn)=some (.str i.t):=λ{X Y Z i} h=>
  dm (λpk=>by induction pk<;>rfl) h
 refine(oQ (x:=.list [X0,X1,X2]) (y:=.list [Y0,Y1,Y2]) (z:=.list [Z0,Z1,Z2]) (ds:=[.tuple [X0,Y0,Z0],.tuple [X1,Y1,Z1],.tuple [X2,Y2,Z2]]) (bs:=λd=>(bg 3 d).getD []) (p:=λU=>true)
  (f:=λd=>(ev H2 (.call 95 (.cons (.var 3) (.cons (.var 0) (.cons (.var 1) (.cons (.var 2) .nil))))) false ((bg 3 d).getD []++(jD W (.list [X0,X1,X2]) (.list [Y0,Y1,Y2]) (.list [Z0,Z1,Z2]) star .un).map Sl.inn)).getD .none) rfl rfl rfl rfl
  (λd hd=>by rcases List.mem_cons.mp hd with rfl|hd;rfl;rcases List.mem_cons.mp hd with rfl|hd;rfl;rcases List.mem_singleton.mp hd with rfl;rfl) (λU U=>rfl)
  (λd hd U=>by
   rcases List.mem_cons.mp hd with rfl|hd
   ·exact(c h0).trans (congrArg (λo=>some (Option.getD o D.none)) (c h0).symm)
   rcases List.mem_cons.mp hd with rfl|hd
   ·exact(c h1).trans (congrArg (λo=>some (Option.getD o D.none)) (c h1).symm)
   ·refine af (List.mem_singleton.mp hd)▸?_
    exact(c h2).trans (congrArg (λo=>some (Option.getD o D.none)) (c h2).symm)) (show 3<=4096 by decide)).trans ?_
 show some (D.list [Option.getD _ D.none,Option.getD _ D.none,Option.getD _ D.none])=_
 refine af (c h0)▸?_;refine af (c h1)▸?_;refine af (c h2)▸?_;rfl
theorem qc(h0:H2 95 [W,X0,Y0,Z0]=some (.str i0.t))(h1:H2 95 [W,X1,Y1,Z1]=some (.str i1.t))(h2:H2 95 [W,X2,Y2,Z2]=some (.str i2.t))(hl:i0.t.length<=64/\i1.t.length<=64/\i2.t.length<=64):
 H3 100 [W,.list [X0,X1,X2],.list [Y0,Y1,Y2],.list [Z0,Z1,Z2],.none]=some (.str (aL ([i0,i1,i2].map some))):=by
 simp only[xy,jt]
 refine de (ρ':=jD W (.list [X0,X1,X2]) (.list [Y0,Y1,Y2]) (.list [Z0,Z1,Z2]) .none (.sh (.list ([i0.t,i1.t,i2.t].map .str)))) rfl ?_
 refine(ak (qa h0 h1 h2 .none)).trans (cS ?_)
 refine cx ?_ _
 exact gg rfl (ds:=[.list ([i0.t,i1.t,i2.t].map .str)]) rfl (jI (by simp;exact ln [_,_,_] [(1,.v 0,.k 64),(1,.v 1,.k 64),(1,.v 2,.k 64)] (.a (.v 0) (.a (.v 1) (.v 2))) (.k 4096) 1 rfl hl.1 hl.2.1 hl.2.2))
theorem sW{l:List (List Nat)}(h:∀x∈l,x.length<=64):l.flatten.length<=64*l.length:=by
 induction l with
 |nil=>exact Nat.le_mul_self [].flatten.length
 |cons a r ih=>
  have:=ih λx hx=>h x (List.mem_cons_of_mem a hx)
  have:=h a (List.mem_cons_self)
  simp only[List.flatten_cons,List.length_append,List.length_cons];exact le_of_eq_of_le (Nat.add_comm ..) (Nat.add_le_add ‹r.flatten.length<=_› ‹a.length<=64›)
theorem qU(l:List α)(b:Nat):cut l 0 (min b l.length)=l.take b:=by
 unfold cut
 simp
theorem qW(l:List α)(a:Nat):cut l (min a l.length) l.length=l.drop a:=by
 unfold cut
 rw[List.take_length]
 by_cases h:a<=l.length
 ·rw[Nat.min_eq_left h]
 ·rw[Nat.min_eq_right (Nat.le_of_not_ge h),List.drop_length,List.drop_eq_nil_of_le (Nat.le_of_not_ge h)]
theorem qb(h0:H2 95 [W,X0,Y0,Z0]=some (.str i0.t))(h1:H2 95 [W,X1,Y1,Z1]=some (.str i1.t))(h2:H2 95 [W,X2,Y2,Z2]=some (.str i2.t))(hl:i0.t.length<=64/\i1.t.length<=64/\i2.t.length<=64)(a b:Nat):
 H3 100 [W,.list [X0,X1,X2],.list [Y0,Y1,Y2],.list [Z0,Z1,Z2],.tuple [.int a,.int b]]=some (.str (aL (([i0,i1,i2].take a).map some++none::([i0,i1,i2].drop b).map some))):=by
 have e1:aL (([i0,i1,i2].take a).map some++none::([i0,i1,i2].drop b).map some)=(([i0.t,i1.t,i2.t].take a).flatten++[42])++([i0.t,i1.t,i2.t].drop b).flatten:=by
  have:∀A B:List Part,aL (A++none::B)=aL A++([42]++aL B):=λA B=>by unfold aL;simp only[List.flatMap_append,List.flatMap_cons];rfl
  rw[this,jt,jt,List.map_take,List.map_drop,List.append_assoc]
  rfl
 simp only[xy,e1]
 have ha:∀x∈[i0.t,i1.t,i2.t],x.length<=64:=λx hx=>by
  simp only[List.mem_cons,List.not_mem_nil,or_false] at hx
  rcases hx with rfl|rfl|rfl
  ·exact hl.1
  ·exact hl.2.1
  ·exact hl.2.2
 have l1:([i0.t,i1.t,i2.t].take a).flatten.length<=192:=by
  have:=sW (l:=[i0.t,i1.t,i2.t].take a) λx hx=>ha x (List.mem_of_mem_take hx)
  have:([i0.t,i1.t,i2.t].take a).length<=3:=by rw[List.length_take];exact Nat.min_le_right _ _
  exact aA ‹(List.take a [i0.t,i1.t,i2.t]).flatten.length<=64*_› (Nat.mul_le_mul_left 64 this)
 have l2:([i0.t,i1.t,i2.t].drop b).flatten.length<=192:=by
  have:=sW (l:=[i0.t,i1.t,i2.t].drop b) λx hx=>ha x (List.mem_of_mem_drop hx)
  have:([i0.t,i1.t,i2.t].drop b).length<=3:=by rw[List.length_drop];exact Nat.sub_le _ _
  exact aA ‹(List.drop b [i0.t,i1.t,i2.t]).flatten.length<=64*_› (Nat.mul_le_mul_left 64 this)
 refine de (ρ':=jD W (.list [X0,X1,X2]) (.list [Y0,Y1,Y2]) (.list [Z0,Z1,Z2]) (.tuple [.int a,.int b]) (.sh (.list ([i0.t,i1.t,i2.t].map .str)))) rfl ?_
 refine(ak (qa h0 h1 h2 (.tuple [.int a,.int b]))).trans ((ak (ρ':=jD W (.list [X0,X1,X2]) (.list [Y0,Y1,Y2]) (.list [Z0,Z1,Z2]) (.tuple [.int a,.int b]) (.sh (.list ([i0.t,i1.t,i2.t].map .str)))) ?_).trans (cx ?_ _))
 ·rfl
 ·generalize hρ:jD W (.list [X0,X1,X2]) (.list [Y0,Y1,Y2]) (.list [Z0,Z1,Z2]) (.tuple [.int a,.int b]) (.sh (.list ([i0.t,i1.t,i2.t].map .str)))=ρ
  have s1:ev H2 (.slice (.var 5) (.const .none) (.sub (.var 4) (.const (.int 0)))) true ρ=some (.list (([i0.t,i1.t,i2.t].take a).map .str)):=by
   refine hρ▸?_
   show bI (.list ([i0.t,i1.t,i2.t].map .str)) .none (.int a)=_
   simp only[jA,sJ,qs,qx,sP]
   refine af (if_pos (Int.natCast_nonneg _))▸?_
   simp only[Option.bind_some,Option.map_some,Int.toNat_natCast,qU,List.map_take]
  have s2:ev H2 (.slice (.var 5) (.sub (.var 4) (.const (.int 1))) (.const .none)) true ρ=some (.list (([i0.t,i1.t,i2.t].drop b).map .str)):=by
   rw[<-hρ]
   show bI (.list ([i0.t,i1.t,i2.t].map .str)) (.int b) .none=_
   simp only[jA,sJ,qs,qx,sP]
   rw[if_pos (Int.natCast_nonneg _)]
   simp only[Option.bind_some,Option.map_some,Int.toNat_natCast,qW,List.map_drop]
  have m1:∀{e:IE} {ss:List (List Nat)},ev H2 e true ρ=some (.list (ss.map .str))->ss.flatten.length<=192->ev H2 (.meth "join" (.const (.str [])) (.cons e .nil)) true ρ=some (.str ss.flatten):=λ{e ss} h hl=>
   gg (ds:=[.list (ss.map .str)]) rfl (bo h rfl) (jI (aA ‹_› (by decide)))
  refine gh (x:=([i0.t,i1.t,i2.t].take a).flatten++[42]) (y:=([i0.t,i1.t,i2.t].drop b).flatten) ?_ ?_ (by rw[List.length_append];exact ln [_,_] [(1,.v 0,.k 192),(1,.v 1,.k 192)] (.a (.a (.v 0) (.k 1)) (.v 1)) (.k 4096) 1 rfl l1 l2)
  ·exact gh (m1 s1 l1) rfl (Nat.lt_of_le_of_lt ‹_› (by decide))
  ·exact m1 s2 l2
end
noncomputable abbrev cC:=Nat×Nat×Nat
noncomputable def nameOf(w:Nat)(d:cC):List Nat:=[34+w+d.1,34+w+d.2.1,34+w+d.2.2]
noncomputable def fW:Option (Nat×Nat)->D
 |none=>.none
 |some (a,b)=>.tuple [.int a,.int b]
noncomputable def ib(r0 r1 r2:Nat)(d:cC):Prop:=d.1<r0/\d.2.1<r1/\d.2.2<r2
noncomputable def hJ(S0 S1 S2:List Nat)(d:cC):Bool:=S0.contains d.1&&(S1.contains d.2.1&&S2.contains d.2.2)
structure bO(r:Nat)(S:List Nat):Prop where
 hr:r=2\/r=3
 mem:S∈dQ
 lt:∀d∈S,d<r
noncomputable def gj(r0 r1 r2:Nat)(S0 S1 S2:List Nat):Option (Nat×Nat)->Prop
 |none=>True
 |some (a,b)=>a<=b/\b<=3/\(a=0->0<b->∀d,d<r0->S0.contains d=true)/\(a<=1->1<b->∀d,d<r1->S1.contains d=true)/\(a<=2->2<b->∀d,d<r2->S2.contains d=true)
theorem E3(i0 i1 i2:It)(a b c:Nat):a7 [i0,i1,i2] [a,b,c]=(cj i0.b i0.ps a&&(cj i1.b i1.ps b&&cj i2.b i2.ps c)):=by
 simp[a7]
theorem D5{P:Nat->Prop}(h0:P 0)(h1:P 1)(h2:P 2)(h3:P 3){a:Nat}(h:a<=3):P a:=match a,h with
 |0,_=>h0
 |1,_=>h1
 |2,_=>h2
 |3,_=>h3
theorem w8:∀a∈List.range 4,∀b∈List.range 4,a<=b->∀x0 x1 x2:Bool,(a=0->0<b->x0=true)->(a<=1->1<b->x1=true)->(a<=2->2<b->x2=true)->(([x0,x1,x2].take a).all id&&([x0,x1,x2].drop b).all id)=(x0&&(x1&&x2)):=by decide+kernel
theorem wY(h1:a<=b)(h2:b<=3)(f0:a=0->0<b->cj i0.b i0.ps c0=true)(f1:a<=1->1<b->cj i1.b i1.ps c1=true)(f2:a<=2->2<b->cj i2.b i2.ps c2=true):
 ci ([i0,i1,i2].take a) ([i0,i1,i2].drop b) [c0,c1,c2]=(cj i0.b i0.ps c0&&(cj i1.b i1.ps c1&&cj i2.b i2.ps c2)):=by
 show(a7 _ _&&a7 _ _)=_
 simp only[(D5 (P:=λa=>a7 ([i0,i1,i2].take a) [c0,c1,c2]=([cj i0.b i0.ps c0,cj i1.b i1.ps c1,cj i2.b i2.ps c2].take a).all id) rfl rfl rfl rfl (aA h1 h2)),(D5 (P:=λb=>a7 ([i0,i1,i2].drop b) ([c0,c1,c2].drop (3-([i0,i1,i2].drop b).length))=([cj i0.b i0.ps c0,cj i1.b i1.ps c1,cj i2.b i2.ps c2].drop b).all id) rfl rfl rfl rfl h2)]
 exact w8 a (List.mem_range.mpr (Nat.lt_succ_of_le (aA h1 h2))) b (List.mem_range.mpr (Nat.lt_succ_of_le h2)) h1 _ _ _ f0 f1 f2
theorem pP{S0 S1 S2:List Nat}(hw:w<91)(h0:bO r0 S0)(h1:bO r1 S1)(h2:bO r2 S2)(e0 e1 e2:Nat){st:Option (Nat×Nat)}(hs:gj r0 r1 r2 S0 S1 S2 st):
 ∃pat,H4 100 [cV w,.list [aN S0,aN S1,aN S2],.list [.int r0,.int r1,.int r2],.list [.int e0,.int e1,.int e2],fW st]=some (.str pat)/\
  ∀ds:List cC,(∀d∈ds,ib r0 r1 r2 d)->ds.length<=64->H4 131 [.str pat,.list (ds.map λd=>.str (nameOf w d))]=some (.bytes (ds.map λd=>bit (hJ S0 S1 S2 d))):=by
 refine av λGG kk=>aZ (nr hw h0.hr h0.mem h0.lt e0) λi0 g0 c0 k0=>aZ (nr hw h1.hr h1.mem h1.lt e1) λi1 g1 c1 k1=>aZ (nr hw h2.hr h2.mem h2.lt e2) λi2 g2 c2 k2=>?_
 have hg:∀i∈[i0,i1,i2],i.Good:=λi hi=>by
  simp only[List.mem_cons,List.not_mem_nil,or_false] at hi
  rcases hi with rfl|rfl|rfl<;>assumption
 have hn:∀ds:List cC,(∀d∈ds,ib r0 r1 r2 d)->∀cs∈ds.map (nameOf w),jY cs:=λds hd cs hc=>by
  refine ai (List.mem_map.mp hc) λd hdm q4=>?_
  refine q4▸?_
  refine bV (hd d hdm) λq0 q1 q2=>?_
  have:=(λh=>sL h) h0.hr
  have:=(λh=>sL h) h1.hr
  have:=(λh=>sL h) h2.hr
  refine⟨rfl,λc hc=>?_⟩
  simp only[nameOf,List.mem_cons,List.not_mem_nil,or_false] at hc
  (rcases hc with h|h|h<;>(rw[h];first|exact gw hw (Nat.lt_of_lt_of_le q0 ‹r0<=3›)|exact gw hw (Nat.lt_of_lt_of_le q1 ‹r1<=3›)|exact gw hw (Nat.lt_of_lt_of_le q2 ‹r2<=3›)))
 have hm:∀ds:List cC,(ds.map λd=>D.str (nameOf w d))=(ds.map (nameOf w)).map .str:=λds=>by simp only[List.map_map];rfl
 refine kk ?_;clear kk
 induction st with
 |none=>
  refine(am _ (qc c0 c1 c2 (a6 g0.tl g1.tl g2.tl)) (λds hd hl=>?_))
  rw[hm,rI hg rfl (hn ds hd) (by simpa using hl),List.map_map]
  congr 2
  refine List.map_congr_left λd hdm=>bV (hd d hdm) λq0 q1 q2=>?_
  show bit (a7 [i0,i1,i2] (nameOf w d))=_
  simp only[nameOf,E3,k0 _ q0,k1 _ q1,k2 _ q2]
  rfl
 |some ab=>
  obtain⟨a,b⟩:=ab
  refine iw hs λhab hb f0 f1 f2=>(am _ (qb c0 c1 c2 ⟨g0.tl,g1.tl,g2.tl⟩ a b) (λds hd hl=>?_))
  rw[hm,tv (λi h=>hg i (List.mem_of_mem_take h)) (λi h=>hg i (List.mem_of_mem_drop h)) (by rw[List.length_take];exact Nat.min_le_right _ _) (by rw[List.length_drop];exact Nat.sub_le _ _) (hn ds hd) (by simpa using hl),List.map_map]
  congr 2
  refine List.map_congr_left λd hdm=>bV (hd d hdm) λq0 q1 q2=>?_
  show bit (ci ([i0,i1,i2].take a) ([i0,i1,i2].drop b) (nameOf w d))=_
  simp only[nameOf,wY hab hb (λx y=>by rw[k0 _ q0];exact f0 x y _ q0) (λx y=>by rw[k1 _ q1];exact f1 x y _ q1) (λx y=>by rw[k2 _ q2];exact f2 x y _ q2),k0 _ q0,k1 _ q1,k2 _ q2]
  rfl
theorem dC{r:List D}(h1:bindTo ks d ρ=some ρ1)(h2:body ρ1=some (.nx,ρ2)):cb ks body (d::r) ρ=cb ks body r ρ2:=by
 show(bindTo ks d ρ).bind _=_
 rw[h1]
 show(body ρ1).bind _=_
 rw[h2]
 rfl
noncomputable def ao(r0 r1 r2:Nat):List cC:=(List.range r0).flatMap λa=>(List.range r1).flatMap λb=>(List.range r2).map λc=>(a,b,c)
theorem ez{d:cC}:d∈ao r0 r1 r2->ib r0 r1 r2 d:=by
 intro h
 simp only[ao,List.mem_flatMap,List.mem_map,List.mem_range] at h
 obtain⟨a,ha,b,hb,c,hc,rfl⟩:=h
 exact⟨ha,hb,hc⟩
noncomputable def ce(l:List Nat):List D:=l.map λn=>.int (n:Nat)
noncomputable def tell{α:Type}(r:Nat)(p:Nat->Bool)(l:List α)(g:α->Nat):List Nat:=l.flatMap λx=>(List.range r).map λd=>if p d then g x else 0
theorem BG(S:List Nat)(d:Nat):inD (.int d) (S.map λ(x:Nat)=>.int (x:Int))=some (S.contains d):=by
 unfold inD
 rw[if_pos]
 ·congr 1
  induction S with
  |nil=>rfl
  |cons x r ih=>
   simp only[List.map_cons,List.any_cons,List.contains_cons,ih]
   congr 1
   show((x:Int)==(d:Int))=(d==x)
   rw[Bool.eq_iff_iff];simp;exact Int.ofNat_inj.trans eq_comm
 ·rw[List.all_eq_true]
  intro x hx
  obtain⟨c,_,rfl⟩:=List.mem_map.mp hx
  rfl
theorem range_items{r:Nat}(h:r=2\/r=3)(y z:D):a9 .range1 (.int r) y z=some ((List.range r).map λ(d:Nat)=>.int (d:Int)):=by
 rcases h with rfl|rfl
 ·rfl
 ·rfl
noncomputable abbrev eV(A B:D)(t s3 s4:Sl):R:=[.sh A,.sh B,t,s3,s4]
noncomputable abbrev vE:List IS:=[.assign 2 (.comp2 1 .of (.var 2) (.const .none) (.const .none) 1 .range1 (.var 6) (.const .none) (.const .none) (.const (.bool true)) (.ite (.cmp .In (.var 0) (.var 5)) (.var 1) (.const (.int 0))))]
theorem mU{bs:List Nat}{r:Nat}(hr:r=2\/r=3)(hb:bs.length<=1000):aD (az H 11) vE (eV A B (.sh (.list (ce bs))) (.sh (aN S)) (.sh (.int r)))=
 some (.nx,eV A B (.sh (.list (ce (tell r S.contains bs id)))) (.sh (aN S)) (.sh (.int r))):=by
 refine(ak (ρ':=eV A B (.sh (.list (ce (tell r S.contains bs id)))) (.sh (aN S)) (.sh (.int r))) (cy (d:=.list (ce (tell r S.contains bs id))) ?_ rfl)).trans rfl
 refine(lE (x:=.list (ce bs)) (ds:=ce bs) (g:=λU=>(List.range r).map λ(d:Nat)=>.int (d:Int)) (gx:=λU=>.int r) (gy:=λU=>.none) (gz:=λU=>.none)
  (f:=λd d2=>match d2 with| .int i=>if S.contains i.toNat then d else .int 0|_=>.none) rfl rfl rfl rfl (λU U=>rfl) (λU U=>rfl) (λU U=>rfl) (λU U=>range_items hr _ _) ?_ ?_).trans ?_
 ·intro d _ d2 hd2
  obtain⟨k,_,rfl⟩:=List.mem_map.mp hd2
  have c:ev H (.cmp .In (.var 0) (.var 5)) true (.sh (.int (k:Int))::.sh d::(eV A B (.sh (.list (ce bs))) (.sh (aN S)) (.sh (.int r))).map Sl.inn)=some (.bool (S.contains k)):=by
   show(inD (.int (k:Int)) (S.map λ(x:Nat)=>.int (x:Int))).map D.bool=_
   rw[BG];rfl
  refine qN c (λhu=>?_) (λhu=>?_)
  ·have e:(match (D.int (k:Int)) with| .int i=>if S.contains i.toNat then d else .int 0|_=>.none)=if S.contains k then d else .int 0:=rfl
   rw[e,hu];rfl
  ·have e:(match (D.int (k:Int)) with| .int i=>if S.contains i.toNat then d else .int 0|_=>.none)=if S.contains k then d else .int 0:=rfl
   rw[e,hu];rfl
 ·rw[List.length_flatMap]
  have:((ce bs).map λU=>((List.range r).map λ(d:Nat)=>D.int (d:Int)).length)=List.replicate bs.length r:=by
   unfold ce
   rw[List.map_map,List.eq_replicate_iff]
   refine⟨by simp,λb hb=>?_⟩
   obtain⟨_,_,rfl⟩:=List.mem_map.mp hb
   simp
  rw[this,List.sum_replicate_nat]
  show _<=4096
  rcases hr with rfl|rfl<;>exact aA (Nat.mul_le_mul_right _ ‹_›) (by decide)
 ·unfold ce tell
  rw[List.map_flatMap,List.flatMap_map]
  congr 2
  congr 1
  funext x
  rw[List.map_map,List.map_map]
  refine List.map_congr_left λk U=>?_
  show(if S.contains ((k:Int)).toNat then D.int (x:Nat) else .int 0)=.int ((if S.contains k then x else 0:Nat):Nat)
  rw[Int.toNat_natCast]
  split<;>rfl
theorem Ej(ds:List D):H4 136 ds=dx H0 vj ve 2 ds:=rfl
theorem kY(r:Nat)(p:Nat->Bool)(l:List α)(g:α->Nat):(tell r p l g).length=l.length*r:=by
 unfold tell
 induction l with
 |nil=>simp
 |cons a q ih=>
  simp only[List.flatMap_cons,List.length_append,aV,List.length_range,List.length_cons,ih]
  rw[Nat.add_mul,Nat.one_mul,Nat.add_comm]
theorem kR:∀{l:List Nat},(∀b∈l,b<256)->bytesOf (ce l)=some l
 |[],_=>rfl
 |b::_,h=>bo (x:=(b:Int)) rfl ((if_pos ⟨Int.natCast_nonneg _,Int.ofNat_lt.mpr (h b (.head _))⟩).trans (aK (kR λx hx=>h x (.tail _ hx))))
theorem kM{l:List Nat}(h:∀b∈l,b<256):dJ "bytes" [.list (ce l)]=some (.bytes l):=aK (kR h)
theorem pN{r0 r1 r2:Nat}(S0 S1 S2:List Nat):tell r2 S2.contains (tell r1 S1.contains (tell r0 S0.contains [1] id) id) id=(ao r0 r1 r2).map λd=>bit (hJ S0 S1 S2 d):=by
 unfold tell ao
 simp only[List.flatMap_cons,List.flatMap_nil,List.append_nil,List.flatMap_map,List.map_flatMap,List.flatMap_assoc,List.map_map,id]
 congr 1
 funext a
 congr 1
 funext b
 refine List.map_congr_left λc U=>?_
 simp only[Function.comp_apply,hJ,bit]
 by_cases ha:S0.contains a=true<;>by_cases hb:S1.contains b=true<;>by_cases hc:S2.contains c=true<;>simp only[ha,hb,hc,if_true,if_false,Bool.not_eq_true]<;>rfl
theorem AL{r0 r1 r2:Nat}(h0:r0=2\/r0=3)(h1:r1=2\/r1=3)(h2:r2=2\/r2=3):H4 136 [.list [aN S0,aN S1,aN S2],.list [.int r0,.int r1,.int r2]]=some (.bytes ((ao r0 r1 r2).map λd=>bit (hJ S0 S1 S2 d))):=by
 rw[Ej,<-pN]
 generalize hA:D.list [aN S0,aN S1,aN S2]=A
 generalize hB:D.list [.int r0,.int r1,.int r2]=B
 have b0:=mU (H:=H0) (A:=A) (B:=B) (bs:=[1]) (S:=S0) h0 (by decide)
 have b1:=mU (H:=H0) (A:=A) (B:=B) (bs:=tell r0 S0.contains [1] id) (S:=S1) h1 (by rw[kY];show 1*r0<=1000;exact h0.elim (λe=>by rw[e];decide) λe=>by rw[e];decide)
 have b2:=mU (H:=H0) (A:=A) (B:=B) (bs:=tell r1 S1.contains (tell r0 S0.contains [1] id) id) (S:=S2) h2 (by rw[kY,kY];show 1*r0*r1<=1000;rcases h0 with rfl|rfl<;>rcases h1 with rfl|rfl<;>decide)
 have hi:a9 .zip2 A B .none=some [.tuple [aN S0,.int r0],.tuple [aN S1,.int r1],.tuple [aN S2,.int r2]]:=by rw[<-hA,<-hB];rfl
 have l:∀(x:D) (s3 s4:Sl) (S:List Nat) (r:Nat),bindTo [3,4] (.tuple [aN S,.int r]) (eV A B (.sh x) s3 s4)=some (eV A B (.sh x) (.sh (aN S)) (.sh (.int r))):=λU U U U U=>rfl
 refine de (ρ':=eV A B (.sh (.list (ce (tell r2 S2.contains (tell r1 S1.contains (tell r0 S0.contains [1] id) id) id)))) (.sh (aN S2)) (.sh (.int r2))) rfl ?_
 show aD (az H0 12) [_,.fr [3,4] .zip2 (.var 0) (.var 1) (.const .none) vE,_] (eV A B .un .un .un)=_
 refine(ak (ρ':=eV A B (.sh (.list (ce [1]))) .un .un) rfl).trans ((ak (ρ':=eV A B (.sh (.list (ce (tell r2 S2.contains (tell r1 S1.contains (tell r0 S0.contains [1] id) id) id)))) (.sh (aN S2)) (.sh (.int r2))) ?_).trans (cx ?_ _))
 ·have a:ev H0 (.var 0) false (eV A B (.sh (.list (ce [1]))) .un .un)=some A:=rfl
  have b:ev H0 (.var 1) false (eV A B (.sh (.list (ce [1]))) .un .un)=some B:=rfl
  have c:ev H0 (.const .none) false (eV A B (.sh (.list (ce [1]))) .un .un)=some .none:=rfl
  refine(i9 a b c hi).trans ?_
  exact(dC (l _ _ _ _ _) b0).trans ((dC (l _ _ _ _ _) b1).trans ((dC (l _ _ _ _ _) b2).trans rfl))
 ·refine bR (ds:=[.list (ce (tell r2 S2.contains (tell r1 S1.contains (tell r0 S0.contains [1] id) id) id))]) rfl (kM λb hb=>?_)
  rw[pN] at hb
  obtain⟨d,_,rfl⟩:=List.mem_map.mp hb
  unfold bit
  split<;>decide
theorem CU(hw:0<w)(m:Nat):(Builtin.Range.rangeSize 0 ((m*w:Nat):Int) (w:Nat)).toNat=m:=by
 have wp:(w:Int)>0:=Int.natCast_pos.mpr hw
 refine(congrArg Int.toNat (if_pos wp)).trans ?_
 induction m with
 |zero=>rw[Nat.zero_mul];rfl
 |succ m=>
  have e:(m+1)*w=(w-1+w*m)+1:=by rw[Nat.add_mul,Nat.one_mul,Nat.add_right_comm,Nat.sub_add_cancel hw,Nat.mul_comm,Nat.add_comm]
  have e2:(((w-1+w*m)+1:Nat):Int)-0-1=((w-1:Nat):Int)+(w:Int)*(m:Int):=(congrArg (· -1) (Int.sub_zero _)).trans (Int.add_sub_cancel ((w-1+w*m:Nat):Int) 1)
  rw[if_pos (Int.natCast_pos.mpr (Nat.mul_pos (Nat.succ_pos m) hw)),e,e2,Int.add_mul_ediv_left _ _ (Int.ne_of_gt wp),Int.ediv_eq_zero_of_lt (Int.natCast_nonneg _) (Int.ofNat_lt.mpr (Nat.sub_lt hw Nat.one_pos)),Int.zero_add]
  rfl
theorem l0(hw:0<w)(m:Nat):eK 0 ((m*w:Nat):Int) (w:Nat)=(List.range m).map λj=>((j*w:Nat):Int):=by
 unfold eK
 rw[CU hw]
 exact List.map_congr_left λj U=>Int.zero_add _
noncomputable def bf(l:List Nat):List D:=l.map λ(n:Nat)=>D.int (n:Int)
theorem De(hw:0<w)(h:m*w<4096)(hm:m<8000)(hw2:w<4096):a9 .range3 (.int 0) (.int ((m*w:Nat):Int)) (.int w)=some (bf ((List.range m).map (· *w))):=by
 show(if _ then _ else _)=_
 have hs:∀n:Nat,n<4096->small (n:Int)=true:=λn hn=>by
  unfold small
  rw[Bool.and_eq_true,decide_eq_true_eq,decide_eq_true_eq]
  constructor<;>(first|exact Int.lt_of_lt_of_le (by decide) (Int.natCast_nonneg _)|exact Int.lt_of_lt_of_le (Int.ofNat_lt.mpr hn) (by decide))
 have hc:(small 0&&small ((m*w:Nat):Int)&&small (w:Int)&&((w:Int) !=0))=true:=by
  have h0:small 0=true:=by decide
  rw[h0,hs _ h,hs _ hw2]
  simp;exact Nat.ne_of_gt ‹_›
 rw[if_pos hc]
 rw[l0 hw m]
 unfold bf
 rw[List.map_map,List.map_map]
 rfl
theorem wI{w:Nat}(h:w<4096)(y z:D):a9 .range1 (.int w) y z=some (bf (List.range w)):=by
 show(if _ then _ else _)=_
 have hs:small (w:Int)=true:=by
  unfold small
  rw[Bool.and_eq_true,decide_eq_true_eq,decide_eq_true_eq]
  constructor<;>(first|exact Int.lt_of_lt_of_le (by decide) (Int.natCast_nonneg _)|exact Int.lt_of_lt_of_le (Int.ofNat_lt.mpr h) (by decide))
 rw[if_pos hs]
 have:=l0 (w:=1) Nat.one_pos w
 simp only[Nat.mul_one] at this
 refine(congrArg (λl=>some (l.map D.int)) this).trans ?_
 unfold bf
 rw[List.map_map];rfl
theorem me{f:β->Nat->β}{S:β->R}{P:β->Prop}:∀(xs:List Nat) (b:β),(∀x∈xs,∀b,P b->((bindTo ks (.int (x:Nat)) (S b)).bind body=some (.nx,S (f b x))/\P (f b x)))->P b->cb ks body (bf xs) (S b)=some (.nx,S (xs.foldl f b))/\P (xs.foldl f b)
 |[],b,_,h=>⟨rfl,h⟩
 |x::r,b,hx,h=>by
  obtain⟨h1,h2⟩:=hx x (by simp) b h
  refine bi h1 λρ1 h3 h4=>?_
  have ih:=me r (f b x) (λy hy=>hx y (by simp[hy])) h2
  refine⟨?_,ih.2⟩
  exact(dC h3 h4).trans ih.1
noncomputable def putAt{α:Type}(cur:List α)(k:Nat)(x:Option α):List α:=match x with
 |some v=>cur.set k v
 |none=>cur
def dc{α:Type}(data:List α)(w i:Nat)(cur:List α):List α:=(List.range w).foldl (λcur j=>putAt cur (i+w-1-j) data[i+j]?) cur
def cO{α:Type}(z:α)(m w:Nat)(data:List α):List α:=((List.range m).map (· *w)).foldl (λcur i=>dc data w i cur) (List.replicate data.length z)
theorem n5(cur:List α)(k:Nat)(x:Option α):(putAt cur k x).length=cur.length:=by
 induction x<;>simp[putAt]
theorem lP(data:List α)(w i:Nat)(cur:List α):(dc data w i cur).length=cur.length:=by
 unfold dc
 generalize List.range w=l
 induction l generalizing cur with
 |nil=>rfl
 |cons j r ih=>rw[List.foldl_cons,ih,n5]
theorem wc(f:α->β)(cur:List α)(k:Nat)(x:Option α):putAt (cur.map f) k (x.map f)=(putAt cur k x).map f:=by
 induction x with
 |none=>rfl
 |some v=>simp only[putAt,Option.map_some,List.map_set]
theorem tA(f:α->β)(data:List α)(w i:Nat)(cur:List α):dc (data.map f) w i (cur.map f)=(dc data w i cur).map f:=by
 unfold dc
 generalize List.range w=l
 induction l generalizing cur with
 |nil=>rfl
 |cons j r ih=>rw[List.foldl_cons,List.foldl_cons,List.getElem?_map,wc,ih]
theorem jx(f:α->β)(z:α)(m w:Nat)(data:List α):cO (f z) m w (data.map f)=(cO z m w data).map f:=by
 unfold cO
 rw[aV,<-List.map_replicate]
 generalize List.replicate data.length z=cur
 generalize (List.range m).map (· *w)=l
 induction l generalizing cur with
 |nil=>rfl
 |cons j r ih=>rw[List.foldl_cons,List.foldl_cons,tA,ih]
noncomputable abbrev du(data:List Nat)(w:Nat)(cur:List Nat)(s3 s4:Sl):R:=[.sh (.bytes data),.sh (.int w),.ob cur,s3,s4]
noncomputable abbrev zt:List IS:=[.setItem 2 (.bin .Sub (.bin .Sub (.bin .Add (.var 3) (.var 1)) (.const (.int 1))) (.var 4)) (.sub (.var 0) (.bin .Add (.var 3) (.var 4)))]
theorem Aj{i w j:Nat}(h:j<w):((i:Int)+(w:Int)-1-(j:Int))=((i+w-1-j:Nat):Int):=by
 have h1:j+1<=i+w:=aA h (Nat.le_add_left _ _)
 rw[Int.ofNat_sub (Nat.le_sub_of_add_le h1),Int.ofNat_sub (aA (Nat.le_add_left 1 j) h1)];rfl
theorem Fd{w i j:Nat}(hd:∀b∈data,b<256)(hi:i+w<=data.length)(hc:cur.length=data.length)(hj:j<w):
 aD (az H 10) zt (du data w cur (.sh (.int i)) (.sh (.int j)))=some (.nx,du data w (putAt cur (i+w-1-j) data[i+j]?) (.sh (.int i)) (.sh (.int j))):=by
 have hlt:i+j<data.length:=by exact ln [_,_,_,_] [(1,.a (.v 0) (.v 1),.v 2),(1,.a (.v 3) (.k 1),.v 1)] (.a (.a (.v 0) (.v 3)) (.k 1)) (.v 2) 1 rfl hi hj
 have e1:ev H (.sub (.var 0) (.bin .Add (.var 3) (.var 4))) true (du data w cur (.sh (.int i)) (.sh (.int j)))=some (.int (data[i+j]:Nat)):=
  (AQ data (i+j)).trans (congrArg _ (List.getElem?_eq_getElem hlt))
 have e2:ev H (.bin .Sub (.bin .Sub (.bin .Add (.var 3) (.var 1)) (.const (.int 1))) (.var 4)) true (du data w cur (.sh (.int i)) (.sh (.int j)))=some (.int ((i:Int)+w-1-j)):=by
  rfl
 have e3:(du data w cur (.sh (.int i)) (.sh (.int j)))[2]? =some (.ob cur):=rfl
 have hb:=hd data[i+j] (List.getElem_mem hlt)
 have hx:((i:Int)+w-1-j).toNat=i+w-1-j:=by exact congrArg Int.toNat (Aj hj)
 refine(ak (ρ':=du data w (putAt cur (i+w-1-j) data[i+j]?) (.sh (.int i)) (.sh (.int j))) ?_).trans rfl
 have hcond:0<=(i:Int)+w-1-j/\((i:Int)+w-1-j).toNat<cur.length/\(0:Int)<=(data[i+j]:Nat)/\((data[i+j]:Nat):Int)<256:=by
  rw[hx,hc];exact⟨by rw[Aj hj];exact Int.natCast_nonneg _,Nat.lt_of_le_of_lt (Nat.sub_le _ _) (Nat.lt_of_lt_of_le (Nat.sub_lt (Nat.lt_of_lt_of_le (Nat.succ_pos j) (aA hj (Nat.le_add_left _ _))) Nat.one_pos) hi),Int.natCast_nonneg _,Int.ofNat_lt.mpr hb⟩
 refine bo e1 (bo e2 (Eq.trans (if_pos hcond) ?_))
 rw[hx,Int.toNat_natCast,List.getElem?_eq_getElem hlt]
 rfl
abbrev uW:List IS:=[.fr [4] .range1 (.var 1) (.const .none) (.const .none) zt]
def Ak(data:List Nat)(w i:Nat)(b:List Nat×Sl)(j:Nat):List Nat×Sl:=(putAt b.1 (i+w-1-j) data[i+j]?,.sh (.int (j:Nat)))
def DW(data:List Nat)(w i:Nat)(b:List Nat×Sl):R:=du data w b.1 (.sh (.int i)) b.2
structure HT(data:List Nat)(s4:Sl)(b:List Nat×Sl):Prop where
 len:b.1.length=data.length
 kl:∀k,Sl.kill k s4=s4->Sl.kill k b.2=b.2
theorem Ca{w i:Nat}(l:List Nat)(b:List Nat×Sl):(l.foldl (Ak data w i) b).1=l.foldl (λcur j=>putAt cur (i+w-1-j) data[i+j]?) b.1:=by
 induction l generalizing b with
 |nil=>rfl
 |cons j r ih=>exact ih _
theorem DV{data cur:List Nat}{w i:Nat}{s4:Sl}(b:List Nat×Sl)(h:b.1=cur):DW data w i b=du data w cur (.sh (.int i)) b.2:=by subst h;rfl
theorem B9{data cur:List Nat}{s4:Sl}(hd:∀b∈data,b<256)(hi:i+w<=data.length)(hc:cur.length=data.length):
 cb [4] (aD (az H 10) zt) (bf (List.range w)) (DW data w i (cur,s4))=some (.nx,DW data w i ((List.range w).foldl (Ak data w i) (cur,s4)))/\HT data s4 ((List.range w).foldl (Ak data w i) (cur,s4)):=
 me (List.range w) (cur,s4) (λU hj U hb=>⟨Fd hd hi hb.len (List.mem_range.mp hj),by show(putAt _ _ _).length=_;rw[n5];exact hb.len,λU U=>rfl⟩) ⟨hc,λU h=>h⟩
theorem wU{n w:Nat}{k:Nat}(a:(ρ[k]?).bind (Sl.view false)=some (.int w))(hw:w<4096)(h:cb ks (aD (az H n) body) (bf (List.range w)) ρ=some z):az H (n+1) (.fr ks .range1 (.var k) (.const .none) (.const .none) body) ρ=some z:=by
 show((ρ[k]?).bind (Sl.view false)).bind _=_
 rw[a]
 show(a9 .range1 (.int w) .none .none).bind _=_
 rw[wI hw];exact h
theorem DU{data cur:List Nat}{s4:Sl}(hd:∀b∈data,b<256)(hi:i+w<=data.length)(hc:cur.length=data.length)(hw:w<4096):
 ∃s4',(∀k,Sl.kill k s4=s4->Sl.kill k s4'=s4')/\aD (az H 11) uW (du data w cur (.sh (.int i)) s4)=some (.nx,du data w (dc data w i cur) (.sh (.int i)) s4'):=by
 have L:=B9 (H:=H) (s4:=s4) hd hi hc
 rw[DV (s4:=s4) ((List.range w).foldl (Ak data w i) (cur,s4)) (Ca _ _)] at L
 exact⟨_,L.2.kl,(ak (wU (k:=1) rfl hw L.1)).trans rfl⟩
theorem kO{f:β->Nat->β}{S:β->Sl->R}{P:β->Prop}:∀(xs:List Nat) (b:β) (s:Sl),(∀x∈xs,∀b s,P b->(∀k,Sl.kill k s=s)->∃s',(∀k,Sl.kill k s'=s')/\(bindTo ks (.int (x:Nat)) (S b s)).bind body=some (.nx,S (f b x) s')/\P (f b x))->P b->(∀k,Sl.kill k s=s)->
 ∃s',cb ks body (bf xs) (S b s)=some (.nx,S (xs.foldl f b) s')/\P (xs.foldl f b)
 |[],b,s,_,h,_=>(am s rfl h)
 |x::r,b,s,hx,h,hs=>by
  refine aZ (hx x (List.mem_cons_self) b s h hs) λs1 k1 h1 h2=>bi h1 λρ1 h3 h4=>ai (kO r (f b x) s1 (λy hy=>hx y (List.mem_cons_of_mem x hy)) h2 k1) λs' h5 h6=>(am s' ((dC h3 h4).trans h5) h6)
theorem qD{n:Nat}(hn:ds.length=n)(h:aD (dy HA HK 11) I (ds.map .sh++List.replicate (Γ.length-n) .un)=some (.rt d,ρ')):oz HA HK Γ I n ds=some d:=by
 unfold oz
 rw[if_pos hn,h]
 rfl
theorem Fk(ds:List D):K0 85 ds=oz H0 (λU U=>none) Az As 2 ds:=rfl
theorem n7(bs:List Nat):dJ "len" [.bytes bs]=some (.int bs.length):=by
 show eL _ _=_
 rfl
theorem mV{m w:Nat}(hd:∀b∈data,b<256)(hw:0<w)(hm0:0<m)(hl:data.length=m*w)(hb:data.length<=64):K0 85 [.bytes data,.int w]=some (.bytes (cO 0 m w data)):=by
 rw[Fk]
 refine av λGG kk=>?_
 have hm:m<=64:=by
  have:m*1<=m*w:=Nat.mul_le_mul_left _ hw
  exact ln [_,_,_] [(1,.v 0,.v 1),(1,.v 1,.k 64),(1,.w (.v 2) 1,.v 0)] (.v 2) (.k 64) 1 rfl (Nat.le_of_eq hl.symm) hb this
 have L:=kO (ks:=[3]) (body:=aD (az H0 11) uW) (β:=List Nat×Sl) (f:=λb i=>(dc data w i b.1,.sh (.int (i:Nat)))) (S:=λb s=>du data w b.1 b.2 s) (P:=λb=>b.1.length=data.length/\∀k,Sl.kill k b.2=b.2) ((List.range m).map (· *w)) (List.replicate data.length 0,.un) .un (λi hi b s hb hs=>by
  refine ai (List.mem_map.mp hi) λq hq q1=>?_
  clear hi
  subst q1
  have hle:q*w+w<=data.length:=by
   rw[hl,<-Nat.succ_mul]
   exact Nat.mul_le_mul_right _ (List.mem_range.mp hq)
  refine ai (DU (H:=H0) (data:=data) (cur:=b.1) (w:=w) (i:=q*w) (s4:=s) hd hle hb.1 (Nat.lt_of_le_of_lt (aA (Nat.le_add_left _ _) hle) (Nat.lt_of_le_of_lt ‹data.length<=64› (by decide)))) λs' k' e=>(fu s' (λk=>k' k (hs k)) ?_ (by rw[lP];exact hb.1) (λU=>rfl))
  have b1:bindTo [3] (.int (q*w:Nat)) (du data w b.1 b.2 s)=some (du data w b.1 (.sh (.int ((q*w:Nat):Int))) s):=by
   show some [Sl.sh (.bytes data),.sh (.int w),.ob b.1,.sh (.int ((q*w:Nat):Int)),Sl.kill 3 s]=_
   rw[hs]
  rw[b1]
  exact e) ⟨by simp,λU=>rfl⟩ (λU=>rfl)
 obtain⟨s',L1,_⟩:=L
 have e:∀(l:List Nat) (b:List Nat×Sl),(l.foldl (λb i=>(dc data w i b.1,Sl.sh (.int (i:Nat)))) b).1=l.foldl (λcur i=>dc data w i cur) b.1:=by
  intro l
  induction l with
  |nil=>intro b;rfl
  |cons j r ih=>intro b;exact PyProof.Rows.fold_fst (λs t=>congrFun rfl) (j::r) b
 have e2:=e ((List.range m).map (· *w)) (List.replicate data.length 0,.un)
 refine kk ?_;clear kk
 generalize hF:((List.range m).map (· *w)).foldl (λb i=>(dc data w i b.1,Sl.sh (.int (i:Nat)))) (List.replicate data.length 0,Sl.un)=F at*
 refine qD (ρ':=du data w F.1 F.2 s') rfl ?_
 show aD (dy H0 (λU U=>none) 11) [_,.fr [3] .range3 (.const (.int 0)) (.prim "len" (.cons (.var 0) .nil)) (.var 1) uW,_] [.sh (.bytes data),.sh (.int w),.un,.un,.un]=_
 refine(ak (ρ':=du data w (List.replicate data.length 0) .un .un) ?_).trans ((ak (ρ':=du data w F.1 F.2 s') ?_).trans (cS ?_))
 ·have a:ev H0 (.prim "len" (.cons (.var 0) .nil)) true [.sh (.bytes data),.sh (.int w),.un,.un,.un]=some (.int data.length):=bR (ds:=[.bytes data]) rfl (n7 data)
  delta dy
  show(if _ then _ else _)=_
  rw[if_pos ⟨by exact Int.natCast_nonneg _,by show(data.length:Int)<=4096;exact Int.ofNat_le.mpr (aA hb (by decide))⟩]
  rfl
 ·delta dy
  have b:ev H0 (.var 1) false (du data w (List.replicate data.length 0) .un .un)=some (.int w):=rfl
  have c:ev H0 (.const (.int 0)) false (du data w (List.replicate data.length 0) .un .un)=some (.int 0):=rfl
  have hw2:w<4096:=by
   have:1*w<=m*w:=Nat.mul_le_mul_right _ hm0
   exact ln [_,_,_] [(1,.v 0,.v 1),(1,.v 1,.k 64),(1,.m 1 (.v 2),.v 0)] (.a (.v 2) (.k 1)) (.k 4096) 1 rfl (Nat.le_of_eq hl.symm) hb this
  exact(i9 c (bR (ds:=[.bytes data]) rfl (by rw[n7,hl])) b (De (m:=m) hw (ln [_,_] [(1,.v 0,.v 1),(1,.v 1,.k 64)] (.a (.v 0) (.k 1)) (.k 4096) 1 rfl (Nat.le_of_eq hl.symm) hb) (Nat.lt_of_le_of_lt ‹_› (by decide)) hw2)).trans L1
 ·refine af (show F.1=cO 0 m w data from e2)▸?_
  rfl
noncomputable abbrev ic:=Bool×Bool×Bool
noncomputable def fY(r:Nat)(t:Bool)(d:Nat):Nat:=if t then r-1-d else d
def bM(r0 r1 r2:Nat)(t:ic)(d:cC):cC:=(fY r0 t.1 d.1,fY r1 t.2.1 d.2.1,fY r2 t.2.2 d.2.2)
noncomputable def kt(k:Nat):ic:=(Nat.ble 2 k,Nat.ble 1 k,true)
noncomputable def tm(a b:ic):ic:=(a.1 !=b.1,a.2.1 !=b.2.1,a.2.2 !=b.2.2)
noncomputable def par:List Nat->ic
 |[]=>(false,false,false)
 |k::r=>tm (kt k) (par r)
theorem Gi(k:Nat)(r:List Nat):par (k::r)=tm (kt k) (par r):=rfl
noncomputable def size(r0 r1 r2:Nat)(k:Nat):Nat:=match k with
 |0=>r2
 |1=>r2*r1
 |_=>r0*r1*r2
noncomputable def cP(r0 r1 r2:Nat)(k:Nat):Nat:=match k with
 |0=>r0*r1
 |1=>r0
 |_=>1
theorem wX{r d:Nat}(h:d<r):r-1-(r-1-d)=d:=Nat.sub_sub_self (Nat.le_pred_of_lt h)
theorem jN(h:d<r):fY r a (fY r b d)=fY r (a !=b) d:=by
 induction a<;>induction b<;>first|rfl|exact wX h
theorem fw{r:Nat}{a:Bool}{d:Nat}(h:d<r):fY r a d<r:=by
 induction a
 ·exact h
 ·exact Nat.lt_of_le_of_lt (Nat.sub_le _ _) (Nat.sub_lt (Nat.zero_lt_of_lt h) Nat.one_pos)
theorem oA(h:ib r0 r1 r2 d):bM r0 r1 r2 a (bM r0 r1 r2 b d)=bM r0 r1 r2 (tm a b) d:=by
 unfold bM tm
 simp only[jN h.1,jN h.2.1,jN h.2.2]
theorem qF(h:ib r0 r1 r2 d):ib r0 r1 r2 (bM r0 r1 r2 a d):=(a6 (fw h.1) (fw h.2.1) (fw h.2.2))
theorem r8{P:Nat->Nat->Nat->Prop}(h:∀q∈[(2,2,2),(2,2,3),(2,3,2),(2,3,3),(3,2,2),(3,2,3),(3,3,2),(3,3,3)],P q.1 q.2.1 q.2.2)(h0:r0=2\/r0=3)(h1:r1=2\/r1=3)(h2:r2=2\/r2=3):P r0 r1 r2:=by
 rcases h0 with rfl|rfl<;>rcases h1 with rfl|rfl<;>rcases h2 with rfl|rfl
 ·exact h (2,2,2) (by decide)
 ·exact h (2,2,3) (by decide)
 ·exact h (2,3,2) (by decide)
 ·exact h (2,3,3) (by decide)
 ·exact h (3,2,2) (by decide)
 ·exact h (3,2,3) (by decide)
 ·exact h (3,3,2) (by decide)
 ·exact h (3,3,3) (by decide)
theorem pQ:∀q∈[(2,2,2),(2,2,3),(2,3,2),(2,3,3),(3,2,2),(3,2,3),(3,3,2),(3,3,3)],∀k∈[0,1,2],
 cO none (cP q.1 q.2.1 q.2.2 k) (size q.1 q.2.1 q.2.2 k) ((ao q.1 q.2.1 q.2.2).map some)=((ao q.1 q.2.1 q.2.2).map (bM q.1 q.2.1 q.2.2 (kt k))).map some/\
  (ao q.1 q.2.1 q.2.2).length=cP q.1 q.2.1 q.2.2 k*size q.1 q.2.1 q.2.2 k/\0<cP q.1 q.2.1 q.2.2 k/\0<size q.1 q.2.1 q.2.2 k/\(ao q.1 q.2.1 q.2.2).length<=27:=by decide+kernel
theorem Fj(ds:List D):K1 85 ds=K0 85 ds:=rfl
section
variable(h0:r0=2\/r0=3)(h1:r1=2\/r1=3)(h2:r2=2\/r2=3)
include h0 h1 h2
theorem Cw(hg:∀d,g d<256){k:Nat}(hk:k∈[0,1,2]):K1 85 [.bytes ((ao r0 r1 r2).map g),.int (size r0 r1 r2 k:Nat)]=some (.bytes ((ao r0 r1 r2).map λd=>g (bM r0 r1 r2 (kt k) d))):=by
 refine iw (r8 (P:=λr0 r1 r2=>∀k∈[0,1,2],cO none (cP r0 r1 r2 k) (size r0 r1 r2 k) ((ao r0 r1 r2).map some)=((ao r0 r1 r2).map (bM r0 r1 r2 (kt k))).map some/\
  (ao r0 r1 r2).length=cP r0 r1 r2 k*size r0 r1 r2 k/\0<cP r0 r1 r2 k/\0<size r0 r1 r2 k/\(ao r0 r1 r2).length<=27) pQ h0 h1 h2 k hk) λc1 c2 c3 c4 c5=>?_
 rw[Fj,mV (m:=cP r0 r1 r2 k) (w:=size r0 r1 r2 k) (λb hb=>by refine ai (List.mem_map.mp hb) λd U q2=>?_;refine q2▸?_;exact hg d) c4 c3 (by rw[aV];exact c2) (by rw[aV];exact aA ‹_› (by decide))]
 have e1:(ao r0 r1 r2).map g=((ao r0 r1 r2).map some).map (λo=>o.elim 0 g):=by simp only[List.map_map];rfl
 have e2:=jx (λo:Option cC=>o.elim 0 g) none (cP r0 r1 r2 k) (size r0 r1 r2 k) ((ao r0 r1 r2).map some)
 rw[e1]
 rw[c1] at e2
 exact congrArg (λl=>some (D.bytes l)) (e2.trans (by rw[List.map_map,List.map_map];rfl))
theorem wV:∀(ks:List Nat) (g:cC->Nat),(∀d,g d<256)->(∀k∈ks,k∈[0,1,2])->fX K1 85 (ks.map λk=>.int (size r0 r1 r2 k:Nat)) (.bytes ((ao r0 r1 r2).map g))=some (.bytes ((ao r0 r1 r2).map λd=>g (bM r0 r1 r2 (par ks) d)))
 |[],g,_,_=>rfl
 |k::ks,g,hg,hk=>by
  refine Eq.trans (b:=fX K1 85 (ks.map λk=>.int (size r0 r1 r2 k:Nat)) (.bytes ((ao r0 r1 r2).map λd=>g (bM r0 r1 r2 (kt k) d)))) (bo (Cw h0 h1 h2 hg (hk k (List.mem_cons_self))) (if_pos rfl)) ((wV ks (λd=>g (bM r0 r1 r2 (kt k) d)) (λd=>hg _) λx hx=>hk x (List.mem_cons_of_mem k hx)).trans (congrArg (λl=>some (D.bytes l)) ?_))
  refine List.map_congr_left λd hd=>af (oA (ez hd))▸?_
  rfl
end
noncomputable def places(l:List cC):List (cC×Nat):=l.flatMap λd=>[(d,0),(d,1),(d,2)]
def lay(r0 r1 r2:Nat)(t:ic)(x:cC×Nat):cC×Nat:=(bM r0 r1 r2 t x.1,x.2)
theorem places_len(l:List cC):(places l).length=l.length*3:=by
 unfold places
 induction l with
 |nil=>rfl
 |cons a r ih=>simp only[List.flatMap_cons,List.length_append,ih,List.length_cons,List.length_nil];exact Nat.le_antisymm (ln [_] [] (.a (.k 3) (.w (.v 0) 3)) (.w (.a (.v 0) (.k 1)) 3) 1 rfl) (ln [_] [] (.w (.a (.v 0) (.k 1)) 3) (.a (.k 3) (.w (.v 0) 3)) 1 rfl)
theorem BB:∀q∈[(2,2,2),(2,2,3),(2,3,2),(2,3,3),(3,2,2),(3,2,3),(3,3,2),(3,3,3)],∀k∈[0,1,2],
 (ao q.1 q.2.1 q.2.2).length<=18->cO none (cP q.1 q.2.1 q.2.2 k) (3*size q.1 q.2.1 q.2.2 k) (cO none (ao q.1 q.2.1 q.2.2).length 3 ((places (ao q.1 q.2.1 q.2.2)).map some))=((places (ao q.1 q.2.1 q.2.2)).map (lay q.1 q.2.1 q.2.2 (kt k))).map some:=by decide+kernel
theorem Ee(ds:List D):K1 143 ds=oz H0 K0 vi vd 2 ds:=rfl
theorem t5{w:Nat}(h1:K0 85 [.bytes a,.int 3]=some (.bytes b))(h2:K0 85 [.bytes b,.int ((3*w:Nat):Int)]=some (.bytes c))(hw:w<1000):K1 143 [.bytes a,.int w]=some (.bytes c):=by
 rw[Ee]
 refine qD (ρ':=[.sh (.bytes a),.sh (.int w)]) rfl ?_
 show aD (dy H0 K0 11) [.ret (.call 85 (.cons (.call 85 (.cons (.var 0) (.cons (.const (.int 3)) .nil))) (.cons (.bin .Mult (.const (.int 3)) (.var 1)) .nil)))] [.sh (.bytes a),.sh (.int w)]=_
 refine cS ?_
 have e2:ev H0 (.cons (.bin .Mult (.const (.int 3)) (.var 1)) .nil) true [.sh (.bytes a),.sh (.int w)]=some (.tuple [.int ((3*w:Nat):Int)]):=by
  have:ev H0 (.bin .Mult (.const (.int 3)) (.var 1)) true [.sh (.bytes a),.sh (.int w)]=some (.int ((3*w:Nat):Int)):=by
   show(if _ then _ else _)=_
   rw[if_pos (by constructor<;>(first|decide|exact Nat.lt_trans hw (by decide)))]
   rfl
  exact bo this (bo rfl rfl)
 delta dy
 show(K0 85 [.bytes a,.int 3]).bind _=_
 refine af h1▸?_
 refine af e2▸?_
 show(K0 85 [.bytes b,.int ((3*w:Nat):Int)]).map _=_
 refine af h2▸?_;rfl
section
variable(h0:r0=2\/r0=3)(h1:r1=2\/r1=3)(h2:r2=2\/r2=3)(hn:(ao r0 r1 r2).length<=18)
include h0 h1 h2 hn
theorem AV(hg:∀d,g d<256)(hk:k∈[0,1,2]):K1 143 [.bytes ((places (ao r0 r1 r2)).map g),.int (size r0 r1 r2 k:Nat)]=some (.bytes ((places (ao r0 r1 r2)).map λd=>g (lay r0 r1 r2 (kt k) d))):=by
 refine iw (r8 (P:=λr0 r1 r2=>∀k∈[0,1,2],cO none (cP r0 r1 r2 k) (size r0 r1 r2 k) ((ao r0 r1 r2).map some)=((ao r0 r1 r2).map (bM r0 r1 r2 (kt k))).map some/\
  (ao r0 r1 r2).length=cP r0 r1 r2 k*size r0 r1 r2 k/\0<cP r0 r1 r2 k/\0<size r0 r1 r2 k/\(ao r0 r1 r2).length<=27) pQ h0 h1 h2 k hk) λU c2 c3 c4 c5=>?_
 let f:Option (cC×Nat)->Nat:=λo=>o.elim 0 g
 have hf:∀o,f o<256:=λo=>match o with
  |none=>by show 0<256;decide
  |some d=>hg d
 have e1:(places (ao r0 r1 r2)).map g=((places (ao r0 r1 r2)).map some).map f:=by simp only[List.map_map];rfl
 have hpos:0<(ao r0 r1 r2).length:=by simp only[c2];exact Nat.mul_pos c3 c4
 have s1:=mV (data:=((places (ao r0 r1 r2)).map some).map f) (m:=(ao r0 r1 r2).length) (w:=3) (λb hb=>by refine ai (List.mem_map.mp hb) λd U q3=>?_;refine q3▸?_;exact hf d) (by decide) hpos (by simp only[aV,aV,places_len]) (by rw[aV,aV,places_len];exact ln [_] [(3,.v 0,.k 18)] (.w (.v 0) 3) (.k 64) 1 rfl hn)
 rw[(show(0:Nat)=f none from rfl),(jx f none (ao r0 r1 r2).length 3 ((places (ao r0 r1 r2)).map some))] at s1
 have hsl:∀{α:Type} (z:α) (m w:Nat) (l:List α),(cO z m w l).length=l.length:=λz m w l=>by
  unfold cO
  have:∀(is:List Nat) (cur:List _),(is.foldl (λcur i=>dc l w i cur) cur).length=cur.length:=by
   intro is
   induction is with
   |nil=>intro cur;rfl
   |cons i r ih=>intro cur;simp only[List.foldl_cons,ih,lP]
  simp only[this,List.length_replicate]
 have s2:=mV (data:=(cO none (ao r0 r1 r2).length 3 ((places (ao r0 r1 r2)).map some)).map f) (m:=cP r0 r1 r2 k) (w:=3*size r0 r1 r2 k) (λb hb=>by refine ai (List.mem_map.mp hb) λd U q5=>?_;rw[<-q5];exact hf d) (Nat.succ_mul_pos 2 c4) c3
  (by rw[aV,hsl,aV,places_len,c2,Nat.mul_assoc,Nat.mul_comm _ 3]) (by rw[aV,hsl,aV,places_len];exact ln [_] [(3,.v 0,.k 18)] (.w (.v 0) 3) (.k 64) 1 rfl hn)
 rw[(show(0:Nat)=f none from rfl),(jx f none (cP r0 r1 r2 k) (3*size r0 r1 r2 k) (cO none (ao r0 r1 r2).length 3 ((places (ao r0 r1 r2)).map some))),(r8 (P:=λr0 r1 r2=>∀k∈[0,1,2],(ao r0 r1 r2).length<=18->cO none (cP r0 r1 r2 k) (3*size r0 r1 r2 k) (cO none (ao r0 r1 r2).length 3 ((places (ao r0 r1 r2)).map some))=((places (ao r0 r1 r2)).map (lay r0 r1 r2 (kt k))).map some) BB h0 h1 h2 k hk hn)] at s2
 have hsz:size r0 r1 r2 k<1000:=by
  have:1*size r0 r1 r2 k<=cP r0 r1 r2 k*size r0 r1 r2 k:=Nat.mul_le_mul_right _ c3
  exact ln [_,_,_] [(1,.v 0,.k 18),(1,.v 1,.v 0),(1,.m 1 (.v 2),.v 1)] (.a (.v 2) (.k 1)) (.k 1000) 1 rfl hn (Nat.le_of_eq c2.symm) this
 refine af e1▸?_
 have:=t5 s1 s2 hsz
 rw[this,List.map_map,List.map_map]
 rfl
theorem sT:∀(ks:List Nat) (g:cC×Nat->Nat),(∀d,g d<256)->(∀k∈ks,k∈[0,1,2])->fX K1 143 (ks.map λk=>.int (size r0 r1 r2 k:Nat)) (.bytes ((places (ao r0 r1 r2)).map g))=some (.bytes ((places (ao r0 r1 r2)).map λd=>g (lay r0 r1 r2 (par ks) d)))
 |[],g,_,_=>rfl
 |k::ks,g,hg,hk=>by
  refine Eq.trans (b:=fX K1 143 (ks.map λk=>.int (size r0 r1 r2 k:Nat)) (.bytes ((places (ao r0 r1 r2)).map λd=>g (lay r0 r1 r2 (kt k) d)))) (bo (AV h0 h1 h2 hn hg (hk k (List.mem_cons_self))) (if_pos rfl)) ((sT ks (λd=>g (lay r0 r1 r2 (kt k) d)) (λd=>hg _) λx hx=>hk x (List.mem_cons_of_mem k hx)).trans (congrArg (λl=>some (D.bytes l)) ?_))
  refine List.map_congr_left λd hd=>?_
  have hin:ib r0 r1 r2 d.1:=by
   simp only[places,List.mem_flatMap,List.mem_cons,List.not_mem_nil,or_false] at hd
   obtain⟨x,hx,hd⟩:=hd
   rcases hd with rfl|rfl|rfl<;>exact ez hx
  unfold lay
  refine af (oA hin)▸?_
  rfl
end
noncomputable abbrev LS(f:Nat->Sl):R:=[f 0,f 1,f 2,f 3,f 4,f 5,f 6,f 7,f 8,f 9,f 10,f 11,f 12,f 13,f 14,f 15,f 16,f 17,f 18,f 19,f 20,f 21,f 22,f 23,f 24,f 25]
noncomputable def upd(f:Nat->Sl)(k:Nat)(s:Sl):Nat->Sl:=λj=>if j=k then s else f j
def KF(f:Nat->Sl):Prop:=∀j k,Sl.kill k (f j)=f j
theorem KF.upd(h:KF f)(hs:∀k,Sl.kill k s=s):KF (upd f k s):=λj k'=>by
 unfold Internal.upd
 split
 ·exact hs k'
 ·exact h j k'
theorem Ce(h:KF f)(k:Nat):(LS f).map (Sl.kill k)=LS f:=by
 simp only[LS,List.map_cons,List.map_nil,h _ k]
theorem xr(f:Nat->Sl)(k:Nat)(s:Sl)(hk:k<26):(LS f).set k s=LS (upd f k s):=by
 match k,hk with
 |0,_|1,_|2,_|3,_|4,_|5,_|6,_|7,_|8,_|9,_|10,_|11,_|12,_|13,_|14,_|15,_|16,_|17,_|18,_|19,_|20,_|21,_|22,_|23,_|24,_|25,_=>rfl
 |k+26,h=>rfl
theorem cL(h:KF f){k:Nat}(s:Sl)(hk:k<26):bG k s (LS f)=some (LS (upd f k s)):=by
 unfold bG
 rw[if_pos (show k<(LS f).length from hk),Ce h,xr f k s hk]
theorem zB(f:Nat->Sl)(s:Sl)(hk:k<26):d6 k s (LS f)=some (LS (upd f k s)):=by
 unfold d6
 rw[if_pos (show k<(LS f).length from hk),xr f k s hk]
theorem gZ(f:Nat->Sl)(hk:k<26):(LS f)[k]? =some (f k):=by
 match k,hk with
 |0,_|1,_|2,_|3,_|4,_|5,_|6,_|7,_|8,_|9,_|10,_|11,_|12,_|13,_|14,_|15,_|16,_|17,_|18,_|19,_|20,_|21,_|22,_|23,_|24,_|25,_=>rfl
 |k+26,h=>exact absurd h (Nat.not_lt.mpr (Nat.le_add_left _ _))
section
theorem bx(hk:k<26)(h:f k=.sh d):ev H (.var k) pk (LS f)=some d:=by
 refine bo (gZ f hk) ?_
 refine af h▸?_;rfl
theorem tn{ds:List D}(hk:k<26)(h:f k=.ow ds):ev H (.var k) true (LS f)=some (.list ds):=by
 refine bo (gZ f hk) ?_
 refine af h▸?_;rfl
theorem cJ{o:Option D}(hk:k<26)(h:f k=.sh d):aq (LS f) (.var k) o=some d:=by
 show((LS f)[k]?).bind (Sl.view true)=_
 refine af (gZ f hk)▸?_;refine af h▸?_;rfl
theorem Ey(hk:k<26)(h:f k=.ow ds):aq (LS f) (.var k) o=some (.list ds):=by
 show((LS f)[k]?).bind (Sl.view true)=_
 refine af (gZ f hk)▸?_;refine af h▸?_;rfl
theorem sN(s:Sl)(hk:k<26):(s::(LS f).map Sl.inn)[k+1]? =some (f k).inn:=by
 simp only[List.getElem?_cons_succ,List.getElem?_map,gZ f hk];rfl
theorem G7{s:Sl}(hk:k<26)(h:f k=.sh d):ev H (.var (k+1)) pk (s::(LS f).map Sl.inn)=some d:=by
 refine bo (sN s hk) ?_
 refine af h▸?_;rfl
theorem fZ(hk:k<26)(h:f k=.sh d):aq (s::(LS f).map Sl.inn) (.var (k+1)) o=some d:=by
 show((s::(LS f).map Sl.inn)[k+1]?).bind (Sl.view true)=_
 refine af (sN s hk)▸?_;refine af h▸?_;rfl
theorem oV{ρ:R}:ev H (.var 0) pk (.sh d::ρ)=some d:=rfl
end
section
theorem dg{d:D}:ev H (.const d) pk ρ=some d:=rfl
theorem aU{d:D}:aq ρ (.const d) (ev H (.const d) pk ρ)=some d:=rfl
noncomputable def IE.nv:IE->Bool
 | .var _=>false
 |_=>true
theorem bN(h:e.nv=true)(o:Option D):aq ρ e o=o:=by
 induction e<;>first|rfl|(injection h;done)
theorem cp(h1:aq ρ a (ev H a pk ρ)=some x)(h2:aq ρ b (ev H b pk ρ)=some y)(h3:nP op x y=some z):ev H (.bin op a b) pk ρ=some z:=bo h1 (bo h2 h3)
theorem cZ{x y z:D}(h1:aq ρ a (ev H a pk ρ)=some x)(h2:ev H i true ρ=some y)(h3:eJ x y=some z):ev H (.sub a i) pk ρ=some z:=bo h1 (bo h2 h3)
theorem kB{x y z r:D}(h1:aq ρ a (ev H a pk ρ)=some x)(h2:ev H l true ρ=some y)(h3:ev H h true ρ=some z)(h4:bI x y z=some r):ev H (.slice a l h) pk ρ=some r:=bo h1 (bo h2 (bo h3 h4))
theorem kC{u:Bool}(h1:ev H a true ρ=some x)(h2:ev H b true ρ=some y)(h3:cN op x y=some u):ev H (.cmp op a b) pk ρ=some (.bool u):=bo h1 (bo h2 (aK h3))
theorem kE{d:D}(h1:ev H a true ρ=some (.tuple ds))(h2:H g ds=some d):ev H (.call g a) true ρ=some d:=bo h1 (bo h2 rfl)
theorem bS:ev H .nil pk ρ=some (.tuple []):=rfl
theorem aH(h1:ev H a pk ρ=some x)(h2:ev H r pk ρ=some (.tuple ds)):ev H (.cons a r) pk ρ=some (.tuple (x::ds)):=bo h1 (bo h2 rfl)
theorem pE{ds:List D}(h1:ev H a pk ρ=some (.tuple ds))(hl:ds.length<=ax):ev H (.lst a) pk ρ=some (.list ds):=bo h1 (if_pos hl)
theorem GJ{x y:Bool}(h1:ev H a pk ρ=some (.bool x))(h2:x=false->ev H b pk ρ=some (.bool y)):ev H (.or a b) pk ρ=some (.bool (x||y)):=by
 refine bo h1 ?_
 clear h1
 induction x with
 |true=>rfl
 |false=>exact h2 rfl
end
section
noncomputable def IE.nc:IE->Bool
 | .call _ _=>false
 |_=>true
theorem dM(hf:KF f){e:IE}(hc:e.nc=true)(hk:k<26)(h:ev H4 e false (LS f)=some d):dy H4 HK 11 (.assign k e) (LS f)=some (.nx,LS (upd f k (.sh d))):=by
 have e1:dy H4 HK 11 (.assign k e) (LS f)=az H4 12 (.assign k e) (LS f):=by
  induction e<;>first|rfl|(injection hc;done)
 refine af e1▸?_
 exact cy h (cL hf _ hk)
theorem mh(hf:KF f){d:D}(hk:k<26)(h:ev H4 a true (LS f)=some (.tuple ds))(h2:HK g ds=some d)(hd:d.flat=true):dy H4 HK 11 (.assign k (.call g a)) (LS f)=some (.nx,LS (upd f k (.sh d))):=by
 delta dy
 show(ev H4 a true (LS f)).bind _=_
 rw[h]
 show(HK g ds).bind _=_
 rw[h2]
 show(if d.flat=true then _ else _)=_
 rw[if_pos hd]
 exact congrArg (Option.map _) (cL hf _ hk)
end
set_option tactic.hygienic true in
theorem pJ(h:f k=s):f=upd f k s:=by
 funext j
 unfold upd
 split
 ·rename_i e;rw[e,h]
 ·rfl
noncomputable def aS(l:List Int):List D:=l.map .int
theorem iY:∀l:List Int,intsOf (aS l)=some l
 |[]=>rfl
 |_::r=>bo rfl (aK (iY r))
theorem yy(l:List Int):dJ "sum" [.list (aS l)]=some (.int l.sum):=aK (iY l)
noncomputable def dY(ns:List Int):List Int:=(ns.take 6).map λi=>i.fmod (10^6)
def dF(ns:List Int):List Int:=dY ns++[4,24,51].drop (dY ns).length
noncomputable def zU(cs:List Int):Int:=(cs.map λi=>i.fdiv 63).sum
theorem fv(i b:Int)(h:0<b):0<=i.fmod b/\i.fmod b<b:=⟨Int.fmod_nonneg_of_pos i h,Int.fmod_lt_of_pos i h⟩
theorem ms(c:Int){m:Nat}(hm:0<m):∃k:Nat,c.fmod m=k/\k<m:=
 (am ((c.fmod m).toNat) ((Int.toNat_of_nonneg (fv c m (Int.natCast_pos.mpr hm)).1).symm) ((Int.toNat_lt (fv c m (Int.natCast_pos.mpr hm)).1).mpr (fv c m (Int.natCast_pos.mpr hm)).2))
theorem z2(h:k<2):k=0\/k=1:=match k,h with|0,_=>.inl rfl|1,_=>.inr rfl
theorem z3(h:k<3):k=0\/k=1\/k=2:=match k,h with|0,_=>.inl rfl|1,_=>.inr (.inl rfl)|2,_=>.inr (.inr rfl)
theorem jE{j a b k:Nat}(h:j<a\/b<j)(h1:a<=k)(h2:k<=b):¬j=k:=λe=>h.elim (λh=>Nat.lt_irrefl _ (e▸Nat.lt_of_lt_of_le h h1)) λh=>Nat.lt_irrefl _ (e▸Nat.lt_of_le_of_lt h2 h)
theorem zY(h:r=2\/r=3):r<4:=h.elim (λe=>e▸by decide) λe=>e▸by decide
theorem oJ(ns:List Int):(dY ns).length<=6:=by
 unfold dY
 simp only[aV,List.length_take];exact Nat.min_le_left _ _
theorem zo(ns:List Int):3<=(dF ns).length/\(dF ns).length<=6/\∀c∈dF ns,0<=c:=by
 refine(a6 ?_ ?_ (λc hc=>?_))
 ·unfold dF
  simp only[List.length_append,List.length_drop]
  exact(Nat.le_total (dY ns).length 3).elim (λq=>Nat.le_of_eq (Nat.add_sub_cancel' q).symm) λq=>aA q (Nat.le_add_right _ _)
 ·unfold dF
  simp only[List.length_append,List.length_drop]
  exact(Nat.le_total (dY ns).length 3).elim (λq=>aA (Nat.le_of_eq (Nat.add_sub_cancel' q)) (by decide)) λq=>aA (Nat.le_of_eq (congrArg _ (Nat.sub_eq_zero_of_le q))) (oJ ns)
 ·rcases List.mem_append.mp hc with hc|hc
  ·refine ai (List.mem_map.mp hc) λi U q1=>?_
   rw[<-q1]
   exact(fv i (10^6) (by decide)).1
  ·have:=List.mem_of_mem_drop hc
   simp only[List.mem_cons,List.not_mem_nil,or_false] at this
   (rcases this with e|e|e<;>rw[e]<;>decide)
section
theorem S1(ns:List Int)(hl:ns.length<=63):ev H4 (.comp1 1 .of (.slice (.var 0) (.const .none) (.const (.int 6))) (.const .none) (.const .none) (.const (.bool true)) (.bin .Mod (.prim "int" (.cons (.var 0) .nil)) (.bin .Pow (.const (.int 10)) (.const (.int 6))))) false (LS (upd g 0 (.sh (.raw (aS ns)))))=some (.list (aS (dY ns))):=by
 have hs:ev H4 (.slice (.var 0) (.const .none) (.const (.int 6))) false (LS (upd g 0 (.sh (.raw (aS ns)))))=some (.list (aS (ns.take 6))):=by
  refine kB (x:=.raw (aS ns)) (cJ (by decide) rfl) dg dg ?_
  simp only[CH,sJ,sP]
  rw[if_pos (by decide)]
  simp only[Option.bind_some,Option.map_some]
  unfold aS
  rw[show(6:Int).toNat=6 from rfl,qU,List.map_take]
 refine(b9 (x:=.list (aS (ns.take 6))) (ds:=aS (ns.take 6)) (f:=λd=>d.gI.elim .none λi=>.int (i.fmod (10^6))) ((bN rfl _).trans hs) aU aU rfl ?_ ?_).trans ?_
 ·intro d hd
  refine ai (List.mem_map.mp hd) λi U q2=>q2▸?_
  kernel_rfl
 ·unfold aS
  simp only[aV,List.length_take]
  exact aA (Nat.min_le_left _ _) (by decide)
 ·unfold aS dY
  rw[List.map_map,List.map_map];rfl
theorem S2(dr:List Int)(hl:dr.length<=6):ev H4 (.bin .Add (.var 1) (.slice (.lst (.cons (.const (.int 4)) (.cons (.const (.int 24)) (.cons (.const (.int 51)) .nil)))) (.prim "len" (.cons (.var 1) .nil)) (.const .none))) false (LS (upd g 1 (.sh (.list (aS dr)))))=some (.list (aS (dr++[4,24,51].drop dr.length))):=by
 have hs:ev H4 (.slice (.lst (.cons (.const (.int 4)) (.cons (.const (.int 24)) (.cons (.const (.int 51)) .nil)))) (.prim "len" (.cons (.var 1) .nil)) (.const .none)) false (LS (upd g 1 (.sh (.list (aS dr)))))=some (.list (aS ([4,24,51].drop dr.length))):=by
  refine kB (x:=.list [.int 4,.int 24,.int 51]) ((bN rfl _).trans (pE (aH dg (aH dg (aH dg bS))) (by decide))) (show ev H4 (.prim "len" (.cons (.var 1) .nil)) true (LS (upd g 1 (.sh (.list (aS dr)))))=some (.int dr.length) from bR (aH (bx (by decide) rfl) bS) (by rw[eX];unfold aS;rw[aV])) dg ?_
  simp only[jA,qs,qx]
  rw[if_pos (Int.natCast_nonneg _)]
  simp only[Option.bind_some,Option.map_some,Int.toNat_natCast,qW]
  unfold aS
  rw[List.map_drop]
  rfl
 refine cp (cJ (by decide) rfl) ((bN rfl _).trans hs) ?_
 show(if _ then _ else _)=_
 rw[if_pos]
 ·unfold aS
  rw[List.map_append]
 ·unfold aS
  simp only[aV,aV,List.length_drop]
  exact ln [_,_] [(1,.v 0,.k 6),(1,.v 1,.k 3)] (.a (.v 0) (.v 1)) (.k 4096) 1 rfl hl (Nat.sub_le _ _)
theorem S3(cs:List Int)(hl:cs.length<=6):ev H4 (.prim "sum" (.cons (.comp1 1 .of (.var 2) (.const .none) (.const .none) (.const (.bool true)) (.bin .FloorDiv (.var 0) (.const (.int 63)))) .nil)) false (LS (upd g 2 (.sh (.list (aS cs)))))=some (.int (zU cs)):=by
 refine bR (aH (x:=.list (aS (cs.map λi=>i.fdiv 63))) ?_ bS) (yy _)
 refine(b9 (x:=.list (aS cs)) (ds:=aS cs) (f:=λd=>match d with| .int i=>.int (i.fdiv 63)|_=>.none) (cJ (by decide) rfl) aU aU rfl ?_ ?_).trans ?_
 ·intro d hd
  refine ai (List.mem_map.mp hd) λi U q3=>q3▸?_
  kernel_rfl
 ·unfold aS
  rw[aV]
  exact aA ‹_› (by decide)
 ·unfold aS
  refine af List.map_map▸?_;refine af List.map_map▸?_;rfl
theorem S4{p:Int}{w:Nat}(hw:(p.fdiv 44).fmod 91=w)(hw2:w<91):ev H4 (.comp1 1 .range1 (.const (.int 3)) (.const .none) (.const .none) (.const (.bool true)) (.prim "chr" (.cons (.bin .Add (.bin .Add (.const (.int 34)) (.bin .Mod (.bin .FloorDiv (.var 4) (.const (.int 44))) (.const (.int 91)))) (.var 0)) .nil))) false (LS (upd g 3 (.sh (.int p))))=some (cV w):=by
 refine(b9 (x:=.int 3) (ds:=[.int 0,.int 1,.int 2]) (f:=λd=>match d with| .int i=>dH w i.toNat|_=>.none) aU aU aU rfl ?_ (by decide)).trans rfl
 have key:∀i:Nat,i<3->ev H4 (.prim "chr" (.cons (.bin .Add (.bin .Add (.const (.int 34)) (.bin .Mod (.bin .FloorDiv (.var 4) (.const (.int 44))) (.const (.int 91)))) (.var 0)) .nil)) false (.sh (.int i)::(LS (upd g 3 (.sh (.int p)))).map Sl.inn)=some (dH w i):=λi hi=>by
  refine bR (aH (show ev H4 (.bin .Add (.bin .Add (.const (.int 34)) (.bin .Mod (.bin .FloorDiv (.var 4) (.const (.int 44))) (.const (.int 91)))) (.var 0)) true (.sh (.int i)::(LS (upd g 3 (.sh (.int p)))).map Sl.inn)=some (.int (34+(p.fdiv 44).fmod 91+i)) from by kernel_rfl) bS) ?_
  show eL _ _=_
  unfold eL
  rw[if_neg (by decide),if_neg (by decide),if_pos rfl,hw]
  show(if _ then _ else _)=_
  rw[if_pos (by constructor<;>(first|exact Int.natCast_nonneg (34+w+i)|exact Int.ofNat_lt.mpr (Nat.lt_trans (gw hw2 hi) (by decide))))]
  congr 3
 intro d hd
 simp only[List.mem_cons,List.not_mem_nil,or_false] at hd
 rcases hd with rfl|rfl|rfl
 ·exact key 0 (by decide)
 ·exact key 1 (by decide)
 ·exact key 2 (by decide)
theorem S5:ev H4 (.lst (.cons (.bin .Add (.const (.int 2)) (.bin .Mod (.bin .FloorDiv (.var 3) (.const (.int 22))) (.const (.int 2)))) (.cons (.bin .Add (.const (.int 2)) (.bin .Mod (.bin .FloorDiv (.var 3) (.const (.int 11))) (.const (.int 2)))) (.cons (.bin .Sub (.const (.int 3)) (.bin .Mod (.bin .FloorDiv (.var 3) (.const (.int 22))) (.const (.int 2)))) .nil)))) false (LS (upd g 3 (.sh (.int p))))=some (.list [.int (2+(p.fdiv 22).fmod 2),.int (2+(p.fdiv 11).fmod 2),.int (3-(p.fdiv 22).fmod 2)]):=by kernel_rfl
noncomputable def stars:List (Option (Nat×Nat)):=[some (0,0),some (0,1),some (0,2),some (0,3),some (1,1),some (1,2),some (1,3),some (2,2),some (2,3),some (3,3),none]
theorem S6:∃st∈stars,ev H4 (.sub (.bin .Add (.comp2 1 .range1 (.const (.int 4)) (.const .none) (.const .none) 1 .range2 (.var 1) (.const (.int 4)) (.const .none) (.const (.bool true)) (.tup (.cons (.var 1) (.cons (.var 0) .nil)))) (.lst (.cons (.const .none) .nil))) (.bin .Mod (.var 3) (.const (.int 11)))) false (LS (upd g 3 (.sh (.int p))))=some (fW st):=by
 have h:=fv p 11 (by decide)
 obtain⟨k,hk⟩:∃k:Nat,p.fmod 11=k:=⟨(p.fmod 11).toNat,by exact(Int.toNat_of_nonneg (Int.fmod_nonneg_of_pos _ (by decide))).symm⟩
 have hk2:k<stars.length:=by show k<11;exact Int.ofNat_lt.mp (hk▸h.2)
 refine(am (stars[k]) (List.getElem_mem hk2) (cZ ((bN rfl _).trans (show ev H4 (.bin .Add (.comp2 1 .range1 (.const (.int 4)) (.const .none) (.const .none) 1 .range2 (.var 1) (.const (.int 4)) (.const .none) (.const (.bool true)) (.tup (.cons (.var 1) (.cons (.var 0) .nil)))) (.lst (.cons (.const .none) .nil))) false (LS (upd g 3 (.sh (.int p))))=some (.list (stars.map fW)) from by kernel_rfl)) (show ev H4 (.bin .Mod (.var 3) (.const (.int 11))) true (LS (upd g 3 (.sh (.int p))))=some (.int (p.fmod 11)) from by kernel_rfl) ?_))
 simp only[hk,iL,List.getElem?_map,List.getElem?_eq_getElem hk2]
 rfl
end
noncomputable def eP(st:Option (Nat×Nat))(p:Nat):Bool:=match st with
 |none=>false
 |some (a,b)=>decide (a<=p)&&decide (p<b)
noncomputable def Al(code d:Nat):Bool:=(((code:Nat):Int).fdiv (2^d)).fmod 2==1
noncomputable def jB(r code:Nat)(free:Bool):List Nat:=(List.range r).filter λd=>free||Al code d
theorem Bb:∀r∈[2,3],∀c∈List.range (2^r-1),∀free∈[true,false],jB r (c+1) free∈dQ/\(∀d∈jB r (c+1) free,d<r)/\(free=true->∀d∈List.range r,(jB r (c+1) free).contains d=true):=by decide+kernel
theorem B4(hr:r=2\/r=3){c:Int}:∃k:Nat,k<2^r-1/\c.fmod (2^r-1)+1=((k+1:Nat):Int):=by
 rcases hr with rfl|rfl
 ·exact ai (show∃k:Nat,c.fmod 3=k/\k<3 from ms c (by decide)) λk e h=>(am k h (congrArg (· +1) e))
 ·exact ai (show∃k:Nat,c.fmod 7=k/\k<7 from ms c (by decide)) λk e h=>(am k h (congrArg (· +1) e))
noncomputable abbrev B8:List IS:=[.assign 10 (.bin .Add (.bin .Mod (.sub (.var 2) (.var 8)) (.bin .Sub (.bin .Pow (.const (.int 2)) (.var 9)) (.const (.int 1)))) (.const (.int 1))),.assign 11 (.and (.cmp .IsNot (.var 6) (.const .none)) (.cmp2 .LtE .Lt (.sub (.var 6) (.const (.int 0))) (.var 8) (.sub (.var 6) (.const (.int 1))))),.append 7 (.comp1 1 .range1 (.var 9) (.const .none) (.const .none) (.or (.var 12) (.cmp .Eq (.bin .Mod (.bin .FloorDiv (.var 11) (.bin .Pow (.const (.int 2)) (.var 0))) (.const (.int 2))) (.const (.int 1)))) (.var 0))]
section
theorem DB{p r:Nat}(hr:r=2\/r=3)(hc:cs[p]? =some c)(h2:f 2=.sh (.list (aS cs)))(h8:f 8=.sh (.int p))(h9:f 9=.sh (.int r)):
 ev H4 (.bin .Add (.bin .Mod (.sub (.var 2) (.var 8)) (.bin .Sub (.bin .Pow (.const (.int 2)) (.var 9)) (.const (.int 1)))) (.const (.int 1))) false (LS f)=some (.int (c.fmod (2^r-1)+1)):=by
 have hp:ev H4 (.bin .Sub (.bin .Pow (.const (.int 2)) (.var 9)) (.const (.int 1))) false (LS f)=some (.int (2^r-1)):=by
  refine cp ((bN rfl _).trans (cp aU (cJ (by decide) h9) (z:=.int (2^r)) ?_)) aU rfl
  clear h9
  rcases hr with rfl|rfl<;>rfl
 refine cp ((bN rfl _).trans (cp ((bN rfl _).trans (cZ (cJ (by decide) h2) (bx (by decide) h8) (by rw[iL];unfold aS;rw[List.getElem?_map,hc];rfl))) ((bN rfl _).trans hp) (z:=.int (c.fmod (2^r-1))) ?_)) aU rfl
 clear h9
 clear hp
 rcases hr with rfl|rfl<;>rfl
theorem Dz{p:Nat}(h6:f 6=.sh (fW st))(h8:f 8=.sh (.int p)):
 ev H4 (.and (.cmp .IsNot (.var 6) (.const .none)) (.cmp2 .LtE .Lt (.sub (.var 6) (.const (.int 0))) (.var 8) (.sub (.var 6) (.const (.int 1))))) false (LS f)=some (.bool (eP st p)):=by
 induction st with
 |none=>exact my (x:=false) (y:=false) (kC (bx (by decide) h6) dg rfl) (λh=>by(injection h;done))
 |some ab=>
  obtain⟨a,b⟩:=ab
  refine(my (x:=true) (y:=eP (some (a,b)) p) (kC (bx (by decide) h6) dg rfl) λU=>?_).trans rfl
  refine bo (cZ (cJ (by decide) h6) dg rfl) (bo (bx (by decide) h8) ?_)
  refine af (show ev H4 (.sub (.var 6) (.const (.int 1))) true (LS f)=some (.int b) from cZ (cJ (by decide) h6) dg rfl)▸?_
  show(if decide ((a:Int)<=p)=true then some (D.bool (decide ((p:Int)<b))) else some (.bool false))=_
  have q1:decide ((a:Int)<=p)=decide (a<=p):=by rw[decide_eq_decide];exact Int.ofNat_le
  have q2:decide ((p:Int)<b)=decide (p<b):=by rw[decide_eq_decide];exact Int.ofNat_lt
  refine af q1▸?_;refine af q2▸?_
  show(if decide (a<=p)=true then some (D.bool (decide (p<b))) else some (D.bool false))=some (D.bool (decide (a<=p)&&decide (p<b)))
  induction decide (a<=p)<;>rfl
theorem E5{r code:Nat}(hr:r=2\/r=3)(h9:f 9=.sh (.int r))(h10:f 10=.sh (.int code))(h11:f 11=.sh (.bool fr)):
 ev H4 (.comp1 1 .range1 (.var 9) (.const .none) (.const .none) (.or (.var 12) (.cmp .Eq (.bin .Mod (.bin .FloorDiv (.var 11) (.bin .Pow (.const (.int 2)) (.var 0))) (.const (.int 2))) (.const (.int 1)))) (.var 0)) false (LS f)=some (aN (jB r code fr)):=by
 have hrs:(List.range r).length<=ax:=by rw[List.length_range];exact aA (Nat.le_of_lt (zY hr)) (by decide)
 refine(gV (x:=.int r) (ds:=(List.range r).map λ(d:Nat)=>.int (d:Int)) (p:=λd=>match d with| .int i=>fr||Al code i.toNat|_=>false) (f:=λd=>d) (cJ (by decide) h9) aU aU (range_items hr _ _) ?_ (λd U U=>oV) (by rw[aV];exact hrs)).trans ?_
 ·intro d hd
  refine ai (List.mem_map.mp hd) λk hk q1=>q1▸?_
  have e1:ev H4 (.bin .Mod (.bin .FloorDiv (.var 11) (.bin .Pow (.const (.int 2)) (.var 0))) (.const (.int 2))) true (.sh (.int (k:Int))::(LS f).map Sl.inn)=some (.int (((code:Int).fdiv (2^k)).fmod 2)):=by
   refine cp (x:=.int ((code:Int).fdiv (2^k))) ((bN rfl _).trans (cp (x:=.int code) (y:=.int (2^k)) (fZ (by decide) h10) ((bN rfl _).trans (cp aU (x:=.int 2) (y:=.int k) rfl ?_)) ?_)) aU rfl
   ·clear q1;rcases(z3 (Nat.lt_of_lt_of_le (List.mem_range.mp hk) (Nat.le_of_lt_succ (zY hr)))) with rfl|rfl|rfl<;>rfl
   ·clear q1;rcases(z3 (Nat.lt_of_lt_of_le (List.mem_range.mp hk) (Nat.le_of_lt_succ (zY hr)))) with rfl|rfl|rfl<;>rfl
  rw[GJ (G7 (by decide) h11) λU=>pC e1 dg rfl]
  rfl
 ·unfold aN jB
  rw[List.map_id',List.filter_map]
  rfl
theorem tB{p r:Nat}(hf:KF f)(hr:r=2\/r=3)(hp:p<cs.length)(h2:f 2=.sh (.list (aS cs)))(h6:f 6=.sh (fW st))(h7:f 7=.ow acc)(ha:acc.length<100):
 ∃S f',(bindTo [8,9] (.tuple [.int p,.int r]) (LS f)).bind (aD (az H4 11) B8)=some (.nx,LS f')/\KF f'/\f' 7=.ow (acc++[aN S])/\(∀j,j<7\/11<j->f' j=f j)/\bO r S/\(eP st p=true->∀d,d<r->S.contains d=true):=by
 refine ai (B4 hr (c:=cs[p])) λk hk ek=>?_
 have hmem:r∈[2,3]:=by rcases hr with rfl|rfl<;>decide
 refine bV (Bb r hmem k (List.mem_range.mpr hk) (eP st p) (by induction eP st p<;>decide)) λg1 g2 g3=>?_
 let f1:=upd (upd f 8 (.sh (.int p))) 9 (.sh (.int r))
 have kf1:KF f1:=(hf.upd λU=>rfl).upd λU=>rfl
 let f2:=upd f1 10 (.sh (.int ((k+1:Nat):Int)))
 have kf2:KF f2:=kf1.upd λU=>rfl
 let f3:=upd f2 11 (.sh (.bool (eP st p)))
 refine(Dm (jB r (k+1) (eP st p)) (upd f3 7 (.ow (acc++[aN (jB r (k+1) (eP st p))]))) ?_ ((kf2.upd λU=>rfl).upd λU=>rfl) rfl (λj hj=>?_) ⟨hr,g1,g2⟩ (λh d hd=>g3 h d (List.mem_range.mpr hd)))
 ·have b1:bindTo [8,9] (.tuple [.int p,.int r]) (LS f)=some (LS f1):=by
   show(bG 8 (.sh (.int p)) (LS f)).bind (λρ=>(bG 9 (.sh (.int r)) ρ).bind some)=_
   rw[cL hf _ (by decide),Option.bind_some,cL (hf.upd λU=>rfl) _ (by decide)]
   rfl
  refine af b1▸?_
  refine(ak (ρ':=LS f2) (cy (d:=.int ((k+1:Nat):Int)) ?_ (cL kf1 _ (by decide)))).trans ((ak (ρ':=LS f3) (cy (d:=.bool (eP st p)) ?_ (cL kf2 _ (by decide)))).trans ((ak (ρ':=LS (upd f3 7 (.ow (acc++[aN (jB r (k+1) (eP st p))])))) ?_).trans rfl))
  ·refine ek▸?_
   exact DB hr (List.getElem?_eq_getElem hp) (f:=f1) h2 rfl rfl
  ·exact Dz (f:=f2) h6 rfl
  ·refine(mw (E5 (f:=f3) (code:=k+1) (fr:=eP st p) hr rfl rfl rfl) (h7▸rfl) (show acc.length<ax from Nat.lt_trans ha (by decide))).trans ?_
   rfl
 ·show upd f3 7 _ j=_
  simp only[upd,f3,f2,f1]
  rw[if_neg (jE hj (by decide) (by decide)),if_neg (jE hj (by decide) (by decide)),if_neg (jE hj (by decide) (by decide)),if_neg (jE hj (by decide) (by decide)),if_neg (jE hj (by decide) (by decide))]
end
section
theorem xU:∀st∈stars,(match st with|some p=>Nat.ble p.1 p.2&&Nat.ble p.2 3|none=>true)=true:=by decide+kernel
theorem L8{r0 r1 r2:Nat}(hf:KF f)(h0:r0=2\/r0=3)(h1:r1=2\/r1=3)(h2:r2=2\/r2=3)(hl:3<=cs.length)(hs:st∈stars)
 (f2:f 2=.sh (.list (aS cs))) (f5:f 5=.sh (.list [.int r0,.int r1,.int r2])) (f6:f 6=.sh (fW st)) (f7:f 7=.ow []):
 ∃S0 S1 S2 f',az H4 12 (.fr [8,9] .enum (.var 5) (.const .none) (.const .none) B8) (LS f)=some (.nx,LS f')/\KF f'/\f' 7=.ow [aN S0,aN S1,aN S2]/\(∀j,j<7\/11<j->f' j=f j)/\bO r0 S0/\bO r1 S1/\bO r2 S2/\gj r0 r1 r2 S0 S1 S2 st:=by
 obtain⟨S0,g1,e1,k1,a1,o1,i1,u1⟩:=tB (p:=0) (acc:=[]) hf h0 (Nat.zero_lt_of_lt hl) f2 f6 f7 (by decide)
 obtain⟨S1,g2,e2,k2,a2,o2,i2,u2⟩:=tB (p:=1) (acc:=[aN S0]) k1 h1 (Nat.le_of_lt ‹_›) ((o1 2 (by decide)).trans f2) ((o1 6 (by decide)).trans f6) a1 (by show 1<100;decide)
 obtain⟨S2,g3,e3,k3,a3,o3,i3,u3⟩:=tB (p:=2) (acc:=[aN S0,aN S1]) k2 h2 ‹_› ((o2 2 (by decide)).trans ((o1 2 (by decide)).trans f2)) ((o2 6 (by decide)).trans ((o1 6 (by decide)).trans f6)) a2 (by show 2<100;decide)
 refine⟨S0,S1,S2,g3,?_,k3,a3,λj hj=>(o3 j hj).trans ((o2 j hj).trans (o1 j hj)),i1,i2,i3,?_⟩
 ·have a:ev H4 (.var 5) false (LS f)=some (.list [.int r0,.int r1,.int r2]):=bx (by decide) f5
  have c:ev H4 (.const .none) false (LS f)=some .none:=dg
  have hi:a9 .enum (.list [.int r0,.int r1,.int r2]) .none .none=some [.tuple [.int (0:Nat),.int r0],.tuple [.int (1:Nat),.int r1],.tuple [.int (2:Nat),.int r2]]:=rfl
  have nx:∀{d:D} {r:List D} {ρ ρ':R},(bindTo [8,9] d ρ).bind (aD (az H4 11) B8)=some (.nx,ρ')->cb [8,9] (aD (az H4 11) B8) (d::r) ρ=cb [8,9] (aD (az H4 11) B8) r ρ':=λh=>by
   refine bi h λρ1 q1 q2=>dC q1 q2
  have e:az H4 12 (.fr [8,9] .enum (.var 5) (.const .none) (.const .none) B8) (LS f)=cb [8,9] (aD (az H4 11) B8) [.tuple [.int (0:Nat),.int r0],.tuple [.int (1:Nat),.int r1],.tuple [.int (2:Nat),.int r2]] (LS f):=
   i9 a c c hi
  rw[e,nx e1,nx e2,nx e3]
  rfl
 ·induction st with
  |none=>trivial
  |some ab=>
   obtain⟨a,b⟩:=ab
   have hab:a<=b/\b<=3:=(Bool.and_eq_true_iff.mp (xU _ hs)).imp Nat.le_of_ble_eq_true Nat.le_of_ble_eq_true
   refine⟨hab.1,hab.2,λx y=>u1 ?_,λx y=>u2 ?_,λx y=>u3 ?_⟩
   ·exact Bool.and_eq_true_iff.mpr ⟨decide_eq_true (Nat.le_of_eq x),decide_eq_true y⟩
   ·exact Bool.and_eq_true_iff.mpr ⟨decide_eq_true x,decide_eq_true y⟩
   ·exact Bool.and_eq_true_iff.mpr ⟨decide_eq_true x,decide_eq_true y⟩
theorem HM(hl:3<=cs.length)(f2:f 2=.sh (.list (aS cs))):∃e0 e1 e2:Nat,ev H4 (.comp1 1 .range1 (.const (.int 3)) (.const .none) (.const .none) (.const (.bool true)) (.bin .Mod (.bin .FloorDiv (.sub (.var 3) (.var 0)) (.const (.int 7))) (.const (.int 3)))) false (LS f)=some (.list [.int e0,.int e1,.int e2]):=by
 have ex:∀i:Int,∃e:Nat,(i.fdiv 7).fmod 3=e:=λi=>⟨((i.fdiv 7).fmod 3).toNat,by have:=fv (i.fdiv 7) 3 (by decide);exact(Int.toNat_of_nonneg (Int.fmod_nonneg_of_pos _ (by decide))).symm⟩
 obtain⟨e0,q0⟩:=ex (cs[0]'(Nat.zero_lt_of_lt hl))
 obtain⟨e1,q1⟩:=ex (cs[1]'(Nat.le_of_lt ‹_›))
 obtain⟨e2,q2⟩:=ex (cs[2]'‹_›)
 refine⟨e0,e1,e2,(b9 (x:=.int 3) (ds:=[.int 0,.int 1,.int 2]) (f:=λd=>match d with| .int 0=>.int e0| .int 1=>.int e1|_=>.int e2) aU aU aU rfl ?_ (by decide)).trans rfl⟩
 have key:∀(i:Nat) (hi:i<cs.length),ev H4 (.bin .Mod (.bin .FloorDiv (.sub (.var 3) (.var 0)) (.const (.int 7))) (.const (.int 3))) false (.sh (.int i)::(LS f).map Sl.inn)=some (.int ((cs[i].fdiv 7).fmod 3)):=λi hi=>by
  have hs:ev H4 (.sub (.var 3) (.var 0)) false (.sh (.int i)::(LS f).map Sl.inn)=some (.int cs[i]):=cZ (fZ (by decide) f2) oV (by rw[iL];unfold aS;rw[List.getElem?_map,List.getElem?_eq_getElem hi];rfl)
  exact cp ((bN rfl _).trans (cp ((bN rfl _).trans hs) aU rfl)) aU rfl
 intro d hd
 simp only[List.mem_cons,List.not_mem_nil,or_false] at hd
 rcases hd with rfl|rfl|rfl
 ·exact(key 0 (Nat.zero_lt_of_lt hl)).trans (by rw[q0];rfl)
 ·exact(key 1 (by exact Nat.le_of_lt ‹_›)).trans (by rw[q1];rfl)
 ·exact(key 2 ‹_›).trans (by rw[q2];rfl)
noncomputable abbrev rF:List IS:=[.assign 13 (.comp2 1 .of (.var 13) (.const .none) (.const .none) 1 .of (.slice (.var 6) (.const .none) (.var 11)) (.const .none) (.const .none) (.const (.bool true)) (.bin .Add (.var 1) (.var 0)))]
noncomputable def grow(w r:Nat)(l:List (List Nat)):List (List Nat):=l.flatMap λx=>(List.range r).map λd=>x++[34+w+d]
theorem qw(s s':Sl)(hk:k<26):(s::s'::(LS f).map Sl.inn)[k+2]? =some (f k).inn:=by
 rw[List.getElem?_cons_succ,List.getElem?_cons_succ,List.getElem?_map,gZ f hk];rfl
theorem Fc{k:Nat}(hk:k<26)(h:f k=.sh d):ev H (.var (k+2)) pk (s::s'::(LS f).map Sl.inn)=some d:=by
 refine bo (qw s s' hk) ?_
 rw[h];rfl
theorem DJ{o:Option D}(hk:k<26)(h:f k=.sh d):aq (s::s'::(LS f).map Sl.inn) (.var (k+2)) o=some d:=by
 show((s::s'::(LS f).map Sl.inn)[k+2]?).bind (Sl.view true)=_
 rw[qw s s' hk,h];rfl
theorem pU{w r:Nat}(hf:KF f)(hr:r=2\/r=3)(h4:f 4=.sh (cV w))(h13:f 13=.sh (.list (l.map .str)))(hl:l.length<=100)(hx:∀x∈l,x.length<=10):
 (bindTo [9] (.int r) (LS f)).bind (aD (az H4 11) rF)=some (.nx,LS (upd (upd f 9 (.sh (.int r))) 13 (.sh (.list ((grow w r l).map .str))))):=by
 have kf1:KF (upd f 9 (.sh (.int r))):=hf.upd λU=>rfl
 have b1:bindTo [9] (.int r) (LS f)=some (LS (upd f 9 (.sh (.int r)))):=by
  show(bG 9 (.sh (.int r)) (LS f)).bind some=_
  rw[cL hf _ (by decide)]
  rfl
 rw[b1]
 refine(ak (ρ':=LS (upd (upd f 9 (.sh (.int r))) 13 (.sh (.list ((grow w r l).map .str))))) (cy (d:=.list ((grow w r l).map .str)) ?_ (cL kf1 _ (by decide)))).trans rfl
 clear kf1
 clear b1
 generalize hg:upd f 9 (.sh (.int r))=g
 have g9:g 9=.sh (.int r):=by rw[<-hg];rfl
 have g4:g 4=.sh (cV w):=by rw[<-hg];exact h4
 have g13:g 13=.sh (.list (l.map .str)):=by rw[<-hg];exact h13
 refine(lE (x:=.list (l.map .str)) (ds:=l.map .str) (g:=λU=>(List.range r).map (dH w)) (gx:=λU=>.list ((List.range r).map (dH w))) (gy:=λU=>.none) (gz:=λU=>.none)
  (f:=λa b=>match a,b with| .str a,.str b=>.str (a++b)|_,_=>.none) (cJ (by decide) g13) aU aU rfl ?_ (λU U=>aU) (λU U=>aU) (λU U=>rfl) ?_ ?_).trans ?_
 ·intro d _
  refine(bN rfl _).trans (kB (x:=cV w) (y:=.none) (z:=.int r) ?_ dg ?_ ?_)
  ·exact DJ (k:=4) (by decide) g4
  ·exact Fc (k:=9) (by decide) g9
  ·clear g9;rcases hr with rfl|rfl<;>rfl
 ·intro d hd d2 hd2
  obtain⟨x,hxm,rfl⟩:=List.mem_map.mp hd
  obtain⟨k,_,rfl⟩:=List.mem_map.mp hd2
  refine gh (x:=x) (y:=[34+w+k]) rfl rfl ?_
  have:=hx x hxm
  show _+1<=4096
  exact Nat.lt_of_le_of_lt ‹_› (by decide)
 ·rw[List.length_flatMap]
  have:((l.map D.str).map λU=>((List.range r).map (dH w)).length)=List.replicate l.length r:=by
   rw[List.map_map,List.eq_replicate_iff]
   refine⟨by simp,λb hb=>?_⟩
   obtain⟨_,_,rfl⟩:=List.mem_map.mp hb
   simp
  rw[this,List.sum_replicate_nat]
  show _<=4096
  rcases hr with rfl|rfl<;>exact aA (Nat.mul_le_mul_right _ ‹_›) (by decide)
 ·unfold grow
  rw[List.map_flatMap,List.flatMap_map]
  congr 2
  congr 1
  funext x
  rw[List.map_map,List.map_map]
  rfl
theorem lw(w r:Nat)(l:List (List Nat)):(grow w r l).length=l.length*r:=by
 unfold grow
 induction l with
 |nil=>simp
 |cons a q ih=>
  simp only[List.flatMap_cons,List.length_append,aV,List.length_range,List.length_cons,ih]
  rw[Nat.add_mul,Nat.one_mul,Nat.add_comm]
theorem qy{l:List (List Nat)}(h:∀x∈l,x.length=n):∀x∈grow w r l,x.length=n+1:=λx hx=>by
 unfold grow at hx
 simp only[List.mem_flatMap,List.mem_map] at hx
 obtain⟨y,hy,d,_,rfl⟩:=hx
 simp[h y hy]
theorem yV(w r0 r1 r2:Nat):grow w r2 (grow w r1 (grow w r0 [[]]))=(ao r0 r1 r2).map (nameOf w):=by
 unfold grow ao
 simp only[List.flatMap_cons,List.flatMap_nil,List.append_nil,List.nil_append,List.flatMap_map,List.map_flatMap,List.flatMap_assoc,List.map_map]
 congr 1
theorem HO{w r0 r1 r2:Nat}(hf:KF f)(h0:r0=2\/r0=3)(h1:r1=2\/r1=3)(h2:r2=2\/r2=3)(h4:f 4=.sh (cV w))(h5:f 5=.sh (.list [.int r0,.int r1,.int r2]))(h13:f 13=.sh (.list [.str []])):
 ∃f',az H4 12 (.fr [9] .of (.var 5) (.const .none) (.const .none) rF) (LS f)=some (.nx,LS f')/\KF f'/\f' 13=.sh (.list (((ao r0 r1 r2).map (nameOf w)).map .str))/\(∀j,j≠9->j≠13->f' j=f j):=by
 have z:∀x∈([[]]:List (List Nat)),x.length=0:=λx hx=>by simp at hx;simp[hx]
 have e1:=pU (l:=[[]]) hf h0 h4 h13 (by decide) (λx hx=>by rw[z x hx];exact Nat.zero_le _)
 have m1:=qy (w:=w) (r:=r0) z
 have k1:KF (upd (upd f 9 (.sh (.int r0))) 13 (.sh (.list ((grow w r0 [[]]).map .str)))):=(hf.upd λU=>rfl).upd λU=>rfl
 have e2:=pU (w:=w) (l:=grow w r0 [[]]) k1 h1 h4 rfl (by rw[lw];show 1*r0<=100;rw[Nat.one_mul];exact aA (Nat.le_of_lt (zY h0)) (by decide)) (λx hx=>by rw[m1 x hx];exact Nat.succ_pos _)
 have m2:=qy (w:=w) (r:=r1) m1
 have k2:=(k1.upd (k:=9) (s:=.sh (.int r1)) λU=>rfl).upd (k:=13) (s:=.sh (.list ((grow w r1 (grow w r0 [[]])).map .str))) λU=>rfl
 have e3:=pU (w:=w) (l:=grow w r1 (grow w r0 [[]])) k2 h2 h4 rfl (by clear m1;clear k1;rw[lw,lw];show 1*r0*r1<=100;rcases h0 with rfl|rfl<;>rcases h1 with rfl|rfl<;>decide) (λx hx=>by rw[m2 x hx];exact Nat.le_add_left _ _)
 have k3:=(k2.upd (k:=9) (s:=.sh (.int r2)) λU=>rfl).upd (k:=13) (s:=.sh (.list ((grow w r2 (grow w r1 (grow w r0 [[]]))).map .str))) λU=>rfl
 refine⟨_,?_,k3,by rw[<-yV];rfl,λj hj hj2=>?_⟩
 ·have a:ev H4 (.var 5) false (LS f)=some (.list [.int r0,.int r1,.int r2]):=bx (by decide) h5
  have c:ev H4 (.const .none) false (LS f)=some .none:=dg
  have hi:a9 .of (.list [.int r0,.int r1,.int r2]) .none .none=some [.int r0,.int r1,.int r2]:=rfl
  have nx:∀{d:D} {r:List D} {ρ ρ':R},(bindTo [9] d ρ).bind (aD (az H4 11) rF)=some (.nx,ρ')->cb [9] (aD (az H4 11) rF) (d::r) ρ=cb [9] (aD (az H4 11) rF) r ρ':=λh=>by
   refine bi h λρ1 q1 q2=>dC q1 q2
  have e:az H4 12 (.fr [9] .of (.var 5) (.const .none) (.const .none) rF) (LS f)=cb [9] (aD (az H4 11) rF) [.int r0,.int r1,.int r2] (LS f):=
   i9 a c c hi
  rw[e,nx e1,nx e2,nx e3]
  rfl
 ·simp only[upd,hj,hj2,if_false]
end
noncomputable def cnt(p:Nat)(ks:List Nat):Nat:=(ks.filter λk=>Nat.ble 2 (k+p)).length
noncomputable def eY(n:Nat):Bool:=n%2==1
theorem yE(n:Nat):eY (n+1)= !eY n:=by
 unfold eY
 have:n%2=0\/n%2=1:=by exact Nat.mod_two_eq_zero_or_one n
 rcases this with h|h
 ·rw[h,show(n+1)%2=1 from(Nat.add_mod n 1 2).trans (by rw[h])];rfl
 ·rw[h,show(n+1)%2=0 by exact Nat.succ_mod_succ_eq_zero_iff.mpr h];rfl
theorem cnt_cons(p k:Nat)(ks:List Nat):eY (cnt p (k::ks))=(Nat.ble 2 (k+p) !=eY (cnt p ks)):=by
 unfold cnt
 rw[List.filter_cons]
 induction Nat.ble 2 (k+p) with
 |true=>rw[if_pos rfl,List.length_cons,yE,Bool.true_bne]
 |false=>rw[if_neg (by decide),Bool.false_bne]
theorem sE:∀{ks:List Nat},(∀k∈ks,k<3)->par ks=(eY (cnt 0 ks),eY (cnt 1 ks),eY (cnt 2 ks))
 |[],_=>rfl
 |k::r,h=>by
  simp only[Gi,sE λx hx=>h x (List.mem_cons_of_mem k hx),cnt_cons,cnt_cons,cnt_cons]
  rcases Cp (h k (List.mem_cons_self)) with rfl|rfl|rfl<;>rfl
theorem qE(n m:Nat):((n:Nat):Int).fmod (m:Nat)=((n%m:Nat):Int):=by
 rw[Int.fmod_eq_emod_of_nonneg _ (by exact Int.natCast_nonneg _)];rfl
section
theorem HJ{r0 r1 r2:Nat}(h0:r0=2\/r0=3)(h1:r1=2\/r1=3)(h2:r2=2\/r2=3){N:List (List Nat)}(h5:f 5=.sh (.list [.int r0,.int r1,.int r2]))(h13:f 13=.sh (.list (N.map .str)))(hN:N.length=r0*r1*r2):
 ev H4 (.lst (.cons (.sub (.var 5) (.const (.int 2))) (.cons (.bin .Mult (.sub (.var 5) (.const (.int 2))) (.sub (.var 5) (.const (.int 1)))) (.cons (.prim "len" (.cons (.var 13) .nil)) .nil)))) false (LS f)=some (.list [.int (size r0 r1 r2 0:Nat),.int (size r0 r1 r2 1:Nat),.int (size r0 r1 r2 2:Nat)]):=by
 have sm:ev H4 (.bin .Mult (.sub (.var 5) (.const (.int 2))) (.sub (.var 5) (.const (.int 1)))) false (LS f)=some (.int ((r2*r1:Nat):Int)):=by
  refine cp ((bN rfl _).trans (cZ (cJ (by decide) h5) dg rfl)) ((bN rfl _).trans (cZ (cJ (by decide) h5) dg rfl)) ?_
  rcases h1 with rfl|rfl<;>rcases h2 with rfl|rfl<;>rfl
 exact pE (aH (cZ (cJ (by decide) h5) dg rfl) (aH sm (aH (show ev H4 (.prim "len" (.cons (.var 13) .nil)) false (LS f)=some (.int ((r0*r1*r2:Nat):Int)) from bR (aH (bx (by decide) h13) bS) (by simp only[eX,aV,hN])) bS))) (Nat.le_add_left _ _)
theorem HI(hl:cs.length<=6)(f2:f 2=.sh (.list (aS cs))):∃ks:List Nat,ks.length=cs.length/\(∀k∈ks,k<3)/\ev H4 (.comp1 1 .of (.var 2) (.const .none) (.const .none) (.const (.bool true)) (.bin .Mod (.bin .FloorDiv (.var 0) (.const (.int 21))) (.const (.int 3)))) false (LS f)=some (.list (bf ks)):=by
 refine(bc (cs.map λc=>((c.fdiv 21).fmod 3).toNat) (by simp) (λk hk=>?_) ?_)
 ·refine ai (List.mem_map.mp hk) λc U q2=>?_
  refine q2▸?_
  have:=fv (c.fdiv 21) 3 (by decide)
  exact(Int.toNat_lt this.1).mpr this.2
 ·refine(b9 (x:=.list (aS cs)) (ds:=aS cs) (f:=λd=>match d with| .int i=>.int ((i.fdiv 21).fmod 3)|_=>.none) (cJ (by decide) f2) aU aU rfl ?_ ?_).trans ?_
  ·intro d hd
   refine ai (List.mem_map.mp hd) λi U q4=>q4▸?_
   kernel_rfl
  ·unfold aS
   rw[aV]
   exact aA ‹_› (by decide)
  ·unfold aS bf
   refine af List.map_map▸?_;refine af List.map_map▸?_
   congr 2
   refine List.map_congr_left λc U=>?_
   show D.int ((c.fdiv 21).fmod 3)=.int ((((c.fdiv 21).fmod 3).toNat:Nat):Int)
   congr 1
   exact(Int.toNat_of_nonneg (Int.fmod_nonneg_of_pos _ (by decide))).symm
theorem HH(hl:ks.length<=6)(f17:f 17=.sh (.list (bf ks))):ev H4 (.comp1 1 .range1 (.const (.int 3)) (.const .none) (.const .none) (.const (.bool true)) (.bin .Mod (.prim "len" (.cons (.comp1 1 .of (.var 18) (.const .none) (.const .none) (.cmp .GtE (.bin .Add (.var 0) (.var 1)) (.const (.int 2))) (.var 0)) .nil)) (.const (.int 2)))) false (LS f)=
 some (.list [.int (cnt 0 ks%2:Nat),.int (cnt 1 ks%2:Nat),.int (cnt 2 ks%2:Nat)]):=by
 refine(b9 (x:=.int 3) (ds:=[.int 0,.int 1,.int 2]) (f:=λd=>match d with| .int i=>.int (cnt i.toNat ks%2:Nat)|_=>.none) aU aU aU rfl ?_ (by decide)).trans rfl
 have key:∀p:Nat,ev H4 (.bin .Mod (.prim "len" (.cons (.comp1 1 .of (.var 18) (.const .none) (.const .none) (.cmp .GtE (.bin .Add (.var 0) (.var 1)) (.const (.int 2))) (.var 0)) .nil)) (.const (.int 2))) false (.sh (.int p)::(LS f).map Sl.inn)=some (.int (cnt p ks%2:Nat)):=λp=>by
  have hc:ev H4 (.comp1 1 .of (.var 18) (.const .none) (.const .none) (.cmp .GtE (.bin .Add (.var 0) (.var 1)) (.const (.int 2))) (.var 0)) true (.sh (.int p)::(LS f).map Sl.inn)=some (.list ((bf ks).filter λd=>match d with| .int i=>Nat.ble 2 (i.toNat+p)|_=>false)):=by
   refine(gV (x:=.list (bf ks)) (ds:=bf ks) (p:=λd=>match d with| .int i=>Nat.ble 2 (i.toNat+p)|_=>false) (f:=λd=>d) (fZ (by decide) f17) aU aU rfl ?_ (λd U U=>oV) ?_).trans (by rw[List.map_id'])
   ·intro d hd
    refine ai (List.mem_map.mp hd) λk U q1=>q1▸?_
    show some (decide ((k:Int)+p>=2))=some (Nat.ble 2 (k+p))
    congr 1
    rw[Bool.eq_iff_iff,decide_eq_true_eq,Nat.ble_eq];exact Int.ofNat_lt
   ·unfold bf
    rw[aV]
    exact aA ‹_› (by decide)
  have hlen:((bf ks).filter λd=>match d with| .int i=>Nat.ble 2 (i.toNat+p)|_=>false).length=cnt p ks:=by
   unfold cnt bf
   rw[List.filter_map,aV]
   rfl
  refine cp (x:=.int (cnt p ks)) ((bN rfl _).trans (bR (aH hc bS) (by rw[eX,hlen]))) aU ?_
  show some (D.int ((cnt p ks:Int).fmod (2:Nat)))=_
  rw[qE]
 intro d hd
 simp only[List.mem_cons,List.not_mem_nil,or_false] at hd
 rcases hd with rfl|rfl|rfl
 ·exact key 0
 ·exact key 1
 ·exact key 2
end
noncomputable def bl(r:Nat)(S:List Nat)(t:Bool):List Nat:=if t then (S.map λd=>r-1-d).reverse else S
noncomputable def fS(l:List Nat):List Int:=l.map λ(d:Nat)=>(d:Int)
theorem ox:∀r∈[2,3],∀S∈dQ,(∀d∈S,d<r)->sortI (fS S)=fS S/\sortI (S.map λd=>((r:Nat):Int)-1-((d:Nat):Int))=fS (bl r S true)/\
 (∀t∈[true,false],bl r S t∈dQ/\(∀d∈bl r S t,d<r)/\∀d∈List.range r,(bl r S t).contains d=S.contains (fY r t d)):=by decide+kernel
theorem rS(h:l.length<64):dJ "sorted" [.list (aS l)]=some (.list (aS (sortI l))):=bo (iY l) (if_pos h)
theorem lg(S:List Nat):aN S=.list (aS (fS S)):=by
 unfold aN aS fS
 refine af List.map_map▸?_;rfl
noncomputable abbrev rE:List IS:=[.assign 21 (.ite (.sub (.var 18) (.var 8)) (.comp1 1 .of (.sub (.var 7) (.var 8)) (.const .none) (.const .none) (.const (.bool true)) (.bin .Sub (.bin .Sub (.var 10) (.const (.int 1))) (.var 0))) (.sub (.var 7) (.var 8))),.append 19 (.prim "sorted" (.cons (.var 21) .nil)),.append 20 (.bin .Mod (.bin .Add (.sub (.var 12) (.var 8)) (.const (.int 1))) (.const (.int 3)))]
theorem og{ds:List D}(hk:k<26)(h:ev H e false (LS f)=some d)(hs:f k=.ow ds)(hl:ds.length<4096):az H (n+1) (.append k e) (LS f)=some (.nx,LS (upd f k (.ow (ds++[d])))):=by
 refine(mw h ((gZ f hk).trans (congrArg some hs)) hl).trans ?_
 rw[zB f _ hk]
 rfl
section
theorem E6{t a b:IE}(h1:ev H t true ρ=some x)(hu:aE x=some u)(h2:ev H (if u then a else b) pk ρ=some d):ev H (.ite t a b) pk ρ=some d:=by
 refine bo h1 (bo hu ?_)
 clear hu
 induction u<;>exact h2
theorem pT{p r e:Nat}{t:Bool}(hf:KF f)(hS:bO r S)(f7:f 7=.ow sets)(f18:f 18=.sh (.list ts))(f12:f 12=.sh (.list es))(f19:f 19=.ow acc)(f20:f 20=.ow acc2)
 (q7:sets[p]? =some (aN S)) (q18:ts[p]? =some (.int (if t then 1 else 0))) (q12:es[p]? =some (.int e)) (ha:acc.length<4096) (ha2:acc2.length<4096):
 ∃f',(bindTo [8,9] (.tuple [.int p,.int r]) (LS f)).bind (aD (az H4 11) rE)=some (.nx,LS f')/\KF f'/\f' 19=.ow (acc++[aN (bl r S t)])/\f' 20=.ow (acc2++[.int ((e+1)%3:Nat)])/\(∀j,j≠8->j≠9->j<19\/21<j->f' j=f j):=by
 have hmem:r∈[2,3]:=by rcases hS.hr with rfl|rfl<;>decide
 refine bV (ox r hmem S hS.mem hS.lt) λc1 c2 U=>?_
 let f1:=upd (upd f 8 (.sh (.int p))) 9 (.sh (.int r))
 have kf1:KF f1:=(hf.upd λU=>rfl).upd λU=>rfl
 have b1:bindTo [8,9] (.tuple [.int p,.int r]) (LS f)=some (LS f1):=by
  show(bG 8 (.sh (.int p)) (LS f)).bind (λρ=>(bG 9 (.sh (.int r)) ρ).bind some)=_
  rw[cL hf _ (by decide),Option.bind_some,cL (hf.upd λU=>rfl) _ (by decide)]
  rfl
 let L:List Int:=if t then S.map λd=>((r:Nat):Int)-1-((d:Nat):Int) else fS S
 let f2:=upd f1 21 (.sh (.list (aS L)))
 let f3:=upd f2 19 (.ow (acc++[aN (bl r S t)]))
 have hSl:S.length<=3:=by
  have:∀S∈dQ,S.length<=3:=by decide
  exact this S hS.mem
 have hL:sortI L=fS (bl r S t):=by
  induction t
  ·exact c1
  ·exact c2
 have hLl:L.length<=3:=by
  induction t
  ·show(fS S).length<=3;unfold fS;rwa [aV]
  ·show(S.map _).length<=3;rwa [aV]
 refine(fj (upd f3 20 (.ow (acc2++[.int ((e+1)%3:Nat)]))) ?_ (((kf1.upd λU=>rfl).upd λU=>rfl).upd λU=>rfl) rfl rfl (λj h8 h9 hj=>?_))
 ·rw[b1]
  refine(ak (ρ':=LS f2) (cy (d:=.list (aS L)) ?_ (cL kf1 _ (by decide)))).trans ((ak (ρ':=LS f3) (og (by decide) ?_ f19 ha)).trans ((ak (ρ':=LS (upd f3 20 (.ow (acc2++[.int ((e+1)%3:Nat)])))) (og (by decide) ?_ f20 ha2)).trans rfl))
  ·have e7:∀pk,ev H4 (.sub (.var 7) (.var 8)) pk (LS f1)=some (aN S):=λpk=>cZ (Ey (by decide) f7) (bx (by decide) rfl) (q7)
   refine E6 (x:=.int (if t then 1 else 0)) (u:=t) (cZ (cJ (by decide) f18) (bx (by decide) rfl) (q18)) (by cases t<;>rfl) ?_
   cases t
   ·exact(e7 false).trans (by rw[lg];rfl)
   ·refine(b9 (x:=aN S) (ds:=aS (fS S)) (f:=λd=>match d with| .int i=>.int ((r:Nat)-1-i)|_=>.none) ((bN rfl _).trans (e7 false)) aU aU (by rw[lg];rfl) ?_ ?_).trans ?_
    ·intro d hd
     refine ai (List.mem_map.mp hd) λk U q2=>q2▸?_
     exact cp (x:=.int ((r:Nat)-1)) ((bN rfl _).trans (cp (fZ (k:=9) (by decide) rfl) aU rfl)) rfl rfl
    ·unfold aS fS
     simp only[aV,aV]
     exact aA ‹_› (by decide)
    ·show some (D.list _)=some (.list (aS (S.map λd=>((r:Nat):Int)-1-((d:Nat):Int))))
     unfold aS fS
     rw[List.map_map,List.map_map,List.map_map]
     rfl
  ·exact bR (aH (bx (k:=21) (by decide) rfl) bS) (by simp only[rS (Nat.lt_of_le_of_lt ‹_› (by decide)),hL,lg])
  ·refine cp (x:=.int ((e:Int)+1)) ((bN rfl _).trans (cp (x:=.int e) ((bN rfl _).trans (cZ (cJ (k:=12) (by decide) f12) (bx (k:=8) (by decide) rfl) (q12))) aU rfl)) aU ?_
   show some (D.int (((e:Int)+1).fmod (3:Nat)))=_
   rw[show((e:Int)+1)=((e+1:Nat):Int) from rfl,qE]
 ·show upd f3 20 _ j=_
  simp only[upd,f3,f2,f1]
  rw[if_neg (jE hj (by decide) (by decide)),if_neg (jE hj (by decide) (by decide)),if_neg (jE hj (by decide) (by decide)),if_neg h9,if_neg h8]
theorem HN{r0 r1 r2 e0 e1 e2:Nat}{S0 S1 S2:List Nat}{t0 t1 t2:Bool}(hf:KF f)(h0:bO r0 S0)(h1:bO r1 S1)(h2:bO r2 S2)
 (f5:f 5=.sh (.list [.int r0,.int r1,.int r2])) (f7:f 7=.ow [aN S0,aN S1,aN S2]) (f12:f 12=.sh (.list [.int e0,.int e1,.int e2]))
 (f18:f 18=.sh (.list [.int (if t0 then 1 else 0),.int (if t1 then 1 else 0),.int (if t2 then 1 else 0)])) (f19:f 19=.ow []) (f20:f 20=.ow []):
 ∃f',az H4 12 (.fr [8,9] .enum (.var 5) (.const .none) (.const .none) rE) (LS f)=some (.nx,LS f')/\KF f'/\f' 19=.ow [aN (bl r0 S0 t0),aN (bl r1 S1 t1),aN (bl r2 S2 t2)]/\
  f' 20=.ow [.int ((e0+1)%3:Nat),.int ((e1+1)%3:Nat),.int ((e2+1)%3:Nat)]/\(∀j,j≠8->j≠9->j<19\/21<j->f' j=f j):=by
 refine eQ (pT (p:=0) (e:=e0) (t:=t0) hf h0 f7 f18 f12 f19 f20 rfl rfl rfl (by decide) (by decide)) λg1 x1 k1 a1 b1 o1=>?_
 have c7:=o1 7 (by decide) (by decide) (by decide)
 have c18:=o1 18 (by decide) (by decide) (by decide)
 have c12:=o1 12 (by decide) (by decide) (by decide)
 refine eQ (pT (p:=1) (e:=e1) (t:=t1) k1 h1 (c7.trans f7) (c18.trans f18) (c12.trans f12) a1 b1 rfl rfl rfl (by show 1<4096;decide) (by show 1<4096;decide)) λg2 x2 k2 a2 b2 o2=>?_
 have d7:=(o2 7 (by decide) (by decide) (by decide)).trans c7
 have d18:=(o2 18 (by decide) (by decide) (by decide)).trans c18
 have d12:=(o2 12 (by decide) (by decide) (by decide)).trans c12
 refine eQ (pT (p:=2) (e:=e2) (t:=t2) k2 h2 (d7.trans f7) (d18.trans f18) (d12.trans f12) a2 b2 rfl rfl rfl (by show 2<4096;decide) (by show 2<4096;decide)) λg3 x3 k3 a3 b3 o3=>?_
 refine(fj g3 ?_ k3 a3 b3 (λj h8 h9 hj=>(o3 j h8 h9 hj).trans ((o2 j h8 h9 hj).trans (o1 j h8 h9 hj))))
 have nx:∀{d:D} {r:List D} {ρ ρ':R},(bindTo [8,9] d ρ).bind (aD (az H4 11) rE)=some (.nx,ρ')->cb [8,9] (aD (az H4 11) rE) (d::r) ρ=cb [8,9] (aD (az H4 11) rE) r ρ':=λh=>by
  refine bi h λρ1 q1 q2=>dC q1 q2
 have e:az H4 12 (.fr [8,9] .enum (.var 5) (.const .none) (.const .none) rE) (LS f)=cb [8,9] (aD (az H4 11) rE) [.tuple [.int (0:Nat),.int r0],.tuple [.int (1:Nat),.int r1],.tuple [.int (2:Nat),.int r2]] (LS f):=
  i9 (bx (by decide) f5) dg dg rfl
 rw[e,nx x1,nx x2,nx x3]
 rfl
end
theorem ti(r0 r1 r2:Nat):(ao r0 r1 r2).length=r0*r1*r2:=by
 have h:∀(l:List Nat) (m:Nat) (g:Nat->List cC),(∀a,(g a).length=m)->(l.flatMap g).length=l.length*m:=λl m g hg=>by
  induction l with
  |nil=>simp
  |cons a q ih=>simp only[List.flatMap_cons,List.length_append,ih,hg,List.length_cons,Nat.add_mul,Nat.one_mul,Nat.add_comm]
 unfold ao
 rw[h _ (r1*r2) _ λa=>by rw[h _ r2 _ λb=>by rw[aV,List.length_range],List.length_range],List.length_range,Nat.mul_assoc]
def lN(r0 r1 r2:Nat)(g:cC->Bool):D:=.bytes ((ao r0 r1 r2).map λd=>bit (g d))
theorem DZ(b:Bool):bit b<256:=by unfold bit;split<;>decide
theorem Ed(ds:List D):K2 100 ds=H4 100 ds:=rfl
theorem Ec(ds:List D):K2 131 ds=H4 131 ds:=rfl
def gu(r0 r1 r2:Nat)(ks:List Nat):List D:=ks.map λk=>.int (size r0 r1 r2 k:Nat)
section
variable(h0:r0=2\/r0=3)(h1:r1=2\/r1=3)(h2:r2=2\/r2=3){ks:List Nat}(hk:∀k∈ks,k<3)
include h0 h1 h2 hk
theorem zT(g:cC->Bool):K2 40 [.fn 85,.list (gu r0 r1 r2 ks),lN r0 r1 r2 g]=some (lN r0 r1 r2 λd=>g (bM r0 r1 r2 (par ks) d)):=by
 have:=wV h0 h1 h2 ks (λd=>bit (g d)) (λd=>DZ _) λk h=>by simp;exact z3 (hk k h)
 exact this
theorem CY(hn:(ao r0 r1 r2).length<=18)(g:cC×Nat->Nat)(hg:∀d,g d<256):K2 40 [.fn 143,.list (gu r0 r1 r2 ks),.bytes ((places (ao r0 r1 r2)).map g)]=some (.bytes ((places (ao r0 r1 r2)).map λd=>g (lay r0 r1 r2 (par ks) d))):=by
 have:=sT h0 h1 h2 hn ks g hg λk h=>by simp;exact z3 (hk k h)
 exact this
end
section
theorem HG(hl:ks.length<=6)(hk:∀k∈ks,k<3)(f16:f 16=.sh (.list [.int (size r0 r1 r2 0:Nat),.int (size r0 r1 r2 1:Nat),.int (size r0 r1 r2 2:Nat)]))(f17:f 17=.sh (.list (bf ks)))(pk:Bool):
 ev H4 (.comp1 1 .of (.var 17) (.const .none) (.const .none) (.const (.bool true)) (.sub (.var 17) (.var 0))) pk (LS f)=some (.list (gu r0 r1 r2 ks)):=by
 refine(b9 (x:=.list (bf ks)) (ds:=bf ks) (f:=λd=>match d with| .int i=>.int (size r0 r1 r2 i.toNat:Nat)|_=>.none) (cJ (by decide) f17) aU aU rfl ?_ ?_).trans ?_
 ·intro d hd
  refine ai (List.mem_map.mp hd) λk hm q1=>?_
  clear hd
  subst q1
  refine cZ (fZ (k:=16) (by decide) f16) oV ?_
  match k,hk k hm with
  |0,_|1,_|2,_=>rfl
 ·unfold bf
  rw[aV]
  exact aA ‹_› (by decide)
 ·unfold bf gu
  refine af List.map_map▸?_;rfl
noncomputable def qH(t0 t1 t2:Bool):List Nat:=(if t0 then [2] else [])++(if t1 !=t0 then [1] else [])++(if t2 !=t1 then [0] else [])
theorem BU:∀t0 t1 t2:Bool,par (qH t0 t1 t2)=(t0,t1,t2)/\(∀k∈qH t0 t1 t2,k<3):=by decide
theorem HF{t0 t1 t2:Bool}(f16:f 16=.sh (.list [.int (size r0 r1 r2 0:Nat),.int (size r0 r1 r2 1:Nat),.int (size r0 r1 r2 2:Nat)]))
 (f18:f 18=.sh (.list [.int (if t0 then 1 else 0),.int (if t1 then 1 else 0),.int (if t2 then 1 else 0)])):
 ev H4 (.comp1 1 .range1 (.const (.int 3)) (.const .none) (.const .none) (.cmp .NotEq (.sub (.var 19) (.var 0)) (.sub (.bin .Add (.lst (.cons (.const (.int 0)) .nil)) (.var 19)) (.var 0))) (.sub (.var 17) (.bin .Sub (.const (.int 2)) (.var 0)))) false (LS f)=some (.list (gu r0 r1 r2 (qH t0 t1 t2))):=by
 refine(gV (x:=.int 3) (ds:=[.int 0,.int 1,.int 2]) (p:=λd=>match d with| .int 0=>t0| .int 1=>t1 !=t0|_=>t2 !=t1) (f:=λd=>match d with| .int 0=>.int (size r0 r1 r2 2:Nat)| .int 1=>.int (size r0 r1 r2 1:Nat)|_=>.int (size r0 r1 r2 0:Nat)) aU aU aU rfl ?_ ?_ (by decide)).trans ?_
 ·have key:∀(p:Nat) (x y:Int),[D.int (if t0 then 1 else 0),.int (if t1 then 1 else 0),.int (if t2 then 1 else 0)][p]? =some (.int x)->[D.int 0,.int (if t0 then 1 else 0),.int (if t1 then 1 else 0),.int (if t2 then 1 else 0)][p]? =some (.int y)->
   ev H4 (.cmp .NotEq (.sub (.var 19) (.var 0)) (.sub (.bin .Add (.lst (.cons (.const (.int 0)) .nil)) (.var 19)) (.var 0))) true (.sh (.int p)::(LS f).map Sl.inn)=some (.bool (!(x==y))):=λp x y hx hy=>by
   refine kC (x:=.int x) (y:=.int y) (cZ (fZ (k:=18) (by decide) f18) oV (hx)) (cZ (x:=.list [D.int 0,.int (if t0 then 1 else 0),.int (if t1 then 1 else 0),.int (if t2 then 1 else 0)]) ?_ oV (hy)) rfl
   exact(bN rfl _).trans (cp (x:=.list [.int 0]) ((bN rfl _).trans (pE (aH dg bS) (by decide))) (fZ (k:=18) (by decide) f18) rfl)
  intro d hd
  simp only[List.mem_cons,List.not_mem_nil,or_false] at hd
  clear f18
  rcases hd with rfl|rfl|rfl
  ·refine(congrArg (λo:Option D=>o.bind aE) (key 0 (if t0 then 1 else 0) 0 rfl rfl)).trans ?_;induction t0<;>rfl
  ·refine(congrArg (λo:Option D=>o.bind aE) (key 1 (if t1 then 1 else 0) (if t0 then 1 else 0) rfl rfl)).trans ?_;induction t0<;>induction t1<;>rfl
  ·refine(congrArg (λo:Option D=>o.bind aE) (key 2 (if t2 then 1 else 0) (if t1 then 1 else 0) rfl rfl)).trans ?_;cases t1<;>induction t2<;>rfl
 ·intro d hd _
  have key:∀p:Nat,p<3->∀z,[D.int (size r0 r1 r2 0:Nat),.int (size r0 r1 r2 1:Nat),.int (size r0 r1 r2 2:Nat)][2-p]? =some z->ev H4 (.sub (.var 17) (.bin .Sub (.const (.int 2)) (.var 0))) false (.sh (.int p)::(LS f).map Sl.inn)=some z:=λp hp z hz=>by
   have e1:ev H4 (.bin .Sub (.const (.int 2)) (.var 0)) true (.sh (.int p)::(LS f).map Sl.inn)=some (.int ((2-p:Nat):Int)):=cp (x:=.int 2) (y:=.int p) aU rfl (by
    show some (D.int (2-(p:Int)))=_
    rw[show(2-(p:Int))=((2-p:Nat):Int) by exact(Int.ofNat_sub (Nat.le_of_lt_succ hp)).symm])
   exact cZ (fZ (k:=16) (by decide) f16) e1 (hz)
  simp only[List.mem_cons,List.not_mem_nil,or_false] at hd
  rcases hd with rfl|rfl|rfl
  ·exact key 0 (by decide) _ rfl
  ·exact key 1 (by decide) _ rfl
  ·exact key 2 (by decide) _ rfl
 ·induction t0<;>induction t1<;>cases t2<;>rfl
end
def mn(w:Nat)(x:cC×Nat):Nat:=(nameOf w x.1)[x.2]?.getD 0%256
theorem jG(hw:w<91){d:cC}(h:ib 3 3 3 d):∀c∈nameOf w d,c<128:=λc hc=>by
 obtain⟨a,b,e⟩:=h
 simp only[nameOf,List.mem_cons,List.not_mem_nil,or_false] at hc
 (rcases hc with h|h|h<;>(rw[h];first|exact gw hw a|exact gw hw b|exact gw hw e))
theorem Fy(h0:r0=2\/r0=3)(h1:r1=2\/r1=3)(h2:r2=2\/r2=3){d:cC}(h:ib r0 r1 r2 d):ib 3 3 3 d:=by
 obtain⟨a,b,e⟩:=h
 exact⟨by exact qp h0 a,by exact qp h1 b,by exact qp h2 e⟩
theorem m5(hw:w<91)(g:cC->cC):∀{l:List cC},(∀d∈l,ib 3 3 3 (g d))->(l.flatMap λd=>nameOf w (g d))=(places l).map λx=>mn w (g x.1,x.2)
 |[],_=>rfl
 |a::r,h=>by
  have ih:=m5 hw g (l:=r) λd hd=>h d (by simp[hd])
  have hm:∀c∈nameOf w (g a),c%256=c:=λc hc=>by have:=jG hw (h a (by simp)) c hc;exact Nat.mod_eq_of_lt (Nat.lt_of_lt_of_le ‹_› (by decide))
  have e:nameOf w (g a)=[mn w (g a,0),mn w (g a,1),mn w (g a,2)]:=by
   have e0:=hm _ (show _∈[_,_,_] from List.mem_cons_self)
   have e1:=hm (34+w+(g a).2.1) (by simp[nameOf])
   have e2:=hm (34+w+(g a).2.2) (by simp[nameOf])
   show [34+w+(g a).1,34+w+(g a).2.1,34+w+(g a).2.2]=[(34+w+(g a).1)%256,(34+w+(g a).2.1)%256,(34+w+(g a).2.2)%256]
   rw[e0,e1,e2]
  rw[List.flatMap_cons,ih,e]
  rfl
theorem qV{h:α->List Nat}(h3:∀a,(h a).length=3):∀(l:List α) (p:Nat) (hp:p<l.length),cut (l.flatMap h) (3*p) (3*p+3)=h l[p]
 |a::r,0,_=>by
  unfold cut
  rw[List.flatMap_cons,List.take_left' (by rw[h3]),Nat.mul_zero,List.drop_zero]
  rfl
 |a::r,p+1,hp=>by
  have ih:=qV h3 r p (by simpa using hp)
  unfold cut at ih ⊢
  rw[List.flatMap_cons,show 3*(p+1)+3=(h a).length+(3*p+3) by rw[h3];exact Nat.add_comm _ _,List.take_append,show 3*(p+1)=(h a).length+3*p by rw[h3];exact Nat.add_comm _ _,List.drop_append]
  rw[List.take_of_length_le (Nat.le_add_right _ _),List.drop_eq_nil_of_le (by exact Nat.le_add_right _ _),List.nil_append]
  simpa [Nat.add_sub_cancel_left] using ih
theorem yz(c:Nat):dJ "ord" [.str [c]]=some (.int c):=by
 show eL _ _=_
 unfold eL
 rw[if_neg (by decide),if_pos rfl];rfl
theorem yB{c:Nat}(h:c<1000):dJ "chr" [.int c]=some (.str [c]):=by
 show eL _ _=_
 unfold eL
 rw[if_neg (by decide),if_neg (by decide),if_pos rfl]
 show(if _ then _ else _)=_
 rw[if_pos (⟨Int.natCast_nonneg _,Int.ofNat_lt.mpr ‹_›⟩),Int.toNat_natCast]
section
theorem HE{N:List (List Nat)}(f13:f 13=.sh (.list (N.map .str)))(hN:∀n∈N,∀c∈n,c<128)(hl:N.flatten.length<=4096):
 ev H4 (.prim "bytes" (.cons (.comp2 1 .of (.var 13) (.const .none) (.const .none) 1 .of (.var 1) (.const .none) (.const .none) (.const (.bool true)) (.prim "ord" (.cons (.var 0) .nil))) .nil)) true (LS f)=some (.bytes N.flatten):=by
 have hb:∀b∈N.flatten,b<256:=λb hb=>by
  obtain⟨n,h1,h2⟩:=List.mem_flatten.mp hb
  have:=hN n h1 b h2;exact aA ‹_› (by decide)
 refine bR (ds:=[.list (ce N.flatten)]) (aH ?_ bS) (kM hb)
 let g:D->List D:=λd=>d.gS.elim [] λcs=>cs.map λc=>.str [c]
 have hm:(N.map D.str).flatMap (λd=>(g d).map λd2=>(d2.gS.bind dq).elim D.none λc=>D.int c)=ce N.flatten:=by
  unfold ce
  rw[List.flatMap_map,List.map_flatten,List.flatMap_def]
  congr 1
  refine List.map_congr_left λn U=>?_
  show(n.map λc=>D.str [c]).map _=_
  rw[List.map_map];rfl
 refine(lE (x:=.list (N.map .str)) (ds:=N.map .str) (g:=g) (gx:=id) (gy:=λU=>.none) (gz:=λU=>.none) (f:=λU d2=>(d2.gS.bind dq).elim D.none λc=>D.int c) (cJ (by decide) f13) aU aU rfl
  (λU U=>rfl) (λU U=>aU) (λU U=>aU) ?_ ?_ ?_).trans (by rw[hm])
 ·intro d hd
  obtain⟨n,hn,rfl⟩:=List.mem_map.mp hd
  have:(n.all λc=>decide (c<128))=true:=List.all_eq_true.mpr λc hc=>decide_eq_true (hN n hn c hc)
  exact if_pos this
 ·intro d hd d2 hd2
  obtain⟨n,hn,rfl⟩:=List.mem_map.mp hd
  obtain⟨c,_,rfl⟩:=List.mem_map.mp hd2
  exact bR (aH (x:=.str [c]) oV bS) (yz c)
 ·have e:((N.map D.str).flatMap g).length=N.flatten.length:=by
   rw[List.flatMap_map,List.length_flatMap,List.length_flatten]
   congr 1
   refine List.map_congr_left λn U=>?_
   show(n.map _).length=_
   rw[aV]
  rw[e];exact hl
theorem HD{α:Type}{l:List α}{h:α->List Nat}(h3:∀a,(h a).length=3)(hc:∀a∈l,∀c∈h a,c<1000)(hl:l.length<=100)(f13:f 13=.sh (.list N))(hN:N.length=l.length)(f24:f 24=.sh (.bytes (l.flatMap h))):
 ev H4 (.comp1 1 .range1 (.prim "len" (.cons (.var 13) .nil)) (.const .none) (.const .none) (.const (.bool true)) (.meth "join" (.const (.str [])) (.cons (.comp1 1 .of (.slice (.var 25) (.bin .Mult (.const (.int 3)) (.var 0)) (.bin .Add (.bin .Mult (.const (.int 3)) (.var 0)) (.const (.int 3)))) (.const .none) (.const .none) (.const (.bool true)) (.prim "chr" (.cons (.var 0) .nil))) .nil))) false (LS f)=some (.list (l.map λa=>.str (h a))):=by
 have hlen:ev H4 (.prim "len" (.cons (.var 13) .nil)) false (LS f)=some (.int l.length):=bR (aH (bx (by decide) f13) bS) (by rw[eX,hN])
 refine(b9 (x:=.int l.length) (ds:=bf (List.range l.length)) (f:=λd=>d.gI.elim .none λi=>(l[i.toNat]?.map λa=>D.str (h a)).getD .none) ((bN rfl _).trans hlen) aU aU (wI (Nat.lt_of_le_of_lt ‹_› (by decide)) _ _) ?_ ?_).trans ?_
 ·intro d hd
  obtain⟨p,hp,rfl⟩:=List.mem_map.mp hd
  have hp:=List.mem_range.mp hp
  show _=some ((l[((p:Nat):Int).toNat]?.map λa=>D.str (h a)).getD .none)
  rw[Int.toNat_natCast,List.getElem?_eq_getElem hp,Option.map_some,Option.getD_some]
  have em:ev H4 (.bin .Mult (.const (.int 3)) (.var 0)) true (.sh (.int p)::(LS f).map Sl.inn)=some (.int ((3*p:Nat):Int)):=cp (x:=.int 3) (y:=.int p) aU rfl (by
   show(if _ then _ else _)=_
   rw[if_pos (⟨by decide,Nat.lt_of_lt_of_le hp (aA hl (by decide))⟩)]
   rfl)
  have ea:ev H4 (.bin .Add (.bin .Mult (.const (.int 3)) (.var 0)) (.const (.int 3))) true (.sh (.int p)::(LS f).map Sl.inn)=some (.int ((3*p+3:Nat):Int)):=cp ((bN rfl _).trans em) aU rfl
  have hO:(l.flatMap h).length=3*l.length:=by
   rw[List.length_flatMap]
   have:(l.map λa=>(h a).length)=List.replicate l.length 3:=by
    rw[List.eq_replicate_iff]
    exact⟨by simp,λb hb=>by obtain⟨a,_,rfl⟩:=List.mem_map.mp hb;exact h3 a⟩
   rw[this,List.sum_replicate_nat,Nat.mul_comm]
  have es:ev H4 (.slice (.var 25) (.bin .Mult (.const (.int 3)) (.var 0)) (.bin .Add (.bin .Mult (.const (.int 3)) (.var 0)) (.const (.int 3)))) false (.sh (.int p)::(LS f).map Sl.inn)=some (.bytes (h l[p])):=by
   refine kB (fZ (k:=24) (by decide) f24) em ea ?_
   rw[CG,Fx (Int.natCast_nonneg _),FA (by exact Int.natCast_nonneg _)]
   simp only[Option.bind_some,Option.map_some,Int.toNat_natCast]
   rw[hO,Nat.min_eq_left (by exact ln [_,_] [(3,.a (.v 0) (.k 1),.v 1)] (.m 3 (.v 0)) (.m 3 (.v 1)) 1 rfl hp),Nat.min_eq_left (by exact Nat.mul_le_mul_left _ ‹_›),qV h3 l p hp]
  have ej:ev H4 (.comp1 1 .of (.slice (.var 25) (.bin .Mult (.const (.int 3)) (.var 0)) (.bin .Add (.bin .Mult (.const (.int 3)) (.var 0)) (.const (.int 3)))) (.const .none) (.const .none) (.const (.bool true)) (.prim "chr" (.cons (.var 0) .nil))) true (.sh (.int p)::(LS f).map Sl.inn)=some (.list (((h l[p]).map λc=>[c]).map .str)):=by
   refine(b9 (x:=.bytes (h l[p])) (ds:=bf (h l[p])) (f:=λd=>d.gI.elim .none λi=>.str [i.toNat]) ((bN rfl _).trans es) aU aU rfl ?_ ?_).trans ?_
   ·intro d hd
    obtain⟨c,hcm,rfl⟩:=List.mem_map.mp hd
    exact bR (aH (x:=.int c) oV bS) (yB (hc _ (List.getElem_mem hp) c hcm))
   ·unfold bf
    rw[aV,h3];decide
   ·unfold bf
    rw[List.map_map,List.map_map];rfl
  refine gg (x:=.str []) dg (aH ej bS) ?_
  have hflat:((h l[p]).map λc=>[c]).flatten=h l[p]:=by
   generalize h l[p]=q
   induction q with
   |nil=>rfl
   |cons c r ih=>rw[List.map_cons,List.flatten_cons,ih];rfl
  have:=jI (ss:=(h l[p]).map λc=>[c]) (by rw[hflat,h3];decide)
  rwa [hflat] at this
 ·unfold bf
  rw[aV,List.length_range]
  show _<=4096;exact aA ‹_› (by decide)
 ·unfold bf
  rw[List.map_map]
  congr 2
  refine List.ext_getElem (by simp) λi hi hj=>?_
  simp only[aV] at hj
  rw[List.getElem_map,List.getElem_map,List.getElem_range]
  show(l[((i:Nat):Int).toNat]?.map λa=>D.str (h a)).getD .none=_
  rw[Int.toNat_natCast,List.getElem?_eq_getElem hj]
  rfl
end
abbrev EX:IS->R->Option (Fl×R):=dy H4 K2 11
section
structure FL(w r0 r1 r2:Nat)(cs:List Int)(st:Option (Nat×Nat))(S0 S1 S2:List Nat)(e0 e1 e2:Nat)(f:Nat->Sl):Prop where
 kf:KF f
 f2:f 2=.sh (.list (aS cs))
 f4:f 4=.sh (cV w)
 f5:f 5=.sh (.list [.int r0,.int r1,.int r2])
 f6:f 6=.sh (fW st)
 f7:f 7=.ow [aN S0,aN S1,aN S2]
 f12:f 12=.sh (.list [.int e0,.int e1,.int e2])
 f13:f 13=.sh (.list ((ao r0 r1 r2).map λd=>.str (nameOf w d)))
 hl:cs.length<=6
 hw:w<91
 i0:bO r0 S0
 i1:bO r1 S1
 i2:bO r2 S2
 sf:gj r0 r1 r2 S0 S1 S2 st
 n18:(ao r0 r1 r2).length<=18
theorem EL(ns:List Int)(hl:ns.length<=63)(hg:KF g):∃w r0 r1 r2 st S0 S1 S2 e0 e1 e2 f,aD EX I148 (LS (upd g 0 (.sh (.raw (aS ns)))))=aD EX (I148.drop 11) (LS f)/\FL w r0 r1 r2 (dF ns) st S0 S1 S2 e0 e1 e2 f:=by
 obtain⟨c3,c6,_⟩:=zo ns
 generalize hp:zU (dF ns)=p
 obtain⟨w,hw,hw2⟩:∃w:Nat,(p.fdiv 44).fmod 91=w/\w<91:=ms _ (by decide)
 obtain⟨a,ha,ha2⟩:∃a:Nat,(p.fdiv 22).fmod 2=a/\a<2:=ms _ (by decide)
 obtain⟨b,hb,hb2⟩:∃b:Nat,(p.fdiv 11).fmod 2=b/\b<2:=ms _ (by decide)
 let f0:=upd g 0 (.sh (.raw (aS ns)))
 have k0:KF f0:=hg.upd λU=>rfl
 let f1:=upd f0 1 (.sh (.list (aS (dY ns))))
 have k1:KF f1:=k0.upd λU=>rfl
 let f2:=upd f1 2 (.sh (.list (aS (dF ns))))
 have k2:KF f2:=k1.upd λU=>rfl
 let f3:=upd f2 3 (.sh (.int p))
 have k3:KF f3:=k2.upd λU=>rfl
 let f4:=upd f3 4 (.sh (cV w))
 have k4:KF f4:=k3.upd λU=>rfl
 let f5:=upd f4 5 (.sh (.list [.int (2+a:Nat),.int (2+b:Nat),.int (3-a:Nat)]))
 have k5:KF f5:=k4.upd λU=>rfl
 have s5:ev H4 (.lst (.cons (.bin .Add (.const (.int 2)) (.bin .Mod (.bin .FloorDiv (.var 3) (.const (.int 22))) (.const (.int 2)))) (.cons (.bin .Add (.const (.int 2)) (.bin .Mod (.bin .FloorDiv (.var 3) (.const (.int 11))) (.const (.int 2)))) (.cons (.bin .Sub (.const (.int 3)) (.bin .Mod (.bin .FloorDiv (.var 3) (.const (.int 22))) (.const (.int 2)))) .nil)))) false (LS f4)=some (.list [.int (2+a:Nat),.int (2+b:Nat),.int (3-a:Nat)]):=by
  have h:=S5 (g:=f4) (p:=p)
  rw[<-pJ (f:=f4) (k:=3) (s:=.sh (.int p)) rfl,ha,hb] at h
  rw[h,show(3:Int)-(a:Int)=((3-a:Nat):Int) from(Int.ofNat_sub (Nat.le_of_lt (Nat.lt_trans ha2 (by decide)))).symm]
  rfl
 obtain⟨st,hst,s6⟩:=S6 (g:=f5) (p:=p)
 rw[<-pJ (f:=f5) (k:=3) (s:=.sh (.int p)) rfl] at s6
 let f6:=upd f5 6 (.sh (fW st))
 have k6:KF f6:=k5.upd λU=>rfl
 let f7:=upd f6 7 (.ow [])
 have k7:KF f7:=k6.upd λU=>rfl
 have h0:2+a=2\/2+a=3:=(z2 ha2).imp (congrArg _) (congrArg _)
 have h1:2+b=2\/2+b=3:=(z2 hb2).imp (congrArg _) (congrArg _)
 have h2:3-a=2\/3-a=3:=((z2 ha2).imp (congrArg _) (congrArg _)).symm
 obtain⟨S0,S1,S2,f8,l8,k8,g7,o8,i0,i1,i2,sf⟩:=L8 (cs:=dF ns) (st:=st) k7 h0 h1 h2 c3 hst rfl rfl rfl rfl
 obtain⟨e0,e1,e2,s12⟩:=HM (cs:=dF ns) c3 (o8 2 (by decide))
 let f9:=upd f8 12 (.sh (.list [.int e0,.int e1,.int e2]))
 have k9:KF f9:=k8.upd λU=>rfl
 let f10:=upd f9 13 (.sh (.list [.str []]))
 have k10:KF f10:=k9.upd λU=>rfl
 have o10:∀j,j<7->f10 j=f7 j:=λj hj=>by
  show upd (upd f8 12 _) 13 _ j=_
  simp only[upd]
  rw[if_neg (Nat.ne_of_lt (Nat.lt_trans hj (by decide))),if_neg (Nat.ne_of_lt (Nat.lt_trans hj (by decide))),o8 j (.inl hj)]
 clear o8
 clear k7
 obtain⟨f11,l11,k11,g13,o11⟩:=HO (w:=w) k10 h0 h1 h2 (o10 4 (by decide)) (o10 5 (by decide)) rfl
 refine⟨w,2+a,2+b,3-a,st,S0,S1,S2,e0,e1,e2,f11,?_,k11,(o11 2 (by decide) (by decide)).trans (o10 2 (by decide)),(o11 4 (by decide) (by decide)).trans (o10 4 (by decide)),(o11 5 (by decide) (by decide)).trans (o10 5 (by decide)),(o11 6 (by decide) (by decide)).trans (o10 6 (by decide)),
  (o11 7 (by decide) (by decide)).trans g7,(o11 12 (by decide) (by decide)).trans rfl,by rw[g13,List.map_map];rfl,c6,hw2,i0,i1,i2,sf,?_⟩
 ·have x0:EX (I148[0]'(by decide)) (LS f0)=some (.nx,LS f1):=dM k0 rfl (by decide) (Internal.S1 ns hl)
  have x1:EX (I148[1]'(by decide)) (LS f1)=some (.nx,LS f2):=dM k1 rfl (by decide) (Internal.S2 (dY ns) (oJ ns))
  have x2:EX (I148[2]'(by decide)) (LS f2)=some (.nx,LS f3):=dM k2 rfl (by decide) (hp▸S3 (dF ns) c6)
  have x3:EX (I148[3]'(by decide)) (LS f3)=some (.nx,LS f4):=dM k3 rfl (by decide) (S4 hw hw2)
  have x4:EX (I148[4]'(by decide)) (LS f4)=some (.nx,LS f5):=dM k4 rfl (by decide) s5
  have x5:EX (I148[5]'(by decide)) (LS f5)=some (.nx,LS f6):=dM k5 rfl (by decide) s6
  have x6:EX (I148[6]'(by decide)) (LS f6)=some (.nx,LS f7):=by
   show(bG 7 (.ow []) (LS f6)).map (λρ'=>(Fl.nx,ρ'))=_
   rw[cL k6 _ (by decide)]
   rfl
  have x7:EX (I148[7]'(by decide)) (LS f7)=some (.nx,LS f8):=l8
  have x8:EX (I148[8]'(by decide)) (LS f8)=some (.nx,LS f9):=dM k8 rfl (by decide) s12
  have x9:EX (I148[9]'(by decide)) (LS f9)=some (.nx,LS f10):=dM k9 rfl (by decide) (pE (aH dg bS) (by decide))
  have x10:EX (I148[10]'(by decide)) (LS f10)=some (.nx,LS f11):=l11
  exact(ak x0).trans ((ak x1).trans ((ak x2).trans ((ak x3).trans ((ak x4).trans ((ak x5).trans ((ak x6).trans ((ak x7).trans ((ak x8).trans ((ak x9).trans (ak x10))))))))))
 ·rw[ti]
  rcases z2 ha2 with rfl|rfl<;>rcases z2 hb2 with rfl|rfl<;>decide
end
theorem cX{S:List Nat}(h:bO r S)(t:Bool):bO r (bl r S t)/\∀d,d<r->(bl r S t).contains d=S.contains (fY r t d):=by
 have hmem:r∈[2,3]:=by rcases h.hr with rfl|rfl<;>decide
 obtain⟨_,_,c⟩:=ox r hmem S h.mem h.lt
 obtain⟨a,b,e⟩:=c t (by induction t<;>decide)
 exact⟨⟨h.hr,a,b⟩,λd hd=>e d (List.mem_range.mpr hd)⟩
theorem m6(n:Nat):((n%2:Nat):Int)=if eY n then 1 else 0:=by
 unfold eY
 have:n%2=0\/n%2=1:=by exact Nat.mod_two_eq_zero_or_one n
 rcases this with h|h<;>rw[h]<;>rfl
theorem nf(l:List Nat):cN .NotEq (.bytes l) (.bytes l)=some false:=by
 show(some (l==l)).map (!·)=_
 rw[beq_self_eq_true];rfl
theorem eq_self(l:List Nat):cN .Eq (.bytes l) (.bytes l)=some true:=by
 show some (l==l)=_
 rw[beq_self_eq_true]
section
variable{S0 S1 S2:List Nat}
theorem v9(h0:bO r0 S0)(h1:bO r1 S1)(h2:bO r2 S2)(t:ic):lN r0 r1 r2 (hJ (bl r0 S0 t.1) (bl r1 S1 t.2.1) (bl r2 S2 t.2.2))=lN r0 r1 r2 λd=>hJ S0 S1 S2 (bM r0 r1 r2 t d):=by
 unfold lN
 congr 1
 refine List.map_congr_left λd hd=>?_
 obtain⟨a,b,c⟩:=ez hd
 unfold hJ bM
 rw[(cX h0 t.1).2 _ a,(cX h1 t.2.1).2 _ b,(cX h2 t.2.2).2 _ c]
theorem wZ(h0:bO r0 S0)(h1:bO r1 S1)(h2:bO r2 S2)(t:ic)(h:gj r0 r1 r2 S0 S1 S2 st):gj r0 r1 r2 (bl r0 S0 t.1) (bl r1 S1 t.2.1) (bl r2 S2 t.2.2) st:=by
 induction st with
 |none=>trivial
 |some ab=>
  obtain⟨a,b,q0,q1,q2⟩:=h
  exact⟨a,b,λx y d hd=>by rw[(cX h0 t.1).2 _ hd];exact q0 x y _ (fw hd),λx y d hd=>by rw[(cX h1 t.2.1).2 _ hd];exact q1 x y _ (fw hd),λx y d hd=>by rw[(cX h2 t.2.2).2 _ hd];exact q2 x y _ (fw hd)⟩
structure FK(w r0 r1 r2:Nat)(st:Option (Nat×Nat))(S0 S1 S2:List Nat)(e0 e1 e2:Nat)(pat:List Nat)(ks:List Nat)(t0 t1 t2:Bool)(f:Nat->Sl):Prop where
 kf:KF f
 f4:f 4=.sh (cV w)
 f5:f 5=.sh (.list [.int r0,.int r1,.int r2])
 f6:f 6=.sh (fW st)
 f13:f 13=.sh (.list ((ao r0 r1 r2).map λd=>.str (nameOf w d)))
 f14:f 14=.sh (.str pat)
 f15:f 15=.sh (lN r0 r1 r2 (hJ S0 S1 S2))
 f16:f 16=.sh (.list [.int (size r0 r1 r2 0:Nat),.int (size r0 r1 r2 1:Nat),.int (size r0 r1 r2 2:Nat)])
 f17:f 17=.sh (.list (bf ks))
 f18:f 18=.sh (.list [.int (if t0 then 1 else 0),.int (if t1 then 1 else 0),.int (if t2 then 1 else 0)])
 f19:f 19=.ow [aN (bl r0 S0 t0),aN (bl r1 S1 t1),aN (bl r2 S2 t2)]
 f20:f 20=.ow [.int ((e0+1)%3:Nat),.int ((e1+1)%3:Nat),.int ((e2+1)%3:Nat)]
 hk:∀k∈ks,k<3
 hl:ks.length<=6
 pr:par ks=(t0,t1,t2)
 tb:∀ds:List cC,(∀d∈ds,ib r0 r1 r2 d)->ds.length<=64->H4 131 [.str pat,.list (ds.map λd=>.str (nameOf w d))]=some (.bytes (ds.map λd=>bit (hJ S0 S1 S2 d)))
theorem EK(A:FL w r0 r1 r2 cs st S0 S1 S2 e0 e1 e2 f):∃pat ks t0 t1 t2 f',aD EX (I148.drop 11) (LS f)=aD EX (I148.drop 18) (LS f')/\FK w r0 r1 r2 st S0 S1 S2 e0 e1 e2 pat ks t0 t1 t2 f':=by
 have R0:=A.i0.hr
 have R1:=A.i1.hr
 have R2:=A.i2.hr
 obtain⟨pat,hp,tb⟩:=pP A.hw A.i0 A.i1 A.i2 e0 e1 e2 A.sf
 let f1:=upd f 14 (.sh (.str pat))
 have k1:KF f1:=A.kf.upd λU=>rfl
 let f2:=upd f1 15 (.sh (lN r0 r1 r2 (hJ S0 S1 S2)))
 have k2:KF f2:=k1.upd λU=>rfl
 let f3:=upd f2 16 (.sh (.list [.int (size r0 r1 r2 0:Nat),.int (size r0 r1 r2 1:Nat),.int (size r0 r1 r2 2:Nat)]))
 have k3:KF f3:=k2.upd λU=>rfl
 obtain⟨ks,kl,hk,s17⟩:=HI (f:=f3) A.hl A.f2
 let f4:=upd f3 17 (.sh (.list (bf ks)))
 have k4:KF f4:=k3.upd λU=>rfl
 have s18:=HH (f:=f4) (ks:=ks) (by have:=A.hl;exact aA (Nat.le_of_eq ‹_›) ‹_›) rfl
 rw[m6,m6,m6] at s18
 have hpar:=sE hk
 generalize eY (cnt 0 ks)=t0 at*
 generalize eY (cnt 1 ks)=t1 at*
 generalize eY (cnt 2 ks)=t2 at*
 let f5:=upd f4 18 (.sh (.list [.int (if t0 then 1 else 0),.int (if t1 then 1 else 0),.int (if t2 then 1 else 0)]))
 have k5:KF f5:=k4.upd λU=>rfl
 let f6:=upd (upd f5 20 (.ow [])) 19 (.ow [])
 have k6:KF f6:=(k5.upd λU=>rfl).upd λU=>rfl
 obtain⟨f7,l7,k7,g19,g20,o7⟩:=HN (t0:=t0) (t1:=t1) (t2:=t2) k6 A.i0 A.i1 A.i2 A.f5 A.f7 A.f12 rfl rfl rfl
 refine⟨pat,ks,t0,t1,t2,f7,?_,k7,(o7 4 (by decide) (by decide) (by decide)).trans A.f4,(o7 5 (by decide) (by decide) (by decide)).trans A.f5,(o7 6 (by decide) (by decide) (by decide)).trans A.f6,(o7 13 (by decide) (by decide) (by decide)).trans A.f13,
  (o7 14 (by decide) (by decide) (by decide)).trans rfl,(o7 15 (by decide) (by decide) (by decide)).trans rfl,(o7 16 (by decide) (by decide) (by decide)).trans rfl,(o7 17 (by decide) (by decide) (by decide)).trans rfl,(o7 18 (by decide) (by decide) (by decide)).trans rfl,g19,g20,hk,by have:=A.hl;exact aA (Nat.le_of_eq ‹_›) ‹_›,hpar,tb⟩
 have x0:EX (I148[11]'(by decide)) (LS f)=some (.nx,LS f1):=mh A.kf (by decide) (aH (bx (by decide) A.f4) (aH (tn (by decide) A.f7) (aH (bx (by decide) A.f5) (aH (bx (by decide) A.f12) (aH (bx (by decide) A.f6) bS))))) (by rw[Ed];exact hp) rfl
 have x1:EX (I148[12]'(by decide)) (LS f1)=some (.nx,LS f2):=mh k1 (by decide) (aH (bx (by decide) rfl) (aH (bx (by decide) A.f13) bS)) (by rw[Ec];exact tb (ao r0 r1 r2) (λd hd=>ez hd) (by have:=A.n18;exact aA ‹_› (by decide))) rfl
 have x2:EX (I148[13]'(by decide)) (LS f2)=some (.nx,LS f3):=dM k2 rfl (by decide) (HJ (N:=(ao r0 r1 r2).map (nameOf w)) R0 R1 R2 A.f5 (by rw[List.map_map];exact A.f13) (by rw[aV,ti]))
 have x3:EX (I148[14]'(by decide)) (LS f3)=some (.nx,LS f4):=dM k3 rfl (by decide) s17
 have x4:EX (I148[15]'(by decide)) (LS f4)=some (.nx,LS f5):=dM k4 rfl (by decide) s18
 have x5:EX (I148[16]'(by decide)) (LS f5)=some (.nx,LS f6):=by
  show((bG 20 (.ow []) (LS f5)).bind λρ=>(bG 19 (.ow []) ρ).bind some).map _=_
  rw[cL k5 _ (by decide),Option.bind_some,cL (k5.upd λU=>rfl) _ (by decide)]
  rfl
 have x6:EX (I148[17]'(by decide)) (LS f6)=some (.nx,LS f7):=l7
 exact(ak x0).trans ((ak x1).trans ((ak x2).trans ((ak x3).trans ((ak x4).trans ((ak x5).trans (ak x6))))))
theorem Ab{a:List IS}(h:ev H4 t true (LS f)=some (.bool false)):az H4 12 (.ife t a []) (LS f)=some (.nx,LS f):=by
 rw[cw h (u:=false) rfl];rfl
theorem EJ(hw:w<91)(i0:bO r0 S0)(i1:bO r1 S1)(i2:bO r2 S2)(sf:gj r0 r1 r2 S0 S1 S2 st)(n18:(ao r0 r1 r2).length<=18)(B:FK w r0 r1 r2 st S0 S1 S2 e0 e1 e2 pat ks t0 t1 t2 f):
 ∃ρ',aD EX (I148.drop 18) (LS f)=some (.rt (.bool true),ρ'):=by
 have R0:=i0.hr
 have R1:=i1.hr
 have R2:=i2.hr
 generalize hM:(lN r0 r1 r2 λd=>hJ S0 S1 S2 (bM r0 r1 r2 (t0,t1,t2) d))=M
 obtain⟨m,hm⟩:∃m,M=.bytes m:=⟨_,hM.symm⟩
 have v22:=zT R0 R1 R2 B.hk (hJ S0 S1 S2)
 rw[B.pr,hM] at v22
 let f1:=upd f 22 (.sh M)
 have k1:KF f1:=B.kf.upd λU=>rfl
 obtain⟨fp,fk⟩:=BU t0 t1 t2
 let f2:=upd f1 23 (.sh (.list (gu r0 r1 r2 (qH t0 t1 t2))))
 have k2:KF f2:=k1.upd λU=>rfl
 have v23:=zT R0 R1 R2 fk (hJ S0 S1 S2)
 rw[fp,hM] at v23
 have all3:∀d∈ao r0 r1 r2,ib 3 3 3 d:=λd hd=>Fy R0 R1 R2 (ez hd)
 have all3f:∀d∈ao r0 r1 r2,ib 3 3 3 (bM r0 r1 r2 (t0,t1,t2) d):=λd hd=>Fy R0 R1 R2 (qF (ez hd))
 have v24:=CY R0 R1 R2 fk n18 (mn w) (λd=>Nat.mod_lt _ (by decide))
 rw[fp] at v24
 have q1:=m5 hw id all3
 have q2:=m5 hw (bM r0 r1 r2 (t0,t1,t2)) all3f
 have q1':((places (ao r0 r1 r2)).map λx=>mn w (id x.1,x.2))=(places (ao r0 r1 r2)).map (mn w):=rfl
 rw[q1'] at q1
 have q2':((places (ao r0 r1 r2)).map λx=>mn w (bM r0 r1 r2 (t0,t1,t2) x.1,x.2))=(places (ao r0 r1 r2)).map λd=>mn w (lay r0 r1 r2 (t0,t1,t2) d):=rfl
 rw[q2'] at q2
 rw[<-q1,<-q2] at v24
 let f3:=upd f2 24 (.sh (.bytes ((ao r0 r1 r2).flatMap λd=>nameOf w (bM r0 r1 r2 (t0,t1,t2) d))))
 have k3:KF f3:=k2.upd λU=>rfl
 let f4:=upd f3 25 (.sh (.list ((ao r0 r1 r2).map λa=>.str (nameOf w (bM r0 r1 r2 (t0,t1,t2) a)))))
 have g13:f2 13=.sh (.list (((ao r0 r1 r2).map (nameOf w)).map .str)):=by rw[List.map_map];exact B.f13
 have nflat:((ao r0 r1 r2).map (nameOf w)).flatten=(ao r0 r1 r2).flatMap λd=>nameOf w d:=(List.flatMap_def).symm
 have nlen:((ao r0 r1 r2).map (nameOf w)).flatten.length<=4096:=by
  rw[nflat,show(ao r0 r1 r2).flatMap (λd=>nameOf w d)=_ from q1,aV,places_len];exact aA (Nat.mul_le_mul_right _ ‹_›) (by decide)
 obtain⟨pat2,hp2,tb2⟩:=pP hw (cX i0 t0).1 (cX i1 t1).1 (cX i2 t2).1 ((e0+1)%3) ((e1+1)%3) ((e2+1)%3) (wZ i0 i1 i2 (t0,t1,t2) sf)
 have eF:=v9 i0 i1 i2 (t0,t1,t2)
 rw[hM] at eF
 have T2:H4 131 [.str pat2,.list ((ao r0 r1 r2).map λd=>.str (nameOf w d))]=some M:=(tb2 _ (λd hd=>ez hd) (aA ‹_› (by decide))).trans (congrArg some eF)
 have T1:H4 136 [.list [aN (bl r0 S0 t0),aN (bl r1 S1 t1),aN (bl r2 S2 t2)],.list [.int r0,.int r1,.int r2]]=some M:=(AL R0 R1 R2).trans (congrArg some eF)
 have T3:H4 131 [.str pat,.list ((ao r0 r1 r2).map λa=>.str (nameOf w (bM r0 r1 r2 (t0,t1,t2) a)))]=some M:=by
  have:=B.tb ((ao r0 r1 r2).map (bM r0 r1 r2 (t0,t1,t2))) (λd hd=>by obtain⟨x,hx,rfl⟩:=List.mem_map.mp hd;exact qF (ez hx)) (by rw[aV];exact aA ‹_› (by decide))
  rw[List.map_map,List.map_map] at this
  exact this.trans (congrArg some hM)
 clear eF
 subst hm
 have x0:EX (I148[18]'(by decide)) (LS f)=some (.nx,LS f1):=mh B.kf (by decide) (aH dg (aH (HG B.hl B.hk B.f16 B.f17 true) (aH (bx (by decide) B.f15) bS))) v22 rfl
 have x1:EX (I148[19]'(by decide)) (LS f1)=some (.nx,LS f1):=Ab (kC (x:=.bytes m) (y:=.bytes m) (bx (by decide) rfl) (kE (aH (tn (k:=19) (by decide) B.f19) (aH (bx (by decide) B.f5) bS)) T1) (nf m))
 have x2:EX (I148[20]'(by decide)) (LS f1)=some (.nx,LS f1):=Ab (kC (x:=.bytes m) (y:=.bytes m) (bx (by decide) rfl) (kE (aH (kE (aH (bx (by decide) B.f4) (aH (tn (k:=19) (by decide) B.f19) (aH (bx (by decide) B.f5) (aH (tn (k:=20) (by decide) B.f20) (aH (bx (by decide) B.f6) bS))))) hp2) (aH (bx (by decide) B.f13) bS)) T2) (nf m))
 have x3:EX (I148[21]'(by decide)) (LS f1)=some (.nx,LS f2):=dM k1 rfl (by decide) (HF B.f16 B.f18)
 have x4:EX (I148[22]'(by decide)) (LS f2)=some (.nx,LS f2):=by
  have a:ev H4 (.cons (.const (.fn 85)) (.cons (.var 23) (.cons (.var 15) .nil))) true (LS f2)=some (.tuple [.fn 85,.list (gu r0 r1 r2 (qH t0 t1 t2)),lN r0 r1 r2 (hJ S0 S1 S2)]):=aH dg (aH (bx (by decide) rfl) (aH (bx (by decide) B.f15) bS))
  have b:ev H4 (.var 22) true (LS f2)=some (.bytes m):=bx (by decide) rfl
  show dy H4 K2 11 (.ife (.cmp .NotEq (.call 40 (.cons (.const (.fn 85)) (.cons (.var 23) (.cons (.var 15) .nil)))) (.var 22)) _ _) (LS f2)=_
  delta dy
  exact bo a (bo v23 (bo b (bo (nf m) rfl)))
 have x5:EX (I148[23]'(by decide)) (LS f2)=some (.nx,LS f3):=mh k2 (by decide) (aH dg (aH (bx (by decide) rfl) (aH (HE g13 (λn hn=>by obtain⟨d,hd,rfl⟩:=List.mem_map.mp hn;exact jG hw (all3 d hd)) nlen) bS))) (by rw[nflat];exact v24) rfl
 have x6:EX (I148[24]'(by decide)) (LS f3)=some (.nx,LS f4):=dM k3 rfl (by decide) (HD (N:=(ao r0 r1 r2).map λd=>.str (nameOf w d)) (h:=λd=>nameOf w (bM r0 r1 r2 (t0,t1,t2) d)) (λU=>rfl) (λd hd c hc=>by have:=jG hw (all3f d hd) c hc;exact aA ‹_› (by decide)) (aA ‹_› (by decide)) B.f13 (by rw[aV]) rfl)
 have x7:EX (I148[25]'(by decide)) (LS f4)=some (.rt (.bool true),LS f4):=qI (n:=11) (kC (x:=.bytes m) (y:=.bytes m) (kE (aH (bx (by decide) B.f14) (aH (bx (by decide) rfl) bS)) T3) (bx (by decide) rfl) (eq_self m))
 exact⟨LS f4,(ak x0).trans ((ak x1).trans ((ak x2).trans ((ak x3).trans ((ak x4).trans ((ak x5).trans ((ak x6).trans (cS x7)))))))⟩
end
theorem yN(ns:List Int)(hl:ns.length<=63):yO ns=some (.bool true):=by
 obtain⟨w,r0,r1,r2,st,S0,S1,S2,e0,e1,e2,f,h1,A⟩:=EL ns hl (g:=λU=>.un) λU U=>rfl
 obtain⟨pat,ks,t0,t1,t2,f',h2,B⟩:=EK A
 obtain⟨ρ',h3⟩:=EJ A.hw A.i0 A.i1 A.i2 A.sf A.n18 B
 exact qD rfl (h1.trans (h2.trans h3))
end Internal
namespace Internal
open PyProof.Rows PySem.Calls PySem.W
noncomputable abbrev qX:Ctx:=⟨.builtin "claim.caller" {},none,none,[],none⟩
theorem Hw:Cl qX:=⟨by decide+kernel,λU h=>nomatch h⟩
theorem mM{R:Result->Shared->Prop}
 (h:aG Cl M callerA t (λfin s'=>∃f,fin=.done f/\R (.ok f) s') (λe s'=>R (.error e) s') s) (p:Pos):
 Sem.wp M qX t (Sem.finPost M qX R) (λe U s'=>R (.error e) s') p s:=by
 refine Sem.wp_mono M qX t (λfin p' s' h'=>?_) (λU U U h'=>h') p s (h qX p caller_in Hw)
 refine ai h' λf q9 hf=>af q9▸?_
 exact hf
theorem xe{c:ClaimW}{tree:List Value->Sem Fin}{s:Shared}(hz:s.asleep)(hgens:s.gens= #[])
 (hspec:∀args,c.pre args=true->WData.layableAll args=true->
  ∀ord:List DictEntry->List DictEntry,(∀l,(ord l).Perm l)->
  ∃vs s₁,layAllW c.records (classAt s.heap) w.params ord args s=some (vs,s₁)/\
   aG Cl (model c.prog w) callerA (tree vs) (λfin s'=>∃f,fin=.done f/\(c.Ends s args vs s₁ (.ok f) s'/\s'.os=s.os/\AllBare s'.gens/\kept s'.heap))
    (λe s'=>c.Ends s args vs s₁ (.error e) s'/\s'.os=s.os/\AllBare s'.gens/\kept s'.heap) s₁):
 c.CallFrom (λvs=>⟨tree vs,.builtin "claim.caller" {},default,[]⟩) w free gens kept s:=by
 intro args hpre hlay ord hord
 refine av λGG kk=>bK (hspec args hpre hlay ord hord) λvs s₁ hlaid hcode=>GY (wp_halts_full (M:=model c.prog w) (R:=λr s'=>c.Ends s args vs s₁ r s'/\s'.os=s.os/\kept s'.heap) (s:=s₁)
  (Shared.asleep_of_life (layAllW_rest _ _ _ hlaid).2.2.2 hz)
  (mM (R:=λr s'=>(c.Ends s args vs s₁ r s'/\s'.os=s.os/\kept s'.heap)/\leftWithCleanup s'.gens=false) (aF hcode (by
   intro fin s' z1
   refine eQ z1 λf e h1 h2 h3 h4=>(bc f e (a6 h1 h2 h4) (leftWithCleanup_false_of_bare h3))) (by
   intro e s' z3
   refine cq z3 λh1 h2 h3 h4=>?_
   exact⟨(a6 h1 h2 h4),leftWithCleanup_false_of_bare h3⟩)) default)) λk r s'' s' hsched hrun hfo hcase hos hkp=>?_
 refine iw (Shared.forget_eq hfo) λeh U U eo U=>?_
 rw[<-eh] at hkp
 rw[<-eo] at hos
 refine kk ?_;clear kk
 refine⟨vs,s₁,hlaid,k,_,s',hsched,?_,(λU i x hx=>by rw[hgens] at hx;simp at hx),hkp,by rw[((runN_life _ _ _ hrun).trans (layAllW_rest _ _ _ hlaid).2.2.2)],Shared.rest_eq hos⟩
 clear hrun
 rcases(hcase.congr eh) with ⟨v,rfl,d1,d2,d3,d4,d5⟩|⟨e,ob,cls,rfl,d1,d2,d3,d4,d5⟩
 ·exact .inl (GH v rfl d1 d2 d3 (λb o y U=>d4 b o y) d5)
 ·exact .inr (uE e ob cls rfl d1 d2 d3 d4 (λb o y U=>d5 b o y))
abbrev Fh{α:Type}(q:Program)(loose:List Str)(XP:(Str->Option Value)->Heap->Prop)(Yf:Shared->α)(Ya:World->α)(r:RowW):Prop:=
 ∀(w:World) (s₀ s₁:Shared) (mg mb:Str->Option Value),Ground q loose r.records XP w s₀ mg mb s₁.heap->Yf s₀=Ya w->mg=s₀.heap.nsMap mainGlobals->mb=s₀.heap.nsMap builtinsNs->(∀b o,s₀.heap.get? b=some o->s₁.heap.get? b=some o)->s₁.gens= #[]->
  ∀(args:List WData) (vals:List Value) (as:List Addr),Laid r.records w s₀ s₁ args vals as->r.claim.pre args=true->WData.layableAll args=true->ReadsAllW r.records (classAt s₀.heap) s₁.heap vals args as->WellAll w.params s₁.heap vals args->(∀a∈as,(a==sysModules)=false)->
   ∃f,mg r.name=some f/\aG Cl (model r.prog w) callerA (PySem.call f vals) (λv s'=>GoodWG r.claim (classAt s₀.heap) (ExcName.means s₀.heap) args s₁ (.ok (.ret v)) s')
    (λe s'=>GoodWG r.claim (classAt s₀.heap) (ExcName.means s₀.heap) args s₁ (.error e) s') s₁
theorem opened{r:OpenRow}{XP:(Str->Option Value)->Heap->Prop}{YP:World->Heap->Prop}
 (left:LeftO r.prog q loose Xt Yf Ya N) (hY:∀w s,Yf s=Ya w->YP w s.heap) (hYk:∀w h h',YP w h->(∀b o,h.get? b=some o->h'.get? b=some o)->YP w h')
 (hX:∀s,Xt s=true->XP (s.heap.nsMap mainGlobals) s.heap) (hXk:∀mg h h',XP mg h->(∀b o,h.get? b=some o->h'.get? b=some o)->XP mg h')
 (hdef:defOf q r.name=some (d,kwd)) (hp:r.prog.theDef r.name=some (d.params,d.body,d.scope)) (hk:kwWritten? d.params.kwonlyargs d.params.kw_defaults=some kwd) (hRf:∀s,Xt s=true->RecFacts r.records s.heap) (hwr:(!r.writes||r.records.isEmpty)=true)
 (k1:r.wellSaid=true) (ok:(chainsOk q&&opensWell r.prog&&(frees r.toRowW&&r.within.isEmpty))=true) (hb:r.prog.bare) (hw:r.toRowW.promised)
 (call:Fh q loose XP Yf Ya r.toRowW):r.Holds:=by
 obtain⟨ok,k5⟩:=Bool.and_eq_true_iff.mp ok
 obtain⟨hch,o1⟩:=Bool.and_eq_true_iff.mp ok
 obtain⟨k5,k6⟩:=Bool.and_eq_true_iff.mp k5
 refine iw (frees_parts k5) λhsame hu ha hap hm=>(Dn k1 hw (a6 hb o1 (by show r.toRowW.makers.map _=[];refine af hm▸?_;rfl)) hw.witness (λw=>⟨(left.behind hX hch w).1,λs' hs'=>?_⟩))
 refine av λGG kk=>?_
 obtain⟨s₀,hf,hg0,s,hT,hz,hgens,hg,G00,y⟩:=(left.behind (XP:=λmg h=>XP mg h/\RecFacts r.records h) (λs hs=>⟨hX s hs,hRf s hs⟩) hch w).2 s' hs'
 have G0:Ground q loose [] XP w s (s.heap.nsMap mainGlobals) (s.heap.nsMap builtinsNs) s.heap:=⟨G00.T,G00.B,G00.D,G00.TE,G00.TD,G00.W,G00.X.1,G00.cls,G00.has,G00.apart,G00.once,G00.K⟩
 have RF:=G00.X.2
 refine kk ?_;clear kk
 refine⟨s₀,hf,hg0,s,hT,λn hn=>?_,RF.1,RF.2.1,?_⟩
 ·obtain rfl:n=r.name:=by split at hn<;>simp_all
  exact pinned_of_view hg G0 hdef hp hk
 have hgens:=Array.eq_empty_of_size_eq_zero (beq_iff_eq.mp hgens)
 have G:=RF.ground G0
 refine xe (c:=r.toRowW.claim) hz hgens λargs hpre hlay ord hord=>av λGG kk=>?_
 obtain⟨⟨vs,s₁⟩,hlaid⟩:=Option.isSome_iff_exists.mp (layAllW_isSome (P:=w.params) (ord:=ord) G.has args r.toRowW.args s (pre_splitW hpre).1)
 have keeps:=layAllW_keeps _ _ _ hlaid
 refine aZ (reads_layAllW hord _ _ _ hlaid hlay s₁.heap (λU U e=>e)) λas hrd hin hold=>?_
 have L:Laid r.records w s s₁ args vs as:=⟨(am ord hord hlaid),hrd,hin,hold,keeps,(layAllW_rest _ _ _ hlaid).1.trans hgens,(layAllW_rest _ _ _ hlaid).2.2.1⟩
 refine ai (call w s s₁ _ _ (G.keeps hXk keeps) y rfl rfl keeps L.gens args vs as L hpre hlay L.reads L.well (L.low G.low)) λf hf h=>?_
 have hwi:=List.isEmpty_iff.mp k6
 refine kk ?_;clear kk
 refine(bu vs s₁ hlaid (au (ay (wpAny_nsGet (G.keeps hXk keeps).T.g (by refine af hf▸?_;exact au (aF h (λv s' g=>be (am _ rfl (have z:=g.laid (c:=r.toRowW.claim) hsame hwi (ident_freeW hu ha hap) L;⟨z.1,z.2.1,z.2.2,λq=>⟨namesKept_of hT hg _ keeps g.2.1.old,noTable hwr q⟩⟩))) λe s' g=>have z:=g.laid (c:=r.toRowW.claim) hsame hwi (ident_freeW hu ha hap) L;⟨z.1,z.2.1,z.2.2,λq=>⟨namesKept_of hT hg _ keeps g.2.1.old,noTable hwr q⟩⟩))))))
end Internal
namespace Internal
open PyProof.Rows PySem.W
def dL:=(defOf vw _root_.PySem.Challenge.rw_rx0006_01.row.name).get (by kernel_rfl)
theorem main:_root_.PySem.Challenge.rw_rx0006_01.Holds:=by
 w_on
 refine holds_law (by decide+kernel) λsaid=>?_
 refine opened (d:=dL.1) (kwd:=dL.2) (q:=vw) (loose:=lo) (XP:=XL vw []) (YP:=λU U=>True) left (λU U U=>trivial) (λU U U U U=>trivial) (λs e=>xl_of s (Bool.and_eq_true_iff.mp e).1) XL.keeps (by kernel_rfl) (by kernel_rfl) (by kernel_rfl) (λs e=>recFacts_of (Bool.and_eq_true_iff.mp e).2) rfl said (by decide+kernel) ⟨rfl,rfl,rfl,rfl,rfl,by decide+kernel⟩ ?hw ?hc
 case hw=>w_witness2
 intro w s₀ s₁ mg mb G Y emg emb hk hg args vals as hL hpre hlay hrd hwl hlo
 wrow_args hpre hlay hrd hwl hlo
 rename IntsAre _ _=>hI
 rename Heap.IsList _ _ _=>hl
 exact AD G Y emg hk hg hl hI hL (by omega) (yN _ (by omega)) (λU=>rfl) (Bo _)
end Internal
end
theorem PySem.Challenge.cw_rx0006_01_holds : PySem.Challenge.rw_rx0006_01.Holds :=
 Internal.main
