import PyProof.Rows.All
import Wide.All
import OpenK.AllK
import Wide.FinOn
import Open.Tree
import Lean
import PySem.Challenge.RW_te0022_01
set_option Elab.async false
set_option maxRecDepth 1000000
set_option maxHeartbeats 0
set_option linter.all false
open PySem
namespace TE
open PySem PySem.W PySem.W.Fast
theorem G3 {a b:Bool} (ha:a=true) (hb:b=true):(a&&b)=true:=by rw[ha,hb];rfl
theorem said_law:PySem.Challenge.rw_te0022_01.wellSaid=true:=by
 refine (congrFun te9446332074065402090 _).trans ?_
 delta tw9446332074065402090
 repeat' with_reducible refine G3 ?_ ?_
 all_goals decide +kernel
end TE
open PySem PySem.W PySem.Calls PyProof.Rows
namespace TE
open PySem
abbrev Qa:=@Nat.le_refl
abbrev Qb:=@Option.some.inj
abbrev Qc:=@Nat.le_of_ble_eq_true
abbrev Qd:=@Nat.lt_of_lt_of_le
abbrev Qe:=@Heap.get?_push_of_some
abbrev Qf:=@Nat.le_trans
abbrev Qg:=@Heap.lt_size
abbrev Qh:=@Nat.ne_of_lt
abbrev Qi:=@Heap.get?_push_size
abbrev Qj:=@List.mem_append_right
abbrev Qk:=@Nat.le_of_lt
abbrev Ql:=@List.mem_of_getElem?
abbrev Qm:=@List.mem_append_left
abbrev Qn:=@Nat.zero_lt_succ
abbrev Qo:=@List.getElem?_eq_getElem
abbrev Qp:=@List.getD_eq_getElem?_getD
abbrev Qq:=@Array.getElem?_toList
abbrev Qr:=@List.getElem?_append_right
abbrev Qs:=@Heap.size_push
abbrev Qt:=@Nat.lt_succ_self
abbrev Qu:=@Nat.zero_le
abbrev Qv:=@List.append_assoc
abbrev Qw:=@Array.length_toList
theorem Qx{a b:Bool}(h:(a&&b)=true):a=true/\b=true:=Bool.and_eq_true_iff.mp h
theorem Qy{A:Type _}{l:List A}{i:Nat}{a:A}(h:l[i]?=some a):∃h:i<l.length,l[i]=a:=List.getElem?_eq_some_iff.mp h
theorem Qz{A:Type _}{a b:A}{l:List A}(h:a∈b::l):a=b\/a∈l:=List.mem_cons.mp h
theorem QA{A:Type _}{a:A}{k l:List A}(h:a∈k++l):a∈k\/a∈l:=List.mem_append.mp h
theorem ag {G:Prop} (h:∀ G':Prop,(G->G')->G'):G:=h G id
theorem non {α:Type _} {a:α} {C:Prop} (h:Option.none=some a):C:=nomatch h
theorem noT {C:Prop} (h:false=true):C:=nomatch h
theorem noF {C:Prop} (h:true=false):C:=nomatch h
theorem noM {α:Type _} {a:α} {C:Prop} (h:a∈([]:List α)):C:=nomatch h
theorem noL {α:Type _} {a:α} {l:List α} {C:Prop} (h:[]=a::l):C:=nomatch h
end TE
namespace TE
set_option backward.match.sparseCases false
set_option tactic.hygienic false
noncomputable def d7:List Obj->Nat->BT->Option BT
 | [],_,t=>some t
 | o::r,n,t=>match ((t.ins n o).get n).isSome with
  | true=>d7 r (n+1) (t.ins n o)
  | false=>none
theorem lu (life:Life):∀ (l:List Obj) (n:Nat) (t t':BT),d7 l n t=some t'->(absHeap t' (n+l.length) life).objs.toList=(absHeap t n life).objs.toList++l
 | [],n,t,t',h=>by cases h;simp
 | o::r,n,t,t',h=>by
  dsimp only[d7] at h
  cases q:((t.ins n o).get n).isSome with
  | false=>rw[q] at h;exact non h
  | true =>
   rw[q] at h;have ih:=lu life r (n+1) _ _ h;rw[List.length_cons,show n+(r.length+1)=n+1+r.length by exact Eq.symm (Nat.succ_add_eq_add_succ n r.length),ih,absHeap_ins q];show ((absHeap t n life).objs.push o).toList++r=_;simp
theorem vW {h:Heap} {t:BT} (e:d7 h.objs.toList 0 .nil=some t):absHeap t h.objs.size h.life=h:=by
 have:=lu h.life _ _ _ _ e;rw[Nat.zero_add,Qw] at this;have z:(absHeap .nil 0 h.life).objs.toList=[]:=rfl;rw[z,List.nil_append] at this;obtain ⟨⟨l⟩,life⟩:=h;show Heap.mk _ _=Heap.mk _ _
 congr 1
 exact Array.toList_inj.mp this
noncomputable def lift (s:Shared):SharedT:=⟨(d7 s.heap.objs.toList 0 .nil).getD .nil,s.heap.objs.size,s.heap.life,s.gens,s.drawn,s.toks,s.os⟩
theorem AE {s:Shared} (e:(d7 s.heap.objs.toList 0 .nil).isSome=true):(lift s).abs=s:=by
 obtain ⟨t,q⟩:=Option.isSome_iff_exists.mp e;obtain ⟨h,g,d,k,os⟩:=s;dsimp only[lift,SharedT.abs];dsimp only at q ⊢;rw[q];show Shared.mk _ _ _ _ _=Shared.mk _ _ _ _ _
 congr 1
 exact vW q
theorem AJ {tb:String->Option Builtin} {p:Program} {w:World} {n₀:Nat} {ann:Option Value} {s:Shared} {c:Code} {q pos:Pos}:topRun tb p w n₀ ann 4 s ⟨doneF .next,c,pos,[topFrame q]⟩=some s:=rfl
noncomputable def je:Flow->Bool
 | .next=>true
 | _=>false
end TE
namespace TE
set_option tactic.hygienic false
noncomputable def mO (n:Nat) (f:Nat->Obj):BT:=(d7 ((List.range n).map f) 0 .nil).getD .nil
theorem vX {n:Nat} {f:Nat->Obj} {life:Life} (ok:(d7 ((List.range n).map f) 0 .nil).isSome=true):absHeap (mO n f) n life=⟨((List.range n).map f).toArray,life⟩:=by
 obtain ⟨t,q⟩:=Option.isSome_iff_exists.mp ok;have:=lu life _ _ _ _ q;rw[Nat.zero_add,List.length_map,List.length_range] at this;have z:(absHeap .nil 0 life).objs.toList=[]:=rfl;rw[z,List.nil_append] at this;unfold mO;rw[q];show absHeap t n life=_
 cases h:absHeap t n life with
 | mk objs l =>
  rw[h] at this;have hl:l=life:=by have:(absHeap t n life).life=life:=rfl;rw[h] at this;exact this
  subst hl
  congr 1
  exact Array.toList_inj.mp this
noncomputable def jl (l:List (Nat×Obj)) (o:Nat->Obj):Nat->Obj:=fun i=>(l.lookup i).getD (o i)
noncomputable def bR (T:BT):Nat->Obj:=fun i=>(T.get i).getD default
theorem wi {T:BT}:∀ {l:List (Nat×Obj)},(∀ p∈l,T.get p.1=some p.2)->jl l (bR T)=bR T:=fun {l} h=>by
 funext i
 unfold jl
 cases q:l.lookup i with
 | none=>rfl
 | some o =>
  have:(i,o)∈l:=by
   clear h
   induction l with
   | nil=>exact non q
   | cons p r ih =>
    obtain ⟨k,u⟩:=p;rw[List.lookup_cons] at q
    by_cases e:i=k
    ·subst e;rw[beq_self_eq_true] at q;obtain rfl:=Qb q;exact .head _
    ·rw[beq_eq_false_iff_ne.mpr e] at q;exact .tail _ (ih q)
  show o=bR T i;unfold bR;rw[h _ this];rfl
theorem BY (T:BT) (n:Nat) (life:Life):absHeap T n life=⟨((List.range n).map (bR T)).toArray,life⟩:=rfl
abbrev pw:Program:=PySem.Challenge.pw_te0022_01
noncomputable def dW:Env:={ scope:=pw.main.scope,locals:=mainNs,globals:=mainNs,cells:=[],code:=.ref 13,frame:=some 14,builtins:=builtinsNs }
noncomputable def body:List Stmt:=behindTheImports pw
noncomputable def dg:Pos:=⟨0,0,0,0⟩
noncomputable def fR:Code:=.body body dW
theorem FR:opening pw=plainProg pw.main.scope.names:=by rfl
theorem Et:∀ s,fenceModules? pw s=some s:=fun s=>by rfl
theorem FK:∀ w:World,((boot_heap w.params).isNs mainGlobals,(boot_heap w.params).objs.size,(boot_heap w.params).nsMap mainGlobals "__annotations__")=(true,11,some (.ref 6)):=fun w=>by kernel_rfl
noncomputable def S0 (w:World) (os:OsState):Shared:=((topGo treeTable pw w 11 (some (.ref 6)) 12 ⟨boot_heap w.params,Array.mk [],boot_drawn,boot_toks,os⟩ (topStub pw)).getD (⟨{},#[],boot_drawn,0,os⟩,topStub pw)).1
theorem pre (w:World) (os:OsState):topGo treeTable pw w 11 (some (.ref 6)) 12 ⟨boot_heap w.params,Array.mk [],boot_drawn,boot_toks,os⟩ (topStub pw)=some (S0 w os,⟨denote treeTable (.body body dW),.body body dW,dg,[topFrame dg]⟩):=by kernel_rfl
theorem FG (w:World) (os:OsState):(d7 (S0 w os).heap.objs.toList 0 .nil).isSome=true:=by kernel_rfl
theorem blk:blockStart body dW=pure ():=by kernel_rfl
noncomputable def eT (w:World) (i:Nat):Obj:=(boot_heap w.params).objs.toList.getD i default
noncomputable def Dw:Obj:={ cls:=.type "code",data:=.fields #[.str "<module>" 182,.str "<module>" 183,.str "/claim/cut.py" 184,.int 1 0,.int 0 0,.int 0 0,.int 0 0,.int 0 0,.ref 11,.bool false,.int 181 0,.ref 12,.none,.none,.none,.none,.int 185 0,.int 1 0,.str "/claim/cut.py" 186] }
noncomputable def CI:List (Str×Nat×Value):=[("__name__",165,.str "html5lib._tokenizer" 827),("__doc__",166,.none),("__package__",167,.none),("__loader__",168,.builtin "__main__.__loader__#opaque"),("__spec__",169,.none),("__annotations__",170,.ref 6),("__builtins__",171,.ref 4),("__file__",173,.str "/claim/cut.py" 172),("__cached__",174,.none),("_wall",193,.ref 21),("EOF",196,.none),("spaceCharacters",202,.ref 22),("asciiLetters",256,.ref 27),("digits",268,.ref 32),("hexDigits",292,.ref 37),("asciiLower",298,.ref 42),("entities",428,.ref 43),("replacementCharacters",531,.ref 46),("tokenTypes",556,.ref 48),("tagTokenTypes",563,.ref 49),("Text",604,.ref 73),("_is_invalid",611,.ref 84),("HTMLUnicodeInputStream",737,.ref 166),("bisect_left",751,.ref 178),("Trie",826,.ref 230),("entitiesTrie",843,.ref 236)]
noncomputable def CO (P:Params) (l:List (Str×Nat×Value)):Obj:={ cls:=.type "dict",data:=.dict (l.map fun p=>⟨PyData.keyHash P p.1,.str p.1 p.2.1,p.2.2⟩).toArray l.length }
noncomputable def CM:Obj:={ cls:=.none,data:=.fields #[.int 1 0,.int 0 0,.ref 20,.int 10 0,.int 0 0,.ref 41,.int 17 0,.int 0 0,.ref 55,.int 27 0,.int 0 0,.ref 83,.int 29 0,.int 0 0,.ref 90,.int 134 0,.int 0 0,.ref 177,.int 144 0,.int 0 0,.ref 184] }
noncomputable def AX:Obj:={ cls:=.type "frame",data:=.plain,slots:=#[some (.ref 13),some (.ref 3),some (.ref 3),none,some (.str "__main__" 164),none,some (.ref 0)] }
noncomputable def dn (w:World):List (Nat×Obj):=[(0,eT w 0),(1,eT w 1),(2,eT w 2),(3,CO w.params CI),(4,eT w 4),(5,eT w 5),(6,eT w 6),(7,eT w 7),(8,eT w 8),(9,eT w 9),(10,eT w 10),
 (11,{ cls:=.type "tuple",data:=.seq #[] }),(12,CM),(13,Dw),(14,AX)]
end TE
namespace TE
set_option genSizeOf false
set_option genInjectivity false
set_option backward.match.sparseCases false
set_option tactic.hygienic false
noncomputable def iH:List Nat->List Nat->Bool
 | [],[]=>true
 | a::r,b::s=>match Nat.beq a b with | true=>iH r s | false=>false
 | _,_=>false
theorem rj:∀ a b:List Nat,iH a b=true->a=b
 | [],[],_=>rfl
 | a::r,b::s,h=>by
  have h:(match Nat.beq a b with | true=>iH r s | false=>false)=true:=h
  cases q:Nat.beq a b with
  | true=>rw[q] at h;rw[Nat.eq_of_beq_eq_true q,rj r s h]
  | false=>rw[q] at h;exact noT h
 | [],_::_,h=>noT h
 | _::_,[],h=>noT h
theorem pz:∀ a:List Nat,iH a a=true
 | []=>rfl
 | a::r=>by show (match Nat.beq a a with | true=>iH r r | false=>false)=true;rw[Nat.beq_refl];exact pz r
noncomputable def seq (a b:Str):Bool:=iH a.cps.toList b.cps.toList
theorem bt (a b:Str):seq a b=true↔a=b:=by
 constructor
 ·intro h;have:=rj _ _ h
  cases a;cases b
  simp only[Str.mk.injEq];exact Array.toList_inj.mp this
 ·rintro rfl;exact pz _
theorem ck (a b:Str):seq a b=false↔a≠b:=by
 rw[<- Bool.not_eq_true,bt]
theorem iQ (a b:Str):seq a b=(a==b):=by
 cases h:seq a b with
 | true=>rw[(bt a b).mp h];simp
 | false=>exact (beq_eq_false_iff_ne.mpr ((ck a b).mp h)).symm
theorem uv (a b:Str):seq a b=decide (a=b):=by
 cases h:seq a b with
 | true=>simp[(bt a b).mp h]
 | false=>simp[(ck a b).mp h]
noncomputable def lk {α:Type}:List (Str×α)->Str->Option α
 | [],_=>none
 | (k,v)::r,x=>match seq k x with | true=>some v | false=>lk r x
noncomputable def put {α:Type}:List (Str×α)->Str->α->List (Str×α)
 | [],x,v=>[(x,v)]
 | (k,u)::r,x,v=>match seq k x with | true=>(k,v)::r | false=>(k,u)::put r x v
theorem eJ {α:Type} (l:List (Str×α)) (x:Str) (v:α) (y:Str):lk (put l x v) y=if y=x then some v else lk l y:=by
 induction l with
 | nil =>
  show (match seq x y with | true=>some v | false=>none)=_
  cases h:seq x y with
  | true=>rw[if_pos ((bt _ _).mp h).symm]
  | false=>rw[if_neg fun e=>(ck _ _).mp h e.symm];rfl
 | cons p r ih =>
  obtain ⟨k,u⟩:=p;show lk (match seq k x with | true=>(k,v)::r | false=>(k,u)::put r x v) y=_
  cases h:seq k x with
  | true =>
   have e:=(bt _ _).mp h;subst e;show (match seq k y with | true=>some v | false=>lk r y)=if y=k then some v else (match seq k y with | true=>some u | false=>lk r y)
   cases q:seq k y with
   | true=>rw[if_pos ((bt _ _).mp q).symm]
   | false=>rw[if_neg fun e=>(ck _ _).mp q e.symm]
  | false =>
   have e:=(ck _ _).mp h;show (match seq k y with | true=>some u | false=>lk (put r x v) y)=if y=x then some v else (match seq k y with | true=>some u | false=>lk r y)
   cases q:seq k y with
   | true =>
    have e':=(bt _ _).mp q;rw[if_neg (fun z=>e (e'.trans z))]
   | false=>exact ih
theorem lp {α:Type} (l:List (Str×α)) (x:Str):lk l x=l.lookup x:=by
 induction l with
 | nil=>rfl
 | cons p r ih =>
  obtain ⟨k,u⟩:=p;rw[List.lookup_cons];show (match seq k x with | true=>some u | false=>lk r x)=_
  cases h:seq k x with
  | true=>rw[(bt _ _).mp h];simp
  | false =>
   have:(x==k)=false:=beq_eq_false_iff_ne.mpr fun e=>(ck _ _).mp h e.symm;rw[this,ih]
noncomputable def All2 {α β:Type} (R:α->β->Prop):List α->List β->Prop
 | [],[]=>True
 | a::l,b::r=>R a b/\All2 R l r
 | _,_=>False
theorem All2.length {α β:Type} {R:α->β->Prop}:∀ {l:List α} {r:List β},All2 R l r->l.length=r.length
 | [],[],_=>rfl
 | _::l,_::r,h=>by simp[All2.length h.2]
 | [],_::_,h=>h.elim
 | _::_,[],h=>h.elim
theorem All2.mono {α β:Type} {R R':α->β->Prop} (k:∀ a b,R a b->R' a b):∀ {l:List α} {r:List β},All2 R l r->All2 R' l r
 | [],[],_=>trivial
 | _::_,_::_,h=>⟨k _ _ h.1,All2.mono k h.2⟩
 | [],_::_,h=>h.elim
 | _::_,[],h=>h.elim
theorem All2.append {α β:Type} {R:α->β->Prop}:∀ {l l':List α} {r r':List β},All2 R l r->All2 R l' r'->All2 R (l++l') (r++r')
 | [],_,[],_,_,h'=>h'
 | _::_,_,_::_,_,h,h'=>⟨h.1,All2.append h.2 h'⟩
 | [],_,_::_,_,h,_=>h.elim
 | _::_,_,[],_,h,_=>h.elim
theorem All2.get {α β:Type} {R:α->β->Prop}:∀ {l:List α} {r:List β} {i:Nat} {a:α},All2 R l r->l[i]?=some a->∃ b,r[i]?=some b/\R a b
 | a::l,b::r,0,_,h,e=>by cases e;exact ⟨b,rfl,h.1⟩
 | _::l,_::r,i+1,_,h,e=>All2.get (l:=l) (r:=r) (i:=i) h.2 e
 | [],[],_,_,_,e=>non e
 | [],_::_,_,_,h,_=>h.elim
 | _::_,[],_,_,h,_=>h.elim
inductive BI where
 | lAppend | lPop | len | ord | dict | sCount | sRfind | sReplace | sJoin
noncomputable def BI.val:BI->Value
 | .lAppend=>.builtin "list.append"
 | .lPop=>.builtin "list.pop"
 | .len=>.builtin "len"
 | .ord=>.builtin "ord"
 | .dict=>.type "dict"
 | .sCount=>.builtin "str.count"
 | .sRfind=>.builtin "str.rfind"
 | .sReplace=>.builtin "str.replace"
 | .sJoin=>.builtin "str.join"
inductive AV where
 | none
 | bool (b:Bool)
 | int (i:Int)
 | sint (i:Int)
 | str (s:Str)
 | sstr (s:Str)
 | ptr (i:Nat)
 | bi (b:BI)
 | con (v:Value)
noncomputable def VRel (n:Nat) (ρ:Nat->Addr):AV->Value->Prop
 | .none,v=>v=.none
 | .bool b,v=>v=.bool b
 | .int i,v=>∃ t,v=.int i t
 | .sint i,v=>∃ t,v=.int i t
 | .str s,v=>∃ t,v=.str s t
 | .sstr s,v=>∃ t,v=.str s t
 | .bi b,v=>v=b.val
 | .ptr i,v=>i < n/\v=.ref (ρ i)
 | .con c,v=>v=c
theorem VRel.mono {n n':Nat} {ρ ρ':Nat->Addr} (hn:n<=n') (he:∀ i,i < n->ρ' i=ρ i) {a:AV} {v:Value} (h:VRel n ρ a v):VRel n' ρ' a v:=by
 cases a with
 | ptr i=>exact ⟨Qd h.1 hn,by rw[he i h.1];exact h.2⟩
 | _=>exact h
inductive AO where
 | list (xs:List AV)
 | snoc (ys:List Value) (xs:List AV)
 | numl (ns:List Int)
 | tuple (xs:List AV)
 | dict (es:List (Str×AV))
 | inst (C:Addr) (d:Nat)
 | meth (f:Addr) (self:AV)
 | ns (loc:List (Str×AV))
 | cell (v:Option AV)
 | iter (l:AV) (i:Nat)
 | dead
noncomputable def EntR (P:Params) (n:Nat) (ρ:Nat->Addr) (p:Str×AV) (e:DictEntry):Prop :=
 (∃ t,e.key=.str p.1 t)/\e.hash=PyData.keyHash P p.1/\VRel n ρ p.2 e.val
inductive lh (T:String) (h:Heap) (a:Addr) (Q:List Value->Prop):Prop
 | mk (its:Array Value) (ep:Nat) (e:h.get? a=some { cls:=.type T,data:=.seq its ep }) (q:Q its.toList):lh T h a Q
inductive tR (h:Heap) (a:Addr) (ys:List Value) (Q:List Value->Prop):Prop
 | mk (its:Array Value) (ep:Nat) (zs:List Value) (e:h.get? a=some { cls:=.type "list",data:=.seq its ep }) (z:its.toList=ys++zs) (q:Q zs):tR h a ys Q
inductive tT (P:Params) (n:Nat) (ρ:Nat->Addr) (h:Heap) (a:Addr) (es:List (Str×AV)):Prop
 | mk (ents:List DictEntry) (ep:Nat) (e:h.get? a=some (dictOf ents ep)) (q:All2 (EntR P n ρ) es ents) (z:(es.map (·.1)).Nodup):tT P n ρ h a es
inductive tS (h:Heap) (a f:Addr) (Q:Value->Prop):Prop
 | mk (v:Value) (e:h.get? a=some (methodObj (.ref f) v)) (q:Q v):tS h a f Q
inductive NsR (n:Nat) (ρ:Nat->Addr) (h:Heap) (a:Addr) (loc:List (Str×AV)):Prop
 | mk (m:Str->Option Value) (e:h.Ns a m) (q:∀ x av,lk loc x=some av->∃ v,m x=some v/\VRel n ρ av v):NsR n ρ h a loc
inductive tU (n:Nat) (ρ:Nat->Addr) (h:Heap) (a:Addr) (v:Option AV):Prop
 | mk (o:Obj) (v':Option Value) (e:h.get? a=some o) (d:o.data=.cell v') (q:∀ av,v=some av->∃ u,v'=some u/\VRel n ρ av u):tU n ρ h a v
noncomputable def ORel (P:Params) (n:Nat) (ρ:Nat->Addr) (h:Heap) (a:Addr):AO->Prop
 | .list xs=>lh "list" h a (All2 (VRel n ρ) xs)
 | .snoc ys xs=>tR h a ys (All2 (VRel n ρ) xs)
 | .numl ns=>lh "list" h a (All2 (fun i v=>∃ t,v=Value.int i t) ns)
 | .tuple xs=>lh "tuple" h a (All2 (VRel n ρ) xs)
 | .dict es=>tT P n ρ h a es
 | .inst C d=>d < n/\h.get? a=some (instObj C (ρ d))
 | .meth f self=>tS h a f (VRel n ρ self)
 | .ns loc=>NsR n ρ h a loc
 | .cell v=>tU n ρ h a v
 | .iter l i=>∃ b,VRel n ρ l (.ref b)/\h.IsListIter a b i
 | .dead=>a < h.objs.size
theorem EntR.mono {P:Params} {n n':Nat} {ρ ρ':Nat->Addr} (hn:n<=n') (he:∀ i,i < n->ρ' i=ρ i) {p:Str×AV} {e:DictEntry} (h:EntR P n ρ p e):EntR P n' ρ' p e :=
 ⟨h.1,h.2.1,h.2.2.mono hn he⟩
theorem ORel.mono {P:Params} {n n':Nat} {ρ ρ':Nat->Addr} {h h':Heap} {a:Addr} (hn:n<=n') (he:∀ i,i < n->ρ' i=ρ i) (hs:h.objs.size<=h'.objs.size) (hk:∀ o,h.get? a=some o->h'.get? a=some o) {x:AO}
  (H:ORel P n ρ h a x):ORel P n' ρ' h' a x:=by
 cases x with
 | list xs=>obtain ⟨its,ep,e,q⟩:=H;exact ⟨its,ep,hk _ e,q.mono fun _ _ h=>h.mono hn he⟩
 | snoc ys xs=>obtain ⟨its,ep,zs,e,z,q⟩:=H;exact ⟨its,ep,zs,hk _ e,z,q.mono fun _ _ h=>h.mono hn he⟩
 | numl ns=>obtain ⟨its,ep,e,q⟩:=H;exact ⟨its,ep,hk _ e,q⟩
 | tuple xs=>obtain ⟨its,ep,e,q⟩:=H;exact ⟨its,ep,hk _ e,q.mono fun _ _ h=>h.mono hn he⟩
 | dict es=>obtain ⟨ents,ep,e,q,z⟩:=H;exact ⟨ents,ep,hk _ e,q.mono fun _ _ h=>h.mono hn he,z⟩
 | inst C d=>exact ⟨Qd H.1 hn,by rw[he _ H.1];exact hk _ H.2⟩
 | meth f self=>obtain ⟨v,e,q⟩:=H;exact ⟨v,hk _ e,q.mono hn he⟩
 | ns loc=>obtain ⟨m,e,q⟩:=H;exact ⟨m,e.at hk,fun x av hx=>let ⟨v,a,b⟩:=q x av hx;⟨v,a,b.mono hn he⟩⟩
 | cell v=>obtain ⟨o,v',e,d,q⟩:=H;exact ⟨o,v',hk _ e,d,fun av hv=>let ⟨u,a,b⟩:=q av hv;⟨u,a,b.mono hn he⟩⟩
 | iter l i=>obtain ⟨b,q,e⟩:=H;exact ⟨b,q.mono hn he,e.at hk⟩
 | dead=>exact Qd H hs
theorem ORel.lt {P:Params} {n:Nat} {ρ:Nat->Addr} {h:Heap} {a:Addr} {x:AO} (H:ORel P n ρ h a x):a < h.objs.size:=by
 cases x with
 | list xs=>obtain ⟨its,ep,e,_⟩:=H;exact Qg e
 | snoc ys xs=>obtain ⟨its,ep,zs,e,_⟩:=H;exact Qg e
 | numl ns=>obtain ⟨its,ep,e,_⟩:=H;exact Qg e
 | tuple xs=>obtain ⟨its,ep,e,_⟩:=H;exact Qg e
 | dict es=>obtain ⟨ents,ep,e,_⟩:=H;exact Qg e
 | inst C d=>exact Qg H.2
 | meth f self=>obtain ⟨v,e,_⟩:=H;exact Qg e
 | ns loc=>obtain ⟨m,e,_⟩:=H;exact e.lt
 | cell v=>obtain ⟨o,v',e,_⟩:=H;exact Qg e
 | iter l i=>obtain ⟨b,q,o,e,_⟩:=H;exact Qg e
 | dead=>exact H
structure Rel (P:Params) (z5:Heap) (ρ:Nat->Addr) (σ:List AO) (h:Heap):Prop where
 base:z5.objs.size<=h.objs.size
 keep:∀ b o,z5.get? b=some o->h.get? b=some o
 own:∀ i o,σ[i]?=some o->ORel P σ.length ρ h (ρ i) o
 high:∀ i,i < σ.length->z5.objs.size<=ρ i
 inj:∀ i j,i < σ.length->j < σ.length->ρ i=ρ j->i=j
structure Stp (P:Params) (z5:Heap) (ρ:Nat->Addr) (σ:List AO) (s:Shared) (ρ':Nat->Addr) (σ':List AO) (s':Shared):Prop where
 gens:s'.gens=s.gens
 os:s'.os=s.os
 drawn:s'.drawn=s.drawn
 rel:Rel P z5 ρ' σ' s'.heap
 len:σ.length<=σ'.length
 ext:∀ i,i < σ.length->ρ' i=ρ i
 size:s.heap.objs.size<=s'.heap.objs.size
 fresh:∀ i,σ.length<=i->i < σ'.length->s.heap.objs.size<=ρ' i
 other:∀ b o,(∀ i,i < σ.length->ρ i≠b)->s.heap.get? b=some o->s'.heap.get? b=some o
section
variable {P:Params} {z5:Heap} {ρ ρ' ρ'':Nat->Addr} {σ σ' σ'':List AO} {s s' s'':Shared}
theorem Stp.refl (R:Rel P z5 ρ σ s.heap):Stp P z5 ρ σ s ρ σ s :=
 ⟨rfl,rfl,rfl,R,Qa _,fun _ _=>rfl,Qa _,fun i a b=>absurd b (Nat.not_lt.mpr a),fun _ _ _ e=>e⟩
theorem Stp.trans (x:Stp P z5 ρ σ s ρ' σ' s') (y:Stp P z5 ρ' σ' s' ρ'' σ'' s''):Stp P z5 ρ σ s ρ'' σ'' s'' where
 gens:=y.gens.trans x.gens
 os:=y.os.trans x.os
 drawn:=y.drawn.trans x.drawn
 rel:=y.rel
 len:=Qf x.len y.len
 ext:=fun i hi=>(y.ext i (Qd hi x.len)).trans (x.ext i hi)
 size:=Qf x.size y.size
 fresh:=fun i a b=>by
  by_cases q:i < σ'.length
  ·rw[y.ext i q];exact x.fresh i a q
  ·exact Qf x.size (y.fresh i (Nat.not_lt.mp q) b)
 other:=fun b o hb e=>by
  refine y.other b o (fun i hi=>?_) (x.other b o hb e)
  by_cases q:i < σ.length
  ·rw[x.ext i q];exact hb i q
  ·intro z;have q1:=x.fresh i (Nat.not_lt.mp q) hi;rw[z] at q1;exact absurd q1 (Nat.not_le.mpr (Qg e))
theorem Stp.val (x:Stp P z5 ρ σ s ρ' σ' s') {a:AV} {v:Value} (h:VRel σ.length ρ a v):VRel σ'.length ρ' a v:=h.mono x.len x.ext
theorem Stp.vals (x:Stp P z5 ρ σ s ρ' σ' s') {a:List AV} {v:List Value} (h:All2 (VRel σ.length ρ) a v):All2 (VRel σ'.length ρ') a v:=h.mono fun _ _ h=>x.val h
theorem Stp.toks (x:Stp P z5 ρ σ s ρ' σ' s') (t:Nat):Stp P z5 ρ σ s ρ' σ' { s' with toks:=t }:=⟨x.gens,x.os,x.drawn,x.rel,x.len,x.ext,x.size,x.fresh,x.other⟩
theorem Stp.toks0 (R:Rel P z5 ρ σ s.heap) (t:Nat):Stp P z5 ρ σ s ρ σ { s with toks:=t }:=(Stp.refl R).toks t
theorem Rel.at (R:Rel P z5 ρ σ s.heap) {i:Nat} {o:AO} (e:σ[i]?=some o):ORel P σ.length ρ s.heap (ρ i) o:=R.own i o e
theorem Stp.set (R:Rel P z5 ρ σ s.heap) {i:Nat} {o':AO} {h':Heap} {t:Nat} (hi:i < σ.length) (hs:Heap.SameBut (ρ i) s.heap h') (ho:ORel P σ.length ρ h' (ρ i) o') :
  Stp P z5 ρ σ s ρ (σ.set i o') { s with heap:=h',toks:=t } where
 gens:=rfl
 os:=rfl
 drawn:=rfl
 len:=by simp
 ext:=fun _ _=>rfl
 size:=Nat.le_of_eq hs.1.symm
 fresh:=fun j a b=>by simp at b;lia
 other:=fun b o hb e=>(hs.2 b (fun z=>hb i hi z.symm)).trans e
 rel:=by
  refine ⟨Qf R.base (Nat.le_of_eq hs.1.symm),fun b o e=>?_,fun j o e=>?_,fun j hj=>R.high j (by simpa using hj),fun j k hj hk e=>R.inj j k (by simpa using hj) (by simpa using hk) e⟩
  ·have ne:b≠ρ i:=Qh (Qd (Qg e) (R.high i hi));exact (hs.2 b ne).trans (R.keep b o e)
  ·rw[List.length_set]
   by_cases q:i=j
   ·subst q;rw[List.getElem?_set_self hi] at e;obtain rfl:=Qb e;exact ho
   ·rw[List.getElem?_set_ne q] at e;have hj:j < σ.length:=(Qy e).1;refine (R.own j o e).mono (Qa _) (fun _ _=>rfl) (Nat.le_of_eq hs.1.symm) fun o h=>(hs.2 _ (fun z=>q (R.inj i j hi hj z.symm))).trans h
theorem Stp.new0 (R:Rel P z5 ρ σ s.heap) {o:AO} {h':Heap} {a:Addr} {t:Nat} (ha:s.heap.objs.size<=a) (hs:s.heap.objs.size<=h'.objs.size) (hk:∀ b o,s.heap.get? b=some o->h'.get? b=some o)
  (ho:ORel P (σ.length+1) (fun j=>if j=σ.length then a else ρ j) h' a o) :
  Stp P z5 ρ σ s (fun j=>if j=σ.length then a else ρ j) (σ++[o]) { s with heap:=h',toks:=t } where
 gens:=rfl
 os:=rfl
 drawn:=rfl
 len:=by simp
 ext:=fun i hi=>if_neg (Qh hi)
 size:=hs
 fresh:=fun j x b=>by
  have:j=σ.length:=by simp at b;exact Nat.eq_of_le_of_lt_succ x b
  subst this;rw[if_pos rfl];exact ha
 other:=fun b o _ e=>hk b o e
 rel:=by
  have low:∀ j,j < σ.length->ρ j < s.heap.objs.size:=fun j hj=>(R.own j _ (Qo hj)).lt;have h0:z5.objs.size<=a:=Qf R.base ha;refine ⟨Qf R.base hs,fun b o e=>hk b o (R.keep b o e),fun j o' e=>?_,fun j hj=>?_,fun j k hj hk' e=>?_⟩
  ·by_cases q:j < σ.length
   ·rw[List.getElem?_append_left q] at e;rw[List.length_append];show ORel P (σ.length+1) _ h' (if j=σ.length then a else ρ j) o'
    rw[if_neg (Qh q)];exact (R.own j o' e).mono (Nat.le_succ _) (fun i hi=>if_neg (Qh hi)) hs (hk _)
   ·rw[Qr (Nat.not_lt.mp q)] at e
    have z:j - σ.length=0:=by
     obtain ⟨l,_⟩:=Qy e;simpa using l
    have:j=σ.length:=by lia
    subst this;rw[Nat.sub_self] at e;obtain rfl:=Qb e;rw[List.length_append,if_pos rfl];exact ho
  ·show z5.objs.size<=if j=σ.length then a else ρ j
   split
   ·exact h0
   ·exact R.high j (by simp at hj;lia)
  ·have e:(if j=σ.length then a else ρ j)=(if k=σ.length then a else ρ k):=e
   simp only[List.length_append,List.length_cons,List.length_nil] at hj hk'
   by_cases q:j=σ.length
   ·by_cases q':k=σ.length
    ·rw[q,q']
    ·rw[if_pos q,if_neg q'] at e;have q1:=low k (by lia);rw[<- e] at q1;exact absurd q1 (Nat.not_lt.mpr ha)
   ·by_cases q':k=σ.length
    ·rw[if_neg q,if_pos q'] at e;have q1:=low j (by lia);rw[e] at q1;exact absurd q1 (Nat.not_lt.mpr ha)
    ·rw[if_neg q,if_neg q'] at e;exact R.inj j k (by lia) (by lia) e
noncomputable def ext1 (ρ:Nat->Addr) (n:Nat) (a:Addr):Nat->Addr:=fun j=>if j=n then a else ρ j
theorem dZ (ρ:Nat->Addr) (n:Nat) (a:Addr):ext1 ρ n a n=a:=if_pos rfl
theorem da (ρ:Nat->Addr) {n i:Nat} (a:Addr) (h:i < n):ext1 ρ n a i=ρ i:=if_neg (Qh h)
theorem VRel.ext1 {ρ:Nat->Addr} {n:Nat} {a:Addr} {x:AV} {v:Value} (h:VRel n ρ x v):VRel (n+1) (ext1 ρ n a) x v:=h.mono (Nat.le_succ _) fun _ hi=>da ρ a hi
theorem Stp.new (R:Rel P z5 ρ σ s.heap) {o:AO} {h':Heap} {a:Addr} {t:Nat} (ha:s.heap.objs.size<=a) (hs:s.heap.objs.size<=h'.objs.size) (hk:∀ b o,s.heap.get? b=some o->h'.get? b=some o)
  (ho:ORel P (σ.length+1) (ext1 ρ σ.length a) h' a o):Stp P z5 ρ σ s (ext1 ρ σ.length a) (σ++[o]) { s with heap:=h',toks:=t }:=Stp.new0 R ha hs hk ho
theorem Stp.push (R:Rel P z5 ρ σ s.heap) {o:AO} {ob:Obj} {t:Nat}
  (ho:ORel P (σ.length+1) (TE.ext1 ρ σ.length s.heap.objs.size) (s.heap.push ob) s.heap.objs.size o):Stp P z5 ρ σ s (TE.ext1 ρ σ.length s.heap.objs.size) (σ++[o]) { s with heap:=s.heap.push ob,toks:=t } :=
 Stp.new R (Qa _) (by rw[Qs];exact Nat.le_succ _) (fun _ _ e=>Qe _ e) ho
theorem f8 {σ:List AO} {o:AO} {ρ:Nat->Addr} {a:Addr}:VRel (σ++[o]).length (TE.ext1 ρ σ.length a) (.ptr σ.length) (.ref a):=⟨by simp,by rw[dZ]⟩
end
end TE
namespace TE
set_option genSizeOf false
set_option genInjectivity false
set_option backward.match.sparseCases false
set_option tactic.hygienic false
structure ES where
 hp:List AO
 dec:List Nat
noncomputable def EM (α:Type):Type:=ES->Option (α×ES×List Prop)
namespace EM
noncomputable def ret {α:Type} (a:α):EM α:=fun es=>some (a,es,[])
noncomputable def fail {α:Type}:EM α:=fun _=>none
noncomputable def bnd {α β:Type} (m:EM α) (f:α->EM β):EM β:=fun es=>match m es with
 | none=>none
 | some (a,es1,p1)=>match f a es1 with
  | none=>none
  | some (b,es2,p2)=>some (b,es2,p1++p2)
noncomputable instance:Monad EM where
 pure:=ret
 bind:=bnd
noncomputable def obj (i:Nat):EM AO:=fun es=>match es.hp[i]? with | some o=>some (o,es,[]) | none=>none
noncomputable def set (i:Nat) (o:AO):EM Unit:=fun es=>some ((),⟨es.hp.set i o,es.dec⟩,[])
noncomputable def new (o:AO):EM Nat:=fun es=>some (es.hp.length,⟨es.hp++[o],es.dec⟩,[])
noncomputable def chk {α:Type} (b:Bool) (m:EM α):EM α:=match b with | true=>m | false=>fail
noncomputable def lift {α:Type} (x:Option α):EM α:=match x with | some a=>ret a | none=>fail
noncomputable def need (p:Prop):EM Unit:=fun es=>some ((),es,[p])
noncomputable def guess (i:Int):EM Nat:=fun es=>match es.dec with
 | d::r=>some (d,⟨es.hp,r⟩,[i=(d:Int)])
 | []=>none
noncomputable def ask (p:Prop):EM Bool:=fun es=>match es.dec with
 | 0::r=>some (false,⟨es.hp,r⟩,[¬ p])
 | _::r=>some (true,⟨es.hp,r⟩,[p])
 | []=>none
end EM
inductive eb where
 | fn (f:Addr)
 | val (v:AV)
 | absent
structure cJ where
 name:Str
 qual:Str
 params:Arguments
 body:List Stmt
 scope:Scope
 dflts:List (Str×AV)
structure Tab where
 glob:List (Str×AV)
 cobj:Addr->Option AO
 cls:Addr->List (Str×eb)
 init:Addr->Option Addr
 fn:Addr->Option cJ
inductive AF where
 | next | brk | cont
 | ret (v:AV)
structure cy where
 e:Expr->Nat->Scope->EM AV
 s:Stmt->Nat->Scope->EM AF
structure Ev where
 e:Expr->EM AV
 t:Expr->EM Bool
 s:Stmt->EM AF
noncomputable def aa:Nat:=100000
noncomputable def lc (a b:AV):EM AV:=match a,b with
 | .str a,.str b=>EM.chk (Nat.ble (a.length+b.length) aa) (EM.ret (.str (a++b)))
 | .sstr a,.str b=>do EM.need (a.length+b.length<=aa);EM.ret (.sstr (a++b))
 | .str a,.sstr b=>do EM.need (a.length+b.length<=aa);EM.ret (.sstr (a++b))
 | .sstr a,.sstr b=>do EM.need (a.length+b.length<=aa);EM.ret (.sstr (a++b))
 | _,_=>EM.fail
noncomputable def eqA (a b:AV):EM Bool:=match a,b with
 | .str a,.str b=>EM.ret (seq a b)
 | .sstr a,.str b=>EM.ask (a=b)
 | .str a,.sstr b=>EM.ask (a=b)
 | .sstr a,.sstr b=>EM.ask (a=b)
 | .none,.str _=>EM.ret false
 | .int a,.int b=>EM.ret (decide (a=b))
 | .bool a,.bool b=>EM.ret (a==b)
 | .sint a,.int b=>EM.ask (a=b)
 | .sint a,.sint b=>EM.ask (a=b)
 | .int a,.sint b=>EM.ask (a=b)
 | _,_=>EM.fail
noncomputable def bQ:List AV->Option (List Str)
 | []=>some []
 | .str s::r=>match bQ r with
  | some l=>some (s::l)
  | none=>none
 | _::_=>none
noncomputable def eK:List AV->Option (List Int)
 | []=>some []
 | .int s::r=>match eK r with
  | some l=>some (s::l)
  | none=>none
 | _::_=>none
noncomputable def aA (s:Str):List Str->Bool
 | []=>false
 | a::r=>match seq a s with | true=>true | false=>aA s r
noncomputable def dM (s:Int):List Int->Bool
 | []=>false
 | a::r=>match decide (a=s) with | true=>true | false=>dM s r
noncomputable def gy (v:AV) (xs:List AV):EM Bool:=match v with
 | .str s=>match bQ xs with
  | some l=>EM.ret (aA s l)
  | none=>EM.fail
 | .sstr s=>match bQ xs with
  | some l=>EM.ask (s∈l)
  | none=>EM.fail
 | .int s=>match eK xs with
  | some l=>EM.ret (dM s l)
  | none=>EM.fail
 | .sint s=>match eK xs with
  | some l=>EM.ask (s∈l)
  | none=>EM.fail
 | _=>EM.fail
noncomputable def aY:AV->Option (Int×Bool)
 | .int x=>some (x,false)
 | .sint x=>some (x,true)
 | _=>none
noncomputable def bZ (op:CmpOp) (x y:Int):Prop:=match op with
 | .Lt=>x < y
 | .LtE=>x<=y
 | .Gt=>x > y
 | .GtE=>x≥y
 | _=>False
noncomputable def jt (op:CmpOp) (x y:Int):Bool:=match op with
 | .Lt=>decide (x < y)
 | .LtE=>decide (x<=y)
 | .Gt=>decide (x > y)
 | .GtE=>decide (x≥y)
 | _=>false
noncomputable def iE (op:CmpOp) (a b:AV):EM Bool:=match aY a,aY b with
 | some (x,p),some (y,q)=>match p||q with
  | true=>EM.ask (bZ op x y)
  | false=>EM.ret (jt op x y)
 | _,_=>EM.fail
noncomputable def iG (f:Int->Int->Int) (a b:AV):EM AV:=match aY a,aY b with
 | some (x,p),some (y,q)=>match p||q with
  | true=>EM.ret (.sint (f x y))
  | false=>EM.ret (.int (f x y))
 | _,_=>EM.fail
noncomputable def G8 (a b:AV):EM AV:=match aY a with
 | some _=>iG (·+·) a b
 | none=>lc a b
section
variable (T:Tab) (call:Addr->List AV->EM AV) (hook:cy) (fr:Nat) (scope:Scope) (cells:List (Str×Nat))
noncomputable def cv (v:AV):EM AO:=match v with
 | .ptr i=>EM.obj i
 | .con (.ref a)=>EM.lift (T.cobj a)
 | _=>EM.fail
noncomputable def locals:EM (List (Str×AV)):=do
 match <- EM.obj fr with
 | .ns loc=>EM.ret loc
 | _=>EM.fail
noncomputable def eI (x:Str):EM AV :=
 match lk scope.names x with
 | some .local=>do EM.lift (lk (<- locals fr) x)
 | some .globalImplicit=>EM.lift (lk T.glob x)
 | some .cell=>do
  match lk cells x with
  | some i=>(match <- EM.obj i with
   | .cell (some v)=>EM.ret v
   | _=>EM.fail)
  | none=>EM.fail
 | _=>EM.fail
noncomputable def putName (x:Str) (v:AV):EM Unit :=
 match lk scope.names x with
 | some .local=>do EM.set fr (.ns (put (<- locals fr) x v))
 | some .cell=>do
  match lk cells x with
  | some i=>(match <- EM.obj i with
   | .cell _=>EM.set i (.cell (some v))
   | _=>EM.fail)
  | none=>EM.fail
 | _=>EM.fail
noncomputable def ij (i:Nat):EM (Addr×Nat×List (Str×AV)):=do
 match <- EM.obj i with
 | .inst C d=>do
  match <- EM.obj d with
  | .dict es=>EM.ret (C,d,es)
  | _=>EM.fail
 | _=>EM.fail
noncomputable def iC (a:AV):EM AV:=match a with
 | .con _=>EM.fail
 | a=>EM.ret a
noncomputable def jP (v:AV) (name:Str):EM AV:=match v with
 | .ptr i=>do
  let (C,_,es) <- ij i
  match lk es name,lk (T.cls C) name with
  | some a,some .absent=>iC a
  | none,some (.val a)=>EM.ret a
  | none,some (.fn f)=>do let p <- EM.new (.meth f v);EM.ret (.ptr p)
  | _,_=>EM.fail
 | _=>EM.fail
noncomputable def l9 (v:AV) (name:Str) (x:AV):EM Unit:=match v with
 | .ptr i=>do
  let (C,d,es) <- ij i
  match lk (T.cls C) name with
  | some .absent=>EM.chk (Nat.blt es.length 500) (EM.set d (.dict (put es name x)))
  | _=>EM.fail
 | _=>EM.fail
noncomputable def fO (name:Str):Option BI:=match seq name ⟨#[97,112,112,101,110,100]⟩ with
 | true=>some .lAppend
 | false=>match seq name ⟨#[112,111,112]⟩ with
  | true=>some .lPop
  | false=>none
noncomputable def fK (name:Str):Option BI:=match seq name ⟨#[99,111,117,110,116]⟩ with
 | true=>some .sCount
 | false=>match seq name ⟨#[114,102,105,110,100]⟩ with
  | true=>some .sRfind
  | false=>match seq name ⟨#[114,101,112,108,97,99,101]⟩ with
   | true=>some .sReplace
   | false=>match seq name ⟨#[106,111,105,110]⟩ with
    | true=>some .sJoin
    | false=>none
noncomputable def j6 (v:AV) (name:Str):EM (AV×List AV):=match v with
 | .ptr i=>do
  match <- EM.obj i with
  | .inst C d=>do
   match <- EM.obj d with
   | .dict es =>
    match lk es name,lk (T.cls C) name with
    | some a,some .absent=>do let b <- iC a;EM.ret (b,[])
    | none,some (.fn f)=>EM.ret (.con (.ref f),[v])
    | _,_=>EM.fail
   | _=>EM.fail
  | .list _=>match fO name with
   | some b=>EM.ret (.bi b,[v])
   | none=>EM.fail
  | .snoc _ _=>match fO name with
   | some b=>EM.ret (.bi b,[v])
   | none=>EM.fail
  | .numl _=>match fO name with
   | some b=>EM.ret (.bi b,[v])
   | none=>EM.fail
  | _=>EM.fail
 | .str _=>match fK name with
  | some b=>EM.ret (.bi b,[v])
  | none=>EM.fail
 | .sstr _=>match fK name with
  | some b=>EM.ret (.bi b,[v])
  | none=>EM.fail
 | _=>EM.fail
noncomputable def r9 (o:AO):EM (Str×AV):=match o with
 | .list [.sstr k,v]=>EM.ret (k,v)
 | _=>EM.fail
noncomputable def mv:List AV->EM (List (Str×AV))
 | []=>EM.ret []
 | .ptr i::r=>do
  let o <- EM.obj i
  let p <- r9 o
  let l <- mv r
  EM.ret (p::l)
 | _=>EM.fail
noncomputable def rR (i:Nat) (x:AV):EM AV:=do
 match <- EM.obj i with
 | .list xs=>EM.chk (Nat.blt xs.length aa) (do EM.set i (.list (xs++[x]));EM.ret .none)
 | .snoc ys xs=>do EM.need (ys.length+xs.length < aa);EM.set i (.snoc ys (xs++[x]));EM.ret .none
 | _=>EM.fail
noncomputable def t6 (i:Nat):EM AV:=do
 match <- EM.obj i with
 | .list (x::r)=>EM.chk (Nat.blt r.length aa) (do EM.set i (.list r);EM.ret x)
 | .numl (x::r)=>do EM.need (r.length < aa);EM.set i (.numl r);EM.ret (.sint x)
 | _=>EM.fail
noncomputable def uc (i:Nat):EM AV:=do
 match <- EM.obj i with
 | .list xs=>EM.chk (Nat.blt xs.length aa) (EM.ret (.int xs.length))
 | .dict es=>EM.chk (Nat.blt es.length 500) (EM.ret (.int es.length))
 | _=>EM.fail
noncomputable def tM (i:Nat):EM AV:=do
 match <- EM.obj i with
 | .list xs=>EM.chk (Nat.blt xs.length 8) (do
  let l <- mv xs
  EM.need (l.map (·.1)).Nodup
  let p <- EM.new (.dict l)
  EM.ret (.ptr p))
 | _=>EM.fail
noncomputable def nD (y:AV):EM AV:=match y with
 | .ptr i=>do
  match <- EM.obj i with
  | .list []=>EM.ret (.str ⟨#[]⟩)
  | .list [.sstr s]=>do EM.need (s.length<=aa);EM.ret (.sstr s)
  | _=>EM.fail
 | _=>EM.fail
noncomputable def th (s a:Str):EM AV:=do
 EM.need (Builtin.Str.occurrences s a 0 s.length (s.length+1)=[])
 EM.ret (.sstr s)
noncomputable def ku (b:BI) (s p:Str) (k:Int):EM AV:=match b with
 | .sCount=>do EM.need (k=s.length/\s.length<=aa);EM.ret (.sint (Txt.count s p))
 | .sRfind=>do EM.need (k=s.length/\s.length<=aa);EM.ret (.sint (Txt.rfind s p))
 | _=>EM.fail
noncomputable def sU (b:BI) (x:AV):EM AV:=match x with
 | .ptr i=>(match b with
  | .len=>uc i
  | .dict=>tM i
  | _=>EM.fail)
 | .sstr s=>(match b with
  | .len=>do EM.need (s.length<=aa);EM.ret (.sint s.length)
  | .ord=>do EM.need (s.length=1);EM.ret (.sint (s.cps.getD 0 0:Nat))
  | _=>EM.fail)
 | _=>EM.fail
noncomputable def sT (b:BI) (x y:AV):EM AV:=match x with
 | .ptr i=>(match b with
  | .lAppend=>rR i y
  | .lPop=>(match y with
   | .int 0=>t6 i
   | _=>EM.fail)
  | _=>EM.fail)
 | .str s=>(match b with
  | .sJoin=>EM.chk (seq s ⟨#[]⟩) (nD y)
  | _=>EM.fail)
 | _=>EM.fail
noncomputable def sS (b:BI) (x y z:AV):EM AV:=match x with
 | .sstr s=>(match y with
  | .str p=>(match z with
   | .str _=>(match b with
    | .sReplace=>th s p
    | _=>EM.fail)
   | _=>EM.fail)
  | _=>EM.fail)
 | _=>EM.fail
noncomputable def sR (b:BI) (x y z u:AV):EM AV:=match x with
 | .sstr s=>(match y with
  | .str p=>(match z with
   | .int i=>(match u with
    | .sint k=>EM.chk (decide (i=0)) (ku b s p k)
    | _=>EM.fail)
   | _=>EM.fail)
  | _=>EM.fail)
 | _=>EM.fail
noncomputable def tO (b:BI) (args:List AV):EM AV:=match args with
 | [x]=>sU b x
 | [x,y]=>sT b x y
 | [x,y,z]=>sS b x y z
 | [x,y,z,u]=>sR b x y z u
 | _=>EM.fail
noncomputable def fQ (f:AV) (args:List AV):EM AV:=match f with
 | .con (.ref a)=>match T.init a with
  | some fI=>do
   let d <- EM.new (.dict [])
   let x <- EM.new (.inst a d)
   match <- call fI (.ptr x::args) with
   | .none=>EM.ret (.ptr x)
   | _=>EM.fail
  | none=>call a args
 | .ptr i=>do
  match <- EM.obj i with
  | .meth g self=>call g (self::args)
  | _=>EM.fail
 | .bi b=>tO b args
 | _=>EM.fail
noncomputable def gL (v:AV):EM Bool:=match v with
 | .bool b=>EM.ret b
 | .none=>EM.ret false
 | .int i=>EM.ret (!decide (i=0))
 | .sint i=>EM.ask (i≠0)
 | .sstr s=>do EM.need (s.length<=aa);EM.ask (s.length≠0)
 | .ptr i=>do match <- EM.obj i with
  | .list xs=>EM.chk (Nat.blt xs.length aa) (match xs with | []=>EM.ret false | _::_=>EM.ret true)
  | .snoc ys xs=>do
   EM.need (ys.length+xs.length < aa)
   match xs with
   | []=>EM.fail
   | _::_=>EM.ret true
  | .numl ns=>do
   EM.need (ns.length < aa)
   match ns with
   | []=>EM.ret false
   | _::_=>EM.ret true
  | .meth _ _=>EM.ret true
  | _=>EM.fail
 | _=>EM.fail
noncomputable def AD (xs:List AV):Int->EM AV
 | .ofNat j=>EM.lift xs[j]?
 | .negSucc 0=>EM.lift xs.getLast?
 | _=>EM.fail
noncomputable def CQ (l:List Str) (k:Int):EM AV:=fun es=>match es.dec with
 | 0::r=>some (.sstr (l.getD k.toNat ⟨#[]⟩),⟨es.hp,r⟩,[0<=k/\k < (l.length:Int)])
 | (j+1)::r=>match l[j]? with
  | some x=>some (.str x,⟨es.hp,r⟩,[k=(j:Int)])
  | none=>none
 | []=>none
noncomputable def jd (o:AO) (i:AV):EM AV:=match o with
 | .dict es=>(match i with
  | .str k=>EM.lift (lk es k)
  | _=>EM.fail)
 | .list xs=>(match i with
  | .int k=>EM.chk (Nat.blt xs.length aa) (AD xs k)
  | .sint k=>EM.chk (Nat.blt xs.length aa) (match bQ xs with
   | some l=>CQ l k
   | none=>EM.fail)
  | _=>EM.fail)
 | .snoc ys xs=>(match i with
  | .int (.negSucc 0)=>do EM.need (ys.length+xs.length < aa);EM.lift xs.getLast?
  | _=>EM.fail)
 | .tuple xs=>(match i with
  | .int (.ofNat j)=>EM.chk (Nat.blt j 1000) (EM.lift xs[j]?)
  | _=>EM.fail)
 | _=>EM.fail
noncomputable def qK (s:Str) (i:AV):EM AV:=match i with
 | .int (.ofNat k)=>do EM.need (k < s.length/\s.length<=aa);EM.ret (.sstr ⟨#[s.cps.getD k 0]⟩)
 | .sint k=>do EM.need (0<=k/\k < (s.length:Int)/\s.length<=aa);EM.ret (.sstr ⟨#[s.cps.getD k.toNat 0]⟩)
 | .int (.negSucc 0)=>do EM.need (0 < s.length/\s.length<=aa);EM.ret (.sstr ⟨#[s.cps.getD (s.length - 1) 0]⟩)
 | _=>EM.fail
noncomputable def fu (o i:AV):EM AV:=match o with
 | .sstr s=>qK s i
 | o=>do jd (<- cv T o) i
noncomputable def Ct (p:Nat) (xs:List AV) (x:AV):Int->EM Unit
 | .ofNat j=>EM.chk (Nat.blt j xs.length) (EM.set p (.list (xs.set j x)))
 | .negSucc 0=>EM.chk (Nat.blt 0 xs.length) (EM.set p (.list (xs.set (xs.length - 1) x)))
 | _=>EM.fail
noncomputable def FL (p:Nat) (o:AO) (i x:AV):EM Unit:=match o with
 | .dict es=>(match i with
  | .str k=>EM.chk (Nat.blt es.length 500) (EM.set p (.dict (put es k x)))
  | _=>EM.fail)
 | .list xs=>(match i with
  | .int k=>EM.chk (Nat.blt xs.length aa) (Ct p xs x k)
  | _=>EM.fail)
 | .snoc ys xs=>(match i with
  | .int (.negSucc 0)=>do
   EM.need (ys.length+xs.length < aa)
   EM.chk (Nat.blt 0 xs.length) (EM.set p (.snoc ys (xs.set (xs.length - 1) x)))
  | _=>EM.fail)
 | _=>EM.fail
noncomputable def l8 (o i x:AV):EM Unit:=match o with
 | .ptr p=>do FL p (<- EM.obj p) i x
 | _=>EM.fail
noncomputable def rl (a:AV):EM Bool:=match a with
 | .none=>EM.ret true
 | .con _=>EM.fail
 | _=>EM.ret false
noncomputable def mt (o:AO) (hv:AV):EM AV:=match o with
 | .list xs=>(match hv with
  | .int (.negSucc 0)=>EM.chk (Nat.blt xs.length aa&&Nat.blt 0 xs.length) (do let p <- EM.new (.list xs.dropLast);EM.ret (.ptr p))
  | .sint k=>EM.chk (Nat.blt xs.length aa) (do let j <- EM.guess k;EM.chk (Nat.ble j xs.length) (do let p <- EM.new (.list (xs.take j));EM.ret (.ptr p)))
  | _=>EM.fail)
 | _=>EM.fail
noncomputable def s9 (s:Str) (i:Int) (h:Option AV):EM AV:=match h with
 | none=>do EM.need (s.length<=aa);EM.ret (.sstr (Txt.slice s (some i) none))
 | some v=>(match aY v with
  | some (j,_)=>do EM.need (s.length<=aa);EM.ret (.sstr (Txt.slice s (some i) (some j)))
  | none=>EM.fail)
noncomputable def mq (o l:AV) (h:Option AV):EM AV:=match o with
 | .sstr s=>(match aY l with
  | some (i,_)=>s9 s i h
  | none=>EM.fail)
 | _=>EM.fail
noncomputable def fe (op:CmpOp) (a b:AV):EM AV:=match op with
 | .Eq=>do let c <- eqA a b;EM.ret (.bool c)
 | .NotEq=>(match aY a,aY b with
  | some (x,_),some (y,_)=>do let c <- EM.ask (x≠y);EM.ret (.bool c)
  | _,_=>EM.fail)
 | .Is=>(match b with | .none=>(do let c <- rl a;EM.ret (.bool c)) | _=>EM.fail)
 | .In=>do match <- cv T b with
  | .tuple xs=>do let c <- gy a xs;EM.ret (.bool c)
  | _=>EM.fail
 | .NotIn=>(match a,b with
  | .str x,.str y=>EM.ret (.bool (match Builtin.Str.occurrences y x 0 y.length 1 with | []=>true | _::_=>false))
  | _,_=>EM.fail)
 | .Lt=>do let c <- iE .Lt a b;EM.ret (.bool c)
 | .LtE=>do let c <- iE .LtE a b;EM.ret (.bool c)
 | .Gt=>do let c <- iE .Gt a b;EM.ret (.bool c)
 | .GtE=>do let c <- iE .GtE a b;EM.ret (.bool c)
 | _=>EM.fail
noncomputable def g0 (op:Operator) (a b:AV):EM AV:=match op with
 | .Add=>G8 a b
 | .Sub=>iG (· - ·) a b
 | .Mod=>match a,b with
  | .sint x,.int y=>EM.chk (decide (0 < y)&&decide (y < 1000000)) (EM.ret (.sint (Int.fmod x y)))
  | _,_=>EM.fail
 | .FloorDiv=>match a,b with
  | .sint x,.int y=>EM.chk (decide (0 < y)&&decide (y < 1000000)) (EM.ret (.sint (Int.fdiv x y)))
  | _,_=>EM.fail
 | _=>EM.fail
noncomputable def eL (f:Expr->EM AV):List Expr->EM (List AV)
 | []=>EM.ret []
 | e::r=>do let v <- f e;let vs <- eL f r;EM.ret (v::vs)
noncomputable def b0:Expr->Bool
 | .Starred ..=>true
 | _=>false
noncomputable def ng:Expr->Bool
 | .ListComp ..=>true
 | .SetComp ..=>true
 | .DictComp ..=>true
 | _=>false
noncomputable def tE:Expr->Bool
 | .Set ..=>true
 | _=>false
noncomputable def tC:Expr->Bool
 | .Tuple ..=>true
 | _=>false
noncomputable def gD:Expr->Bool
 | .Call (.Name _ _) [] [] _=>false
 | _=>true
noncomputable def sP:Const->EM AV
 | .none=>EM.ret .none
 | .bool b=>EM.ret (.bool b)
 | .int i=>EM.ret (.int i)
 | .str s=>EM.ret (.str s)
 | _=>EM.fail
noncomputable def iw:Option Expr->Option Str
 | some (.Constant (.str k) _ _)=>some k
 | _=>none
noncomputable def gO (f:Expr->EM AV):List (Option Expr)->List Expr->EM (List (Str×AV))
 | [],[]=>EM.ret []
 | x::ks,e::es=>match iw x with
  | some k=>do
   let v <- f e
   let r <- gO f ks es
   match lk r k with
   | none=>EM.ret ((k,v)::r)
   | some _=>EM.fail
  | none=>EM.fail
 | _,_=>EM.fail
noncomputable def h7:Expr->Bool
 | .Constant ..=>true
 | .UnaryOp ..=>true
 | .BinOp ..=>true
 | .Name ..=>true
 | _=>false
noncomputable def jW:Expr->Option (Expr×Option Expr)
 | .Slice (some lo) hi none _=>some (lo,hi)
 | _=>none
noncomputable def nH (f:Expr->EM AV):Option Expr->EM (Option AV)
 | none=>EM.ret none
 | some e=>do let v <- f e;EM.ret (some v)
noncomputable def jX:Expr->Option Expr
 | .Slice none (some hi) none _=>some hi
 | _=>none
noncomputable def ke:Expr->List Expr->Bool
 | .Constant ..,[.ListComp ..]=>true
 | _,_=>false
noncomputable def kP (f:Expr->EM AV) (op:BoolOp):List Expr->EM AV
 | []=>EM.fail
 | [e]=>f e
 | e::d::r=>do
  match <- f e with
  | .bool b=>(match op,b with
   | .And,false=>EM.ret (.bool false)
   | .Or,true=>EM.ret (.bool true)
   | _,_=>kP f op (d::r))
  | _=>EM.fail
noncomputable def td (r:Ev) (e:Expr):EM AV:=match e with
 | .BoolOp op xs _=>kP r.e op xs
 | .Compare l [op1,op2] [x,y] _=>EM.chk (!behindInMarks op2 y) do
  let a <- r.e l
  let b <- r.e x
  match <- fe T op1 a b with
  | .bool true=>do
   let c <- r.e y
   fe T op2 b c
  | .bool false=>EM.ret (.bool false)
  | _=>EM.fail
 | .Constant c _ _=>sP c
 | .Name x _=>EM.chk (!seq x "__debug__") (eI T fr scope cells x)
 | .Attribute o a _=>EM.chk (gD o) do let ov <- r.e o;jP T ov a
 | .Call (.Attribute o name ap) args [] p=>(match ke o args with
  | true=>hook.e (.Call (.Attribute o name ap) args [] p) fr scope
  | false=>EM.chk (gD o&&Nat.beq ap.endLine p.line&&!(args.any b0)&&Nat.blt args.length 7) do
   let ov <- r.e o
   let m <- j6 T ov name
   let vs <- eL r.e args
   fQ T call m.1 (m.2++vs))
 | .Call (.Name g p) args [] _=>EM.chk (!(args.any b0)&&Nat.blt args.length 7) do
  let f <- r.e (.Name g p)
  let vs <- eL r.e args
  fQ T call f vs
 | .Compare l [op] [x] _=>EM.chk (!behindInMarks op x) do
  let a <- r.e l
  let b <- r.e x
  fe T op a b
 | .BinOp l op x _=>do
  let a <- r.e l
  let b <- r.e x
  g0 op a b
 | .UnaryOp .USub (.Constant (.int i) _ _) _=>EM.ret (.int (-i))
 | .IfExp c x y _=>do
  match <- r.t c with
  | true=>r.e x
  | false=>r.e y
 | .Subscript o ix _=>(match jX ix with
  | some hi=>do
   let ov <- r.e o
   let hv <- r.e hi
   let ob <- cv T ov
   mt ob hv
  | none=>(match jW ix with
   | some (lo,hi)=>do
    let ov <- r.e o
    let lv <- r.e lo
    let hv <- nH r.e hi
    mq ov lv hv
   | none=>EM.chk (h7 ix) do
    let ov <- r.e o
    let iv <- r.e ix
    fu T ov iv))
 | .List elts _=>EM.chk (!(elts.any b0)&&Nat.blt elts.length aa) do
  let vs <- eL r.e elts
  let p <- EM.new (.list vs)
  EM.ret (.ptr p)
 | .Tuple elts _ _=>EM.chk (!(elts.any b0)&&Nat.blt elts.length aa) do
  let vs <- eL r.e elts
  let p <- EM.new (.tuple vs)
  EM.ret (.ptr p)
 | .Dict keys values _=>EM.chk (Nat.blt keys.length 10&&Nat.blt 0 keys.length) do
  let es <- gO r.e keys values
  let p <- EM.new (.dict es)
  EM.ret (.ptr p)
 | .ListComp a b c d=>hook.e (.ListComp a b c d) fr scope
 | _=>EM.fail
noncomputable def iM (f:Expr->EM Bool) (op:BoolOp):List Expr->EM Bool
 | []=>EM.ret (match op with | .And=>true | .Or=>false)
 | e::r=>do
  match op,<- f e with
  | .And,false=>EM.ret false
  | .Or,true=>EM.ret true
  | _,_=>iM f op r
noncomputable def ta (r:Ev) (e:Expr):EM Bool:=match e with
 | .UnaryOp .Not x _=>do let b <- r.t x;EM.ret (!b)
 | .BoolOp op xs _=>iM r.t op xs
 | .Compare l [op] [x] _=>EM.chk (!behindInMarks op x) do
  let a <- r.e l
  let b <- r.e x
  match <- fe T op a b with
  | .bool c=>EM.ret c
  | _=>EM.fail
 | .Compare l [op1,op2] [x,y] _=>EM.chk (!behindInMarks op2 y) do
  let a <- r.e l
  let b <- r.e x
  match <- fe T op1 a b with
  | .bool true=>do
   let c <- r.e y
   match <- fe T op2 b c with
   | .bool d=>EM.ret d
   | _=>EM.fail
  | .bool false=>EM.ret false
  | _=>EM.fail
 | .Constant (.bool b) _ _=>EM.ret b
 | .Name x p=>do let v <- r.e (.Name x p);gL v
 | .Attribute o a p=>do let v <- r.e (.Attribute o a p);gL v
 | .Call f a k p=>do let v <- r.e (.Call f a k p);gL v
 | .Subscript a b p=>do let v <- r.e (.Subscript a b p);gL v
 | .BinOp a b c p=>do let v <- r.e (.BinOp a b c p);gL v
 | _=>EM.fail
noncomputable def ge (r:Ev) (t:Expr) (v:AV):EM Unit:=match t with
 | .Name x _=>putName fr scope cells x v
 | .Attribute o a _=>do let ov <- r.e o;l9 T ov a v
 | .Subscript o ix _=>EM.chk (h7 ix) do
  let ov <- r.e o
  let iv <- r.e ix
  l8 ov iv v
 | _=>EM.fail
noncomputable def j8 (r:Ev) (t:Expr) (v:AV):EM Unit:=match t with
 | .Tuple [t1,t2] _ _=>EM.chk (!b0 t1&&!b0 t2) do
  match <- cv T v with
  | .tuple xs=>(match xs with
   | [a,b]=>do ge T fr scope cells r t1 a;ge T fr scope cells r t2 b
   | _=>EM.fail)
  | .list xs=>(match xs with
   | [a,b]=>do ge T fr scope cells r t1 a;ge T fr scope cells r t2 b
   | _=>EM.fail)
  | _=>EM.fail
 | t=>ge T fr scope cells r t v
noncomputable def cH (f:Stmt->EM AF):List Stmt->EM AF
 | []=>EM.ret .next
 | st::rest=>do
  match <- f st with
  | .next=>cH f rest
  | fl=>EM.ret fl
noncomputable def forLoop (r:Ev) (target:Expr) (body:List Stmt) (it:Nat):Nat->EM AF
 | 0=>EM.fail
 | k+1=>do
  match <- EM.obj it with
  | .iter l i=>do
   match <- cv T l with
   | .list xs=>EM.chk (Nat.blt xs.length aa) (match xs[i]? with
    | none=>do EM.set it .dead;EM.ret .next
    | some a=>do
     EM.set it (.iter l (i+1))
     j8 T fr scope cells r target a
     match <- cH r.s body with
     | .next=>forLoop r target body it k
     | .cont=>forLoop r target body it k
     | .brk=>EM.ret .next
     | .ret v=>EM.ret (.ret v))
   | _=>EM.fail
  | _=>EM.fail
noncomputable def whileLoop (r:Ev) (test:Expr) (body:List Stmt):Nat->EM AF
 | 0=>EM.fail
 | k+1=>do
  match <- r.t test with
  | false=>EM.ret .next
  | true=>do
   match <- cH r.s body with
   | .next=>whileLoop r test body k
   | .cont=>whileLoop r test body k
   | .brk=>EM.ret .next
   | .ret v=>EM.ret (.ret v)
noncomputable def tD:Expr->Bool
 | .Subscript ..=>true
 | _=>false
noncomputable def tF:Operator->Bool
 | .Add=>true
 | _=>false
noncomputable def nf:Expr->Bool
 | .Name ..=>true
 | _=>false
noncomputable def mD:Expr->Bool
 | .Constant c _ _=>(match c with
  | .bool b=>b
  | _=>false)
 | _=>false
noncomputable def G7 (r:Ev) (t value:Expr):EM AF:=match t with
 | .Name x _=>do
  let old <- eI T fr scope cells x
  let v <- r.e value
  let new <- g0 .Add old v
  putName fr scope cells x new
  EM.ret .next
 | .Attribute o a _=>do
  let ov <- r.e o
  let old <- jP T ov a
  let v <- r.e value
  let new <- g0 .Add old v
  l9 T ov a new
  EM.ret .next
 | .Subscript o ix _=>EM.chk (h7 ix) do
  let ov <- r.e o
  let iv <- r.e ix
  let old <- fu T ov iv
  let v <- r.e value
  let new <- g0 .Add old v
  l8 ov iv new
  EM.ret .next
 | _=>EM.fail
noncomputable def tv (r:Ev) (target iter:Expr) (body:List Stmt):EM AF:=do
 let x <- r.e iter
 match x with
 | .ptr i=>do
  match <- EM.obj i with
  | .list _=>do
   let it <- EM.new (.iter x 0)
   forLoop T fr scope cells r target body it 8
  | _=>EM.fail
 | _=>EM.fail
noncomputable def tc (r:Ev) (st:Stmt):EM AF:=match st with
 | .Expr e _=>EM.chk (!ng e) do
  let _ <- r.e e
  EM.ret .next
 | .Pass _=>EM.ret .next
 | .Break _=>EM.ret .brk
 | .Return v _=>(match v with
  | some e=>do let v <- r.e e;EM.ret (.ret v)
  | none=>EM.fail)
 | .Assign ts value _=>(match ts with
  | [t]=>EM.chk (!ng value&&(!tC value||tD t)) do
   let v <- r.e value
   j8 T fr scope cells r t v
   EM.ret .next
  | _=>EM.fail)
 | .AugAssign t op value _=>EM.chk (tF op) (G7 T fr scope cells r t value)
 | .If test body orelse _=>do
  match <- r.t test with
  | true=>cH r.s body
  | false=>cH r.s orelse
 | .While test body orelse p=>(match orelse with
  | []=>(match mD test with
   | true=>whileLoop r test body 3
   | false=>hook.s (.While test body [] p) fr scope)
  | _::_=>EM.fail)
 | .For target iter body orelse p=>(match orelse with
  | []=>(match nf iter with
   | true=>hook.s (.For target iter body [] p) fr scope
   | false=>EM.chk (!tE iter) (tv T fr scope cells r target iter body))
  | _::_=>EM.fail)
 | _=>EM.fail
noncomputable def ev:Nat->Ev
 | 0=>⟨fun _=>EM.fail,fun _=>EM.fail,fun _=>EM.fail⟩
 | n+1=>⟨td T call hook fr scope cells (ev n),ta T (ev n),tc T hook fr scope cells (ev n)⟩
end
noncomputable def bF (dfl:List (Str×AV)):List Arg->List AV->Option (List (Str×AV))
 | [],[]=>some []
 | a::r,v::vs=>match bF dfl r vs with
  | some l=>some ((a.arg,v)::l)
  | none=>none
 | a::r,[]=>match lk dfl a.arg,bF dfl r [] with
  | some v,some l=>some ((a.arg,v)::l)
  | _,_=>none
 | [],_::_=>none
section
variable (T:Tab) (hook:cy) (spec:Addr->Option (List AV->EM AV))
noncomputable def ky (call:Addr->List AV->EM AV) (f:cJ) (args:List AV):EM AV:=match bF f.dflts f.params.args args with
 | none=>EM.fail
 | some binds=>do
  let fr <- EM.new (.ns binds)
  match <- cH (ev T call hook fr f.scope [] 40).s f.body with
  | .next=>EM.ret .none
  | .ret v=>EM.ret v
  | _=>EM.fail
noncomputable def kg (n:Nat):cy:=match n with
 | n+2=>hook
 | _=>⟨fun _ _ _=>EM.fail,fun _ _ _=>EM.fail⟩
noncomputable def db:Nat->Addr->List AV->EM AV
 | 0=>fun _ _=>EM.fail
 | n+1=>fun f args=>match spec f with
  | some g=>EM.chk (Nat.ble 2 n) (g args)
  | none=>match T.fn f with
   | some r=>ky T (kg hook n) (db n) r args
   | none=>EM.fail
end
end TE
namespace TE
set_option tactic.hygienic false
inductive Bnd {α β:Type} (m:EM α) (f:α->EM β) (es es':ES) (b:β) (pc:List Prop):Prop
 | mk (a:α) (es1:ES) (p1 p2:List Prop) (h1:m es=some (a,es1,p1)) (h2:f a es1=some (b,es',p2)) (h3:pc=p1++p2):Bnd m f es es' b pc
theorem ak {α β:Type} {m:EM α} {f:α->EM β} {es es':ES} {b:β} {pc:List Prop} (h:(m>>=f) es=some (b,es',pc)) :
  Bnd m f es es' b pc:=by
 have h:EM.bnd m f es=some (b,es',pc):=h;unfold EM.bnd at h
 cases q:m es with
 | none=>rw[q] at h;exact non h
 | some x =>
  obtain ⟨a,es1,p1⟩:=x;rw[q] at h;dsimp only at h
  cases q2:f a es1 with
  | none=>rw[q2] at h;exact non h
  | some y =>
   obtain ⟨b',es2,p2⟩:=y;rw[q2] at h
   cases h
   exact ⟨a,es1,p1,p2,q,q2,rfl⟩
theorem eC {α:Type} {a b:α} {es es':ES} {pc:List Prop} (h:EM.ret a es=some (b,es',pc)):b=a/\es'=es/\pc=[]:=by
 cases h;exact ⟨rfl,rfl,rfl⟩
@[elab_as_elim] theorem au {α:Type} {a:α} {es:ES} {C:α->ES->List Prop->Prop} {b:α} {es':ES} {pc:List Prop} (h:EM.ret a es=some (b,es',pc)) (k:C a es []):C b es' pc:=by
 cases h;exact k
theorem dE {α:Type} {b:α} {es es':ES} {pc:List Prop} (h:(EM.fail:EM α) es=some (b,es',pc)):False:=non h
theorem aL {α:Type} {b:α} {es es':ES} {pc:List Prop} {C:Prop} (h:(EM.fail:EM α) es=some (b,es',pc)):C:=non h
theorem bG {i:Nat} {o:AO} {es es':ES} {pc:List Prop} (h:EM.obj i es=some (o,es',pc)):es.hp[i]?=some o/\es'=es/\pc=[]:=by
 unfold EM.obj at h
 split at h
 ·rename_i q;cases h;exact ⟨q,rfl,rfl⟩
 ·exact non h
theorem dY {α:Type} {x:Option α} {a:α} {es es':ES} {pc:List Prop} (h:EM.lift x es=some (a,es',pc)):x=some a/\es'=es/\pc=[]:=by
 unfold EM.lift at h
 cases x with
 | none=>exact non h
 | some b=>cases h;exact ⟨rfl,rfl,rfl⟩
theorem c8 {α:Type} {b:Bool} {m:EM α} {a:α} {es es':ES} {pc:List Prop} (h:EM.chk b m es=some (a,es',pc)):b=true/\m es=some (a,es',pc):=by
 unfold EM.chk at h
 cases b with
 | false=>cases h
 | true=>exact ⟨rfl,h⟩
theorem cR {i:Nat} {o:AO} {u:Unit} {es es':ES} {pc:List Prop} (h:EM.set i o es=some (u,es',pc)):es'=⟨es.hp.set i o,es.dec⟩/\pc=[]:=by
 cases h;exact ⟨rfl,rfl⟩
theorem dF {o:AO} {i:Nat} {es es':ES} {pc:List Prop} (h:EM.new o es=some (i,es',pc)):i=es.hp.length/\es'=⟨es.hp++[o],es.dec⟩/\pc=[]:=by
 cases h;exact ⟨rfl,rfl,rfl⟩
theorem mj {p:Prop} {b:Bool} {es es':ES} {pc:List Prop} (h:EM.ask p es=some (b,es',pc)):es'.hp=es.hp/\((b=true/\pc=[p])\/(b=false/\pc=[¬ p])):=by
 unfold EM.ask at h
 split at h
 ·cases h;exact ⟨rfl,.inr ⟨rfl,rfl⟩⟩
 ·cases h;exact ⟨rfl,.inl ⟨rfl,rfl⟩⟩
 ·cases h
theorem dz {p:Prop} {u:Unit} {es es':ES} {pc:List Prop} (h:EM.need p es=some (u,es',pc)):es'=es/\pc=[p]:=by
 cases h;exact ⟨rfl,rfl⟩
theorem wz {i:Int} {d:Nat} {es es':ES} {pc:List Prop} (h:EM.guess i es=some (d,es',pc)):es'.hp=es.hp/\pc=[i=(d:Int)]:=by
 unfold EM.guess at h
 split at h
 ·cases h;exact ⟨rfl,rfl⟩
 ·cases h
structure Bs (prog:Program) (w:World) (z5:Heap) (K:Frag) (T:Tab):Prop where
 lim:z5.NoLimit
 cobj:∀ a o,T.cobj a=some o->∀ n ρ,ORel w.params n ρ z5 a o
 glob:∃ mg mb,z5.Ns mainGlobals mg/\z5.Ns builtinsNs mb/\∀ x a,lk T.glob x=some a->∃ v,(mg x=some v\/(mg x=none/\mb x=some v))/\∀ n ρ,VRel n ρ a v
structure EnvR (n:Nat) (ρ:Nat->Addr) (env:Env) (fr:Nat) (sc:Scope) (cs:List (Str×Nat)):Prop where
 hscope:env.scope=sc
 hkind:sc.kind=.function
 hco:sc.isCoroutine=false
 hfr:fr < n
 hloc:env.locals=ρ fr
 hglob:env.globals=mainGlobals
 hblt:env.builtins=builtinsNs
 hcells:∀ x i,lk cs x=some i->i < n/\env.cells.lookup x=some (ρ i)
theorem EnvR.mono {n n':Nat} {ρ ρ':Nat->Addr} {env:Env} {fr:Nat} {sc:Scope} {cs:List (Str×Nat)} (hn:n<=n') (he:∀ i,i < n->ρ' i=ρ i) (H:EnvR n ρ env fr sc cs):EnvR n' ρ' env fr sc cs :=
 ⟨H.hscope,H.hkind,H.hco,Qd H.hfr hn,H.hloc.trans (he _ H.hfr).symm,H.hglob,H.hblt,fun x i h=>⟨Qd (H.hcells x i h).1 hn,by rw[he _ (H.hcells x i h).1];exact (H.hcells x i h).2⟩⟩
theorem Stp.env {P:Params} {z5:Heap} {ρ ρ':Nat->Addr} {σ σ':List AO} {s s':Shared} {env:Env} {fr:Nat} {scope:Scope} {cells:List (Str×Nat)} (x:Stp P z5 ρ σ s ρ' σ' s') (H:EnvR σ.length ρ env fr scope cells):EnvR σ'.length ρ' env fr scope cells:=H.mono x.len x.ext
abbrev RV:AV->Nat->(Nat->Addr)->Value->Prop:=fun a n ρ v=>VRel n ρ a v
abbrev RVs:List AV->Nat->(Nat->Addr)->List Value->Prop:=fun a n ρ v=>All2 (VRel n ρ) a v
abbrev RU:Unit->Nat->(Nat->Addr)->Unit->Prop:=fun _ _ _ _=>True
abbrev RB:Bool->Nat->(Nat->Addr)->Bool->Prop:=fun a _ _ b=>b=a
section
variable {prog:Program} {w:World} {z5:Heap}
inductive Out {β:Type} (P:Params) (z5:Heap) (ρ:Nat->Addr) (hp:List AO) (s:Shared) (hp':List AO) (R:Nat->(Nat->Addr)->β->Prop) (b:β) (s':Shared):Prop
 | mk (ρ':Nat->Addr) (S:Stp P z5 ρ hp s ρ' hp' s') (r:R hp'.length ρ' b):Out P z5 ρ hp s hp' R b s'
noncomputable def Tr (prog:Program) (w:World) (z5:Heap) {α β:Type} (A:Around) (m:EM α) (es:ES) (t:Sem β) (ρ:Nat->Addr) (s:Shared) (R:α->Nat->(Nat->Addr)->β->Prop):Prop :=
 ∀ a es' pc,m es=some (a,es',pc)->(∀ p∈pc,p) ->
  wpAny (model prog w) A t (Out w.params z5 ρ es.hp s es'.hp (R a)) (fun _ _=>False) s
theorem Tr.peek {α β γ:Type} {A:Around} {m:EM α} {f:α->EM γ} {es:ES} {t:Sem β} {ρ:Nat->Addr} {s:Shared} {R:γ->Nat->(Nat->Addr)->β->Prop}
  (k:∀ a es1 p1,m es=some (a,es1,p1)->(∀ p∈p1,p)->es1.hp=es.hp/\Tr prog w z5 A (f a) es1 t ρ s R):Tr prog w z5 A (m>>=f) es t ρ s R:=by
 intro c es' pc e z8;replace e:=ak e;obtain ⟨a,es1,p1,p2,e1,e2,rfl⟩:=e;obtain ⟨q,z⟩:=k a es1 p1 e1 fun p hp=>z8 p (Qm _ hp);have:=z c es' p2 e2 fun p hp=>z8 p (Qj _ hp);rw[q] at this;exact this
theorem Tr.chk {α β:Type} {A:Around} {c:Bool} {m:EM α} {es:ES} {t:Sem β} {ρ:Nat->Addr} {s:Shared} {R:α->Nat->(Nat->Addr)->β->Prop}
  (k:c=true->Tr prog w z5 A m es t ρ s R):Tr prog w z5 A (EM.chk c m) es t ρ s R:=by
 intro a es' pc e z8;replace e:=c8 e;obtain ⟨q,e'⟩:=e;exact k q a es' pc e' z8
theorem Tr.need {α β:Type} {A:Around} {p:Prop} {m:EM α} {es:ES} {t:Sem β} {ρ:Nat->Addr} {s:Shared} {R:α->Nat->(Nat->Addr)->β->Prop}
  (k:p->Tr prog w z5 A m es t ρ s R):Tr prog w z5 A (EM.need p>>=fun _=>m) es t ρ s R:=by
 refine Tr.peek fun _ es1 p1 e hp=>?_;replace e:=dz e;obtain ⟨rfl,rfl⟩:=e;exact ⟨rfl,k (hp _ (List.mem_singleton.mpr rfl))⟩
theorem Tr.fail {α β:Type} {A:Around} {es:ES} {t:Sem β} {ρ:Nat->Addr} {s:Shared} {R:α->Nat->(Nat->Addr)->β->Prop}:Tr prog w z5 A (EM.fail:EM α) es t ρ s R:=by
 intro a es' pc e _;exact non e
theorem Tr.via {α β γ:Type} {A A':Around} {m:EM α} {es:ES} {t:Sem β} {t':Sem γ} {f:β->γ} {ρ:Nat->Addr} {s:Shared} {R:α->Nat->(Nat->Addr)->β->Prop} {R':α->Nat->(Nat->Addr)->γ->Prop}
  (h:Tr prog w z5 A m es t ρ s R) (x:∀ (Q:γ->Shared->Prop) (E:Value->Shared->Prop),wpAny (model prog w) A t (fun b=>Q (f b)) E s->wpAny (model prog w) A' t' Q E s) (k:∀ a n ρ' b,R a n ρ' b->R' a n ρ' (f b)):Tr prog w z5 A' m es t' ρ s R' :=
 fun a es' pc e z8=>x _ _ (wpAny_mono (h a es' pc e z8) (fun _ _ ⟨ρ',S,r⟩=>⟨ρ',S,k _ _ _ _ r⟩) fun _ _ x=>x)
theorem Tr.way {α β:Type} {A A':Around} {m:EM α} {es:ES} {t t':Sem β} {ρ:Nat->Addr} {s:Shared} {R:α->Nat->(Nat->Addr)->β->Prop}
  (h:Tr prog w z5 A m es t ρ s R) (x:∀ (Q:β->Shared->Prop) (E:Value->Shared->Prop),wpAny (model prog w) A t Q E s->wpAny (model prog w) A' t' Q E s):Tr prog w z5 A' m es t' ρ s R:=h.via x fun _ _ _ _ r=>r
end
section
variable {prog:Program} {w:World} {z5:Heap} {K:Frag} {T:Tab} {A:Around} {es:ES} {ρ:Nat->Addr} {s:Shared} {env:Env} {fr:Nat} {scope:Scope} {cells:List (Str×Nat)}
theorem iP {l:List (Str×AV)} {es':ES} {pc:List Prop} (h:locals fr es=some (l,es',pc)):es.hp[fr]?=some (.ns l)/\es'=es/\pc=[]:=by
 replace h:=ak h;obtain ⟨o,es1,p1,p2,e1,e2,rfl⟩:=h;replace e1:=bG e1;obtain ⟨a,rfl,rfl⟩:=e1
 cases o with
 | ns loc=>refine au e2 ?_;exact ⟨a,rfl,rfl⟩
 | _=>exact aL e2
theorem f9 (H:EnvR es.hp.length ρ env fr scope cells) {x:Str} {k:Option NameKind} (e:lk scope.names x=k):env.kindOf x=k:=by
 unfold Env.kindOf;rw[H.hscope,<- lp];exact e
theorem oh {n:Nat} (H:EnvR n ρ env fr scope cells):env.blockKind=.function:=by
 unfold Env.blockKind;rw[H.hscope,H.hkind];rfl
theorem q9 (B:Bs prog w z5 K T) (hR:Rel w.params z5 ρ es.hp s.heap) (H:EnvR es.hp.length ρ env fr scope cells) (x:Str):Tr prog w z5 A (eI T fr scope cells x) es (loadName env x) ρ s RV:=by
 have hkf:env.scope.kind=.function:=H.hscope▸H.hkind;have hbk:=oh H;unfold eI
 cases hk:lk scope.names x with
 | none=>exact Tr.fail
 | some kd =>
  have hko:=f9 H hk
  cases kd with
  | «local» =>
   intro a es' pc e _;refine ag fun G0 hG0=>?_;replace e:=ak e;obtain ⟨l,es1,p1,p2,e1,e2,rfl⟩:=e;replace e1:=iP e1;obtain ⟨hl,rfl,rfl⟩:=e1;replace e2:=dY e2;obtain ⟨hx,rfl,rfl⟩:=e2;replace hl:=hR.at hl;obtain ⟨m,hns,hm⟩:=hl;replace hx:=hm x a hx;obtain ⟨v,hv,r⟩:=hx;refine hG0 ?_;exact wpAny_loadName_local hkf hko (H.hloc▸hns) hv ⟨ρ,Stp.refl hR,r⟩
  | globalImplicit =>
   intro a es' pc e _;refine ag fun G0 hG0=>?_;replace e:=dY e;obtain ⟨hx,rfl,rfl⟩:=e;obtain ⟨mg,mb,g,b,hg⟩:=B.glob;replace hx:=hg x a hx;obtain ⟨v,hv,r⟩:=hx
   have load:loadName env x=loadGlobal env x:=by
    unfold loadName;rw[hkf,hbk,hko];rfl
   refine hG0 ?_;refine load▸?_;rcases hv with hv | ⟨h1,h2⟩
   ·exact loadGlobal_global (H.hglob▸g.keeps hR.keep) hv ⟨ρ,Stp.refl hR,r _ _⟩
   ·exact loadGlobal_builtin (H.hglob▸g.keeps hR.keep) h1 (H.hblt▸b.keeps hR.keep) h2 ⟨ρ,Stp.refl hR,r _ _⟩
  | cell =>
   intro a es' pc e _;dsimp only at e
   cases hc:lk cells x with
   | none=>rw[hc] at e;exact non e
   | some i =>
    rw[hc] at e;dsimp only at e;refine ag fun G0 hG0=>?_;replace e:=ak e;obtain ⟨o,es1,p1,p2,e1,e2,rfl⟩:=e;replace e1:=bG e1;obtain ⟨ho,rfl,rfl⟩:=e1;replace hc:=H.hcells x i hc;obtain ⟨hi,hl⟩:=hc;refine hG0 ?_
    cases o with
    | cell v =>
     cases v with
     | none=>exact aL e2
     | some v =>
      refine au e2 ?_;replace ho:=hR.at ho;obtain ⟨ob,v',h1,h2,h3⟩:=ho;replace rfl:=h3 _ rfl;obtain ⟨u,rfl,r⟩:=rfl
      have load:loadName env x=(do match <- cellGet (<- cellOf env x) with
        | some v=>pure v
        | none =>
         rule "name.cell.unbound"
         raiseError "UnboundLocalError" s!"cannot access local variable '{x.toString}' where it is not associated with a value"):=by
       unfold loadName;rw[hkf,hbk,hko];rfl
      refine load▸?_;unfold cellOf;refine hl▸?_;refine wpAny_bind (wpAny_pure (wpAny_bind ?_));unfold cellGet;refine wpAny_bind (wpAny_load h1 ?_);refine h2▸?_;exact wpAny_pure (wpAny_pure ⟨ρ,Stp.refl hR,r⟩)
    | _=>exact aL e2
  | _=>exact Tr.fail
end
end TE
namespace TE
set_option tactic.hygienic false
section
variable {P:Params} {n:Nat} {ρ:Nat->Addr}
theorem pJ {p:Str×AV} {e:DictEntry} (h:EntR P n ρ p e) (x:Str):e.key.isStr x=seq p.1 x:=by
 obtain ⟨⟨t,hk⟩,_,_⟩:=h;rw[hk,iQ];rfl
theorem xt {p:Str×AV} {e:DictEntry} (h:EntR P n ρ p e):e.refKey=false:=by
 refine ag fun G0 hG0=>?_;obtain ⟨⟨t,hk⟩,_,_⟩:=h;refine hG0 ?_;dsimp only[DictEntry.refKey];rw[hk]
theorem ny:∀ {es:List (Str×AV)} {ents:List DictEntry},All2 (EntR P n ρ) es ents->ents.any (·.refKey)=false
 | [],[],_=>rfl
 | p::l,e::r,h=>by rw[List.any_cons,xt h.1,ny h.2];rfl
 | [],_::_,h=>h.elim
 | _::_,[],h=>h.elim
theorem mH:∀ {es:List (Str×AV)} {ents:List DictEntry} (x:Str),All2 (EntR P n ρ) es ents ->
  match lk es x with
  | some a=>∃ e,ents.find? (·.key.isStr x)=some e/\VRel n ρ a e.val
  | none=>ents.find? (·.key.isStr x)=none
 | [],[],_,_=>rfl
 | (k,u)::l,e::r,x,h=>by
  have ih:=mH (es:=l) (ents:=r) x h.2;have q:=pJ h.1 x;show match (match seq k x with | true=>some u | false=>lk l x) with | some a=>_ | none=>_
  rw[List.find?_cons,q]
  cases hx:seq k x with
  | true=>exact ⟨e,rfl,h.1.2.2⟩
  | false=>exact ih
 | [],_::_,_,h=>h.elim
 | _::_,[],_,h=>h.elim
theorem pM {es:List (Str×AV)} {ents:List DictEntry} {x:Str} {a:AV} (h:All2 (EntR P n ρ) es ents) (e:lk es x=some a):∃ v,getL x ents=some (some v)/\VRel n ρ a v:=by
 have q:=mH x h;rw[e] at q;obtain ⟨en,h1,h2⟩:=q;exact ⟨en.val,by unfold getL;rw[h1],h2⟩
theorem pN {es:List (Str×AV)} {ents:List DictEntry} {x:Str} (h:All2 (EntR P n ρ) es ents) (e:lk es x=none):getL x ents=some none:=by
 have q:=mH x h;rw[e] at q;dsimp only[getL];rw[q,ny h];rfl
theorem qN {x:Str} {t:Tok} {a:AV} {v:Value} (hv:VRel n ρ a v):∀ {es:List (Str×AV)} {ents:List DictEntry},All2 (EntR P n ρ) es ents ->
  All2 (EntR P n ρ) (put es x a) (putL x (PyData.keyHash P x) (.str x t) v ents)
 | [],[],_=>⟨⟨⟨t,rfl⟩,rfl,hv⟩,trivial⟩
 | (k,u)::l,e::r,h=>by
  have q:=pJ h.1 x;dsimp only[put,putL];rw[q]
  cases hx:seq k x with
  | true=>exact ⟨⟨h.1.1,h.1.2.1,hv⟩,h.2⟩
  | false=>exact ⟨h.1,qN hv h.2⟩
 | [],_::_,h=>h.elim
 | _::_,[],h=>h.elim
theorem pL {a:AV} {v:Value} (h:VRel n ρ a v) (hb:∀ c,a≠.con c):handedIn v=true:=by
 cases a with
 | con c=>exact absurd rfl (hb c)
 | none=>rw[show v=.none from h];rfl
 | bool b=>rw[show v=.bool b from h];rfl
 | int i=>obtain ⟨t,rfl⟩:=h;rfl
 | sint i=>obtain ⟨t,rfl⟩:=h;rfl
 | str s=>obtain ⟨t,rfl⟩:=h;rfl
 | sstr s=>obtain ⟨t,rfl⟩:=h;rfl
 | ptr i=>rw[h.2];rfl
 | bi b=>rw[show v=b.val from h];cases b<;>decide +kernel
end
noncomputable def sY (K:Frag) (C:Addr) (x:Str):eb->Prop
 | .absent=>findIn K (.ref C) x=some none
 | .fn f=>findIn K (.ref C) x=some (some (.ref f))/\typeIn K (.ref f)=some (.type "function")/\specialIn K (.ref f) "__get__" = some (some (.builtin "function.__get__"))/\takesIn K (.ref f)=some false/\copiedNames.contains x=false
 | .val a=>∃ v,findIn K (.ref C) x=some (some v)/\specialIn K v "__get__" = some none/\handedIn v=true/\copiedNames.contains x=false/\∀ n ρ,VRel n ρ a v
structure ui (K:Frag) (C:Addr) (l:List (Str×eb)):Prop where
 plain:plainGet K C "" = true
 dict:hasDictIn K C=true
 setattr:findIn K (.ref C) "__setattr__" = some (some (.builtin "object.__setattr__"))
 over:plainOver K C=true
 attr:∀ x c,lk l x=some c->sY K C x c
noncomputable def jy (h:Heap) (C:Addr) (l:List (Str×eb)):Prop:=∃ K:Frag,K.In h/\ui K C l
noncomputable def FnH (h:Heap) (f:Addr):Prop:=∃ K:Frag,K.In h/\fnIn K f=true
section
variable {prog:Program} {w:World} {z5:Heap} {K:Frag} {T:Tab} {A:Around} {es:ES} {ρ:Nat->Addr} {s:Shared} {env:Env} {fr:Nat} {scope:Scope} {cells:List (Str×Nat)}
theorem iR (hR:Rel w.params z5 ρ es.hp s.heap) (H:EnvR es.hp.length ρ env fr scope cells) (x:Str) {a:AV} {v:Value} (hv:VRel es.hp.length ρ a v) :
  Tr prog w z5 A (putName fr scope cells x a) es (storeName env x v) ρ s RU:=by
 dsimp only[putName]
 cases hk:lk scope.names x with
 | none=>exact Tr.fail
 | some kd =>
  have hko:=f9 H hk
  cases kd with
  | «local» =>
   intro u es' pc e _;refine ag fun G0 hG0=>?_;replace e:=ak e;obtain ⟨l,es1,p1,p2,e1,e2,rfl⟩:=e;replace e1:=iP e1;obtain ⟨hl,rfl,rfl⟩:=e1;replace e2:=cR e2;obtain ⟨rfl,rfl⟩:=e2;replace hl:=hR.at hl;obtain ⟨m,hns,hm⟩:=hl;refine hG0 ?_;refine wpAny_storeName_local hko (H.hloc▸hns) (fun h' hn hs=>?_) (by rw[H.hscope,H.hkind];rfl);rw[H.hloc] at hn hs;refine ⟨ρ,Stp.set hR H.hfr hs ⟨_,hn,fun y b hy=>?_⟩,trivial⟩;rw[eJ] at hy
   by_cases q:y=x
   ·rw[if_pos q] at hy;obtain rfl:=Qb hy;exact ⟨v,if_pos q,hv⟩
   ·rw[if_neg q] at hy;replace hy:=hm y b hy;obtain ⟨u,h1,h2⟩:=hy;exact ⟨u,(if_neg q).trans h1,h2⟩
  | cell =>
   intro u es' pc e _;dsimp only at e
   cases hc:lk cells x with
   | none=>rw[hc] at e;exact non e
   | some i =>
    rw[hc] at e;dsimp only at e;refine ag fun G0 hG0=>?_;replace e:=ak e;obtain ⟨o,es1,p1,p2,e1,e2,rfl⟩:=e;replace e1:=bG e1;obtain ⟨ho,rfl,rfl⟩:=e1;replace hc:=H.hcells x i hc;obtain ⟨hi,hl⟩:=hc;refine hG0 ?_
    cases o with
    | cell c =>
     refine ag fun G0 hG0=>?_;replace e2:=cR e2;obtain ⟨rfl,rfl⟩:=e2;replace ho:=hR.at ho;obtain ⟨ob,v',h1,h2,h3⟩:=ho
     have store:storeName env x v=(do cellSet (<- cellOf env x) (some v)):=by
      dsimp only[storeName];rw[hko,H.hscope,H.hkind];rfl
     refine hG0 ?_;rw[store];dsimp only[cellOf];rw[hl];refine wpAny_bind (wpAny_pure ?_);dsimp only[cellSet];refine wpAny_bind (wpAny_load h1 ?_);rw[h2];refine wpAny_update h1 ⟨ρ,Stp.set hR hi (Heap.SameBut.update ..) ⟨{ ob with data:=.cell (some v) },some v,Heap.get?_update_self _ h1 (by unfold Obj.isFreed;rfl),rfl,fun av e=>?_⟩,trivial⟩
     obtain rfl:=Qb e;exact ⟨v,rfl,hv⟩
    | _=>exact aL e2
  | _=>exact Tr.fail
theorem lx {i:Nat} {r:Addr×Nat×List (Str×AV)} {es':ES} {pc:List Prop} (h:ij i es=some (r,es',pc)) :
  es.hp[i]?=some (.inst r.1 r.2.1)/\es.hp[r.2.1]?=some (.dict r.2.2)/\es'=es/\pc=[]:=by
 replace h:=ak h;obtain ⟨o,es1,p1,p2,e1,e2,rfl⟩:=h;replace e1:=bG e1;obtain ⟨ho,rfl,rfl⟩:=e1
 cases o with
 | inst C d =>
  replace e2:=ak e2;obtain ⟨o',es2,p3,p4,e3,e4,rfl⟩:=e2;replace e3:=bG e3;obtain ⟨ho',rfl,rfl⟩:=e3
  cases o' with
  | dict l=>refine au e4 ?_;exact ⟨ho,ho',rfl,rfl⟩
  | _=>exact aL e4
 | _=>exact aL e2
theorem pd {a b:AV} {es':ES} {pc:List Prop} (h:iC a es=some (b,es',pc)):(∀ c,b≠.con c)/\b=a/\es'=es/\pc=[]:=by
 cases a with
 | con c=>exact (dE (show EM.fail es=_ from h)).elim
 | _=>refine au (show EM.ret _ es=_ from h) ?_;exact ⟨fun c e=>(by cases e),rfl,rfl,rfl⟩
theorem rp (hR:Rel w.params z5 ρ es.hp s.heap) {i C d:Nat} {l:List (Str×AV)} (h1:es.hp[i]?=some (.inst C d)) (h2:es.hp[d]?=some (.dict l)) :
  ∃ ents ep,InstAt s.heap (ρ i) (instObj C (ρ d)) C (some (dictOf ents ep))/\All2 (EntR w.params es.hp.length ρ) l ents:=by
 refine ag fun G0 hG0=>?_;replace h1:=hR.at h1;obtain ⟨_,a⟩:=h1;replace h2:=hR.at h2;obtain ⟨ents,ep,b,c,_⟩:=h2;refine hG0 ?_;exact ⟨ents,ep,⟨a,rfl,rfl,b⟩,c⟩
theorem oT (B:Bs prog w z5 K T) (hc:∀ C x c,lk (T.cls C) x=some c->jy z5 C (T.cls C)) (hR:Rel w.params z5 ρ es.hp s.heap) {a:AV} {v:Value} (hv:VRel es.hp.length ρ a v) (name:Str) (expr:Bool) :
  Tr prog w z5 A (jP T a name) es (getAttr v name expr) ρ s RV:=by
 cases a with
 | ptr i =>
  obtain ⟨hi,rfl⟩:=hv;refine Tr.peek fun r es1 p1 e1 _=>?_;replace e1:=lx e1;obtain ⟨h1,h2,rfl,rfl⟩:=e1;obtain ⟨C,d,l⟩:=r;refine ⟨rfl,?_⟩;replace h2:=rp hR h1 h2;obtain ⟨ents,ep,I,L⟩:=h2;dsimp only
  cases h3:lk l name with
  | some a =>
   replace h3:=pM L h3;obtain ⟨v,g,r⟩:=h3
   cases h4:lk (T.cls C) name with
   | none=>exact Tr.fail
   | some c =>
    cases c with
    | absent =>
     intro u es' pc e _;replace e:=pd e;obtain ⟨hb,rfl,rfl,rfl⟩:=e;obtain ⟨K,X,hc⟩:=hc _ _ _ h4;replace X:=X.keeps hR.keep;have ha:findIn K (.ref C) name=some none:=hc.attr _ _ h4;exact get_value X I (plainGet_of hc.plain).1 (findObj_own hc.dict ha rfl (by rw[lookIn_dict];exact g)) (pL r hb) ⟨ρ,Stp.toks0 hR _,r⟩
    | _=>exact Tr.fail
  | none =>
   have g:=pN L h3
   cases h4:lk (T.cls C) name with
   | none=>exact Tr.fail
   | some c =>
    cases c with
    | absent=>exact Tr.fail
    | val a =>
     intro u es' pc e _;refine au e ?_;refine ag fun G0 hG0=>?_;obtain ⟨K,X,hc⟩:=hc _ _ _ h4;replace X:=X.keeps hR.keep;obtain ⟨v,ha,hn,hh,hcp,r⟩:=hc.attr _ _ h4;refine hG0 ?_;exact get_value X I (plainGet_of hc.plain).1 (findObj_cls hc.dict ha hn hh hcp (by rw[lookIn_dict];exact g)) hh ⟨ρ,Stp.toks0 hR _,r _ _⟩
    | fn f =>
     intro u es' pc e _;refine ag fun G0 hG0=>?_;replace e:=ak e;obtain ⟨p,es2,q1,q2,e2,e3,rfl⟩:=e;replace e2:=dF e2;obtain ⟨rfl,rfl,rfl⟩:=e2;refine hG0 ?_;refine au e3 ?_;refine ag fun G0 hG0=>?_;obtain ⟨K,X,hc⟩:=hc _ _ _ h4;replace X:=X.keeps hR.keep;obtain ⟨ha,hf,hg,ht,hcp⟩:=hc.attr _ _ h4;refine hG0 ?_
     refine get_bind X I (plainGet_of hc.plain).1 (findObj_fn hc.dict ha hg ht hcp (by rw[lookIn_dict];exact g)) (plainGet_of hc.plain).2
      (wpAny_call (fn_get (s:={ s with toks:=s.toks+1 }) X hf (handed_on rfl ?_)))
     exact ⟨_,Stp.push hR ⟨_,Qi _ rfl,VRel.ext1 (x:=.ptr i) ⟨hi,rfl⟩⟩,f8⟩
 | _=>exact Tr.fail
end
end TE
namespace TE
set_option tactic.hygienic false
noncomputable def cF (n:Nat) (ρ:Nat->Addr) (p:Str×AV) (q:Str×Value):Prop:=p.1=q.1/\VRel n ρ p.2 q.2
section
variable {prog:Program} {w:World} {n:Nat} {ρ:Nat->Addr}
theorem ia:∀ {es:List (Str×AV)} {kvs:List (Str×Value)},All2 (cF n ρ) es kvs->kvs.map (·.1)=es.map (·.1)
 | [],[],_=>rfl
 | _::_,_::_,h=>by rw[List.map_cons,List.map_cons,ia h.2,h.1.1]
 | [],_::_,h=>h.elim
 | _::_,[],h=>h.elim
theorem qo:∀ {es:List (Str×AV)} {ents:List DictEntry},All2 (EntR w.params n ρ) es ents ->
  ∃ kvs,All2 (cF n ρ) es kvs/\Pairs (strKind prog w) ents kvs/\∀ e∈ents,∃ k,(strKind prog w).is k e.key=true/\e.hash=(strKind prog w).hash k
 | [],[],_=>⟨[],trivial,.nil,fun _ h=>noM h⟩
 | (x,a)::l,e::r,h=>by
  refine ag fun G0 hG0=>?_;obtain ⟨kvs,h1,h2,h3⟩:=qo h.2;obtain ⟨⟨t,hk⟩,hh,hv⟩:=h.1;refine hG0 ?_;have is:(strKind prog w).is x e.key=true:=by rw[hk];show Value.isStrOf x (.str x t)=true;simp[Value.isStrOf]
  refine ⟨(x,e.val)::kvs,⟨⟨rfl,hv⟩,h1⟩,.cons is rfl h2,fun e' he'=>?_⟩;rcases Qz he' with rfl | he'
  ·exact ⟨x,is,hh⟩
  ·exact h3 e' he'
 | [],_::_,h=>h.elim
 | _::_,[],h=>h.elim
theorem i5 {h:Heap} {a:Addr} {es:List (Str×AV)} (H:ORel w.params n ρ h a (.dict es)):∃ kvs,h.DictOf (strKind prog w) a kvs/\All2 (cF n ρ) es kvs:=by
 refine ag fun G0 hG0=>?_;obtain ⟨ents,ep,e,q,z⟩:=H;replace q:=qo (prog:=prog) q;obtain ⟨kvs,h1,h2,h3⟩:=q;refine hG0 ?_;refine ⟨kvs,⟨_,ents.toArray,ep,e,⟨rfl,rfl,rfl⟩,rfl,fun e he=>h3 e (by simpa using he),h2,?_⟩,h1⟩;rw[ia h1];exact z
theorem rD:∀ {es:List (Str×AV)} {kvs:List (Str×Value)} {ents:List DictEntry},All2 (cF n ρ) es kvs->Pairs (strKind prog w) ents kvs ->
  (∀ e∈ents,∃ k,(strKind prog w).is k e.key=true/\e.hash=(strKind prog w).hash k)->All2 (EntR w.params n ρ) es ents
 | [],[],[],_,_,_=>trivial
 | (x,a)::l,(y,v)::r,e::es,h,p,k=>by
  cases p with
  | cons p1 p2 p3 =>
   refine ag fun G0 hG0=>?_;obtain ⟨rfl,hv⟩:=h.1;obtain ⟨t,ht⟩:=Value.isStrOf_shape p1;obtain ⟨k',hk1,hk2⟩:=k e (.head _);have:k'=x:=Value.isStrOf_inj _ _ _ hk1 p1;subst this;refine hG0 ?_;exact ⟨⟨⟨t,ht⟩,hk2,p2▸hv⟩,rD h.2 p3 fun e he=>k e (.tail _ he)⟩
 | [],[],_::_,_,p,_=>by cases p
 | _::_,_::_,[],_,p,_=>by cases p
 | [],_::_,_,h,_,_=>h.elim
 | _::_,[],_,h,_,_=>h.elim
theorem mI {h:Heap} {a:Addr} {es:List (Str×AV)} {kvs:List (Str×Value)} (hd:h.DictOf (strKind prog w) a kvs) (hp:All2 (cF n ρ) es kvs):ORel w.params n ρ h a (.dict es):=by
 refine ag fun G0 hG0=>?_;obtain ⟨o,ents,ep,ho,hx,hdat,hk,hpp,hn⟩:=hd;obtain ⟨c,d,dt,sl⟩:=o;obtain ⟨rfl,rfl,rfl⟩:=hx;dsimp only at hdat;subst hdat;refine hG0 ?_;refine ⟨ents.toList,ep,by rw[ho],rD hp hpp fun e he=>hk e (by simpa using he),?_⟩;rw[<- ia hp];exact hn
theorem lL:∀ {es:List (Str×AV)} {kvs:List (Str×Value)} (x:Str),All2 (cF n ρ) es kvs ->
  match lk es x with
  | some a=>∃ v,valueAt kvs x=some v/\VRel n ρ a v
  | none=>valueAt kvs x=none
 | [],[],_,_=>rfl
 | (k,u)::l,(k',v)::r,x,h=>by
  have ih:=lL (es:=l) (kvs:=r) x h.2;obtain ⟨hk,hv⟩:=h.1;dsimp only at hk hv;subst hk;show match (match seq k x with | true=>some u | false=>lk l x) with | some a=>_ | none=>_
  cases q:seq k x with
  | true=>exact ⟨v,by simp[valueAt,(bt k x).mp q],hv⟩
  | false =>
   have:¬ k=x:=(ck k x).mp q;simp only[valueAt,List.find?_cons,decide_eq_false this] at ih ⊢;exact ih
 | [],_::_,_,h=>h.elim
 | _::_,[],_,h=>h.elim
theorem ot {α:Type}:∀ {l:List (Str×α)} {x:Str},lk l x=none->x ∉ l.map (·.1)
 | [],_,_=>by simp
 | (k,u)::r,x,h=>by
  have h:(match seq k x with | true=>some u | false=>lk r x)=none:=h
  cases q:seq k x with
  | true=>rw[q] at h;cases h
  | false =>
   rw[q] at h;rw[List.map_cons,List.mem_cons,not_or];exact ⟨fun e=>(ck k x).mp q e.symm,ot h⟩
theorem oJ {α:Type}:∀ {l:List (Str×α)} {x:Str} {v:α},x ∉ l.map (·.1)->put l x v=l++[(x,v)]
 | [],_,_,_=>rfl
 | (k,u)::r,x,v,h=>by
  rw[List.map_cons,List.mem_cons,not_or] at h;have q:seq k x=false:=(ck k x).mpr fun e=>h.1 e.symm;dsimp only[put];rw[q];show (k,u)::put r x v=_;rw[oJ h.2];rfl
theorem qg {α:Type}:∀ {l:List (Str×α)} {x:Str} {v:α},x∈l.map (·.1)->(put l x v).map (·.1)=l.map (·.1)
 | [],_,_,h=>nomatch h
 | (k,u)::r,x,v,h=>by
  dsimp only[put]
  cases q:seq k x with
  | true=>rfl
  | false =>
   show k::(put r x v).map (·.1)=_;rw[List.map_cons,List.mem_cons] at h;rw[qg (h.resolve_left fun e=>(ck k x).mp q e.symm)];rfl
theorem xF {α:Type} {l:List (Str×α)} {x:Str} {v:α} (h:(l.map (·.1)).Nodup):((put l x v).map (·.1)).Nodup:=by
 by_cases q:x∈l.map (·.1)
 ·rw[qg q];exact h
 ·rw[oJ q,List.map_append,List.nodup_append];refine ⟨h,by simp,fun a ha b hb=>?_⟩;simp only[List.map_cons,List.map_nil,List.mem_singleton] at hb;subst hb;exact fun e=>q (e▸ha)
theorem qp {a:AV} {v:Value} (hv:VRel n ρ a v) (x:Str):∀ {es:List (Str×AV)} {kvs:List (Str×Value)},(es.map (·.1)).Nodup->All2 (cF n ρ) es kvs->All2 (cF n ρ) (put es x a) (stored kvs x v)
 | [],[],_,_=>⟨⟨rfl,hv⟩,trivial⟩
 | (k,u)::l,(k',y)::r,hn,h=>by
  obtain ⟨hk,hy⟩:=h.1;dsimp only at hk hy;subst hk;have hn':(l.map (·.1)).Nodup:=(List.nodup_cons.mp hn).2;have ih:=qp hv x hn' h.2;dsimp only[put]
  cases q:seq k x with
  | true =>
   have e:k=x:=(bt k x).mp q;subst e;have hk:k ∉ r.map (·.1):=by rw[ia h.2];exact (List.nodup_cons.mp hn).1
   rw[stored,if_pos (by simp),List.map_cons,if_pos rfl,map_store_of_not_mem r k v hk];exact ⟨⟨rfl,hv⟩,h.2⟩
  | false =>
   have e:¬ k=x:=(ck k x).mp q;show All2 (cF n ρ) ((k,u)::put l x a) (stored ((k,y)::r) x v);unfold stored at ih ⊢;rw[List.any_cons,decide_eq_false e,Bool.false_or]
   by_cases z:(r.any fun kv=>decide (kv.1=x))=true
   ·rw[if_pos z] at ih ⊢;rw[List.map_cons,if_neg e];exact ⟨⟨rfl,hy⟩,ih⟩
   ·rw[if_neg z] at ih ⊢;exact ⟨⟨rfl,hy⟩,ih⟩
 | [],_::_,_,h=>h.elim
 | _::_,[],_,h=>h.elim
end
end TE
namespace TE
set_option tactic.hygienic false
theorem qi (name:Str) (hsh:Int) (key v:Value):∀ es:List DictEntry,(putL name hsh key v es).length<=es.length+1
 | []=>Qa _
 | e::r=>by
  dsimp only[putL]
  split
  ·exact Nat.le_succ _
  ·exact Nat.succ_le_succ (qi name hsh key v r)
section
variable {prog:Program} {w:World} {z5:Heap} {K:Frag} {T:Tab} {A:Around} {es:ES} {ρ:Nat->Addr} {s:Shared} {env:Env} {fr:Nat} {scope:Scope} {cells:List (Str×Nat)}
theorem oI (B:Bs prog w z5 K T) (hc:∀ C x c,lk (T.cls C) x=some c->jy z5 C (T.cls C)) (hR:Rel w.params z5 ρ es.hp s.heap) {a:AV} {v:Value} (hv:VRel es.hp.length ρ a v) (name:Str)
  {x:AV} {xv:Value} (hx:VRel es.hp.length ρ x xv):Tr prog w z5 A (l9 T a name x) es (setAttr v name xv) ρ s RU:=by
 cases a with
 | ptr i =>
  obtain ⟨hi,rfl⟩:=hv;refine Tr.peek fun r es1 p1 e1 _=>?_;replace e1:=lx e1;obtain ⟨h1,h2,rfl,rfl⟩:=e1;obtain ⟨C,d,l⟩:=r;refine ⟨rfl,?_⟩;dsimp only at h1 h2 ⊢;replace h1:=hR.at h1;obtain ⟨hd,h1'⟩:=h1;have hdl:d < es1.hp.length:=hd;replace h2:=hR.at h2;obtain ⟨ents,ep,D,L,nd⟩:=h2
  cases h4:lk (T.cls C) name with
  | none=>exact Tr.fail
  | some c =>
   cases c with
   | absent =>
    refine Tr.chk fun q=>?_;intro u es' pc e _;replace e:=cR e;obtain ⟨rfl,rfl⟩:=e;obtain ⟨K,X,hc⟩:=hc _ _ _ h4;replace X:=X.keeps hR.keep;have ha:findIn K (.ref C) name=some none:=hc.attr _ _ h4;have I:InstAt s.heap (ρ i) (instObj C (ρ d)) C (some (dictOf ents ep)):=⟨h1',rfl,rfl,D⟩;refine set_plain X I hc.setattr (osa_open (s:={ s with toks:=s.toks+1 }) (r:=none) X I hc.over (by unfold takerIn;rw[ha];rfl) fun b=>?_)
    obtain ⟨cd,hcd,hd'⟩:=any_some (show (clsIn K C).any (·.hasDict)=true from hc.dict);have len:ents.length < 500:=by rw[<- L.length];exact Qc q
    have pe:=putName_dict name (PyData.keyHash w.params name) (.str name (s.toks+1)) xv ents ep;refine wpAny_bind (wpAny_pure (wpAny_bind (wpAny_bind (wpAny_loadPart h1' (wpAny_bind (Looks.here (s:={ s with toks:=s.toks+1 }) (looks_clsIn X hcd) ?_))))))
    rw[hd'];refine wpAny_pure (a:=some (ρ d)) (wpAny_bind (wpAny_pure (wpAny_bind ?_)));dsimp only[nsSet];refine wpAny_bind (wpAny_bind (wpAny_askSetting (wpAny_pure (wpAny_bind (wpAny_mkText (wpAny_bind (wpAny_loadPart D ?_)))))))
    have c:(!ents.toArray.any (·.key.isStr name)&&ents.toArray.any (·.refKey))=false:=by
     rw[List.any_toArray,List.any_toArray,ny L,Bool.and_false]
    dsimp only;rw[aRefKeyMayBeTheName_at,c];refine wpAny_updatePart D ?_
    have D':(s.heap.update (ρ d) (Obj.putName name (PyData.keyHash w.params name) (.str name (s.toks+1)) xv)).get? (ρ d)=some (dictOf (putL name (PyData.keyHash w.params name) (.str name (s.toks+1)) xv ents) (putN name ents ep)):=by
     rw[<- pe];exact Heap.get?_update_self _ D (by rw[pe];rfl)
    refine wpAny_bind (wpAny_lookBehind D' (pastItsLine_dict (by rw[List.size_toArray,sizeLine_eq];have:=qi name (PyData.keyHash w.params name) (.str name (s.toks+1)) xv ents;lia)) ?_);exact wpAny_pure ⟨ρ,Stp.set hR hdl (Heap.SameBut.update ..) ⟨_,_,D',qN hx L,xF nd⟩,trivial⟩
   | _=>exact Tr.fail
 | _=>exact Tr.fail
abbrev RM:AV×List AV->Nat->(Nat->Addr)->Value×List Value->Prop:=fun a n ρ v=>VRel n ρ a.1 v.1/\All2 (VRel n ρ) a.2 v.2
theorem wv {name:Str} {b:BI} (h:fO name=some b):(name=("append" : Str)/\b=.lAppend)\/(name=("pop" : Str)/\b=.lPop):=by
 dsimp only[fO] at h
 cases q:seq name ⟨#[97,112,112,101,110,100]⟩ with
 | true=>rw[q] at h;obtain rfl:=Qb h;exact .inl ⟨((bt _ _).mp q).trans (by decide +kernel),rfl⟩
 | false =>
  rw[q] at h;dsimp only at h
  cases q2:seq name ⟨#[112,111,112]⟩ with
  | true=>rw[q2] at h;obtain rfl:=Qb h;exact .inr ⟨((bt _ _).mp q2).trans (by decide +kernel),rfl⟩
  | false=>rw[q2] at h;exact non h
theorem lq {name:Str} {b:BI} (e:fO name=some b) {l:Addr} {its:Array Value} {ep:Nat} {pl:Sem Bool} {E:Value->Shared->Prop} {Q:Value×List Value->Shared->Prop} (ho:s.heap.get? l=some { cls:=.type "list",data:=.seq its ep })
  (h:Q (b.val,[.ref l]) s):wpAny (model prog w) A (getMethod (.ref l) name pl) Q E s:=by
 rcases wv e with ⟨rfl,rfl⟩ | ⟨rfl,rfl⟩
 ·exact getMethod_builtin ⟨_,ho,rfl⟩ F.plainAttrs_list F.slot_list_append (by kernel_rfl) (fun a e=>by cases e;exact ⟨_,ho,rfl⟩) h
 ·exact getMethod_builtin ⟨_,ho,rfl⟩ F.plainAttrs_list F.slot_list_pop (by kernel_rfl) (fun a e=>by cases e;exact ⟨_,ho,rfl⟩) h
theorem v8 {name:Str} {b:BI} (h:fK name=some b):(name=("count" : Str)/\b=.sCount)\/(name=("rfind" : Str)/\b=.sRfind)\/(name=("replace" : Str)/\b=.sReplace)\/(name=("join" : Str)/\b=.sJoin):=by
 dsimp only[fK] at h
 cases q:seq name ⟨#[99,111,117,110,116]⟩ with
 | true=>rw[q] at h;obtain rfl:=Qb h;exact .inl ⟨((bt _ _).mp q).trans (by decide +kernel),rfl⟩
 | false =>
  rw[q] at h;dsimp only at h
  cases q2:seq name ⟨#[114,102,105,110,100]⟩ with
  | true=>rw[q2] at h;obtain rfl:=Qb h;exact .inr (.inl ⟨((bt _ _).mp q2).trans (by decide +kernel),rfl⟩)
  | false =>
   rw[q2] at h;dsimp only at h
   cases q3:seq name ⟨#[114,101,112,108,97,99,101]⟩ with
   | true=>rw[q3] at h;obtain rfl:=Qb h;exact .inr (.inr (.inl ⟨((bt _ _).mp q3).trans (by decide +kernel),rfl⟩))
   | false =>
    rw[q3] at h;dsimp only at h
    cases q4:seq name ⟨#[106,111,105,110]⟩ with
    | true=>rw[q4] at h;obtain rfl:=Qb h;exact .inr (.inr (.inr ⟨((bt _ _).mp q4).trans (by decide +kernel),rfl⟩))
    | false=>rw[q4] at h;exact non h
theorem oy {name:Str} {b:BI} (e:fK name=some b) {x:Str} {t:Tok} {pl:Sem Bool} {E:Value->Shared->Prop} {Q:Value×List Value->Shared->Prop} (h:Q (b.val,[.str x t]) s) :
  wpAny (model prog w) A (getMethod (.str x t) name pl) Q E s:=by
 rcases v8 e with ⟨rfl,rfl⟩ | ⟨rfl,rfl⟩ | ⟨rfl,rfl⟩ | ⟨rfl,rfl⟩
 ·exact GM.count h
 ·exact GM.rfind h
 ·exact GM.replace h
 ·exact GM.join h
theorem wA (B:Bs prog w z5 K T) (hc:∀ C x c,lk (T.cls C) x=some c->jy z5 C (T.cls C)) (hR:Rel w.params z5 ρ es.hp s.heap) {a:AV} {v:Value} (hv:VRel es.hp.length ρ a v) (name:Str) (pl:Sem Bool) :
  Tr prog w z5 A (j6 T a name) es (getMethod v name pl) ρ s RM:=by
 cases a with
 | ptr i =>
  obtain ⟨hi,rfl⟩:=hv;refine Tr.peek fun o es1 p1 e1 _=>?_;replace e1:=bG e1;obtain ⟨ho,rfl,rfl⟩:=e1;refine ⟨rfl,?_⟩
  cases o with
  | inst C d =>
   refine Tr.peek fun o es1 p1 e1 _=>?_;replace e1:=bG e1;obtain ⟨h2,rfl,rfl⟩:=e1;refine ⟨rfl,?_⟩
   cases o with
   | dict l =>
    replace h2:=rp hR ho h2;obtain ⟨ents,ep,I,L⟩:=h2;dsimp only
    cases h3:lk l name with
    | some a =>
     replace h3:=pM L h3;obtain ⟨v,g,r⟩:=h3
     cases h4:lk (T.cls C) name with
     | none=>exact Tr.fail
     | some c =>
      cases c with
      | absent =>
       refine Tr.peek fun b es1 p1 e1 _=>?_;replace e1:=pd e1;obtain ⟨hb,rfl,rfl,rfl⟩:=e1;refine ⟨rfl,?_⟩;intro u es' pc e _;refine au e ?_;obtain ⟨K,X,hc⟩:=hc _ _ _ h4;replace X:=X.keeps hR.keep;have ha:findIn K (.ref C) name=some none:=hc.attr _ _ h4
       exact method_usual X I (plainGet_of hc.plain).1 (plainGet_of hc.plain).2 ha rfl
        (get_value X I (plainGet_of hc.plain).1 (findObj_own hc.dict ha rfl (by rw[lookIn_dict];exact g)) (pL r hb) ⟨ρ,Stp.toks0 hR _,r,trivial⟩)
      | _=>exact Tr.fail
    | none =>
     have g:=pN L h3
     cases h4:lk (T.cls C) name with
     | none=>exact Tr.fail
     | some c =>
      cases c with
      | fn f =>
       intro u es' pc e _;refine au e ?_;obtain ⟨K,X,hc⟩:=hc _ _ _ h4;replace X:=X.keeps hR.keep;obtain ⟨ha,hf,hg,ht,hcp⟩:=hc.attr _ _ h4
       exact method_fn X I (plainGet_of hc.plain).1 (plainGet_of hc.plain).2 ha hf (by show (lookIn name (dictOf ents ep)).map _=_;rw[lookIn_dict,g];rfl)
        ⟨ρ,Stp.refl hR,rfl,⟨hi,rfl⟩,trivial⟩
      | _=>exact Tr.fail
   | _=>exact Tr.fail
  | list xs =>
   dsimp only
   cases h3:fO name with
   | none=>exact Tr.fail
   | some b =>
    intro u es' pc e _;refine au e ?_;replace ho:=hR.at ho;obtain ⟨its,ep,o1,_⟩:=ho;exact lq h3 o1 ⟨ρ,Stp.refl hR,rfl,⟨hi,rfl⟩,trivial⟩
  | snoc ys xs =>
   dsimp only
   cases h3:fO name with
   | none=>exact Tr.fail
   | some b =>
    intro u es' pc e _;refine au e ?_;replace ho:=hR.at ho;obtain ⟨its,ep,zs,o1,_⟩:=ho;exact lq h3 o1 ⟨ρ,Stp.refl hR,rfl,⟨hi,rfl⟩,trivial⟩
  | numl ns =>
   dsimp only
   cases h3:fO name with
   | none=>exact Tr.fail
   | some b =>
    intro u es' pc e _;refine au e ?_;replace ho:=hR.at ho;obtain ⟨its,ep,o1,_⟩:=ho;exact lq h3 o1 ⟨ρ,Stp.refl hR,rfl,⟨hi,rfl⟩,trivial⟩
  | _=>exact Tr.fail
 | str x =>
  show Tr prog w z5 A (match fK name with | some b=>(EM.ret (AV.bi b,[AV.str x]):EM (AV×List AV)) | none=>EM.fail) es _ ρ s _
  cases h3:fK name with
  | none=>exact Tr.fail
  | some b =>
   intro u es' pc e _;refine au e ?_;obtain ⟨t,rfl⟩:=hv;exact oy h3 ⟨ρ,Stp.refl hR,rfl,⟨t,rfl⟩,trivial⟩
 | sstr x =>
  show Tr prog w z5 A (match fK name with | some b=>(EM.ret (AV.bi b,[AV.sstr x]):EM (AV×List AV)) | none=>EM.fail) es _ ρ s _
  cases h3:fK name with
  | none=>exact Tr.fail
  | some b =>
   intro u es' pc e _;refine au e ?_;obtain ⟨t,rfl⟩:=hv;exact oy h3 ⟨ρ,Stp.refl hR,rfl,⟨t,rfl⟩,trivial⟩
 | _=>exact Tr.fail
end
end TE
namespace TE
set_option tactic.hygienic false
theorem cQ {n:Nat} (h:n<=aa):n<=sizeLine:=by rw[sizeLine_eq];unfold aa at h;lia
section
variable {prog:Program} {w:World} {z5:Heap} {K:Frag} {T:Tab} {A:Around} {es:ES} {ρ:Nat->Addr} {s:Shared} {E:Value->Shared->Prop}
theorem cg {h:Heap} {l:Addr} {its:Array Value} {ep:Nat} (o:h.get? l=some { cls:=.type "list",data:=.seq its ep }):h.IsList l its:=⟨_,o,rfl,ep,rfl⟩
theorem oC {l:Addr} {its:Array Value} {ep:Nat} {x:Value} {Q:Value->Shared->Prop} (o:s.heap.get? l=some { cls:=.type "list",data:=.seq its ep }) (hz:its.size<=aa)
  (h:∀ h',Heap.SameBut l s.heap h'->h'.get? l=some { cls:=.type "list",data:=.seq (its.push x) (ep+1) }->Q .none { s with heap:=h' }) :
  wpAny (model prog w) A (call (.builtin "list.append") [.ref l,x]) Q E s:=append_at (hsz:=cQ hz) o h
theorem qm {l:Addr} {its:Array Value} {ep:Nat} {x:Value} {vs:List Value} {t:Tok} {Q:Value->Shared->Prop} (o:s.heap.get? l=some { cls:=.type "list",data:=.seq its ep }) (e:its.toList=x::vs) (hz:its.size<=aa)
  (h:∀ h' its' ep',Heap.SameBut l s.heap h'->h'.get? l=some { cls:=.type "list",data:=.seq its' ep' }->its'.toList=vs->Q x { s with heap:=h' }) :
  wpAny (model prog w) A (call (.builtin "list.pop") [.ref l,.int 0 t]) Q E s:=by
 refine ag fun G0 hG0=>?_;obtain ⟨il⟩:=its;dsimp only at e;subst e;refine hG0 ?_;refine call_meets F.slot_list_pop ⟨_,o,rfl⟩ F.entry_list_pop (F.args_list_pop_2 _ _) (MeetsSeq.list_pop_at l _ ep 0 t 0 x (by decide) (by unfold seqIndex?;simp) rfl (hs1:=cQ hz)) ⟨o,?_⟩;exact h _ _ _ (Heap.SameBut.update ..) (IsL.update (h:=s.heap) o _) (by simp[Array.eraseIdxIfInBounds])
theorem qu {l:Addr} {its:Array Value} {ep:Nat} {Q:Value->Shared->Prop} (o:s.heap.get? l=some { cls:=.type "list",data:=.seq its ep }) (hz:its.size<=aa)
  (h:Q (.int its.size (s.toks+1)) { s with toks:=s.toks+1+1 }):wpAny (model prog w) A (call (.builtin "len") [.ref l]) Q E s :=
 call_len_list (cg o) (by unfold aa at hz;lia) h
theorem qY (B:Bs prog w z5 K T) (hR:Rel w.params z5 ρ es.hp s.heap) {i:Nat} (hi:i < es.hp.length):(ρ i==sysModules)=false :=
 beq_eq_false_iff_ne.mpr (Nat.ne_of_gt (Qd (modules_low B.lim) (hR.high i hi)))
theorem fY {xs:List AV} {its:Array Value} {n:Nat} (h:All2 (VRel n ρ) xs its.toList):its.size=xs.length:=by rw[h.length];simp
theorem yV (hR:Rel w.params z5 ρ es.hp s.heap) {i:Nat} {x:AV} {y:Value} (hi:i < es.hp.length) (hx:VRel es.hp.length ρ x y):Tr prog w z5 A (rR i x) es (call (.builtin "list.append") [.ref (ρ i),y]) ρ s RV:=by
 refine Tr.peek fun o es1 p1 e1 _=>?_;replace e1:=bG e1;obtain ⟨ho,rfl,rfl⟩:=e1;refine ⟨rfl,?_⟩
 cases o with
 | list xs =>
  refine Tr.chk fun q=>?_;intro u es' pc e _;refine ag fun G0 hG0=>?_;replace e:=ak e;obtain ⟨_,es2,q1,q2,e2,e3,rfl⟩:=e;replace e2:=cR e2;obtain ⟨rfl,rfl⟩:=e2;refine hG0 ?_;refine au e3 ?_;replace ho:=hR.at ho;obtain ⟨its,ep,o1,o2⟩:=ho;have hz:its.size<=aa:=by rw[fY o2];exact Qk (Qc q)
  refine oC o1 hz fun h' hs ho'=>⟨ρ,Stp.set (t:=s.toks) hR hi hs ⟨_,_,ho',?_⟩,rfl⟩;rw[Array.toList_push];exact o2.append ⟨hx,trivial⟩
 | snoc ys xs =>
  refine Tr.need fun q=>?_;intro u es' pc e _;refine ag fun G0 hG0=>?_;replace e:=ak e;obtain ⟨_,es2,q1,q2,e2,e3,rfl⟩:=e;replace e2:=cR e2;obtain ⟨rfl,rfl⟩:=e2;refine hG0 ?_;refine au e3 ?_;replace ho:=hR.at ho;obtain ⟨its,ep,zs,o1,oz,o2⟩:=ho
  have hz:its.size<=aa:=by
   have:its.size=(ys++zs).length:=by rw[<- oz];simp
   rw[this,List.length_append,<- o2.length];exact Qk q
  refine oC o1 hz fun h' hs ho'=>⟨ρ,Stp.set (t:=s.toks) hR hi hs ⟨_,_,zs++[y],ho',?_,o2.append ⟨hx,trivial⟩⟩,rfl⟩;rw[Array.toList_push,oz,Qv]
 | _=>exact Tr.fail
theorem Eg (hR:Rel w.params z5 ρ es.hp s.heap) {i:Nat} {t:Tok} (hi:i < es.hp.length):Tr prog w z5 A (t6 i) es (call (.builtin "list.pop") [.ref (ρ i),.int 0 t]) ρ s RV:=by
 refine Tr.peek fun o es1 p1 e1 _=>?_;replace e1:=bG e1;obtain ⟨ho,rfl,rfl⟩:=e1;refine ⟨rfl,?_⟩
 cases o with
 | list xs =>
  cases xs with
  | nil=>exact Tr.fail
  | cons x r =>
   refine Tr.chk fun q=>?_;intro u es' pc e _;refine ag fun G0 hG0=>?_;replace e:=ak e;obtain ⟨_,es2,q1,q2,e2,e3,rfl⟩:=e;replace e2:=cR e2;obtain ⟨rfl,rfl⟩:=e2;refine hG0 ?_;refine au e3 ?_;refine ag fun G0 hG0=>?_;replace ho:=hR.at ho;obtain ⟨its,ep,o1,o2⟩:=ho;refine hG0 ?_;have hz:its.size<=aa:=by rw[fY o2];exact Qc q
   cases hl:its.toList with
   | nil=>rw[hl] at o2;exact o2.elim
   | cons y vs =>
    rw[hl] at o2;exact qm o1 hl hz fun h' its' ep' hs ho' e'=>⟨ρ,Stp.set (t:=s.toks) hR hi hs ⟨_,_,ho',e'▸o2.2⟩,by rw[List.length_set];exact o2.1⟩
 | numl xs =>
  cases xs with
  | nil=>exact Tr.fail
  | cons x r =>
   refine Tr.need fun q=>?_;intro u es' pc e _;refine ag fun G0 hG0=>?_;replace e:=ak e;obtain ⟨_,es2,q1,q2,e2,e3,rfl⟩:=e;replace e2:=cR e2;obtain ⟨rfl,rfl⟩:=e2;refine hG0 ?_;refine au e3 ?_;refine ag fun G0 hG0=>?_;replace ho:=hR.at ho;obtain ⟨its,ep,o1,o2⟩:=ho
   have hz:its.size<=aa:=by
    have:=o2.length;rw[<- Qw,<- this];exact q
   refine hG0 ?_
   cases hl:its.toList with
   | nil=>rw[hl] at o2;exact o2.elim
   | cons y vs =>
    rw[hl] at o2;exact qm o1 hl hz fun h' its' ep' hs ho' e'=>⟨ρ,Stp.set (t:=s.toks) hR hi hs ⟨_,_,ho',e'▸o2.2⟩,o2.1⟩
 | _=>exact Tr.fail
theorem En (B:Bs prog w z5 K T) (hR:Rel w.params z5 ρ es.hp s.heap) {i:Nat} (hi:i < es.hp.length):Tr prog w z5 A (uc i) es (call (.builtin "len") [.ref (ρ i)]) ρ s RV:=by
 refine Tr.peek fun o es1 p1 e1 _=>?_;replace e1:=bG e1;obtain ⟨ho,rfl,rfl⟩:=e1;refine ⟨rfl,?_⟩
 cases o with
 | list xs =>
  refine Tr.chk fun q=>?_;intro u es' pc e _;refine au e ?_;refine ag fun G0 hG0=>?_;replace ho:=hR.at ho;obtain ⟨its,ep,o1,o2⟩:=ho;refine hG0 ?_;have hz:its.size<=aa:=by rw[fY o2];exact Qk (Qc q)
  exact qu o1 hz ⟨ρ,Stp.toks0 hR _,_,by rw[fY o2]⟩
 | dict l =>
  refine Tr.chk fun q=>?_;intro u es' pc e _;refine au e ?_;refine ag fun G0 hG0=>?_;replace ho:=i5 (prog:=prog) (hR.at ho);obtain ⟨kvs,d1,d2⟩:=ho;refine hG0 ?_;have hz:l.length < 500:=Qc q;have hl:=d2.length;exact call_len_dict (qY B hR hi) d1 (by lia) ⟨ρ,Stp.toks0 hR _,_,by rw[hl]⟩
 | _=>exact Tr.fail
end
end TE
namespace TE
set_option tactic.hygienic false
theorem n1i {n:Nat} (h:0 < n):(Int.negSucc 0+(n:Int)).toNat=n - 1:=by lia
theorem n1b {n:Nat} (h:0 < n):-(n:Int)<=Int.negSucc 0:=by lia
theorem n1s {a b c:Nat} (h:a=b+c) (hc:0 < c):a - 1 - b=c - 1:=by lia
theorem n1z {a b c d:Nat} (h:a=b+c) (e:d=c) (hc:0 < d):a - 1 - b=d - 1:=by lia
theorem r63 {n:Nat} (h:n<=aa):(n:Int) < 2 ^ 63:=by unfold aa at h;lia
section
variable {prog:Program} {w:World} {z5:Heap} {K:Frag} {T:Tab} {A:Around} {es:ES} {ρ:Nat->Addr} {s:Shared} {E:Value->Shared->Prop}
theorem vo {l:Addr} {its:Array Value} {ep:Nat} {k:Int} {j:Nat} {t:Tok} {v:Value} {Q:Unit->Shared->Prop} (ho:s.heap.get? l=some { cls:=.type "list",data:=.seq its ep }) (hkj:k=Int.ofNat j) (hj:j < its.size) (hz:its.size<=aa)
  (hQ:∀ h' ep',h'.get? l=some { cls:=.type "list",data:=.seq (its.setIfInBounds j v) ep' }->Heap.SameBut l s.heap h'->Q () { s with heap:=h' }) :
  wpAny (model prog w) A (setItem (.ref l) (.int k t) v) Q E s:=by
 have hl:=cg ho;have h0:0<=k:=by rw[hkj];exact Int.natCast_nonneg j
 have hfit:k < 2 ^ 63:=by unfold aa at hz;rw[hkj];simp only[Int.ofNat_eq_natCast];lia
 unfold setItem
 try with_reducible refine wpAny_holding ?_
 first | refine wpAny_bind (wpAny_pure ?_) | skip
 refine wpAny_bind (wpAny_sequenceKey hl.typeIs (by decide) ?_)
 refine wpAny_bind (wpAny_callSpecial?_slot (name:=Str.ofString "__setitem__") hl.typeIs slot_list_setitem
  (wpAny_call_entry slot_list_setitem hl.typeIs entry_list_setitem ?_ (args_list_setitem _ _ _)))
 show wpAny _ _ (Builtin.List.listSubscript? (.int k t)>>=_) _ _ s;refine wpAny_bind (wpAny_listSubscript_int (fitsIndex_of h0 hfit) ?_);clear hfit h0;subst hkj;show wpAny _ _ ((seqItemAt l j>>=fun r=>pure (r.map (j,·)))>>=_) _ _ s;refine wpAny_bind (wpAny_bind (wpAny_seqItemAt ho rfl (wpAny_pure ?_)));rw[Array.getElem?_eq_getElem hj];show wpAny _ _ (setSeqItemAt l j v>>=_) _ _ s;have hfin:(s.heap.update l (Obj.mapSeq (·.setIfInBounds j v))).get? l=some { cls:=.type "list",data:=.seq (its.setIfInBounds j v) _ }:=IsL.update (h:=s.heap) ho (·.setIfInBounds j v);refine wpAny_bind (wpAny_setSeqItemAt ho rfl ?_)
 first
  | exact wpAny_bind (wpAny_pure (wpAny_pure ⟨.none,rfl,wpAny_pure (hQ _ _ hfin (Heap.SameBut.update ..))⟩))
  | exact wpAny_pure ⟨.none,rfl,wpAny_pure (hQ _ _ hfin (Heap.SameBut.update ..))⟩
theorem n7 {l:Addr} {its:Array Value} {ep:Nat} {k:Int} {t:Tok} {v:Value} {Q:Unit->Shared->Prop} (ho:s.heap.get? l=some { cls:=.type "list",data:=.seq its ep }) (hkj:k=Int.negSucc 0) (hj:0 < its.size) (hz:its.size<=aa)
  (hQ:∀ h' ep',h'.get? l=some { cls:=.type "list",data:=.seq (its.setIfInBounds (its.size - 1) v) ep' }->Heap.SameBut l s.heap h'->Q () { s with heap:=h' }) :
  wpAny (model prog w) A (setItem (.ref l) (.int k t) v) Q E s:=by
 have hl:=cg ho;have h0:k < 0:=by rw[hkj];decide
 have h2:-(2 ^ 63)<=k:=by rw[hkj];decide
 have h1:-(its.size:Int)<=Int.negSucc 0:=n1b hj;have hidx:=seqIndex_neg (k:=Int.negSucc 0) (n:=its.size) (by decide) h1;have he:(Int.negSucc 0+(its.size:Int)).toNat=its.size - 1:=n1i (by assumption);have hg:its[its.size - 1]?=some its[its.size - 1]:=Array.getElem?_eq_getElem (by exact Nat.sub_one_lt_of_lt hj);unfold setItem
 try with_reducible refine wpAny_holding ?_
 first | refine wpAny_bind (wpAny_pure ?_) | skip
 refine wpAny_bind (wpAny_sequenceKey hl.typeIs (by decide) ?_)
 refine wpAny_bind (wpAny_callSpecial?_slot (name:=Str.ofString "__setitem__") hl.typeIs slot_list_setitem
  (wpAny_call_entry slot_list_setitem hl.typeIs entry_list_setitem ?_ (args_list_setitem _ _ _)))
 show wpAny _ _ (Builtin.List.listSubscript? (.int k t)>>=_) _ _ s;refine wpAny_bind (wpAny_listSubscript_int (fitsIndex_neg h0 h2) ?_);clear h0 h2;subst hkj;show wpAny _ _ ((Builtin.List.listItems (.ref l)>>=fun xs=>pure ((seqIndex? (Int.negSucc 0) xs.size).bind fun i=>xs[i]?.map (i,·)))>>=_) _ _ s;refine wpAny_bind (wpAny_bind ?_);show wpAny _ _ (seqItems? (.ref l)>>=_) _ _ s;refine wpAny_bind (wpAny_seqItems ho rfl (wpAny_pure (wpAny_pure ?_)));rw[hidx,he];simp only[Option.bind_some,hg,Option.map_some];have hfin:(s.heap.update l (Obj.mapSeq (·.setIfInBounds (its.size - 1) v))).get? l=some { cls:=.type "list",data:=.seq (its.setIfInBounds (its.size - 1) v) _ }:=IsL.update (h:=s.heap) ho (·.setIfInBounds (its.size - 1) v);show wpAny _ _ (setSeqItemAt l (its.size - 1) v>>=_) _ _ s;refine wpAny_bind (wpAny_setSeqItemAt ho rfl ?_)
 first
  | exact wpAny_bind (wpAny_pure (wpAny_pure ⟨.none,rfl,wpAny_pure (hQ _ _ hfin (Heap.SameBut.update ..))⟩))
  | exact wpAny_pure ⟨.none,rfl,wpAny_pure (hQ _ _ hfin (Heap.SameBut.update ..))⟩
inductive sX (P:Params) (ρ:Nat->Addr) (h:Heap) (v:AV) (x:Value) (o:AO) (es es':ES) (pc:List Prop):Prop
 | mk (a:Addr) (hx:x=.ref a) (O:ORel P es.hp.length ρ h a o) (k:∀ i,v=.ptr i->a=ρ i/\es.hp[i]?=some o) (he:es'=es) (hp:pc=[]):sX P ρ h v x o es es' pc
theorem g8 (B:Bs prog w z5 K T) (hR:Rel w.params z5 ρ es.hp s.heap) {v:AV} {x:Value} (hv:VRel es.hp.length ρ v x) {o:AO} {es':ES} {pc:List Prop} (h:cv T v es=some (o,es',pc)):sX w.params ρ s.heap v x o es es' pc:=by
 cases v with
 | ptr i =>
  replace h:=bG (show EM.obj i es=_ from h);obtain ⟨a,b,c⟩:=h;exact ⟨_,hv.2,hR.at a,fun j e=>by cases e;exact ⟨rfl,a⟩,b,c⟩
 | con c =>
  cases c with
  | ref a =>
   obtain ⟨q,b,c⟩:=dY (show EM.lift (T.cobj a) es=_ from h);exact ⟨a,hv,(B.cobj a o q _ ρ).mono (Qa _) (fun _ _=>rfl) hR.base (fun o e=>hR.keep a o e),fun j e=>(by cases e),b,c⟩
  | _=>exact (dE (show EM.fail es=_ from h)).elim
 | _=>exact (dE (show EM.fail es=_ from h)).elim
theorem hV (k:Str) (t:Tok):(strKind prog w).is k (.str k t)=true:=by show Value.isStrOf k (.str k t)=true;simp[Value.isStrOf]
theorem l5 {n:Nat}:∀ {xs:List AV} {l:List Str} {vs:List Value} {j:Nat},bQ xs=some l->All2 (VRel n ρ) xs vs->j < l.length->∃ t,vs[j]?=some (.str (l.getD j ⟨#[]⟩) t)
 | [],l,vs,j,e,_,hj=>by cases e;exact absurd hj (Nat.not_lt_zero _)
 | .str a::xs,l,v::vs,j,e,h,hj=>by
  have e:(match bQ xs with | some l=>some (a::l) | none=>none)=some l:=e
  cases q:bQ xs with
  | none=>rw[q] at e;exact non e
  | some l' =>
   rw[q] at e;obtain rfl:=Qb e
   cases j with
   | zero=>obtain ⟨t,rfl⟩:=h.1;exact ⟨t,rfl⟩
   | succ j=>exact l5 (j:=j) q h.2 (Nat.lt_of_succ_lt_succ hj)
 | .str a::xs,_,[],_,_,h,_=>h.elim
 | .none::_,_,_,_,e,_,_ | .bool _::_,_,_,_,e,_,_ | .int _::_,_,_,_,e,_,_ | .sint _::_,_,_,_,e,_,_ | .sstr _::_,_,_,_,e,_,_ | .ptr _::_,_,_,_,e,_,_ | .bi _::_,_,_,_,e,_,_ | .con _::_,_,_,_,e,_,_=>non e
theorem qe:∀ {xs:List AV} {l:List Str},bQ xs=some l->l.length=xs.length
 | [],l,e=>by cases e;rfl
 | .str a::xs,l,e=>by
  have e:(match bQ xs with | some l=>some (a::l) | none=>none)=some l:=e
  cases q:bQ xs with
  | none=>rw[q] at e;exact non e
  | some l'=>rw[q] at e;obtain rfl:=Qb e;rw[List.length_cons,List.length_cons,qe q]
 | .none::_,_,e | .bool _::_,_,e | .int _::_,_,e | .sint _::_,_,e | .sstr _::_,_,e | .ptr _::_,_,e | .bi _::_,_,e | .con _::_,_,e=>non e
theorem pD {n:Nat} {xs:List AV} {vs:List Value} {a:AV} (h:All2 (VRel n ρ) xs vs) (e:xs.getLast?=some a):0 < xs.length/\∃ v,vs[xs.length - 1]?=some v/\VRel n ρ a v:=by
 rw[List.getLast?_eq_getElem?] at e;obtain ⟨v,h1,h2⟩:=h.get e;have:=(Qy e).1;exact ⟨by exact Nat.zero_lt_of_lt this,v,h1,h2⟩
theorem oa {l:Addr} {its:Array Value} {ep:Nat} {t:Tok} {x:Value} {Q:Value->Shared->Prop} (ho:s.heap.get? l=some { cls:=.type "list",data:=.seq its ep }) (hx:its.toList[its.size - 1]?=some x) (h:Q x s) :
  wpAny (model prog w) A (getItem (.ref l) (.int (Int.negSucc 0) t)) Q E s:=by
 have hj:its.size - 1 < its.toList.length:=(Qy hx).1;rw[Qw] at hj;have h0:0 < its.size:=Nat.zero_lt_of_lt hj;refine wpAny_getItem_list_neg (cg ho) (by decide) (n1b h0) (by decide) ?_ h;have he:(Int.negSucc 0+(its.size:Int)).toNat=its.size - 1:=n1i (by assumption);rw[he,<- Qq];exact hx
theorem pI (hR:Rel w.params z5 ρ es.hp s.heap) {a:Addr} {o:AO} (ho:ORel w.params es.hp.length ρ s.heap a o) {i:AV} {iv:Value} (hi:VRel es.hp.length ρ i iv) :
  Tr prog w z5 A (jd o i) es (getItem (.ref a) iv) ρ s RV:=by
 cases o with
 | dict l =>
  cases i with
  | str k =>
   obtain ⟨t,rfl⟩:=hi;intro u es' pc e _;replace e:=dY e;obtain ⟨q,rfl,rfl⟩:=e;replace ho:=i5 (prog:=prog) ho;obtain ⟨kvs,d1,d2⟩:=ho;have f:=lL k d2;rw[q] at f;obtain ⟨v,f1,f2⟩:=f;exact wpAny_getItem_of (hV k t) d1.mapOf f1 ⟨ρ,Stp.toks0 hR _,f2⟩
  | _=>exact Tr.fail
 | list xs =>
  obtain ⟨its,ep,o1,o2⟩:=ho;have hs:=fY o2
  cases i with
  | int k =>
   obtain ⟨t,rfl⟩:=hi;refine Tr.chk fun q=>?_;have hz:its.size < aa:=by rw[hs];exact Qc q
   match k with
   | .ofNat j =>
    intro u es' pc e _;replace e:=dY e;obtain ⟨q,rfl,rfl⟩:=e;replace q:=o2.get q;obtain ⟨v,f1,f2⟩:=q;have hj:=(Qy f1).1;rw[Qw] at hj;exact wpAny_getItem_list (cg o1) (Int.natCast_nonneg j) (by unfold aa at hz;simp only[Int.ofNat_eq_natCast];lia) (by show its[j]?=_;rw[<- Qq];exact f1) ⟨ρ,Stp.refl hR,f2⟩
   | .negSucc 0 =>
    intro u es' pc e _;replace e:=dY e;obtain ⟨q,rfl,rfl⟩:=e;replace q:=pD o2 q;obtain ⟨_,v,f1,f2⟩:=q;exact oa o1 (by rw[hs];exact f1) ⟨ρ,Stp.refl hR,f2⟩
   | .negSucc (_+1)=>exact Tr.fail
  | sint k =>
   obtain ⟨t,rfl⟩:=hi;refine Tr.chk fun q=>?_;have hz:its.size < aa:=by rw[hs];exact Qc q
   cases q2:bQ xs with
   | none=>exact Tr.fail
   | some l =>
    intro u es' pc e z8;have hl:=qe q2;obtain ⟨hp,dec⟩:=es;dsimp only at e
    cases dec with
    | nil=>exact non e
    | cons d r =>
     cases d with
     | zero =>
      cases e
      have hk:=z8 _ (List.mem_singleton.mpr rfl);obtain ⟨t',ht⟩:=l5 (j:=k.toNat) q2 o2 (by omega);exact wpAny_getItem_list (cg o1) hk.1 (by unfold aa at hz;lia) (by rw[<- Qq];exact ht) ⟨ρ,Stp.refl hR,t',rfl⟩
     | succ j =>
      have e:(match l[j]? with | some x=>some (AV.str x,(⟨hp,r⟩:ES),[k=(j:Int)]) | none=>none)=some (u,es',pc):=e
      cases q3:l[j]? with
      | none=>rw[q3] at e;exact non e
      | some x =>
       rw[q3] at e
       cases e
       have hk:=z8 _ (List.mem_singleton.mpr rfl);subst hk;have hj:=(Qy q3).1;obtain ⟨t',ht⟩:=l5 (j:=j) q2 o2 hj;rw[Qp,q3] at ht;exact wpAny_getItem_list (cg o1) (Int.natCast_nonneg j) (by unfold aa at hz;lia) (by show its[j]?=_;rw[<- Qq];exact ht) ⟨ρ,Stp.refl hR,t',rfl⟩
  | _=>exact Tr.fail
 | snoc ys xs =>
  obtain ⟨its,ep,zs,o1,oz,o2⟩:=ho
  match i,hi with
  | .int (.negSucc 0),hi =>
   obtain ⟨t,rfl⟩:=hi;refine Tr.need fun q=>?_;intro u es' pc e _;replace e:=dY e;obtain ⟨q,rfl,rfl⟩:=e;replace q:=pD o2 q;obtain ⟨hp,v,f1,f2⟩:=q;have hs:its.size=ys.length+xs.length:=by rw[<- Qw,oz,List.length_append,o2.length]
   refine oa o1 ?_ ⟨ρ,Stp.refl hR,f2⟩;rw[oz,Qr (by omega),n1s (by assumption) (by assumption)];exact f1
  | .int (.negSucc (_+1)),_ | .int (.ofNat _),_ | .none,_ | .bool _,_ | .sint _,_ | .str _,_ | .sstr _,_ | .ptr _,_ | .bi _,_ | .con _,_=>exact Tr.fail
 | tuple xs =>
  obtain ⟨its,ep,o1,o2⟩:=ho
  match i,hi with
  | .int (.ofNat j),hi =>
   obtain ⟨t,rfl⟩:=hi;refine Tr.chk fun q=>?_;have hz:j < 1000:=Qc q;intro u es' pc e _;replace e:=dY e;obtain ⟨q,rfl,rfl⟩:=e;replace q:=o2.get q;obtain ⟨v,f1,f2⟩:=q;have hj:=(Qy f1).1;rw[Qw] at hj;exact getItem_tuple (j:=j) ⟨_,o1,rfl,ep,rfl⟩ (by simp only[Int.ofNat_eq_natCast];exact Int.NonNeg.mk (j+Nat.succ 9223372036854775807)) (by simp only[Int.ofNat_eq_natCast];lia) (by unfold seqIndex?;simp;lia) (by rw[<- Qq];exact f1) ⟨ρ,Stp.refl hR,f2⟩
  | .int (.negSucc _),_ | .none,_ | .bool _,_ | .sint _,_ | .str _,_ | .sstr _,_ | .ptr _,_ | .bi _,_ | .con _,_=>exact Tr.fail
 | _=>exact Tr.fail
theorem oE (hR:Rel w.params z5 ρ es.hp s.heap) {x:Str} {t:Tok} {i:AV} {iv:Value} (hi:VRel es.hp.length ρ i iv):Tr prog w z5 A (qK x i) es (getItem (.str x t) iv) ρ s RV:=by
 have len:x.length=x.cps.size:=rfl
 have at_ {j:Nat} (hj:j < x.length):x.cps[j]?=some (x.cps.getD j 0):=by
  rw[Array.getElem?_eq_getElem (by rw[<- len];exact hj),Array.getD,dif_pos (by rw[<- len];exact hj)];rfl
 match i,hi with
 | .sint k,hi =>
  obtain ⟨u,rfl⟩:=hi;refine Tr.need fun q=>?_;obtain ⟨q1,q2,q3⟩:=q;intro a es' pc e _;refine au e ?_;refine PyProof.Rows.getItem_str (c:=x.cps.getD k.toNat 0) ?_ ?_ ⟨ρ,Stp.toks0 hR _,_,rfl⟩
  ·unfold aa at q3;simp only[Bool.or_eq_false_iff,decide_eq_false_iff_not];lia
  ·have:seqIndex? k x.length=some k.toNat:=by
    unfold seqIndex?;simp only[if_neg (by exact Int.not_lt_of_ge q1:¬ k < 0)];rw[if_pos (by simp;exact ⟨q1,q2⟩)]
   rw[this,Option.bind_some];exact at_ (by lia)
 | .int (.ofNat k),hi =>
  obtain ⟨u,rfl⟩:=hi;refine Tr.need fun q=>?_;obtain ⟨q1,q3⟩:=q;intro a es' pc e _;refine au e ?_;refine PyProof.Rows.getItem_str (c:=x.cps.getD k 0) ?_ ?_ ⟨ρ,Stp.toks0 hR _,_,rfl⟩
  ·unfold aa at q3;simp only[Bool.or_eq_false_iff,decide_eq_false_iff_not,Int.ofNat_eq_natCast];lia
  ·have:seqIndex? (Int.ofNat k) x.length=some k:=by
    unfold seqIndex?;simp only[Int.ofNat_eq_natCast,if_neg (by exact Int.not_ofNat_neg k:¬ (k:Int) < 0)];rw[if_pos (by simp;omega)];rfl
   rw[this,Option.bind_some];exact at_ q1
 | .int (.negSucc 0),hi =>
  obtain ⟨u,rfl⟩:=hi;refine Tr.need fun q=>?_;obtain ⟨q1,q2⟩:=q;intro a es' pc e _;refine au e ?_;refine PyProof.Rows.getItem_str (c:=x.cps.getD (x.length - 1) 0) (by decide) ?_ ⟨ρ,Stp.toks0 hR _,_,rfl⟩;rw[seqIndex_neg (k:=Int.negSucc 0) (n:=x.length) (by decide) (by lia),Option.bind_some,n1i (by lia)];exact at_ (by exact Nat.sub_one_lt_of_lt q1)
 | .int (.negSucc (_+1)),_ | .none,_ | .bool _,_ | .str _,_ | .sstr _,_ | .ptr _,_ | .bi _,_ | .con _,_=>exact Tr.fail
theorem wB (B:Bs prog w z5 K T) (hR:Rel w.params z5 ρ es.hp s.heap) {o i:AV} {ov iv:Value} (ho:VRel es.hp.length ρ o ov) (hi:VRel es.hp.length ρ i iv):Tr prog w z5 A (fu T o i) es (getItem ov iv) ρ s RV:=by
 have gen (he:fu T o i=(cv T o>>=fun ob=>jd ob i)):Tr prog w z5 A (fu T o i) es (getItem ov iv) ρ s RV:=by
  rw[he];refine Tr.peek fun ob es1 p1 e1 _=>?_;replace e1:=g8 B hR ho e1;obtain ⟨a,rfl,ho',_,rfl,rfl⟩:=e1;exact ⟨rfl,pI hR ho' hi⟩
 cases o with
 | sstr x=>obtain ⟨t,rfl⟩:=ho;exact oE hR hi
 | _=>exact gen rfl
theorem jL {n:Nat} {x:AV} {v:Value} (hx:VRel n ρ x v):∀ {xs:List AV} {vs:List Value} (j:Nat),All2 (VRel n ρ) xs vs->All2 (VRel n ρ) (xs.set j x) (vs.set j v)
 | [],[],_,_=>trivial
 | _::_,_::_,0,h=>⟨hx,h.2⟩
 | _::xs,_::vs,j+1,h=>⟨h.1,jL hx (xs:=xs) (vs:=vs) j h.2⟩
 | [],_::_,_,h=>h.elim
 | _::_,[],_,h=>h.elim
theorem oH (hR:Rel w.params z5 ρ es.hp s.heap) {o i x:AV} {ov iv xv:Value} (ho:VRel es.hp.length ρ o ov) (hi:VRel es.hp.length ρ i iv) (hx:VRel es.hp.length ρ x xv) :
  Tr prog w z5 A (l8 o i x) es (setItem ov iv xv) ρ s RU:=by
 cases o with
 | ptr p =>
  obtain ⟨hp,rfl⟩:=ho;refine Tr.peek fun ob es1 p1 e1 _=>?_;replace e1:=bG e1;obtain ⟨hq,rfl,rfl⟩:=e1;refine ⟨rfl,?_⟩
  cases ob with
  | dict l =>
   cases i with
   | str k =>
    obtain ⟨t,rfl⟩:=hi;refine Tr.chk fun q=>?_;intro u es' pc e _;replace e:=cR e;obtain ⟨rfl,rfl⟩:=e;have hn:=hR.at hq;obtain ⟨kvs,d1,d2⟩:=i5 (prog:=prog) hn;have hz:l.length < 500:=Qc q;have hl:=d2.length;exact wpAny_setItem_pairs (hsz:=by rw[sizeLine_eq];lia) (hV k t) d1 fun h' hd hs=>⟨ρ,Stp.set hR hp hs (mI hd (qp hx k (by obtain ⟨_,_,_,_,z⟩:=hn;exact z) d2)),trivial⟩
   | _=>exact Tr.fail
  | list xs =>
   replace hq:=hR.at hq;obtain ⟨its,ep,o1,o2⟩:=hq;have hs:=fY o2
   cases i with
   | int k =>
    obtain ⟨t,rfl⟩:=hi;refine Tr.chk fun q=>?_;have hz:its.size < aa:=by rw[hs];exact Qc q
    match k with
    | .ofNat j =>
     refine Tr.chk fun q=>?_;have hj:j < its.size:=by rw[hs];exact Qc q
     intro u es' pc e _;replace e:=cR e;obtain ⟨rfl,rfl⟩:=e;exact vo o1 rfl hj (Qk hz) fun h' ep' hd hs=>⟨ρ,Stp.set (t:=s.toks) hR hp hs ⟨_,_,hd,by rw[Array.toList_setIfInBounds];exact jL hx j o2⟩,trivial⟩
    | .negSucc 0 =>
     refine Tr.chk fun q=>?_;have hj:0 < its.size:=by rw[hs];exact Qc q
     intro u es' pc e _;replace e:=cR e;obtain ⟨rfl,rfl⟩:=e;exact n7 o1 rfl hj (Qk hz) fun h' ep' hd hs'=>⟨ρ,Stp.set (t:=s.toks) hR hp hs' ⟨_,_,hd,by rw[Array.toList_setIfInBounds,hs];exact jL hx _ o2⟩,trivial⟩
    | .negSucc (_+1)=>exact Tr.fail
   | _=>exact Tr.fail
  | snoc ys xs =>
   replace hq:=hR.at hq;obtain ⟨its,ep,zs,o1,oz,o2⟩:=hq
   match i,hi with
   | .int (.negSucc 0),hi =>
    obtain ⟨t,rfl⟩:=hi;refine Tr.need fun q=>Tr.chk fun q'=>?_;have hl:=o2.length;have hs:its.size=ys.length+zs.length:=by rw[<- Qw,oz,List.length_append]
    have hj:0 < xs.length:=Qc q';intro u es' pc e _;replace e:=cR e;obtain ⟨rfl,rfl⟩:=e;refine n7 o1 rfl (by lia) (by lia) fun h' ep' hd hs'=>⟨ρ,Stp.set (t:=s.toks) hR hp hs' ⟨_,_,zs.set (xs.length - 1) xv,hd,?_,jL hx _ o2⟩,trivial⟩;rw[Array.toList_setIfInBounds,oz,List.set_append_right _ _ (by lia),n1z hs hl hj]
   | .int (.negSucc (_+1)),_ | .int (.ofNat _),_ | .none,_ | .bool _,_ | .sint _,_ | .str _,_ | .sstr _,_ | .ptr _,_ | .bi _,_ | .con _,_=>exact Tr.fail
  | _=>exact Tr.fail
 | _=>exact Tr.fail
theorem n5:typeLookup (.type "method") "__bool__" = pure none:=by rw[typeLookup_type,builtinLookup_eq_fast];kernel_rfl
theorem n9:typeLookup (.type "method") "__len__" = pure none:=by rw[typeLookup_type,builtinLookup_eq_fast];kernel_rfl
theorem vf {a:Addr} {f v:Value} {Q:Bool->Shared->Prop} {E:Value->Shared->Prop} (o1:s.heap.get? a=some (methodObj f v)) (h:Q true s):wpAny (model prog w) A (truthy (.ref a)) Q E s:=by
 have ty:s.TypeIs (.ref a) "method" := ⟨_,o1,rfl⟩;unfold truthy
 first
  | refine wpAny_bind (wpAny_callSpecial?_none (name:=Str.ofString "__bool__") ty n5 ?_)
  | refine wpAny_bind (wpAny_pure (wpAny_bind (wpAny_callSpecial?_none (name:=Str.ofString "__bool__") ty n5 ?_)))
 first
  | refine wpAny_bind (wpAny_specialOf (name:=Str.ofString "__len__") ty n9 ?_)
  | refine wpAny_bind (wpAny_pure (wpAny_bind (wpAny_specialOf (name:=Str.ofString "__len__") ty n9 ?_)))
 exact wpAny_pure h
theorem zQ (hR:Rel w.params z5 ρ es.hp s.heap) {a:AV} {v:Value} (hv:VRel es.hp.length ρ a v):Tr prog w z5 A (gL a) es (truthy v) ρ s RB:=by
 cases a with
 | bool b =>
  rw[show v=.bool b from hv];intro u es' pc e _;refine au e ?_;exact wpAny_truthy_bool ⟨ρ,Stp.refl hR,rfl⟩
 | none =>
  rw[show v=.none from hv];intro u es' pc e _;refine au e ?_;exact truthy_none ⟨ρ,Stp.refl hR,rfl⟩
 | int i =>
  obtain ⟨t,rfl⟩:=hv;intro u es' pc e _;refine au e ?_;refine truthy_int ⟨ρ,Stp.refl hR,?_⟩;show (i != 0)=!decide (i=0)
  by_cases q:i=0<;>simp[q]
 | sint i =>
  obtain ⟨t,rfl⟩:=hv;intro u es' pc e z8;replace e:=mj e;obtain ⟨h1,h2⟩:=e;refine truthy_int ⟨ρ,by rw[h1];exact Stp.refl hR,?_⟩;rcases h2 with ⟨rfl,rfl⟩ | ⟨rfl,rfl⟩
  ·exact bne_iff_ne.mpr (z8 _ (List.mem_singleton.mpr rfl))
  ·have:=z8 _ (List.mem_singleton.mpr rfl);show (i != 0)=false;simpa using this
 | sstr x =>
  obtain ⟨t,rfl⟩:=hv;refine Tr.need fun hz=>?_;intro u es' pc e z8;replace e:=mj e;obtain ⟨h1,h2⟩:=e;refine P.truthy_str (by unfold aa at hz;lia) ⟨ρ,by rw[h1];exact Stp.toks0 hR _,?_⟩;rcases h2 with ⟨rfl,rfl⟩ | ⟨rfl,rfl⟩
  ·have:=z8 _ (List.mem_singleton.mpr rfl);exact bne_iff_ne.mpr (by exact (fun {n}=>Int.ofNat_ne_zero.mpr) this)
  ·have:=z8 _ (List.mem_singleton.mpr rfl);show ((x.length:Int) != 0)=false;have h0:x.length=0:=by lia
   rw[h0];rfl
 | ptr i =>
  obtain ⟨hi,rfl⟩:=hv;refine Tr.peek fun o es1 p1 e1 _=>?_;replace e1:=bG e1;obtain ⟨ho,rfl,rfl⟩:=e1;refine ⟨rfl,?_⟩
  cases o with
  | list xs =>
   refine Tr.chk fun q=>?_;replace ho:=hR.at ho;obtain ⟨its,ep,o1,o2⟩:=ho;have hs:=fY o2;have hz:its.size < aa:=by rw[hs];exact Qc q
   intro u es' pc e _;refine wpAny_truthy_list (cg o1) (by unfold aa at hz;lia) ?_;obtain ⟨il⟩:=its
   cases xs with
   | nil =>
    refine au e ?_
    cases il with
    | nil=>exact ⟨ρ,Stp.toks0 hR _,rfl⟩
    | cons _ _=>exact o2.elim
   | cons x r =>
    refine au e ?_
    cases il with
    | nil=>exact o2.elim
    | cons _ _=>exact ⟨ρ,Stp.toks0 hR _,rfl⟩
  | snoc ys xs =>
   refine Tr.need fun q=>?_;replace ho:=hR.at ho;obtain ⟨its,ep,zs,o1,oz,o2⟩:=ho;have hs:its.size=ys.length+zs.length:=by rw[<- Qw,oz,List.length_append]
   have hl:=o2.length;intro u es' pc e _;refine wpAny_truthy_list (cg o1) (by unfold aa at q;lia) ?_
   cases xs with
   | nil=>exact (dE e).elim
   | cons x r =>
    refine au e ?_;refine ⟨ρ,Stp.toks0 hR _,?_⟩;show (!its.isEmpty)=true;have:its.size≠0:=by simp only[List.length_cons] at hl;lia
    simp only[Array.isEmpty,decide_eq_false this,Bool.not_false]
  | numl ns =>
   refine Tr.need fun q=>?_;replace ho:=hR.at ho;obtain ⟨its,ep,o1,o2⟩:=ho;have hl:=o2.length;intro u es' pc e _;refine wpAny_truthy_list (cg o1) (by unfold aa at q;rw[<- Qw,<- hl];omega) ?_;obtain ⟨il⟩:=its
   cases ns with
   | nil =>
    refine au e ?_
    cases il with
    | nil=>exact ⟨ρ,Stp.toks0 hR _,rfl⟩
    | cons _ _=>exact o2.elim
   | cons x r =>
    refine au e ?_
    cases il with
    | nil=>exact o2.elim
    | cons _ _=>exact ⟨ρ,Stp.toks0 hR _,rfl⟩
  | meth f self =>
   replace ho:=hR.at ho;obtain ⟨v,o1,_⟩:=ho;intro u es' pc e _;refine au e ?_;exact vf o1 ⟨ρ,Stp.refl hR,rfl⟩
  | _=>exact Tr.fail
 | _=>exact Tr.fail
end
end TE
namespace TE
set_option backward.match.sparseCases false
set_option tactic.hygienic false
section
variable {prog:Program} {w:World} {z5:Heap} {K:Frag} {T:Tab} {A:Around} {es:ES} {ρ:Nat->Addr} {s:Shared} {E:Value->Shared->Prop}
theorem eM {p:Prop} {t:Sem Value} (hR:Rel w.params z5 ρ es.hp s.heap) (h:∀ b Q E,(b=true↔p)->Q (.bool b) s->wpAny (model prog w) A t Q E s) :
  Tr prog w z5 A (EM.ask p) es t ρ s (fun a _ _ b=>b=.bool a):=by
 intro b es' pc e z8;replace e:=mj e;obtain ⟨h1,h2⟩:=e;refine h b _ _ ?_ ⟨ρ,by rw[h1];exact Stp.refl hR,rfl⟩;rcases h2 with ⟨rfl,rfl⟩ | ⟨rfl,rfl⟩
 ·exact ⟨fun _=>z8 _ (List.mem_singleton.mpr rfl),fun _=>rfl⟩
 ·exact ⟨(fun e=>by cases e),fun z=>absurd z (z8 _ (List.mem_singleton.mpr rfl))⟩
theorem cX {b:Bool} {t:Sem Value} (hR:Rel w.params z5 ρ es.hp s.heap) (h:∀ Q E,Q (.bool b) s->wpAny (model prog w) A t Q E s) :
  Tr prog w z5 A (EM.ret b) es t ρ s (fun a _ _ b=>b=.bool a):=by
 intro u es' pc e _;refine au e ?_;exact h _ _ ⟨ρ,Stp.refl hR,rfl⟩
theorem gJ {b:Bool} {p:Prop} [Decidable p] (h:b=true↔p):b=decide p:=by
 by_cases q:p
 ·rw[decide_eq_true q];exact h.mpr q
 ·rw[decide_eq_false q];cases b with
  | true=>exact absurd (h.mp rfl) q
  | false=>rfl
theorem Hf {α:Type} [DecidableEq α] (a b:α):(a==b)=decide (a=b):=rfl
theorem Ew (hR:Rel w.params z5 ρ es.hp s.heap) {a b:AV} {v x:Value} (hv:VRel es.hp.length ρ a v) (hx:VRel es.hp.length ρ b x):Tr prog w z5 A (eqA a b) es (compareOp .Eq v x) ρ s (fun a _ _ b=>b=.bool a):=by
 have sb (x y:Str):(x==y)=decide (x=y):=by rw[<- iQ,uv]
 have ib (x y:Int):(x==y)=decide (x=y):=by by_cases q:x=y<;>simp[q]
 cases a with
 | str a =>
  obtain ⟨t,rfl⟩:=hv
  cases b with
  | str b=>obtain ⟨u,rfl⟩:=hx;exact cX hR fun Q E h=>PyProof.Rows.eq_str (by rw[<- iQ];exact h)
  | sstr b=>obtain ⟨u,rfl⟩:=hx;exact eM hR fun c Q E hc h=>PyProof.Rows.eq_str (by rw[sb,<- gJ hc];exact h)
  | _=>exact Tr.fail
 | sstr a =>
  obtain ⟨t,rfl⟩:=hv
  cases b with
  | str b=>obtain ⟨u,rfl⟩:=hx;exact eM hR fun c Q E hc h=>PyProof.Rows.eq_str (by rw[sb,<- gJ hc];exact h)
  | sstr b=>obtain ⟨u,rfl⟩:=hx;exact eM hR fun c Q E hc h=>PyProof.Rows.eq_str (by rw[sb,<- gJ hc];exact h)
  | _=>exact Tr.fail
 | none =>
  rw[show v=.none from hv]
  cases b with
  | str b=>obtain ⟨u,rfl⟩:=hx;exact cX hR fun Q E h=>PySem.EqNone.eq_none_str h
  | _=>exact Tr.fail
 | int a =>
  obtain ⟨t,rfl⟩:=hv
  cases b with
  | int b=>obtain ⟨u,rfl⟩:=hx;exact cX hR fun Q E h=>P.eq_int (by rw[ib];exact h)
  | sint b=>obtain ⟨u,rfl⟩:=hx;exact eM hR fun c Q E hc h=>P.eq_int (by rw[ib,<- gJ hc];exact h)
  | _=>exact Tr.fail
 | sint a =>
  obtain ⟨t,rfl⟩:=hv
  cases b with
  | int b=>obtain ⟨u,rfl⟩:=hx;exact eM hR fun c Q E hc h=>P.eq_int (by rw[ib,<- gJ hc];exact h)
  | sint b=>obtain ⟨u,rfl⟩:=hx;exact eM hR fun c Q E hc h=>P.eq_int (by rw[ib,<- gJ hc];exact h)
  | _=>exact Tr.fail
 | bool a =>
  rw[show v=.bool a from hv]
  cases b with
  | bool b =>
   rw[show x=.bool b from hx];exact cX hR fun Q E h=>PyProof.Rows.eq_bool h
  | _=>exact Tr.fail
 | _=>exact Tr.fail
noncomputable def kq (s:Str):Value->Bool
 | .str a _=>seq a s
 | _=>false
noncomputable def kE (s:Int):Value->Bool
 | .int a _=>decide (a=s)
 | _=>false
theorem l6 {n:Nat} (x:Str) (u:Tok):∀ {xs:List AV} {l:List Str} {vs:List Value},bQ xs=some l->All2 (VRel n ρ) xs vs->vs.any (kq x)=aA x l/\∀ y∈vs,MeetsSeq.EqGives y (.str x u) (kq x y)
 | [],l,vs,e,h=>by
  cases e
  cases vs with
  | nil=>exact ⟨rfl,fun _ h=>nomatch h⟩
  | cons _ _=>exact h.elim
 | .str a::xs,l,v::vs,e,h=>by
  have e:(match bQ xs with | some l=>some (a::l) | none=>none)=some l:=e
  cases q:bQ xs with
  | none=>rw[q] at e;cases e
  | some l' =>
   rw[q] at e;cases e
   obtain ⟨i1,i2⟩:=l6 x u q h.2;obtain ⟨t,rfl⟩:=h.1;refine ⟨?_,fun y hy=>?_⟩
   ·rw[List.any_cons,i1];show (seq a x||aA x l')=(match seq a x with | true=>true | false=>aA x l')
    cases seq a x<;>rfl
   ·rcases Qz hy with rfl | hy
    ·show MeetsSeq.EqGives _ _ (seq a x);rw[iQ];exact PyProof.Rows.eqGives_str a x t u
    ·exact i2 y hy
 | .str a::xs,_,[],_,h=>h.elim
 | .none::_,_,_,e,_ | .bool _::_,_,_,e,_ | .int _::_,_,_,e,_ | .sint _::_,_,_,e,_ | .sstr _::_,_,_,e,_ | .ptr _::_,_,_,e,_ | .bi _::_,_,_,e,_ | .con _::_,_,_,e,_=>by cases e
theorem mh {n:Nat} (x:Int) (u:Tok):∀ {xs:List AV} {l:List Int} {vs:List Value},eK xs=some l->All2 (VRel n ρ) xs vs->vs.any (kE x)=dM x l/\∀ y∈vs,MeetsSeq.EqGives y (.int x u) (kE x y)
 | [],l,vs,e,h=>by
  cases e
  cases vs with
  | nil=>exact ⟨rfl,fun _ h=>nomatch h⟩
  | cons _ _=>exact h.elim
 | .int a::xs,l,v::vs,e,h=>by
  have e:(match eK xs with | some l=>some (a::l) | none=>none)=some l:=e
  cases q:eK xs with
  | none=>rw[q] at e;cases e
  | some l' =>
   rw[q] at e;cases e
   obtain ⟨i1,i2⟩:=mh x u q h.2;obtain ⟨t,rfl⟩:=h.1;refine ⟨?_,fun y hy=>?_⟩
   ·rw[List.any_cons,i1];show (decide (a=x)||dM x l')=(match decide (a=x) with | true=>true | false=>dM x l')
    cases decide (a=x)<;>rfl
   ·rcases Qz hy with rfl | hy
    ·show MeetsSeq.EqGives _ _ (decide (a=x));have:decide (a=x)=(a==x):=by by_cases q:a=x<;>simp[q]
     rw[this];exact MeetsSeq.EqGives.int a x t u
    ·exact i2 y hy
 | .int a::xs,_,[],_,h=>h.elim
 | .none::_,_,_,e,_ | .bool _::_,_,_,e,_ | .str _::_,_,_,e,_ | .sint _::_,_,_,e,_ | .sstr _::_,_,_,e,_ | .ptr _::_,_,_,e,_ | .bi _::_,_,_,e,_ | .con _::_,_,_,e,_=>by cases e
theorem fh (x:Str):∀ l:List Str,aA x l=true↔x∈l
 | []=>by simp[aA]
 | a::r=>by
  dsimp only[aA]
  cases q:seq a x with
  | true=>simp[(bt a x).mp q]
  | false =>
   have:=(ck a x).mp q;show aA x r=true↔_;rw[fh x r,List.mem_cons];exact ⟨.inr,fun h=>h.resolve_left fun e=>this e.symm⟩
theorem lQ (x:Int):∀ l:List Int,dM x l=true↔x∈l
 | []=>by simp[dM]
 | a::r=>by
  dsimp only[dM]
  by_cases q:a=x
  ·subst q;simp
  ·have q':decide (a=x)=false:=decide_eq_false q;rw[q'];show dM x r=true↔_;rw[lQ x r,List.mem_cons];exact ⟨.inr,fun h=>h.resolve_left fun e=>q e.symm⟩
theorem CL (hR:Rel w.params z5 ρ es.hp s.heap) {a:AV} {v:Value} (hv:VRel es.hp.length ρ a v) {t:Addr} {xs:List AV} (ho:ORel w.params es.hp.length ρ s.heap t (.tuple xs)) :
  Tr prog w z5 A (gy a xs) es (compareOp .In v (.ref t)) ρ s (fun a _ _ b=>b=.bool a):=by
 obtain ⟨its,ep,o1,o2⟩:=ho
 cases a with
 | str x =>
  obtain ⟨u,rfl⟩:=hv;show Tr prog w z5 A (match bQ xs with | some l=>EM.ret (aA x l) | none=>EM.fail) es _ ρ s _
  cases q:bQ xs with
  | none=>exact Tr.fail
  | some l =>
   replace o2:=l6 x u q o2;obtain ⟨i1,i2⟩:=o2;exact cX hR fun Q E h=>SeqRoads2.in_tuple (kq x) (fun y hy=>i2 y (by simpa using hy)) o1 (by rw[<- Array.any_toList,i1];exact h)
 | sstr x =>
  obtain ⟨u,rfl⟩:=hv;show Tr prog w z5 A (match bQ xs with | some l=>EM.ask (x∈l) | none=>EM.fail) es _ ρ s _
  cases q:bQ xs with
  | none=>exact Tr.fail
  | some l =>
   replace o2:=l6 x u q o2;obtain ⟨i1,i2⟩:=o2;refine eM hR fun c Q E hc h=>SeqRoads2.in_tuple (kq x) (fun y hy=>i2 y (by simpa using hy)) o1 ?_
   have:aA x l=c:=by
    cases c with
    | true=>exact (fh x l).mpr (hc.mp rfl)
    | false =>
     cases q:aA x l with
     | false=>rfl
     | true=>have:=hc.mpr ((fh x l).mp q);cases this
   rw[<- Array.any_toList,i1,this];exact h
 | int x =>
  obtain ⟨u,rfl⟩:=hv;show Tr prog w z5 A (match eK xs with | some l=>EM.ret (dM x l) | none=>EM.fail) es _ ρ s _
  cases q:eK xs with
  | none=>exact Tr.fail
  | some l =>
   replace o2:=mh x u q o2;obtain ⟨i1,i2⟩:=o2;exact cX hR fun Q E h=>SeqRoads2.in_tuple (kE x) (fun y hy=>i2 y (by simpa using hy)) o1 (by rw[<- Array.any_toList,i1];exact h)
 | sint x =>
  obtain ⟨u,rfl⟩:=hv;show Tr prog w z5 A (match eK xs with | some l=>EM.ask (x∈l) | none=>EM.fail) es _ ρ s _
  cases q:eK xs with
  | none=>exact Tr.fail
  | some l =>
   replace o2:=mh x u q o2;obtain ⟨i1,i2⟩:=o2;refine eM hR fun c Q E hc h=>SeqRoads2.in_tuple (kE x) (fun y hy=>i2 y (by simpa using hy)) o1 ?_
   have:dM x l=c:=by
    cases c with
    | true=>exact (lQ x l).mpr (hc.mp rfl)
    | false =>
     cases q:dM x l with
     | false=>rfl
     | true=>have:=hc.mpr ((lQ x l).mp q);cases this
   rw[<- Array.any_toList,i1,this];exact h
 | _=>exact Tr.fail
theorem wy (hR:Rel w.params z5 ρ es.hp s.heap) {a:AV} {v:Value} (hv:VRel es.hp.length ρ a v):Tr prog w z5 A (rl a) es (compareOp .Is v .none) ρ s (fun a _ _ b=>b=.bool a):=by
 cases a with
 | con c=>exact Tr.fail
 | none=>rw[show v=.none from hv];exact cX hR fun Q E h=>is_none h
 | bool b=>rw[show v=.bool b from hv];exact cX hR fun Q E h=>is_none h
 | int i=>obtain ⟨t,rfl⟩:=hv;exact cX hR fun Q E h=>is_none h
 | sint i=>obtain ⟨t,rfl⟩:=hv;exact cX hR fun Q E h=>is_none h
 | str i=>obtain ⟨t,rfl⟩:=hv;exact cX hR fun Q E h=>is_none h
 | sstr i=>obtain ⟨t,rfl⟩:=hv;exact cX hR fun Q E h=>is_none h
 | ptr i=>obtain ⟨t,rfl⟩:=hv;exact cX hR fun Q E h=>is_none h
 | bi b=>rw[show v=b.val from hv];exact cX hR fun Q E h=>is_none (by cases b<;>exact h)
theorem gu {m:EM Bool} {t:Sem Value} (h:Tr prog w z5 A m es t ρ s (fun a _ _ b=>b=.bool a)):Tr prog w z5 A (m>>=fun c=>EM.ret (.bool c)) es t ρ s RV:=by
 intro u es' pc e z8;replace e:=ak e;obtain ⟨c,es1,p1,p2,e1,e2,rfl⟩:=e;replace e2:=eC e2;obtain ⟨rfl,rfl,rfl⟩:=e2;refine wpAny_mono (h c es' p1 e1 fun p hp=>z8 p (Qm _ hp)) (fun b s1 hb=>?_) fun _ _ x=>x;obtain ⟨ρ1,S1,rfl⟩:=hb;exact ⟨ρ1,S1,rfl⟩
theorem fw {n:Nat} {a:AV} {v:Value} {x:Int} {p:Bool} (h:aY a=some (x,p)) (hv:VRel n ρ a v):∃ t,v=.int x t:=by
 cases a<;>first | (cases h;exact hv) | cases h
theorem qQ {op:CmpOp} {x y:Int} {t u:Tok} {Q:Value->Shared->Prop} (hop:op=.Lt\/op=.LtE\/op=.Gt\/op=.GtE) (h:Q (.bool (jt op x y)) s):wpAny (model prog w) A (compareOp op (.int x t) (.int y u)) Q E s:=by
 rcases hop with rfl | rfl | rfl | rfl
 ·exact P.lt_int h
 ·exact P.le_int h
 ·exact P.gt_int h
 ·exact P.ge_int h
theorem qR (op:CmpOp) (x y:Int):jt op x y=true↔bZ op x y:=by
 cases op<;>first | exact decide_eq_true_iff | exact ⟨fun h=>noT h,False.elim⟩
theorem j9 (hR:Rel w.params z5 ρ es.hp s.heap) {op:CmpOp} (hop:op=.Lt\/op=.LtE\/op=.Gt\/op=.GtE) {a b:AV} {v x:Value} (hv:VRel es.hp.length ρ a v) (hx:VRel es.hp.length ρ b x) :
  Tr prog w z5 A (iE op a b) es (compareOp op v x) ρ s (fun a _ _ b=>b=.bool a):=by
 dsimp only[iE]
 cases q1:aY a with
 | none=>exact Tr.fail
 | some p =>
  obtain ⟨i,p⟩:=p
  cases q2:aY b with
  | none=>exact Tr.fail
  | some q =>
   obtain ⟨j,q⟩:=q;replace hv:=fw q1 hv;obtain ⟨t,rfl⟩:=hv;replace hx:=fw q2 hx;obtain ⟨u,rfl⟩:=hx;dsimp only
   cases p||q with
   | true=>exact eM hR fun c Q E hc h=>qQ hop (by
     have:jt op i j=c:=by
      cases c with
      | true=>exact (qR op i j).mpr (hc.mp rfl)
      | false =>
       cases z:jt op i j with
       | false=>rfl
       | true=>have:=hc.mpr ((qR op i j).mp z);cases this
     rw[this];exact h)
   | false=>exact cX hR fun Q E h=>qQ hop h
theorem m5 {t:Value->Value->Sem Value} {f:Int->Int->Int} (ht:∀ (x y:Int) u u' (Q:Value->Shared->Prop) E,Q (.int (f x y) s.toks) { s with toks:=s.toks+1 }->wpAny (model prog w) A (t (.int x u) (.int y u')) Q E s)
  (hR:Rel w.params z5 ρ es.hp s.heap) {a b:AV} {v x:Value} (hv:VRel es.hp.length ρ a v) (hx:VRel es.hp.length ρ b x):Tr prog w z5 A (iG f a b) es (t v x) ρ s RV:=by
 dsimp only[iG]
 cases q1:aY a with
 | none=>exact Tr.fail
 | some p =>
  obtain ⟨i,p⟩:=p
  cases q2:aY b with
  | none=>exact Tr.fail
  | some q =>
   obtain ⟨j,q⟩:=q;replace hv:=fw q1 hv;obtain ⟨u,rfl⟩:=hv;replace hx:=fw q2 hx;obtain ⟨u',rfl⟩:=hx;dsimp only
   cases p||q with
   | true =>
    intro r es' pc e _;refine au e ?_;exact ht _ _ _ _ _ _ ⟨ρ,Stp.toks0 hR _,_,rfl⟩
   | false =>
    intro r es' pc e _;refine au e ?_;exact ht _ _ _ _ _ _ ⟨ρ,Stp.toks0 hR _,_,rfl⟩
theorem ic (B:Bs prog w z5 K T) (hR:Rel w.params z5 ρ es.hp s.heap) (op:CmpOp) {a b:AV} {v x:Value} (hv:VRel es.hp.length ρ a v) (hx:VRel es.hp.length ρ b x):Tr prog w z5 A (fe T op a b) es (compareOp op v x) ρ s RV:=by
 cases op with
 | Eq=>exact gu (Ew hR hv hx)
 | NotEq =>
  show Tr prog w z5 A (match aY a,aY b with
   | some (x,_),some (y,_)=>EM.ask (x≠y)>>=fun c=>EM.ret (AV.bool c)
   | _,_=>EM.fail) es _ ρ s _
  cases q1:aY a with
  | none=>exact Tr.fail
  | some q =>
   obtain ⟨y,q⟩:=q
   cases q2:aY b with
   | none=>exact Tr.fail
   | some q' =>
    obtain ⟨z,q'⟩:=q';replace hv:=fw q1 hv;obtain ⟨t,rfl⟩:=hv;replace hx:=fw q2 hx;obtain ⟨u,rfl⟩:=hx;refine gu (eM hR fun c Q E hc h=>P.ne_int ?_)
    have:(y != z)=c:=by
     rw[gJ hc]
     by_cases q:y=z<;>simp[q]
    rw[this];exact h
 | Is =>
  cases b with
  | none=>rw[show x=.none from hx];exact gu (wy hR hv)
  | _=>exact Tr.fail
 | In =>
  refine Tr.peek fun o es1 p1 e1 _=>?_;replace e1:=g8 B hR hx e1;obtain ⟨t,rfl,ho,_,rfl,rfl⟩:=e1;refine ⟨rfl,?_⟩
  cases o with
  | tuple xs=>exact gu (CL hR hv ho)
  | _=>exact Tr.fail
 | NotIn =>
  cases a with
  | str y =>
   obtain ⟨t,rfl⟩:=hv
   cases b with
   | str z =>
    obtain ⟨u,rfl⟩:=hx;intro r es' pc e _;refine au e ?_;refine PyProof.Rows.notIn_str ⟨ρ,Stp.refl hR,?_⟩;show Value.bool _=.bool _
    congr 1
    cases Builtin.Str.occurrences z y 0 z.length 1<;>rfl
   | _=>exact Tr.fail
  | _=>exact Tr.fail
 | Lt=>exact gu (j9 hR (.inl rfl) hv hx)
 | LtE=>exact gu (j9 hR (.inr (.inl rfl)) hv hx)
 | Gt=>exact gu (j9 hR (.inr (.inr (.inl rfl))) hv hx)
 | GtE=>exact gu (j9 hR (.inr (.inr (.inr rfl))) hv hx)
 | _=>exact Tr.fail
theorem sQ {t:Value->Value->Sem Value} (ht:∀ (x y:Str) u u' (Q:Value->Shared->Prop) E,x.length+y.length<=aa->(∀ t' k,Q (.str (x++y) t') { s with toks:=k })->wpAny (model prog w) A (t (.str x u) (.str y u')) Q E s)
  (hR:Rel w.params z5 ρ es.hp s.heap) {a b:AV} {v x:Value} (hv:VRel es.hp.length ρ a v) (hx:VRel es.hp.length ρ b x):Tr prog w z5 A (lc a b) es (t v x) ρ s RV:=by
 cases a with
 | str a =>
  obtain ⟨u,rfl⟩:=hv
  cases b with
  | str b =>
   obtain ⟨u',rfl⟩:=hx;refine Tr.chk fun q=>?_;intro r es' pc e _;refine au e ?_;exact ht a b u u' _ _ (Qc q) fun t' k=>⟨ρ,Stp.toks0 hR k,t',rfl⟩
  | sstr b =>
   obtain ⟨u',rfl⟩:=hx;refine Tr.need fun q=>?_;intro r es' pc e _;refine au e ?_;exact ht a b u u' _ _ q fun t' k=>⟨ρ,Stp.toks0 hR k,t',rfl⟩
  | _=>exact Tr.fail
 | sstr a =>
  obtain ⟨u,rfl⟩:=hv
  cases b with
  | str b =>
   obtain ⟨u',rfl⟩:=hx;refine Tr.need fun q=>?_;intro r es' pc e _;refine au e ?_;exact ht a b u u' _ _ q fun t' k=>⟨ρ,Stp.toks0 hR k,t',rfl⟩
  | sstr b =>
   obtain ⟨u',rfl⟩:=hx;refine Tr.need fun q=>?_;intro r es' pc e _;refine au e ?_;exact ht a b u u' _ _ q fun t' k=>⟨ρ,Stp.toks0 hR k,t',rfl⟩
  | _=>exact Tr.fail
 | _=>exact Tr.fail
theorem DO (hR:Rel w.params z5 ρ es.hp s.heap) (op:Operator) {a b:AV} {v x:Value} (hv:VRel es.hp.length ρ a v) (hx:VRel es.hp.length ρ b x):Tr prog w z5 A (g0 op a b) es (binaryOp op v x) ρ s RV:=by
 cases op with
 | Add =>
  show Tr prog w z5 A (match aY a with | some _=>iG (·+·) a b | none=>lc a b) es _ ρ s RV
  cases aY a with
  | some _=>exact m5 (t:=binaryOp .Add) (fun x y u u' Q E h=>P.add_int h) hR hv hx
  | none=>exact sQ (t:=binaryOp .Add) (fun x y u u' Q E hz h=>PyProof.Rows.add_str (hsz:=cQ hz) h) hR hv hx
 | Sub=>exact m5 (t:=binaryOp .Sub) (fun x y u u' Q E h=>P.sub_int h) hR hv hx
 | Mod =>
  cases a with
  | sint a =>
   obtain ⟨t,rfl⟩:=hv
   cases b with
   | int b =>
    obtain ⟨u,rfl⟩:=hx;refine Tr.chk fun q=>?_;have q1:=of_decide_eq_true (Qx q).1;intro r es' pc e _;refine au e ?_;exact PyProof.Rows.mod_int (by exact Ne.symm (Int.ne_of_lt q1)) ⟨ρ,Stp.toks0 hR _,_,rfl⟩
   | _=>exact Tr.fail
  | _=>exact Tr.fail
 | FloorDiv =>
  cases a with
  | sint a =>
   obtain ⟨t,rfl⟩:=hv
   cases b with
   | int b =>
    obtain ⟨u,rfl⟩:=hx;refine Tr.chk fun q=>?_;replace q:=Qx q;obtain ⟨q1,q2⟩:=q;have q1:=of_decide_eq_true q1;have q2:=of_decide_eq_true q2;intro r es' pc e _;refine au e ?_;exact PyProof.Rows.floordiv_int (by exact Ne.symm (Int.ne_of_lt q1)) ⟨ρ,Stp.toks0 hR _,_,rfl⟩ (Or.inl (PyProof.noPylong_small (by omega)))
   | _=>exact Tr.fail
  | _=>exact Tr.fail
 | _=>exact Tr.fail
theorem mE (hR:Rel w.params z5 ρ es.hp s.heap) (op:Operator) (hop:op=.Add) {a b:AV} {v x:Value} (hv:VRel es.hp.length ρ a v) (hx:VRel es.hp.length ρ b x):Tr prog w z5 A (g0 op a b) es (inplaceOp op v x) ρ s RV:=by
 subst hop;show Tr prog w z5 A (match aY a with | some _=>iG (·+·) a b | none=>lc a b) es _ ρ s RV
 cases aY a with
 | some _=>exact m5 (t:=inplaceOp .Add) (fun x y u u' Q E h=>P.iadd_int h) hR hv hx
 | none=>exact sQ (t:=inplaceOp .Add) (fun x y u u' Q E hz h=>PyProof.Rows.iadd_str (hsz:=cQ hz) h) hR hv hx
end
end TE
namespace TE
set_option tactic.hygienic false
section
variable {prog:Program} {w:World} {A:Around} {E:Value->Shared->Prop} {s:Shared}
theorem vy:typeLookup (.type "list") "keys" = pure none:=by rw[typeLookup_type,builtinLookup_eq_fast];kernel_rfl
theorem wC {a:Addr} {xs:Array Value} {k:Nat} {t:Tok} {Q:Value->Shared->Prop} (hx:s.heap.get? a=some { cls:=.type "list",data:=.seq xs k }) (hA:A.handled=none)
  (h:∀ h' tk e,Heap.NewExcOf s.heap h' e "AttributeError" -> E (.ref e) { s with heap:=h',toks:=tk }):wpAny (model prog w) A (getAttrBy (.ref a) (.str "keys" t) false) Q E s:=by
 obtain ⟨hp,g,d,tk,os⟩:=s;have hT:∀ tk',(⟨hp,g,d,tk',os⟩:Shared).TypeIs (.ref a) "list" := fun _=>⟨_,hx,rfl⟩;have f1:=sub_AttributeError;have f3:=F.slot_list_getattribute.lookup;have f4:=F.slot_list_getattribute.bind (.ref a);have f5:=am_list_getattr_none;have hmiss:=vy;have hname:(["__module__","__name__","__qualname__","__doc__","__annotations__"]:List Str).contains "keys" = false:=by decide +kernel
 have hsz:("keys" : Str).length+100<=sizeLine:=by decide
 dsimp only[getAttrBy]
 repeat (any_goals (first | assumption | exact hT _ | ((with_reducible show wpAny _ _ (call (Value.builtin "list.__getattribute__") _ _) _ _ _);refine call_meets F.slot_list_getattribute (hT _) am_entry_list_getattribute (F.args_list_getattribute_2 _ _) (meets_getattribute_miss_list a xs k #[] "keys" _ hmiss hname hsz) ⟨hx,hA,fun h' tk' e hx'=>?_⟩) | wp_step))
 refine ag fun G0 hG0=>?_;obtain ⟨t',u',he⟩:=hx'.there;refine hG0 ?_;show wpAny _ _ (getattributeRaised _ _ _ _ _ _ _) _ _ _;dsimp only[getattributeRaised]
 repeat (any_goals (first | assumption | wp_step))
 exact h _ _ _ hx'.of
theorem xT {a:Addr} {xs:Array Value} {k:Nat} {Q:Option Value->Shared->Prop} (hx:s.heap.get? a=some { cls:=.type "list",data:=.seq xs k }) (hA:A.handled=none)
  (h:∀ h' tk,(∀ b o,s.heap.get? b=some o->h'.get? b=some o)->Q none { s with heap:=h',toks:=tk }):wpAny (model prog w) A (getAttr? (.ref a) "keys") Q E s:=by
 unfold getAttr?;refine wpAny_bind (wpAny_mkText ?_);unfold getAttrBy?;refine wpAny_bind (wpAny_attempt (wC (s:={ s with toks:=s.toks+1 }) hx hA fun h' tk e he=>?_))
 dsimp only;refine ag fun G0 hG0=>?_;obtain ⟨ob,vs,x1,x2,x3,x4⟩:=he.there;refine hG0 ?_;refine wpAny_bind (wpAny_isInstance (T := "AttributeError") (b:=true) ⟨_,x1,x2⟩ sub_AttributeError ?_);exact wpAny_pure (h _ _ he.keeps)
namespace F
theorem mro_dict:mroOf (.type "dict")=pure [.type "dict",.type "object"]:=by rw[mroOf_type];kernel_rfl
theorem uk:typeLookup (.type "dict") "__new__" = pure (some (.builtin "dict.__new__")):=by rw[typeLookup_type,builtinLookup_eq_fast];kernel_rfl
theorem called_dict:TypeCalled "dict" "dict.__new__" "dict.__init__" :=
 ⟨by decide +kernel,by decide +kernel,⟨_,_,mro_dict⟩,madeBy_type mro_dict uk (by decide +kernel),by decide +kernel,by rw[isSubtype_type];kernel_rfl,F.slot_dict_init⟩
theorem typeCall_dict_1 (a:Value):checkTypeCall "dict" ⟨[a],[]⟩=pure ():=by kernel_rfl
theorem newCall_dict_1 (a:Value):checkBuiltinCall "dict.__new__" ⟨[.type "dict",a],[]⟩=pure ():=by kernel_rfl
theorem entry_dict_new:entryFor table "dict.__new__" = some Builtin.«dict.__new__»:=entryFor_of_tree (by kernel_rfl)
theorem plain_dict_new:plainId "dict.__new__" = true:=by decide +kernel
theorem entry_dict_loop:entryFor table "dict.update.loop" = some Builtin.«dict.update.loop»:=entryFor_of_tree (by kernel_rfl)
theorem plain_dict_loop:plainId "dict.update.loop" = true:=by decide +kernel
end F
theorem uw (a:Value) {Q₁:Value->Shared->Prop}
  (h:Q₁ (.ref s.heap.objs.size) { s with heap:=s.heap.push { cls:=.type "dict",data:=.dict #[] } }) :
  codeAny (model prog w) A (.call (.builtin "dict.__new__") ⟨[.type "dict",a],[]⟩) (wants Q₁ E) s:=by
 refine codeAny_of_tree ?_;show wpAny _ A.in1 (do checkBuiltinCall "dict.__new__" ⟨[.type "dict",a],[]⟩;again (.builtin "dict.__new__" ⟨[.type "dict",a],[]⟩)) _ _ s;refine wpAny_bind (wpAny_of_eq (F.newCall_dict_1 a) (wpAny_pure ⟨plainId_quiet F.plain_dict_new _,codeAny_builtin F.entry_dict_new ?_⟩));rw[Around.under_plainId F.plain_dict_new _];have hsub:=isSubtype_dict_dict;have hmro:=F.mro_dict;obtain ⟨hp,g,d,tk,os⟩:=s;unfold Builtin.«dict.__new__»;dsimp only
 wp_walk
 exact h
noncomputable def nk (h:Heap) (v:Value) (k:Str×Value):Prop:=∃ b ks ep t,v=.ref b/\h.get? b=some { cls:=.type "list",data:=.seq ks ep }/\ks.toList=[.str k.1 t,k.2]
theorem All2.flip_get {α β:Type} {R:α->β->Prop}:∀ {l:List α} {r:List β} {i:Nat} {b:β},All2 R l r->r[i]?=some b->∃ a,l[i]?=some a/\R a b
 | a::l,b::r,0,_,h,e=>by cases e;exact ⟨a,rfl,h.1⟩
 | _::l,_::r,i+1,_,h,e=>All2.flip_get (l:=l) (r:=r) (i:=i) h.2 e
 | [],[],_,_,_,e=>non e
 | [],_::_,_,_,h,_=>h.elim
 | _::_,[],_,_,h,_=>h.elim
theorem yt {s₀:Shared} {d it l:Addr} {its:Array Value} {ep:Nat} {kvs:List (Str×Value)} (hh:A.handled=none) (o:s₀.heap.get? l=some { cls:=.type "list",data:=.seq its ep })
  (hp:All2 (nk s₀.heap) its.toList kvs) (hz:kvs.length < 1000) {R:Result->Shared->Prop} (hdit:d≠it) (hd0:s₀.heap.objs.size<=d) (hi0:s₀.heap.objs.size<=it)
  (hR:∀ h' tk,h'.DictOf (strKind prog w) d (merged [] kvs)->(∀ b o,s₀.heap.get? b=some o->h'.get? b=some o)->R (.ok (.ret .none)) { s₀ with heap:=h',toks:=tk }) :
  ∀ (n i:Nat) (h:Heap) (tk:Nat),n+i=kvs.length->(∀ b o,s₀.heap.get? b=some o->h.get? b=some o)->h.IsListIter it l i->h.DictOf (strKind prog w) d (merged [] (kvs.take i)) ->
   codeAny (model prog w) A (.builtin "dict.update.loop" ⟨[.ref d,.ref it,rawInt i,.none],[]⟩) R { s₀ with heap:=h,toks:=tk }:=by
 intro n
 induction n with
 | zero =>
  intro i h tk hn hk hi hd;refine codeAny_builtin F.entry_dict_loop ?_;rw[Around.under_plainId F.plain_dict_loop _]
  show wpAny _ _ (do
   let some item <- pyNext (.ref it) | Builtin.Dict.addKeywords d [];ret .none
   _) _ _ _
  have hn:i=kvs.length:=by lia
  have hsz:its.size=kvs.length:=by rw[<- Qw];exact hp.length
  refine wpAny_bind (wpAny_pyNext_list_end (s:={ s₀ with heap:=h,toks:=tk }) hh hi (cg (hk _ _ o)) (Array.getElem?_eq_none (by simp[*])) fun h' he=>?_)
  show wpAny _ _ (Builtin.Dict.addKeywords d []>>=fun _=>ret .none) _ _ _;refine wpAny_bind (wpAny_pure (wpAny_pure (hR h' tk ?_ fun b o e=>he b o (Qh (Qd (Qg e) hi0)) (hk b o e))));rw[hn,List.take_length] at hd;exact hd.extBut he hdit
 | succ n ih =>
  intro i h tk hn hk hi hd;refine codeAny_builtin F.entry_dict_loop ?_;rw[Around.under_plainId F.plain_dict_loop _]
  show wpAny _ _ (do
   let some item <- pyNext (.ref it) | Builtin.Dict.addKeywords d [];ret .none
   _) _ _ _
  have hlt:i < kvs.length:=by lia
  replace hlt:=hp.flip_get (i:=i) (Qo hlt);obtain ⟨v,e1,b,ks,ep',t,rfl,e2,e3⟩:=hlt;refine wpAny_bind (wpAny_pyNext_list_item (s:={ s₀ with heap:=h,toks:=tk }) hi (cg (hk _ _ o)) (by rw[<- Qq];exact e1) fun h1 hi1 hs1=>?_)
  have hk1:∀ b o,s₀.heap.get? b=some o->h1.get? b=some o:=fun b o e=>(hs1.2 b (Qh (Qd (Qg e) hi0))).trans (hk b o e);have hd1:=hd.sameBut hs1 hdit;show wpAny _ _ (holding [Value.ref b] _>>=_) _ _ _;refine wpAny_bind (wpAny_holding (wpAny_bind (wpAny_tryCatch ?_)));have ob:=hk1 _ _ e2;dsimp only[Builtin.Dict.pairItems];refine wpAny_bind (wpAny_typeOf (s:={ s₀ with heap:=h1,toks:=tk }) (T := "list") ⟨_,ob,rfl⟩ ?_)
  show wpAny _ _ (do return ((<- seqItems? (.ref b)).getD #[]).toList) _ _ _;refine wpAny_bind (wpAny_seqItems (s:={ s₀ with heap:=h1,toks:=tk }) ob rfl (wpAny_pure ?_))
  rw[Option.getD_some,e3];dsimp only
  have hml:(merged [] (kvs.take i):List (Str×Value)).length<=i:=by
   have:=merged_length_le ([]:List (Str×Value)) (kvs.take i);rw[List.length_take,List.length_nil] at this;lia
  refine wpAny_holding (wpAny_dictSet_pairs (knd:=strKind prog w) (s:={ s₀ with heap:=h1,toks:=tk }) (hV _ t) hd1 (fun h2 hd2 hs2=>?_) (by rw[sizeLine_eq];lia))
  refine wpAny_pure ⟨plainId_quiet F.plain_dict_loop _,?_⟩;refine ih (i+1) h2 _ (by lia) (fun b o e=>(hs2.2 b (Qh (Qd (Qg e) hd0))).trans (hk1 b o e)) (Heap.IsListIter.at hi1 fun o e=>(hs2.2 it hdit.symm).trans e) ?_;rw[merged_take_succ _ _ _ _ (Qo hlt)];exact hd2
theorem yu {l:Addr} {its:Array Value} {ep:Nat} {kvs:List (Str×Value)} {Q:Value->Shared->Prop} (hh:A.handled=none) (o:s.heap.get? l=some { cls:=.type "list",data:=.seq its ep })
  (hp:All2 (nk s.heap) its.toList kvs) (hz:kvs.length < 1000) (hn:(kvs.map (·.1)).Nodup)
  (h:∀ h' tk,h'.DictOf (strKind prog w) s.heap.objs.size kvs->(∀ b o,s.heap.get? b=some o->h'.get? b=some o)->Q (.ref s.heap.objs.size) { s with heap:=h',toks:=tk }) :
  wpAny (model prog w) A (call (.type "dict") [.ref l]) Q E s:=by
 refine callType_codes F.called_dict (F.typeCall_dict_1 _) F.entry_dict_init (uw (Q₁:=fun v s1=>v=.ref s.heap.objs.size/\s1={ s with heap:=s.heap.push { cls:=.type "dict",data:=.dict #[] } }) _ ⟨rfl,rfl⟩) fun obj s1 hs1=>?_
 obtain ⟨rfl,rfl⟩:=hs1;have od:(s.heap.push { cls:=.type "dict",data:=.dict #[] }).get? s.heap.objs.size=some { cls:=.type "dict",data:=.dict #[] }:=Qi _ rfl;have D:(s.heap.push { cls:=.type "dict",data:=.dict #[] }).DictOf (strKind prog w) s.heap.objs.size []:=Heap.DictOf.new s.heap;have hk0:∀ b o,s.heap.get? b=some o->(s.heap.push { cls:=.type "dict",data:=.dict #[] }).get? b=some o:=fun b o e=>Qe _ e;refine ⟨⟨_,od,rfl⟩,F.args_dict_init_2 _ _,?_⟩;unfold Builtin.«dict.__init__»;refine wpAny_bind ?_;dsimp only[Builtin.Dict.selfAndRest];refine wpAny_bind (wpAny_notOrdered_dict ⟨_,od,rfl⟩ ?_);show wpAny _ _ (pure (s.heap.objs.size,[Value.ref l])) _ _ _;refine wpAny_pure ?_;show wpAny _ _ (Builtin.Dict.updateFrom "dict.__init__" s.heap.objs.size (.ref l) [] .none) _ _ _;dsimp only[Builtin.Dict.updateFrom];refine wpAny_bind (wpAny_typeOf (T := "list") ⟨_,hk0 _ _ o,rfl⟩ ?_);rw[if_pos (by decide)];refine wpAny_bind (xT (s:={ s with heap:=s.heap.push { cls:=.type "dict",data:=.dict #[] } }) (hk0 _ _ o) hh fun h1 tk1 hk1=>?_)
 rw[if_pos (by rfl)];have hk01:∀ b o,s.heap.get? b=some o->h1.get? b=some o:=fun b o e=>hk1 b o (hk0 b o e);refine wpAny_bind (wpAny_rule (wpAny_bind (wpAny_pyIter_list (s:={ s with heap:=h1,toks:=tk1 }) (cg (hk01 _ _ o)) ?_)))
 refine wpAny_pure ⟨plainId_quiet F.plain_dict_loop _,?_⟩;have lt1:s.heap.objs.size < h1.objs.size:=Qg (hk1 _ _ od)
 refine yt (s₀:=s) (i:=0) (n:=kvs.length) (h:=h1.push _) (tk:=tk1) (A:=A.in1) hh o hp hz (Qh lt1) (Qa _) (Qk lt1) (fun h' tk d1 d2=>?_) rfl (fun b o e=>Qe _ (hk01 b o e))
  ⟨_,Qi _ rfl,rfl,rfl⟩ ?_
 ·rw[merged_nil_of_nodup kvs hn] at d1;exact ⟨rfl,h h' tk d1 d2⟩
 ·refine ag fun G0 hG0=>?_;obtain ⟨ob,es',ep',ho,rest⟩:=D;refine hG0 ?_;exact ⟨ob,es',ep',Qe _ (hk1 _ _ ho),rest⟩
end
end TE
namespace TE
set_option backward.match.sparseCases false
set_option tactic.hygienic false
structure AOK (n:Nat) (A:Around):Prop where
 handled:A.handled=none
 depth:A.depth+4 * n<=900
structure BOK (n:Nat) (A:Around):Prop where
 handled:A.handled=none
 depth:A.depth+3+4 * n<=900
theorem BOK.aok {n:Nat} {A:Around} (h:BOK n A):AOK n A:=⟨h.handled,by have:=h.depth;lia⟩
theorem AOK.deeper {n:Nat} {A:Around} (h:AOK (n+1) A) (env:Env):BOK n (A.deeper env):=⟨h.handled,by have:=h.depth;show A.depth+1+3+4 * n<=900;lia⟩
theorem vA (C:Addr) (rest:List Value) (kw:List (Str×Value)):(Code.builtin "type.__call__" ⟨.ref C::rest,kw⟩).weight=1:=by
 unfold Code.weight;kernel_rfl
theorem BOK.make {n:Nat} {A:Around} (h:BOK n A) (C:Addr) (rest:List Value) (kw:List (Str×Value)):AOK n (A.under (.builtin "type.__call__" ⟨.ref C::rest,kw⟩)) :=
 ⟨h.handled,by have:=h.depth;show A.depth+_+4 * n<=900;rw[vA];lia⟩
structure Bt (prog:Program) (w:World) (z5:Heap) (K:Frag) (T:Tab):Prop extends Bs prog w z5 K T where
 cls:∀ C x c,lk (T.cls C) x=some c->jy z5 C (T.cls C)
 init:∀ a fI,T.init a=some fI->∃ K:Frag,K.In z5/\makesIn K a=true/\findIn K (.ref a) "__init__" = some (some (.ref fI))/\typeIn K (.ref fI)=some (.type "function")/\keepIn K (.ref a)=true
section
variable {prog:Program} {w:World} {z5:Heap} {K:Frag} {T:Tab} {A:Around} {es:ES} {ρ:Nat->Addr} {s:Shared}
noncomputable def TrC (prog:Program) (w:World) (z5:Heap) (A:Around) (m:EM AV) (es:ES) (f:Value) (vs:List Value) (ρ:Nat->Addr) (s:Shared):Prop :=
 ∀ a es' pc,m es=some (a,es',pc)->(∀ p∈pc,p) ->
  codeAny (model prog w) A (.call f ⟨vs,[]⟩) (fun r s'=>∃ v ρ',r=.ok (.ret v)/\Stp w.params z5 ρ es.hp s ρ' es'.hp s'/\VRel es'.hp.length ρ' a v) s
theorem TrC.wp {m:EM AV} {f:Value} {vs:List Value} (h:TrC prog w z5 A m es f vs ρ s):Tr prog w z5 A m es (call f vs) ρ s RV :=
 fun a es' pc e z8=>wpAny_call (codeAny_mono (h a es' pc e z8) fun _ _ ⟨_,ρ',e,S,r⟩=>by subst e;exact ⟨ρ',S,r⟩)
noncomputable def fH (prog:Program) (w:World) (z5:Heap) (n:Nat) (call:Addr->List AV->EM AV):Prop :=
 ∀ A,AOK n A->∀ es ρ s f args vs,Rel w.params z5 ρ es.hp s.heap->All2 (VRel es.hp.length ρ) args vs->TrC prog w z5 A (call f args) es (.ref f) vs ρ s
noncomputable def gm (z5:Heap) (call:Addr->List AV->EM AV):Prop:=∀ f args es r,call f args es=some r->FnH z5 f
theorem All2.inv {α β:Type} {R:α->β->Prop} {x:α} {l:List α} {vs:List β} (h:All2 R (x::l) vs):∃ v r,vs=v::r/\R x v/\All2 R l r:=by
 cases vs with
 | nil=>exact h.elim
 | cons v r=>exact ⟨v,r,rfl,h.1,h.2⟩
theorem All2.inv0 {α β:Type} {R:α->β->Prop} {vs:List β} (h:All2 R ([]:List α) vs):vs=[]:=by
 cases vs with
 | nil=>rfl
 | cons v r=>exact h.elim
theorem rz {f:Addr} (h:fnIn K f=true):keepIn K (.ref f)=true:=by
 unfold fnIn at h;unfold keepIn
 split at h
 ·rename_i q;dsimp only;rw[q]
 ·exact noT h
theorem CN (B:Bt prog w z5 K T) {n:Nat} {call:Addr->List AV->EM AV} (hC:fH prog w z5 n call) (hA:BOK n A) (hR:Rel w.params z5 ρ es.hp s.heap) {a fI:Addr} (hi:T.init a=some fI)
  {args:List AV} {vs:List Value} (hv:All2 (VRel es.hp.length ρ) args vs) :
  TrC prog w z5 A (do
   let d <- EM.new (.dict [])
   let x <- EM.new (.inst a d)
   match <- call fI (.ptr x::args) with
   | .none=>EM.ret (.ptr x)
   | _=>EM.fail) es (.ref a) vs ρ s:=by
 intro u es' pc e z8;replace e:=ak e;obtain ⟨d,es1,p1,p2,e1,e2,rfl⟩:=e;replace e1:=dF e1;obtain ⟨rfl,rfl,rfl⟩:=e1;replace e2:=ak e2;obtain ⟨x,es2,p3,p4,e3,e4,rfl⟩:=e2;replace e3:=dF e3;obtain ⟨rfl,rfl,rfl⟩:=e3;replace e4:=ak e4;obtain ⟨y,es3,p5,p6,e5,e6,rfl⟩:=e4;replace hi:=B.init a fI hi;obtain ⟨K,X,m1,m2,m3,_⟩:=hi;replace X:=X.keeps hR.keep
 have S1:Stp w.params z5 ρ es.hp s _ (es.hp++[AO.dict []]) { s with heap:=s.heap.push emptyDict,toks:=s.toks } :=
  Stp.push (t:=s.toks) (ob:=emptyDict) hR ⟨[],0,Qi _ rfl,trivial,List.nodup_nil⟩
 have S2:Stp w.params z5 _ (es.hp++[AO.dict []]) { s with heap:=s.heap.push emptyDict,toks:=s.toks } _ (es.hp++[AO.dict []]++[AO.inst a es.hp.length]) { s with heap:=(s.heap.push emptyDict).push (instObj a s.heap.objs.size),toks:=s.toks } :=
  Stp.push (t:=s.toks) (ob:=instObj a s.heap.objs.size) S1.rel ⟨by simp only[List.length_append,List.length_cons,List.length_nil];omega,by
   have:=Qi (s.heap.push emptyDict) (o:=instObj a s.heap.objs.size) rfl;rw[this,da _ _ (by simp),dZ]⟩
 have S:=S1.trans S2;have hx:VRel (es.hp++[AO.dict []]++[AO.inst a es.hp.length]).length (ext1 (ext1 ρ es.hp.length s.heap.objs.size) (es.hp++[AO.dict []]).length (s.heap.push emptyDict).objs.size) (.ptr (es.hp++[AO.dict []]).length) (.ref (s.heap.push emptyDict).objs.size):=f8;have hsz:(s.heap.push emptyDict).objs.size=s.heap.objs.size+1:=Qs _ _
 have key:=hC _ (hA.make a vs []) ⟨es.hp++[AO.dict []]++[AO.inst a es.hp.length],es.dec⟩ _ _ fI (.ptr (es.hp++[AO.dict []]).length::args) (.ref (s.heap.objs.size+1)::vs) S.rel
  ⟨by rw[<- hsz];exact hx,S.vals hv⟩ y es3 p5 e5 (fun p hp=>z8 p (by simp[hp]))
 obtain ⟨hh,g,dr,t,os⟩:=s;refine make_core (makes_of X m1) (looks_findIn X m2) (fun self=>bind_fn X self m3) (.inl rfl) (codeAny_mono key fun r s' z=>?_);obtain ⟨v,ρ',rfl,S',r⟩:=z
 cases y with
 | none =>
  refine au e6 ?_;refine ⟨r,_,ρ',rfl,S.trans S',?_⟩;have:=S'.val hx;rw[hsz] at this;exact this
 | _=>exact aL e6
noncomputable def Keeps (M:Model) (f:Value) (h:Heap):Prop:=∃ k,(k=Keeper.frame\/k=Keeper.machine\/k=Keeper.boundFrame)/\Looks M h (keeperOf f) k
theorem ft (b:BI) (h:Heap):Keeps (model prog w) b.val h:=⟨.machine,.inr (.inl rfl),by cases b<;>exact Looks.of_pure rfl⟩
theorem vq {o:AO} {q:Str×AV} {es es':ES} {pc:List Prop} (h:r9 o es=some (q,es',pc)):o=.list [.sstr q.1,q.2]/\es'=es/\pc=[]:=by
 cases o with
 | list l =>
  cases l with
  | nil=>exact non h
  | cons a l =>
   cases l with
   | nil=>cases a<;>exact non h
   | cons b l =>
    cases l with
    | nil =>
     cases a with
     | sstr k=>refine au (show EM.ret (k,b) es=_ from h) ?_;exact ⟨rfl,rfl,rfl⟩
     | _=>exact non h
    | cons=>cases a<;>exact non h
 | _=>exact non h
theorem oL:∀ {es:ES} {l:List AV} {vs:List Value} {r:List (Str×AV)} {es':ES} {pc:List Prop},Rel w.params z5 ρ es.hp s.heap->mv l es=some (r,es',pc)->All2 (VRel es.hp.length ρ) l vs ->
  es'=es/\∃ kvs,All2 (nk s.heap) vs kvs/\All2 (cF es.hp.length ρ) r kvs/\r.length=l.length
 | es,[],[],r,es',pc,_,e,_=>by
  refine au (show EM.ret [] es=_ from e) ?_;exact ⟨rfl,[],trivial,trivial,rfl⟩
 | es,.ptr i::l,v::vs,r,es',pc,hR,e,h=>by
  refine ag fun G0 hG0=>?_;replace e:=ak (show (EM.obj i>>=_) es=_ from e);obtain ⟨o,es1,p1,p2,e1,e2,rfl⟩:=e;replace e1:=bG e1;obtain ⟨ho,rfl,rfl⟩:=e1;replace e2:=ak e2;obtain ⟨⟨k,x⟩,es2,p3,p4,e3,e4,rfl⟩:=e2;replace e3:=vq e3;obtain ⟨rfl,rfl,rfl⟩:=e3;replace e4:=ak e4;obtain ⟨m,es3,p5,p6,e5,e6,rfl⟩:=e4;obtain ⟨rfl,kvs,k1,k2,k3⟩:=oL hR e5 h.2;refine hG0 ?_;refine au e6 ?_;obtain ⟨⟨hi,rfl⟩,_⟩:=h;replace ho:=hR.at ho;obtain ⟨its,ep,o1,o2⟩:=ho
  match hl:its.toList,o2 with
  | [a,b],o2 =>
   obtain ⟨⟨t,rfl⟩,hb,_⟩:=o2;exact ⟨rfl,(k,b)::kvs,⟨⟨_,_,_,t,rfl,o1,hl⟩,k1⟩,⟨⟨rfl,hb⟩,k2⟩,by rw[List.length_cons,List.length_cons,k3]⟩
  | [],o2=>exact o2.elim
  | [_],o2=>exact o2.2.elim
  | _::_::_::_,o2=>exact o2.2.2.elim
 | _,[],_::_,_,_,_,_,_,h=>h.elim
 | _,_::_,[],_,_,_,_,_,h=>h.elim
 | es,.none::_,_::_,_,_,_,_,e,_ | es,.bool _::_,_::_,_,_,_,_,e,_ | es,.int _::_,_::_,_,_,_,_,e,_ | es,.sint _::_,_::_,_,_,_,_,e,_ | es,.str _::_,_::_,_,_,_,_,e,_ | es,.sstr _::_,_::_,_,_,_,_,e,_ | es,.bi _::_,_::_,_,_,_,_,e,_ | es,.con _::_,_::_,_,_,_,_,e,_=>aL e
theorem Bd (hh:A.handled=none) (hR:Rel w.params z5 ρ es.hp s.heap) {i:Nat}:Tr prog w z5 A (tM i) es (call (.type "dict") [.ref (ρ i)]) ρ s RV:=by
 refine Tr.peek fun o es1 p1 e1 _=>?_;replace e1:=bG e1;obtain ⟨ho,rfl,rfl⟩:=e1;refine ⟨rfl,?_⟩
 cases o with
 | list xs =>
  refine Tr.chk fun q=>?_;have q:xs.length < 8:=Qc q;intro u es' pc e z8;refine ag fun G0 hG0=>?_;replace e:=ak e;obtain ⟨r,es2,p1,p2,e1,e2,rfl⟩:=e;replace ho:=hR.at ho;obtain ⟨its,ep,o1,o2⟩:=ho;replace o2:=oL hR e1 o2;obtain ⟨rfl,kvs,k1,k2,k3⟩:=o2;replace e2:=ak e2;obtain ⟨_,es3,p3,p4,e3,e4,rfl⟩:=e2;replace e3:=dz e3;obtain ⟨rfl,rfl⟩:=e3;replace e4:=ak e4;obtain ⟨j,es4,p5,p6,e5,e6,rfl⟩:=e4;replace e5:=dF e5;obtain ⟨rfl,rfl,rfl⟩:=e5;refine hG0 ?_;refine au e6 ?_;have nd:(r.map (·.1)).Nodup:=z8 _ (by simp);have hl:=k2.length;refine yu (prog:=prog) hh o1 k1 (by lia) (by rw[ia k2];exact nd) fun h' tk d hk=>?_;refine ag fun G0 hG0=>?_;obtain ⟨ob,ents,epp,od,rest⟩:=d;refine hG0 ?_;exact ⟨_,Stp.new (t:=tk) hR (Qa _) (Qk (Qg od)) hk (mI ⟨ob,ents,epp,od,rest⟩ (k2.mono fun _ _ h=>⟨h.1,h.2.ext1⟩)),f8⟩
 | _=>exact Tr.fail
theorem AK {a:Str} {t tt:Tok} {D:Addr} {Q:Value->Shared->Prop} {E:Value->Shared->Prop} (hl:s.heap.IsList D (strValues [(a,tt)]).toArray) (hz:a.length<=sizeLine) (h:∀ t' k,Q (.str a t') { s with toks:=k }) :
  wpAny (model prog w) A (call (.builtin "str.join") [.str ⟨#[]⟩ t,.ref D]) Q E s:=by
 refine SC.join (texts:=[a]) (l:=[(a,tt)]) hl rfl ?_ fun t' k=>?_
 ·have:JoinOk ⟨#[]⟩ [a]=!decide (0+a.length+0 > sizeLine):=rfl;rw[this,decide_eq_false (by simp[*])];rfl
 ·have:Txt.join ⟨#[]⟩ [a]=a:=rfl;rw[this];exact h t' k
theorem AM (hR:Rel w.params z5 ρ es.hp s.heap) {t:Tok} {y:AV} {v:Value} (hy:VRel es.hp.length ρ y v):Tr prog w z5 A (nD y) es (call (.builtin "str.join") [.str ⟨#[]⟩ t,v]) ρ s RV:=by
 cases y with
 | ptr i =>
  obtain ⟨hi,rfl⟩:=hy;refine Tr.peek fun o es1 p1 e1 _=>?_;replace e1:=bG e1;obtain ⟨ho,rfl,rfl⟩:=e1;refine ⟨rfl,?_⟩
  match o,ho with
  | .list [],ho =>
   intro u es' pc e _;refine au (show EM.ret _ es1=_ from e) ?_;replace ho:=hR.at ho;obtain ⟨its,ep,o1,o2⟩:=ho
   have hi:its=(strValues []).toArray:=by
    cases hl:its.toList with
    | nil=>exact Array.toList_inj.mp hl
    | cons _ _=>rw[hl] at o2;exact o2.elim
   exact SC.join (texts:=[]) (l:=[]) (hi▸cg o1) rfl (by unfold JoinOk Builtin.Str.tooLong;rw[sizeLine_eq];rfl) fun t' k=>⟨ρ,Stp.toks0 hR _,t',rfl⟩
  | .list [.sstr a],ho =>
   refine Tr.need fun hz=>?_;intro u es' pc e _;refine au e ?_;replace ho:=hR.at ho;obtain ⟨its,ep,o1,o2⟩:=ho
   match hl:its.toList,o2 with
   | [b],o2 =>
    refine ag fun G0 hG0=>?_;obtain ⟨⟨tt,rfl⟩,_⟩:=o2;refine hG0 ?_;have hi:its=(strValues [(a,tt)]).toArray:=Array.toList_inj.mp hl;refine AK (hi▸cg o1) (cQ hz) fun t' k=>⟨ρ,Stp.toks0 hR _,t',rfl⟩
   | [],o2=>exact o2.elim
   | _::_::_,o2=>exact o2.2.elim
  | .list (.none::_),_ | .list (.bool _::_),_ | .list (.int _::_),_ | .list (.sint _::_),_ | .list (.str _::_),_ | .list (.ptr _::_),_ | .list (.bi _::_),_ | .list (.con _::_),_ | .list (.sstr _::_::_),_=>exact Tr.fail
  | .snoc _ _,_ | .numl _,_ | .tuple _,_ | .dict _,_ | .inst _ _,_ | .meth _ _,_ | .ns _,_ | .cell _,_ | .iter _ _,_ | .dead,_=>exact Tr.fail
 | _=>exact Tr.fail
theorem xr {x y z:Str} {t u v:Tok} {Q:Value->Shared->Prop} {E:Value->Shared->Prop} (hn:Builtin.Str.occurrences x y 0 x.length (x.length+1)=[]) (h:Q (.str x t) s) :
  wpAny (model prog w) A (call (.builtin "str.replace") [.str x t,.str y u,.str z v]) Q E s:=by
 refine call_gives F.slot_str_replace (typeIs_str _ _ _) F.entry_str_replace (F.args_str_replace_3 _ _ _) (gives_str_replace x y z t u v fun q=>?_) ?_
 ·rw[hn] at q;exact noF q
 ·rw[hn];exact h
theorem pP (n:Nat):fromIndex n 0=0:=by unfold fromIndex;simp
theorem pQ (n:Nat):fromIndex n (n:Int)=n:=by
 unfold fromIndex;rw[if_neg (by exact Int.not_ofNat_neg n)];rfl
theorem uM (x y:Str) (t u a b:Tok):Gives (Builtin.«str.count» ⟨[.str x t,.str y u,.int 0 a,.int x.length b],[]⟩) (.int (Txt.count x y)):=by
 show Gives (PySem.retInt (Builtin.Str.occurrences x y (fromIndex x.length 0) (min (fromIndex x.length x.length) x.length) (x.length+1)).length) _;rw[pP,pQ,Nat.min_self];exact .of_eq rfl
theorem uL (x y:Str) (t u a b:Tok):Gives (Builtin.«str.rfind» ⟨[.str x t,.str y u,.int 0 a,.int x.length b],[]⟩) (.int (Txt.rfind x y)):=by
 show Gives (match Builtin.Str.lastOccurrence x y (fromIndex x.length 0) (min (fromIndex x.length x.length) x.length) with | some i=>PySem.retInt i | none=>(do rule "str.rfind.not-found";PySem.retInt (-1))) _
 rw[pP,pQ,Nat.min_self];unfold Txt.rfind
 cases Builtin.Str.lastOccurrence x y 0 x.length with
 | none=>exact .rule (.of_eq rfl)
 | some i=>exact .of_eq rfl
theorem Cw (hR:Rel w.params z5 ρ es.hp s.heap) {x y z:Str} {t u v:Tok}:Tr prog w z5 A (th x y) es (PySem.call (.builtin "str.replace") [.str x t,.str y u,.str z v]) ρ s RV:=by
 refine Tr.need fun hz=>?_;intro r es' pc e _;refine au e ?_;exact xr hz ⟨ρ,Stp.refl hR,_,rfl⟩
theorem Cu (hR:Rel w.params z5 ρ es.hp s.heap) {b:BI} {x y:Str} {k:Int} {t u a c:Tok}:Tr prog w z5 A (ku b x y k) es (call b.val [.str x t,.str y u,.int 0 a,.int k c]) ρ s RV:=by
 cases b with
 | sCount =>
  refine Tr.need fun hz=>?_;intro r es' pc e _;refine au e ?_;refine ag fun G0 hG0=>?_;obtain ⟨rfl,hz⟩:=hz;refine hG0 ?_;exact call_gives F.slot_str_count (typeIs_str _ _ _) F.entry_str_count (F.args_str_count_4 _ _ _ _) (uM x y t u a c) ⟨ρ,Stp.toks0 hR _,_,rfl⟩
 | sRfind =>
  refine Tr.need fun hz=>?_;intro r es' pc e _;refine au e ?_;refine ag fun G0 hG0=>?_;obtain ⟨rfl,hz⟩:=hz;refine hG0 ?_;exact call_gives F.slot_str_rfind (typeIs_str _ _ _) F.entry_str_rfind (F.args_str_rfind_4 _ _ _ _) (uL x y t u a c) ⟨ρ,Stp.toks0 hR _,_,rfl⟩
 | _=>exact Tr.fail
theorem uP {b:BI} {x y z:AV} {es:ES} {r:AV×ES×List Prop} (h:sS b x y z es=some r):∃ s p q,x=.sstr s/\y=.str p/\z=.str q/\b=.sReplace:=by
 cases x with
 | sstr s =>
  cases y with
  | str p =>
   cases z with
   | str q =>
    cases b with
    | sReplace=>exact ⟨s,p,q,rfl,rfl,rfl,rfl⟩
    | _=>exact non h
   | _=>exact non h
  | _=>exact non h
 | _=>exact non h
theorem uO {b:BI} {x y z u:AV} {es:ES} {r:AV×ES×List Prop} (h:sR b x y z u es=some r):∃ s p k,x=.sstr s/\y=.str p/\z=.int 0/\u=.sint k/\ku b s p k es=some r:=by
 cases x with
 | sstr s =>
  cases y with
  | str p =>
   cases z with
   | int i =>
    cases u with
    | sint k =>
     obtain ⟨q,e⟩:=c8 (a:=r.1) (es':=r.2.1) (pc:=r.2.2) (show EM.chk (decide (i=0)) (ku b s p k) es=_ from h);exact ⟨s,p,k,rfl,rfl,congrArg _ (of_decide_eq_true q),rfl,e⟩
    | _=>exact non h
   | _=>exact non h
  | _=>exact non h
 | _=>exact non h
theorem Bw (B:Bt prog w z5 K T) {n:Nat} {call:Addr->List AV->EM AV} (hC:fH prog w z5 n call) (hF:gm z5 call) (hA:BOK n A) (hR:Rel w.params z5 ρ es.hp s.heap)
  {fa:AV} {f:Value} (hf:VRel es.hp.length ρ fa f) {args:List AV} {vs:List Value} (hv:All2 (VRel es.hp.length ρ) args vs) {a:AV} {es':ES} {pc:List Prop} (e:fQ T call fa args es=some (a,es',pc)) (z8:∀ p∈pc,p) :
  Keeps (model prog w) f s.heap/\wpAny (model prog w) A (PySem.call f vs) (Out w.params z5 ρ es.hp s es'.hp (RV a)) (fun _ _=>False) s:=by
 cases fa with
 | con c =>
  rw[show f=c from hf]
  cases c with
  | ref c =>
   cases hi:T.init c with
   | some fI =>
    have e:(do
     let d <- EM.new (.dict [])
     let x <- EM.new (.inst c d)
     match <- call fI (.ptr x::args) with
     | .none=>EM.ret (.ptr x)
     | _=>EM.fail:EM AV) es=some (a,es',pc):=by
     have:fQ T call (.con (.ref c)) args=_:=rfl;unfold fQ at e;dsimp only at e;rw[hi] at e;exact e
    refine ag fun G0 hG0=>?_;obtain ⟨K,X,_,_,_,kk⟩:=B.init c fI hi;refine hG0 ?_;exact ⟨keeps_K kk _ (X.keeps hR.keep),(CN B hC hA hR hi hv).wp a es' pc e z8⟩
   | none =>
    have e:call c args es=some (a,es',pc):=by
     unfold fQ at e;dsimp only at e;rw[hi] at e;exact e
    refine ag fun G0 hG0=>?_;obtain ⟨K,X,kf⟩:=hF _ _ _ _ e;refine hG0 ?_;exact ⟨keeps_K (rz kf) _ (X.keeps hR.keep),(hC A hA.aok es ρ s c args vs hR hv).wp a es' pc e z8⟩
  | _=>exact non e
 | ptr i =>
  refine ag fun G0 hG0=>?_;obtain ⟨hi,rfl⟩:=hf;replace e:=ak (show (EM.obj i>>=_) es=_ from e);obtain ⟨o,es1,p1,p2,e1,e2,rfl⟩:=e;replace e1:=bG e1;obtain ⟨ho,rfl,rfl⟩:=e1;refine hG0 ?_
  cases o with
  | meth g self =>
   refine ag fun G0 hG0=>?_;replace ho:=hR.at ho;obtain ⟨v,o1,o2⟩:=ho;have e2:call g (self::args) es1=some (a,es',p2):=e2;replace e2:=hF _ _ _ _ e2;obtain ⟨K,X,kf⟩:=e2;refine hG0 ?_;refine ⟨keeps_M kf _ ⟨o1,X.keeps hR.keep⟩,wpAny_call (method_call o1 (codeAny_mono (hC A hA.aok es1 ρ s g (self::args) (v::vs) hR ⟨o2,hv⟩ a es' p2 e2 fun p hp=>z8 p (Qj _ hp)) fun r s' z=>?_))⟩;obtain ⟨v,ρ',rfl,S,r⟩:=z;exact ⟨ρ',S,r⟩
  | _=>exact aL e2
 | bi b =>
  rw[show f=b.val from hf];have e:tO b args es=some (a,es',pc):=e
  match args,e,hv with
  | [x],e,hv =>
   obtain ⟨v,_,rfl,hx,hv⟩:=hv.inv;obtain rfl:=hv.inv0;have e:sU b x es=some (a,es',pc):=e
   cases x with
   | ptr i =>
    obtain ⟨hi,rfl⟩:=hx
    cases b with
    | len=>exact ⟨ft _ _,En B.toBs hR hi a es' pc e z8⟩
    | dict=>exact ⟨ft _ _,Bd hA.handled hR a es' pc e z8⟩
    | _=>exact non e
   | sstr x =>
    obtain ⟨t,rfl⟩:=hx
    cases b with
    | len =>
     refine ⟨ft _ _,?_⟩
     have T:Tr prog w z5 A (EM.need (x.length<=aa)>>=fun _=>EM.ret (AV.sint x.length)) es (PySem.call (.builtin "len") [.str x t]) ρ s RV:=by
      refine Tr.need fun hz=>?_;intro u es' pc e _;refine au e ?_;exact P.len_str (by unfold aa at hz;lia) ⟨ρ,Stp.toks0 hR _,_,rfl⟩
     exact T a es' pc e z8
    | ord =>
     refine ⟨ft _ _,?_⟩
     have T:Tr prog w z5 A (EM.need (x.length=1)>>=fun _=>EM.ret (AV.sint (x.cps.getD 0 0:Nat))) es (PySem.call (.builtin "ord") [.str x t]) ρ s RV:=by
      refine Tr.need fun hz=>?_;intro u es' pc e _;refine au e ?_;obtain ⟨⟨l⟩⟩:=x
      match l,hz with
      | [c],_=>exact P.ord_of_char ⟨ρ,Stp.toks0 hR _,_,rfl⟩
      | [],hz=>cases hz
      | _::_::_,hz=>simp[Str.length] at hz
     exact T a es' pc e z8
    | _=>exact non e
   | _=>exact non e
  | [x,y],e,hv =>
   obtain ⟨v,_,rfl,hx,hv⟩:=hv.inv;obtain ⟨z,_,rfl,hy,hv⟩:=hv.inv;obtain rfl:=hv.inv0;have e:sT b x y es=some (a,es',pc):=e
   cases x with
   | ptr i =>
    obtain ⟨hi,rfl⟩:=hx
    cases b with
    | lAppend=>exact ⟨ft _ _,yV hR hi hy a es' pc e z8⟩
    | lPop =>
     match y,hy with
     | .int (.ofNat 0),hy=>obtain ⟨t,rfl⟩:=hy;exact ⟨ft _ _,Eg hR hi a es' pc e z8⟩
     | .int (.ofNat (_+1)),_ | .int (.negSucc _),_ | .none,_ | .bool _,_ | .sint _,_ | .str _,_ | .sstr _,_ | .ptr _,_ | .bi _,_ | .con _,_=>exact non e
    | _=>exact non e
   | str x =>
    obtain ⟨t,rfl⟩:=hx
    cases b with
    | sJoin =>
     have e:EM.chk (seq x ⟨#[]⟩) (nD y) es=some (a,es',pc):=e;replace e:=c8 e;obtain ⟨q,e⟩:=e;rw[(bt _ _).mp q];exact ⟨ft _ _,AM hR hy a es' pc e z8⟩
    | _=>exact non e
   | _=>exact non e
  | [x,y,z],e,hv =>
   obtain ⟨v,_,rfl,hx,hv⟩:=hv.inv;obtain ⟨v2,_,rfl,hy,hv⟩:=hv.inv;obtain ⟨v3,_,rfl,hz,hv⟩:=hv.inv;obtain rfl:=hv.inv0;obtain ⟨s,p,q,rfl,rfl,rfl,rfl⟩:=uP e;obtain ⟨t,rfl⟩:=hx;obtain ⟨u,rfl⟩:=hy;obtain ⟨c,rfl⟩:=hz;exact ⟨ft _ _,Cw hR a es' pc e z8⟩
  | [x,y,z,u],e,hv =>
   obtain ⟨v,_,rfl,hx,hv⟩:=hv.inv;obtain ⟨v2,_,rfl,hy,hv⟩:=hv.inv;obtain ⟨v3,_,rfl,hz,hv⟩:=hv.inv;obtain ⟨v4,_,rfl,hu,hv⟩:=hv.inv;obtain rfl:=hv.inv0;obtain ⟨s,p,k,rfl,rfl,rfl,rfl,e⟩:=uO e;obtain ⟨t,rfl⟩:=hx;obtain ⟨c,rfl⟩:=hy;obtain ⟨d,rfl⟩:=hz;obtain ⟨g,rfl⟩:=hu;exact ⟨ft _ _,Cu hR a es' pc e z8⟩
  | [],e,_=>exact non e
  | _::_::_::_::_::_,e,_=>exact non e
 | _=>exact non e
end
end TE
namespace TE
set_option tactic.hygienic false
theorem pcL {a b:List Prop} (h:∀ p∈a++b,p):∀ p∈a,p:=fun p hp=>h p (Qm _ hp)
theorem pcR {a b:List Prop} (h:∀ p∈a++b,p):∀ p∈b,p:=fun p hp=>h p (Qj _ hp)
section
variable {prog:Program} {w:World} {z5:Heap} {K:Frag} {T:Tab} {A:Around} {es:ES} {ρ:Nat->Addr} {s:Shared} {env:Env} {fr:Nat} {scope:Scope} {cells:List (Str×Nat)}
theorem Tr.go {α β:Type} {m:EM α} {t:Sem β} {R:α->Nat->(Nat->Addr)->β->Prop} {a:α} {es':ES} {pc:List Prop} {Q:β->Shared->Prop} {E:Value->Shared->Prop}
  (h:Tr prog w z5 A m es t ρ s R) (e:m es=some (a,es',pc)) (z8:∀ p∈pc,p)
  (k:∀ b s1 ρ1,Stp w.params z5 ρ es.hp s ρ1 es'.hp s1->R a es'.hp.length ρ1 b->Q b s1):wpAny (model prog w) A t Q E s :=
 wpAny_mono (h a es' pc e z8) (fun _ _ ⟨_,S,r⟩=>k _ _ _ S r) fun _ _ x=>x.elim
abbrev RF:AF->Nat->(Nat->Addr)->Flow->Prop:=fun f n ρ fl=>match f with
 | .next=>fl=.next
 | .brk=>fl=.brk
 | .cont=>fl=.cont
 | .ret a=>∃ v,fl=.ret v/\VRel n ρ a v
structure aR (prog:Program) (w:World) (z5:Heap) (A:Around) (env:Env) (fr:Nat) (scope:Scope) (cells:List (Str×Nat)) (r:Ev):Prop where
 e:∀ {es ρ s},Rel w.params z5 ρ es.hp s.heap->EnvR es.hp.length ρ env fr scope cells->∀ x,Tr prog w z5 A (r.e x) es (eval x env) ρ s RV
 t:∀ {es ρ s},Rel w.params z5 ρ es.hp s.heap->EnvR es.hp.length ρ env fr scope cells->∀ x,Tr prog w z5 A (r.t x) es (isTrue x env (eval x env)) ρ s RB
 s:∀ {es ρ s},Rel w.params z5 ρ es.hp s.heap->EnvR es.hp.length ρ env fr scope cells->∀ x,Tr prog w z5 A (r.s x) es (exec x env) ρ s RF
theorem cf {e:Expr} (h:b0 e=false) (rest:List Expr):starEach (e::rest) env=(false,eval e env)::starEach rest env:=by
 cases e<;>first | rfl | exact noF h
theorem ff (pos:Pos):∀ {l:List Expr},l.any b0=false->(backTo pos (starEach l env)).any (·.1)=false
 | [],_=>rfl
 | e::r,h=>by
  rw[List.any_cons,Bool.or_eq_false_iff] at h;rw[cf h.1];show (false||(backTo pos (starEach r env)).any (·.1))=false;rw[ff pos h.2];rfl
theorem j4 {r:Ev} (H:aR prog w z5 A env fr scope cells r) (pos:Pos):∀ (l:List Expr) {es:ES} {ρ:Nat->Addr} {s:Shared},Rel w.params z5 ρ es.hp s.heap->EnvR es.hp.length ρ env fr scope cells->l.any b0=false ->
  Tr prog w z5 A (eL r.e l) es (spliced (backTo pos (starEach l env))) ρ s RVs
 | [],es,ρ,s,hR,hE,_=>by
  intro a es' pc e _;refine au e ?_;exact wpAny_items_nil ⟨ρ,Stp.refl hR,trivial⟩
 | x::l,es,ρ,s,hR,hE,hs=>by
  rw[List.any_cons,Bool.or_eq_false_iff] at hs;intro a es' pc e z8;refine ag fun G0 hG0=>?_;replace e:=ak e;obtain ⟨v,es1,p1,p2,e1,e2,rfl⟩:=e;replace e2:=ak e2;obtain ⟨vs,es2,p3,p4,e3,e4,rfl⟩:=e2;refine hG0 ?_;refine au e4 ?_;refine wpAny_items_cons ((H.e hR hE x).go e1 (pcL z8) fun b s1 ρ1 S1 r1=>(j4 H pos l S1.rel (S1.env hE) hs.2).go e3 (pcL (pcR z8)) fun bs s2 ρ2 S2 r2=>?_) (cf hs.1 l);exact ⟨ρ2,S1.trans S2,S2.val r1,r2⟩
theorem oA (B:Bt prog w z5 K T) {n:Nat} {call:Addr->List AV->EM AV} (hC:fH prog w z5 n call) (hF:gm z5 call) (hA:BOK n A) {r:Ev} (H:aR prog w z5 A env fr scope cells r)
  (hR:Rel w.params z5 ρ es.hp s.heap) (hE:EnvR es.hp.length ρ env fr scope cells) (pos:Pos) {args:List Expr} (hs:args.any b0=false) {fa:AV} {f:Value} (hf:VRel es.hp.length ρ fa f) {fst:List AV} {first:List Value} (h1:All2 (VRel es.hp.length ρ) fst first) :
  Tr prog w z5 A (eL r.e args>>=fun vs=>fQ T call fa (fst++vs)) es (callWith pos f first (backTo pos (starEach args env)) []) ρ s RV:=by
 intro a es' pc e z8;replace e:=ak e;obtain ⟨vs,es1,p1,p2,e1,e2,rfl⟩:=e;have plain:((backTo pos (starEach args env)).any (·.1)||([]:List (Option Str×Sem Value)).any (·.1.isNone))=false:=by rw[ff pos hs];rfl
 have go (bs:List Value) (s1:Shared) (ρ1:Nat->Addr) (S1:Stp w.params z5 ρ es.hp s ρ1 es1.hp s1) (r1:All2 (VRel es1.hp.length ρ1) vs bs) :
   Keeps (model prog w) f s1.heap/\wpAny (model prog w) A (PySem.call f (first++bs)) (Out w.params z5 ρ es.hp s es'.hp (RV a)) (fun _ _=>False) s1:=by
  replace z8:=Bw B hC hF hA S1.rel (S1.val hf) ((S1.vals h1).append r1) e2 (pcR z8);obtain ⟨k1,k2⟩:=z8;exact ⟨k1,wpAny_mono k2 (fun b s' ⟨ρ',S2,r2⟩=>⟨ρ',S1.trans S2,r2⟩) fun _ _ x=>x⟩
 cases args with
 | nil =>
  replace e1:=eC e1;obtain ⟨rfl,rfl,rfl⟩:=e1;have g:=go [] s ρ (Stp.refl hR) trivial;exact callWith_of (P:=fun h=>Keeps (model prog w) f h) plain (fun _ x=>x) (evalArgs_nil3 g)
 | cons x l =>
  rw[List.any_cons,Bool.or_eq_false_iff] at hs;have L:=j4 H pos (x::l) hR hE (by rw[List.any_cons,hs.1,hs.2];rfl);rw[cf hs.1] at L plain ⊢;refine callWith_of (P:=fun h=>Keeps (model prog w) f h) plain (fun _ x=>x) (evalArgs_plain (L.go e1 (pcL z8) fun bs s1 ρ1 S1 r1=>?_));exact go bs s1 ρ1 S1 r1
theorem Bm (hR:Rel w.params z5 ρ es.hp s.heap) (c:Const) (k:Nat) (p:Pos):Tr prog w z5 A (sP c) es (eval (.Constant c k p) env) ρ s RV:=by
 cases c with
 | none=>intro a es' pc e _;refine au e ?_;exact wpAny_Constant_none ⟨ρ,Stp.refl hR,rfl⟩
 | bool b=>intro a es' pc e _;refine au e ?_;exact wpAny_Constant_bool ⟨ρ,Stp.refl hR,rfl⟩
 | int i=>intro a es' pc e _;refine au e ?_;exact wpAny_Constant_int ⟨ρ,Stp.toks0 hR _,_,rfl⟩
 | str x=>intro a es' pc e _;refine au e ?_;exact wpAny_Constant_str ⟨ρ,Stp.toks0 hR _,_,rfl⟩
 | _=>exact Tr.fail
theorem j7 {o:Expr} {name:Str} (h:gD o=true):attributeBase o name env (eval o env)=eval o env:=by
 cases o with
 | Call f args kws p =>
  cases f with
  | Name id q =>
   cases args with
   | nil =>
    cases kws with
    | nil=>exact noT h
    | cons=>rfl
   | cons=>rfl
  | _=>rfl
 | _=>rfl
end
end TE
namespace TE
set_option tactic.hygienic false
section
variable {P:Params} {z5:Heap} {ρ ρ1:Nat->Addr} {σ σ1:List AO} {s s1:Shared}
theorem Stp.keeps (R:Rel P z5 ρ σ s.heap) {h':Heap} {t:Nat} (hz:s.heap.objs.size<=h'.objs.size) (hk:∀ b o,s.heap.get? b=some o->h'.get? b=some o):Stp P z5 ρ σ s ρ σ { s with heap:=h',toks:=t } where
 gens:=rfl
 os:=rfl
 drawn:=rfl
 len:=Qa _
 ext:=fun _ _=>rfl
 size:=hz
 fresh:=fun _ a b=>absurd b (Nat.not_lt.mpr a)
 other:=fun b o _ e=>hk b o e
 rel:=⟨Qf R.base hz,fun b o e=>hk b o (R.keep b o e),fun i o e=>(R.own i o e).mono (Qa _) (fun _ _=>rfl) hz (hk _),R.high,R.inj⟩
theorem Stp.junk (R:Rel P z5 ρ σ s.heap) (ob:Obj) {t:Nat}:Stp P z5 ρ σ s ρ σ { s with heap:=s.heap.push ob,toks:=t } :=
 Stp.keeps R (by rw[Qs];exact Nat.le_succ _) fun _ _ e=>Qe _ e
theorem Stp.late (R:Rel P z5 ρ σ s.heap) {ob:Obj} {o:AO} {h':Heap} {t t':Nat} (S:Stp P z5 ρ σ { s with heap:=s.heap.push ob,toks:=t } ρ1 σ1 s1) (hs:Heap.SameBut s.heap.objs.size s1.heap h')
  (ho:ORel P (σ1.length+1) (ext1 ρ1 σ1.length s.heap.objs.size) h' s.heap.objs.size o):Stp P z5 ρ σ s (ext1 ρ1 σ1.length s.heap.objs.size) (σ1++[o]) { s1 with heap:=h',toks:=t' }:=by
 have low:∀ j,j < σ.length->ρ j < s.heap.objs.size:=fun j hj=>(R.own j _ (Qo hj)).lt;have sz:(s.heap.push ob).objs.size=s.heap.objs.size+1:=Qs _ _
 have ne:∀ i,i < σ1.length->ρ1 i≠s.heap.objs.size:=fun i hi=>by
  by_cases q:i < σ.length
  ·rw[S.ext i q];exact Qh (low i q)
  ·have:(s.heap.push ob).objs.size<=ρ1 i:=S.fresh i (Nat.not_lt.mp q) hi;exact (Qh (by lia:s.heap.objs.size < ρ1 i)).symm
 have s1z:(s.heap.push ob).objs.size<=s1.heap.objs.size:=S.size;refine ⟨S.gens,S.os,S.drawn,⟨?_,fun b o e=>?_,fun j o' e=>?_,fun j hj=>?_,fun j k hj hk e=>?_⟩,?_,fun i hi=>?_,?_,fun j a b=>?_,fun b o hb e=>?_⟩
 ·exact Qf S.rel.base (Nat.le_of_eq hs.1.symm)
 ·exact (hs.2 b (Qh (Qd (Qg e) R.base))).trans (S.rel.keep b o e)
 ·rw[List.length_append];show ORel P (σ1.length+1) _ h' (ext1 ρ1 σ1.length s.heap.objs.size j) o'
  by_cases q:j < σ1.length
  ·rw[List.getElem?_append_left q] at e;rw[da _ _ q];exact (S.rel.own j o' e).mono (Nat.le_succ _) (fun i hi=>da _ _ hi) (Nat.le_of_eq hs.1.symm) fun o e=>(hs.2 _ (ne j q)).trans e
  ·rw[Qr (Nat.not_lt.mp q)] at e
   have z:j - σ1.length=0:=by
    replace e:=Qy e;obtain ⟨l,_⟩:=e;simpa using l
   have:j=σ1.length:=by lia
   subst this;rw[Nat.sub_self] at e;obtain rfl:=Qb e;rw[dZ];exact ho
 ·by_cases q:j < σ1.length
  ·rw[da _ _ q];exact S.rel.high j q
  ·have:j=σ1.length:=by simp at hj;exact Nat.eq_of_lt_succ_of_not_lt hj q
   subst this;rw[dZ];exact R.base
 ·simp only[List.length_append,List.length_cons,List.length_nil] at hj hk
  by_cases q:j < σ1.length
  ·by_cases q':k < σ1.length
   ·rw[da _ _ q,da _ _ q'] at e;exact S.rel.inj j k q q' e
   ·have:k=σ1.length:=by exact Nat.eq_of_lt_succ_of_not_lt hk q'
    subst this;rw[da _ _ q,dZ] at e;exact absurd e (ne j q)
  ·have:j=σ1.length:=by exact Nat.eq_of_lt_succ_of_not_lt hj q
   subst this
   by_cases q':k < σ1.length
   ·rw[da _ _ q',dZ] at e;exact absurd e.symm (ne k q')
   ·exact Eq.symm (Nat.eq_of_lt_succ_of_not_lt hk q')
 ·have:=S.len;simp;exact Nat.le_add_right_of_le this
 ·rw[da _ _ (Qd hi S.len)];exact S.ext i hi
 ·show s.heap.objs.size<=h'.objs.size;have:=hs.1;lia
 ·by_cases q:j < σ1.length
  ·rw[da _ _ q];have:(s.heap.push ob).objs.size<=ρ1 j:=S.fresh j a q;lia
  ·have:j=σ1.length:=by simp at b;exact Nat.eq_of_lt_succ_of_not_lt b q
   subst this;rw[dZ];exact Qa _
 ·have:=S.other b o hb (Qe _ e);exact (hs.2 b (Qh (Qg e))).trans this
end
section
variable {prog:Program} {w:World} {z5:Heap} {K:Frag} {T:Tab} {A:Around} {es:ES} {ρ:Nat->Addr} {s:Shared} {env:Env} {fr:Nat} {scope:Scope} {cells:List (Str×Nat)}
theorem qx {x:Option Expr} {k:Str} (h:iw x=some k):∃ kd p,x=some (.Constant (.str k) kd p):=by
 cases x with
 | none=>exact non h
 | some e =>
  cases e with
  | Constant c kd p =>
   cases c with
   | str s=>exact ⟨kd,p,by rw[Qb (show some s=some k from h)]⟩
   | _=>exact non h
  | _=>exact non h
theorem rJ {r:Ev} (H:aR prog w z5 A env fr scope cells r) (pos:Pos):∀ (ks:List (Option Expr)) (vs:List Expr) {es:ES} {ρ:Nat->Addr} {s:Shared},Rel w.params z5 ρ es.hp s.heap->EnvR es.hp.length ρ env fr scope cells ->
  Tr prog w z5 A (gO r.e ks vs) es (evalPairs (pairTrees ks vs env pos)) ρ s (fun a n ρ b=>∃ kvs,Carries (strKind prog w) b kvs/\All2 (cF n ρ) a kvs/\(a.map (·.1)).Nodup/\ks.all (·.isSome)=true/\ks.length=vs.length)
 | [],[],es,ρ,s,hR,hE=>by
  intro a es' pc e _;refine au e ?_;exact pairTrees_nil_walk ⟨ρ,Stp.refl hR,[],trivial,trivial,List.nodup_nil,rfl,rfl⟩
 | kx::ks,x::vs,es,ρ,s,hR,hE=>by
  show Tr prog w z5 A (match iw kx with
   | some k=>(r.e x>>=fun v=>gO r.e ks vs>>=fun l=>match lk l k with | none=>EM.ret ((k,v)::l) | some _=>EM.fail)
   | none=>EM.fail) es _ ρ s _
  cases qk:iw kx with
  | none=>exact Tr.fail
  | some k =>
   refine ag fun G0 hG0=>?_;replace qk:=qx qk;obtain ⟨kd,p,rfl⟩:=qk;refine hG0 ?_;intro a es' pc e z8;refine ag fun G0 hG0=>?_;obtain ⟨v,es1,p1,p2,e1,e2,rfl⟩:=ak (show (r.e x>>=fun v=>gO r.e ks vs>>=fun l=>match lk l k with | none=>EM.ret ((k,v)::l) | some _=>EM.fail) es=_ from e)
   replace e2:=ak e2;obtain ⟨l,es2,p3,p4,e3,e4,rfl⟩:=e2;refine hG0 ?_
   cases q:lk l k with
   | some _=>rw[q] at e4;exact aL e4
   | none =>
    rw[q] at e4;refine au e4 ?_;refine pairTrees_cons_walk (wpAny_Constant_str ((H.e (s:={ s with toks:=s.toks+1 }) hR hE x).go e1 (pcL z8) fun b s1 ρ1 S1 r1=>(rJ H pos ks vs S1.rel (S1.env hE)).go e3 (pcL (pcR z8)) fun bs s2 ρ2 S2 r2=>?_))
    refine ag fun G0 hG0=>?_;obtain ⟨kvs,c1,c2,c3,c4,c5⟩:=r2;refine hG0 ?_;refine ⟨ρ2,((Stp.toks0 hR _).trans S1).trans S2,(k,b)::kvs,⟨hV k _,rfl,c1⟩,⟨⟨rfl,S2.val r1⟩,c2⟩,?_,?_,?_⟩
    ·rw[List.map_cons,List.nodup_cons];exact ⟨ot q,c3⟩
    ·rw[List.all_cons,c4];rfl
    ·rw[List.length_cons,List.length_cons,c5]
 | [],_::_,_,_,_,_,_=>Tr.fail
 | _::_,[],_,_,_,_,_=>Tr.fail
end
end TE
namespace TE
set_option tactic.hygienic false
section
variable {prog:Program} {w:World} {z5:Heap} {K:Frag} {T:Tab} {A:Around} {es:ES} {ρ:Nat->Addr} {s:Shared} {env:Env} {fr:Nat} {scope:Scope} {cells:List (Str×Nat)}
theorem xV {n:Nat} {a:Addr} {o:AO} (ho:ORel w.params n ρ s.heap a o) {i:AV} {es':ES} {r:AV×ES×List Prop} (e:jd o i es'=some r) :
  ∃ T id,s.TypeIs (.ref a) T/\typeLookup (.type T) "__getitem__" = pure (some (.builtin id)):=by
 cases o with
 | dict l=>obtain ⟨_,_,o1,_⟩:=ho;exact ⟨"dict",_,⟨_,o1,rfl⟩,slot_dict_getitem.lookup⟩
 | list l=>obtain ⟨_,_,o1,_⟩:=ho;exact ⟨"list",_,⟨_,o1,rfl⟩,slot_list_getitem.lookup⟩
 | snoc _ l=>obtain ⟨_,_,_,o1,_⟩:=ho;exact ⟨"list",_,⟨_,o1,rfl⟩,slot_list_getitem.lookup⟩
 | tuple l=>obtain ⟨_,_,o1,_⟩:=ho;exact ⟨"tuple",_,⟨_,o1,rfl⟩,slot_tuple_getitem.lookup⟩
 | _=>exact non e
theorem iV {ix:Expr} (h:h7 ix=true) (o i:Value):subscripted ix false o i=operate [o,i] (getItem o i):=by
 cases ix<;>first | rfl | exact noT h
theorem uD (B:Bt prog w z5 K T) {r:Ev} (H:aR prog w z5 A env fr scope cells r) (hR:Rel w.params z5 ρ es.hp s.heap) (hE:EnvR es.hp.length ρ env fr scope cells) {o ix:Expr} (hp:h7 ix=true) (pos:Pos) :
  Tr prog w z5 A (r.e o>>=fun ov=>r.e ix>>=fun iv=>fu T ov iv) es (eval (.Subscript o ix pos) env) ρ s RV:=by
 intro a es' pc e z8;refine ag fun G0 hG0=>?_;replace e:=ak e;obtain ⟨ov,es1,p1,p2,e1,e2,rfl⟩:=e;replace e2:=ak e2;obtain ⟨iv,es2,p3,p4,e3,e4,rfl⟩:=e2;refine hG0 ?_;refine Subscript_ ((H.e hR hE o).go e1 (pcL z8) fun b s1 ρ1 S1 r1=>(H.e S1.rel (S1.env hE) ix).go e3 (pcL (pcR z8)) fun c s2 ρ2 S2 r2=>?_)
 have gen (he:fu T ov iv=(cv T ov>>=fun ob=>jd ob iv)):wpAny (model prog w) A (subscriptTail o ix b c) (Out w.params z5 ρ es.hp s es'.hp (RV a)) (fun _ _=>False) s2:=by
  rw[he] at e4;refine ag fun G0 hG0=>?_;replace e4:=ak e4;obtain ⟨ob,es3,q1,q2,f1,f2,rfl⟩:=e4;replace f1:=g8 B.toBs S2.rel (S2.val r1) f1;obtain ⟨ad,rfl,ho,_,rfl,rfl⟩:=f1;obtain ⟨Ty,id,t1,t2⟩:=xV ho f2;refine hG0 ?_;exact tail_any t1 t2 ((pI S2.rel ho r2).go f2 (pcR (pcR (pcR z8))) fun d s3 ρ3 S3 r3=>⟨ρ3,(S1.trans S2).trans S3,r3⟩) (iV hp _ _)
 cases ov with
 | sstr x =>
  replace r1:=S2.val r1;obtain ⟨t,rfl⟩:=r1;exact tail_any (typeIs_str s2 x t) F.slot_str_getitem.lookup ((oE S2.rel r2).go e4 (pcR (pcR z8)) fun d s3 ρ3 S3 r3=>⟨ρ3,(S1.trans S2).trans S3,r3⟩) (iV hp _ _)
 | _=>exact gen rfl
theorem xw (its:Array Value) (h:0 < its.size):slicePick its none (some (Int.negSucc 0)) none=its.toList.dropLast.toArray:=by
 have e:slicePick its none (some (Int.negSucc 0)) none=slicePick its none (some ((its.size - 1:Nat):Int)) none:=by
  dsimp only[slicePick,sliceBounds];simp only[Option.getD_none];have h1:(Int.negSucc 0:Int) < 0:=by decide
  have h2:¬ (((its.size - 1:Nat):Int) < 0):=by exact Int.not_ofNat_neg (its.size - 1)
  have h3:(Int.negSucc 0:Int)+its.size=((its.size - 1:Nat):Int):=by omega
  simp[h2];rw[show (-1:Int)+its.size=((its.size - 1:Nat):Int) from h3]
 rw[e,slicePick_upto _ _ (Nat.sub_le _ _),List.dropLast_eq_take];simp
theorem n6 {n:Nat}:∀ {xs:List AV} {vs:List Value},All2 (VRel n ρ) xs vs->All2 (VRel n ρ) xs.dropLast vs.dropLast
 | [],[],_=>trivial
 | [_],[_],_=>trivial
 | a::b::xs,x::y::vs,h=>⟨h.1,n6 (xs:=b::xs) (vs:=y::vs) h.2⟩
 | [],_::_,h=>h.elim
 | _::_,[],h=>h.elim
 | [_],_::_::_,h=>h.2.elim
 | _::_::_,[_],h=>h.2.elim
theorem oW {n:Nat}:∀ {xs:List AV} {vs:List Value} (j:Nat),All2 (VRel n ρ) xs vs->All2 (VRel n ρ) (xs.take j) (vs.take j)
 | _,_,0,_=>trivial
 | [],[],_+1,_=>trivial
 | _::_,_::_,j+1,h=>⟨h.1,oW j h.2⟩
 | [],_::_,_+1,h=>h.elim
 | _::_,[],_+1,h=>h.elim
theorem Ai (B:Bt prog w z5 K T) {r:Ev} (H:aR prog w z5 A env fr scope cells r) (hR:Rel w.params z5 ρ es.hp s.heap) (hE:EnvR es.hp.length ρ env fr scope cells) {o hi:Expr} (p pos:Pos) :
  Tr prog w z5 A (r.e o>>=fun ov=>r.e hi>>=fun hv=>cv T ov>>=fun ob=>mt ob hv) es (eval (.Subscript o (.Slice none (some hi) none p) pos) env) ρ s RV:=by
 intro a es' pc e z8;replace e:=ak e;obtain ⟨ov,es1,p1,p2,e1,e2,rfl⟩:=e;replace e2:=ak e2;obtain ⟨iv,es2,p3,p4,e3,e4,rfl⟩:=e2;replace e4:=ak e4;obtain ⟨ob,es3,q1,q2,f1,f2,rfl⟩:=e4;refine Subscript_ ((H.e hR hE o).go e1 (pcL z8) fun b s1 ρ1 S1 r1=>wpAny_Slice ?_);rw[evalPart_none];refine wpAny_pure ?_;rw[evalPart_some];refine (H.e S1.rel (S1.env hE) hi).go e3 (pcL (pcR z8)) fun c s2 ρ2 S2 r2=>?_;refine wpAny_pure ?_;replace f1:=g8 B.toBs S2.rel (S2.val r1) f1;obtain ⟨ad,rfl,ho,_,rfl,rfl⟩:=f1;have SS:=S1.trans S2
 have fin {xs:List AV} {its:Array Value} {ep:Nat} {k:Int} {t:Tok} (o1:s2.heap.get? ad=some { cls:=.type "list",data:=.seq its ep }) (hz:its.size<=aa) (hc:c=.int k t) {ys:List AV} {vs:List Value}
   (hv:All2 (VRel es3.hp.length ρ2) ys vs) (hpk:slicePick its none (some k) none=vs.toArray) (he:a=.ptr es3.hp.length) {dd:List Nat} (hes:es'=⟨es3.hp++[.list ys],dd⟩) :
   wpAny (model prog w) A (subscriptTail o (.Slice none (some hi) none p) (.ref ad) (.ref s2.heap.objs.size)) (Out w.params z5 ρ es.hp s es'.hp (RV a)) (fun _ _=>False)
    { s2 with heap:=s2.heap.push { cls:=.type "slice",data:=.fields #[.none,c,.none] } }:=by
  subst he hes hc;have o1':(s2.heap.push { cls:=.type "slice",data:=.fields #[.none,.int k t,.none] }).get? ad=some { cls:=.type "list",data:=.seq its ep }:=Qe _ o1;refine tail_any (ops:=[.ref s2.heap.objs.size,.ref ad]) (cg o1').typeIs slot_list_getitem.lookup ?_ rfl;refine wpAny_getItem_list_slice (hsz:=cQ hz) (cg o1') (Heap.IsSliceOf.new ..) .none (.int k t) .none (by simp) ?_;rw[hpk];have S3:=Stp.junk (t:=s2.toks) S2.rel { cls:=.type "slice",data:=.fields #[.none,.int k t,.none] }
  exact ⟨_,(SS.trans S3).trans (Stp.push (t:=s2.toks) S3.rel ⟨vs.toArray,0,Qi _ rfl,by
   show All2 _ ys vs;exact hv.mono fun _ _ h=>h.ext1⟩),f8⟩
 cases ob with
 | list xs =>
  obtain ⟨its,ep,o1,o2⟩:=ho;have hs:=fY o2
  match iv,r2 with
  | .int (.negSucc 0),r2 =>
   refine ag fun G0 hG0=>?_;obtain ⟨t,rfl⟩:=r2;replace f2:=c8 (show EM.chk _ _ es3=_ from f2);obtain ⟨g1,g2⟩:=f2;replace g1:=Qx g1;obtain ⟨g3,g4⟩:=g1;have hz:its.size < aa:=by rw[hs];exact Qc g3
   have h0:0 < its.size:=by rw[hs];exact Qc g4
   replace g2:=ak g2;obtain ⟨p,es4,u1,u2,v1,v2,rfl⟩:=g2;replace v1:=dF v1;obtain ⟨rfl,rfl,rfl⟩:=v1;replace v2:=eC v2;obtain ⟨rfl,rfl,rfl⟩:=v2;refine hG0 ?_;exact fin (xs:=xs) o1 (Qk hz) rfl (n6 o2) (xw its h0) rfl rfl
  | .sint k,r2 =>
   refine ag fun G0 hG0=>?_;obtain ⟨t,rfl⟩:=r2;replace f2:=c8 (show EM.chk _ _ es3=_ from f2);obtain ⟨g1,g2⟩:=f2;have hz:its.size < aa:=by rw[hs];exact Qc g1
   replace g2:=ak g2;obtain ⟨j,es4,u1,u2,v1,v2,rfl⟩:=g2;replace v1:=wz v1;obtain ⟨v3,rfl⟩:=v1;replace v2:=c8 v2;obtain ⟨g5,g6⟩:=v2;have hj:j<=its.size:=by rw[hs];exact Qc g5
   replace g6:=ak g6;obtain ⟨p,es5,u3,u4,v4,v5,rfl⟩:=g6;replace v4:=dF v4;obtain ⟨rfl,rfl,rfl⟩:=v4;replace v5:=eC v5;obtain ⟨rfl,rfl,rfl⟩:=v5;have hk:k=(j:Int):=z8 _ (by simp);subst hk;refine hG0 ?_;exact fin (xs:=xs) o1 (Qk hz) rfl (oW j o2) (slicePick_upto its j hj) (by rw[v3]) (by rw[v3])
  | .int (.negSucc (_+1)),_ | .int (.ofNat _),_ | .none,_ | .bool _,_ | .str _,_ | .sstr _,_ | .ptr _,_ | .bi _,_ | .con _,_=>exact (dE (show EM.fail es3=_ from f2)).elim
 | _=>exact (dE (show EM.fail es3=_ from f2)).elim
theorem CD {r:Ev} (H:aR prog w z5 A env fr scope cells r) (hR:Rel w.params z5 ρ es.hp s.heap) (hE:EnvR es.hp.length ρ env fr scope cells) {o lo:Expr} {hi:Option Expr} (p pos:Pos) :
  Tr prog w z5 A (r.e o>>=fun ov=>r.e lo>>=fun lv=>nH r.e hi>>=fun hv=>mq ov lv hv) es (eval (.Subscript o (.Slice (some lo) hi none p) pos) env) ρ s RV:=by
 intro a es' pc e z8;replace e:=ak e;obtain ⟨ov,es1,p1,p2,e1,e2,rfl⟩:=e;replace e2:=ak e2;obtain ⟨lv,es2,p3,p4,e3,e4,rfl⟩:=e2;replace e4:=ak e4;obtain ⟨hv,es3,p5,p6,e5,e6,rfl⟩:=e4;refine Subscript_ ((H.e hR hE o).go e1 (pcL z8) fun b s1 ρ1 S1 r1=>wpAny_Slice ?_);rw[evalPart_some];refine (H.e S1.rel (S1.env hE) lo).go e3 (pcL (pcR z8)) fun c s2 ρ2 S2 r2=>?_
 cases ov with
 | sstr x =>
  have e6:(match aY lv with | some (i,_)=>s9 x i hv | none=>EM.fail) es3=some (a,es',p6):=e6
  cases ql:aY lv with
  | none=>rw[ql] at e6;exact (dE e6).elim
  | some q =>
   obtain ⟨i,q⟩:=q;rw[ql] at e6;obtain ⟨t,rfl⟩:=r1;replace r2:=fw ql r2;obtain ⟨u,rfl⟩:=r2
   cases hi with
   | none =>
    replace e5:=eC (show EM.ret none es2=_ from e5);obtain ⟨rfl,rfl,rfl⟩:=e5;rw[evalPart_none];refine wpAny_pure (wpAny_pure ?_);refine ag fun G0 hG0=>?_;obtain ⟨_,es4,q1,q2,f1,f2,rfl⟩:=ak (show (EM.need (x.length<=aa)>>=fun _=>EM.ret (AV.sstr (Txt.slice x (some i) none))) es3=_ from e6);replace f1:=dz f1;obtain ⟨rfl,rfl⟩:=f1;refine hG0 ?_;refine au f2 ?_;have hz:x.length<=aa:=z8 _ (by simp);refine tail_any (ops:=[.ref s2.heap.objs.size,.str x t]) (typeIs_str _ _ _) F.slot_str_getitem.lookup ?_ rfl;refine wpAny_getItem_str_slice (l:=some (i,u)) (u:=none) (st:=none) ⟨_,Qi _ rfl,rfl,rfl⟩ rfl (post_val_or_str ⟨Qf (Txt.slice_le x _ _) (cQ hz),fun t' k=>?_⟩);exact ⟨ρ2,(S1.trans S2).trans (Stp.junk S2.rel _),t',rfl⟩
   | some hi =>
    refine ag fun G0 hG0=>?_;obtain ⟨w',es4,q1,q2,f1,f2,rfl⟩:=ak (show (r.e hi>>=fun v=>EM.ret (some v)) es2=_ from e5);replace f2:=eC f2;obtain ⟨rfl,rfl,rfl⟩:=f2;refine hG0 ?_;rw[evalPart_some];refine (H.e S2.rel (S2.env (S1.env hE)) hi).go f1 (fun p hp=>z8 p (by simp[hp])) fun d s3 ρ3 S3 r3=>wpAny_pure ?_;have e6:(match aY w' with | some (j,_)=>(EM.need (x.length<=aa)>>=fun _=>EM.ret (AV.sstr (Txt.slice x (some i) (some j)))) | none=>EM.fail) es3=some (a,es',p6):=e6
    cases qh:aY w' with
    | none=>rw[qh] at e6;exact (dE e6).elim
    | some q =>
     refine ag fun G0 hG0=>?_;obtain ⟨j,q⟩:=q;rw[qh] at e6;replace r3:=fw qh r3;obtain ⟨v,rfl⟩:=r3;replace e6:=ak e6;obtain ⟨_,es5,q3,q4,f3,f4,rfl⟩:=e6;replace f3:=dz f3;obtain ⟨rfl,rfl⟩:=f3;replace f4:=eC f4;obtain ⟨rfl,rfl,rfl⟩:=f4;refine hG0 ?_;have hz:x.length<=aa:=z8 _ (by simp);refine tail_any (ops:=[.ref s3.heap.objs.size,.str x t]) (typeIs_str _ _ _) F.slot_str_getitem.lookup ?_ rfl;refine wpAny_getItem_str_slice (l:=some (i,u)) (u:=some (j,v)) (st:=none) ⟨_,Qi _ rfl,rfl,rfl⟩ rfl (post_val_or_str ⟨Qf (Txt.slice_le x _ _) (cQ hz),fun t' k=>?_⟩);exact ⟨ρ3,((S1.trans S2).trans S3).trans (Stp.junk S3.rel _),t',rfl⟩
 | _=>exact (dE (show EM.fail es3=_ from e6)).elim
end
end TE
namespace TE
set_option tactic.hygienic false
structure fG (prog:Program) (w:World) (z5:Heap) (A:Around) (env:Env) (fr:Nat) (scope:Scope) (cells:List (Str×Nat)) (hook:cy):Prop where
 comp:∀ {es ρ s},Rel w.params z5 ρ es.hp s.heap->EnvR es.hp.length ρ env fr scope cells->∀ a b c d,Tr prog w z5 A (hook.e (.ListComp a b c d) fr scope) es (eval (.ListComp a b c d) env) ρ s RV
 join:∀ {es ρ s},Rel w.params z5 ρ es.hp s.heap->EnvR es.hp.length ρ env fr scope cells->∀ o name ap args p,ke o args=true ->
  Tr prog w z5 A (hook.e (.Call (.Attribute o name ap) args [] p) fr scope) es (eval (.Call (.Attribute o name ap) args [] p) env) ρ s RV
 stm:∀ {es ρ s},Rel w.params z5 ρ es.hp s.heap->EnvR es.hp.length ρ env fr scope cells->∀ st,Tr prog w z5 A (hook.s st fr scope) es (exec st env) ρ s RF
section
variable {prog:Program} {w:World} {z5:Heap} {K:Frag} {T:Tab} {A:Around} {es:ES} {ρ:Nat->Addr} {s:Shared} {env:Env} {fr:Nat} {scope:Scope} {cells:List (Str×Nat)}
theorem lD {f:Expr->EM AV}:∀ {l:List Expr} {es es':ES} {vs:List AV} {pc:List Prop},eL f l es=some (vs,es',pc)->vs.length=l.length
 | [],_,_,_,_,e=>by refine au e ?_;rfl
 | x::l,es,es',vs,pc,e=>by
  refine ag fun G0 hG0=>?_;replace e:=ak e;obtain ⟨v,es1,p1,p2,e1,e2,rfl⟩:=e;replace e2:=ak e2;obtain ⟨ws,es2,p3,p4,e3,e4,rfl⟩:=e2;refine hG0 ?_;refine au e4 ?_;rw[List.length_cons,List.length_cons,lD e3]
theorem og {f:Expr->EM AV}:∀ {ks:List (Option Expr)} {vs:List Expr} {es es':ES} {l:List (Str×AV)} {pc:List Prop},gO f ks vs es=some (l,es',pc)->ks.all (·.isSome)=true/\ks.length=vs.length
 | [],[],_,_,_,_,_=>⟨rfl,rfl⟩
 | x::ks,y::vs,es,es',l,pc,e=>by
  have e:(match iw x with
   | some k=>(f y>>=fun v=>gO f ks vs>>=fun l=>match lk l k with | none=>EM.ret ((k,v)::l) | some _=>EM.fail)
   | none=>EM.fail) es=some (l,es',pc):=e
  cases q:iw x with
  | none=>rw[q] at e;exact aL e
  | some k =>
   refine ag fun G0 hG0=>?_;obtain ⟨kd,p,rfl⟩:=qx q;rw[q] at e;replace e:=ak e;obtain ⟨v,es1,p1,p2,e1,e2,rfl⟩:=e;replace e2:=ak e2;obtain ⟨m,es2,p3,p4,e3,e4,rfl⟩:=e2;replace e3:=og e3;obtain ⟨i1,i2⟩:=e3;refine hG0 ?_;exact ⟨by rw[List.all_cons,i1];rfl,by rw[List.length_cons,List.length_cons,i2]⟩
 | [],_::_,_,_,_,_,e=>aL e
 | _::_,[],_,_,_,_,e=>aL e
theorem v9 {x hi:Expr} (h:jX x=some hi):∃ p,x=.Slice none (some hi) none p:=by
 cases x with
 | Slice lo hi' st p =>
  cases lo with
  | none =>
   cases hi' with
   | none=>exact non h
   | some e =>
    cases st with
    | none=>exact ⟨p,by rw[Qb (show some e=some hi from h)]⟩
    | some _=>exact non h
  | some _=>exact non h
 | _=>exact non h
theorem uE {x lo:Expr} {hi:Option Expr} (h:jW x=some (lo,hi)):∃ p,x=.Slice (some lo) hi none p:=by
 cases x with
 | Slice lo' hi' st p =>
  cases lo' with
  | none=>exact non h
  | some e =>
   cases st with
   | none=>cases Qb (show some (e,hi')=some (lo,hi) from h);exact ⟨p,rfl⟩
   | some _=>exact non h
 | _=>exact non h
theorem qF {r:Ev} (H:aR prog w z5 A env fr scope cells r) (op:BoolOp) (pos:Pos):∀ (l:List Expr) {es:ES} {ρ:Nat->Addr} {s:Shared},Rel w.params z5 ρ es.hp s.heap->EnvR es.hp.length ρ env fr scope cells ->
  Tr prog w z5 A (kP r.e op l) es (boolOp pos op (evalEach l env)) ρ s RV
 | [],_,_,_,_,_=>Tr.fail
 | [x],es,ρ,s,hR,hE=>H.e hR hE x
 | x::y::l,es,ρ,s,hR,hE=>by
  intro a es' pc e z8;replace e:=ak (show (r.e x>>=_) es=_ from e);obtain ⟨v,es1,p1,p2,e1,e2,rfl⟩:=e
  show wpAny _ _ (do
   let v <- eval x env
   standAt pos
   let t <- holding [v] (truthy v)
   match op,t with
   | .And,false | .Or,true=>pure v
   | _,_=>boolOp pos op (evalEach (y::l) env)) _ _ _
  refine wpAny_bind ((H.e hR hE x).go e1 (pcL z8) fun b s1 ρ1 S1 r1=>wpAny_bind (wpAny_standAt (wpAny_bind (wpAny_holding ?_))))
  cases v with
  | bool c =>
   rw[show b=.bool c from r1];refine wpAny_truthy_bool ?_
   have next:kP r.e op (y::l) es1=some (a,es',p2)->wpAny (model prog w) A (boolOp pos op (evalEach (y::l) env)) (Out w.params z5 ρ es.hp s es'.hp (RV a)) (fun _ _=>False) s1:=fun e2 =>
    (qF H op pos (y::l) S1.rel (S1.env hE)).go e2 (pcR z8) fun c s2 ρ2 S2 r2=>⟨ρ2,S1.trans S2,r2⟩
   cases op with
   | And =>
    cases c with
    | true=>exact next e2
    | false =>
     refine au (show EM.ret (AV.bool false) es1=_ from e2) ?_;exact wpAny_pure ⟨ρ1,S1,rfl⟩
   | Or =>
    cases c with
    | false=>exact next e2
    | true =>
     refine au (show EM.ret (AV.bool true) es1=_ from e2) ?_;exact wpAny_pure ⟨ρ1,S1,rfl⟩
  | _=>exact aL e2
theorem xL (B:Bt prog w z5 K T) {n:Nat} {call:Addr->List AV->EM AV} (hC:fH prog w z5 n call) (hF:gm z5 call) (hA:BOK n A) {r:Ev} (H:aR prog w z5 A env fr scope cells r)
  (hR:Rel w.params z5 ρ es.hp s.heap) (hE:EnvR es.hp.length ρ env fr scope cells) {o:Expr} {name:Str} {ap p:Pos} {args:List Expr} (h1:gD o=true) (h2:(ap.endLine==p.line)=true) (h3:args.any b0=false) (h4:args.length < 7) :
  Tr prog w z5 A (r.e o>>=fun ov=>j6 T ov name>>=fun m=>eL r.e args>>=fun vs=>fQ T call m.1 (m.2++vs)) es (eval (.Call (.Attribute o name ap) args [] p) env) ρ s RV:=by
 intro a es' pc e z8;refine ag fun G0 hG0=>?_;replace e:=ak e;obtain ⟨ov,es1,p1,p2,e1,e2,rfl⟩:=e;replace e2:=ak e2;obtain ⟨m,es2,p3,p4,e3,e4,rfl⟩:=e2;refine hG0 ?_;rw[arm_eval_Call,j7 h1];refine wpAny_bind ((H.e hR hE o).go e1 (pcL z8) fun b s1 ρ1 S1 r1=>wpAny_bind (wpAny_standAt ?_))
 have few:methodCallForm (args.length+([]:List Keyword).length) (backTo p (starEach args env)) (backToKw p (keywordEach [] env))=true:=by
  dsimp only[methodCallForm];have q:=ff (env:=env) p h3
  have q1:(backTo p (starEach args env)).all (fun x=>!x.1)=true:=by
   rw[List.all_eq_true];intro x hx;have:=List.any_eq_false.mp q x hx;simpa using this
  rw[q1];show (true&&true&&decide (args.length+0+0 < 30))=true;have:args.length+0+0 < 30:=by lia
  rw[decide_eq_true this];rfl
 have cw:(do
   let callPos <- methodCallPos true o env ap p
   callWith callPos · · (backTo p (starEach args env)) (backToKw p (keywordEach [] env)):Value->List Value->Sem Value)=fun f first=>callWith p f first (backTo p (starEach args env)) []:=by
  funext f first
  dsimp only[methodCallPos];rw[h2];rfl
 dsimp only[methodCall];rw[few];refine wpAny_bind (wpAny_holding ?_);show wpAny (model prog w) A (getMethod b name (do return (<- importBound o env).getD true)) _ _ s1;refine (wA B.toBs B.cls S1.rel r1 name _).go e3 (pcL (pcR z8)) fun c s2 ρ2 S2 r2=>?_;obtain ⟨f,first⟩:=c
 have:=congrFun (congrFun cw f) first
 dsimp only at this ⊢;rw[this];exact (oA B hC hF hA H S2.rel (S2.env (S1.env hE)) p h3 r2.1 r2.2).go e4 (pcR (pcR z8)) fun d s3 ρ3 S3 r3=>⟨ρ3,(S1.trans S2).trans S3,r3⟩
theorem zY (B:Bt prog w z5 K T) {n:Nat} {call:Addr->List AV->EM AV} (hC:fH prog w z5 n call) (hF:gm z5 call) {hook:cy} (hH:fG prog w z5 A env fr scope cells hook) (hA:BOK n A)
  {r:Ev} (H:aR prog w z5 A env fr scope cells r) (hR:Rel w.params z5 ρ es.hp s.heap) (hE:EnvR es.hp.length ρ env fr scope cells) (e:Expr) :
  Tr prog w z5 A (td T call hook fr scope cells r e) es (eval e env) ρ s RV:=by
 cases e with
 | Constant c k p=>exact Bm hR c k p
 | Name x p =>
  refine Tr.chk fun q=>?_;have hd:(x==("__debug__" : Str))=false:=by rw[<- iQ];simpa using q
  exact (q9 B.toBs hR hE x).way fun Q E h=>wpAny_Name h hd
 | Attribute o a p =>
  refine Tr.chk fun q=>?_;intro u es' pc e z8;refine ag fun G0 hG0=>?_;replace e:=ak e;obtain ⟨ov,es1,p1,p2,e1,e2,rfl⟩:=e;refine hG0 ?_;rw[arm_eval_Attribute,j7 q]
  exact wpAny_bind ((H.e hR hE o).go e1 (pcL z8) fun b s1 ρ1 S1 r1=>wpAny_bind (wpAny_standAt (wpAny_bind (wpAny_holding
   ((oT B.toBs B.cls S1.rel r1 a true).go e2 (pcR z8) fun c s2 ρ2 S2 r2=>wpAny_bind (wpAny_letTemporaryGo (wpAny_pure ⟨ρ2,S1.trans S2,r2⟩)))))))
 | Call f args kw p =>
  cases kw with
  | cons _ _=>cases f<;>exact Tr.fail
  | nil =>
   cases f with
   | Attribute o name ap =>
    show Tr prog w z5 A (match ke o args with
     | true=>hook.e (.Call (.Attribute o name ap) args [] p) fr scope
     | false=>EM.chk (gD o&&Nat.beq ap.endLine p.line&&!(args.any b0)&&Nat.blt args.length 7) (r.e o>>=fun ov=>j6 T ov name>>=fun m=>eL r.e args>>=fun vs=>fQ T call m.1 (m.2++vs))) es _ ρ s _
    cases qj:ke o args with
    | true=>exact hH.join hR hE o name ap args p qj
    | false =>
    refine Tr.chk fun q=>?_;refine ag fun G0 hG0=>?_;replace q:=Qx q;obtain ⟨q,q4⟩:=q;replace q:=Qx q;obtain ⟨q,q3⟩:=q;replace q:=Qx q;obtain ⟨q1,q2⟩:=q;refine hG0 ?_;exact xL B hC hF hA H hR hE q1 (beq_iff_eq.mpr (Nat.eq_of_beq_eq_true q2)) (by simpa using q3) (Qc q4)
   | Name g gp =>
    refine Tr.chk fun q=>?_;replace q:=Qx q;obtain ⟨q3,q4⟩:=q;intro u es' pc e z8;refine ag fun G0 hG0=>?_;replace e:=ak e;obtain ⟨fv,es1,p1,p2,e1,e2,rfl⟩:=e;refine hG0 ?_;have arm:eval (.Call (.Name g gp) args [] p) env=(do callWith p (<- eval (.Name g gp) env) [] (backTo p (starEach args env)) []):=rfl;rw[arm];exact wpAny_bind ((H.e hR hE (.Name g gp)).go e1 (pcL z8) fun b s1 ρ1 S1 r1=>(oA (fst:=[]) (first:=[]) B hC hF hA H S1.rel (S1.env hE) p (by simpa using q3) r1 trivial).go e2 (pcR z8) fun c s2 ρ2 S2 r2=>⟨ρ2,S1.trans S2,r2⟩)
   | _=>exact Tr.fail
 | Compare l ops xs p =>
  match ops,xs with
  | [op],[x] =>
   refine Tr.chk fun q=>?_;intro u es' pc e z8;refine ag fun G0 hG0=>?_;replace e:=ak e;obtain ⟨a,es1,p1,p2,e1,e2,rfl⟩:=e;replace e2:=ak e2;obtain ⟨b,es2,p3,p4,e3,e4,rfl⟩:=e2;refine hG0 ?_
   exact wpAny_Compare1 ((H.e hR hE l).go e1 (pcL z8) fun v s1 ρ1 S1 r1=>(H.e S1.rel (S1.env hE) x).go e3 (pcL (pcR z8)) fun v' s2 ρ2 S2 r2 =>
    (ic B.toBs S2.rel op (S2.val r1) r2).go e4 (pcR (pcR z8)) fun c s3 ρ3 S3 r3=>⟨ρ3,(S1.trans S2).trans S3,r3⟩) (by simpa using q)
  | [op1,op2],[x,y] =>
   refine Tr.chk fun q=>?_;have q:behindInMarks op2 y=false:=by simpa using q
   intro u es' pc e z8;replace e:=ak e;obtain ⟨a,es1,p1,p2,e1,e2,rfl⟩:=e;replace e2:=ak e2;obtain ⟨b,es2,p3,p4,e3,e4,rfl⟩:=e2;replace e4:=ak e4;obtain ⟨c,es3,p5,p6,e5,e6,rfl⟩:=e4
   have arm:eval (.Compare l [op1,op2] [x,y] p) env=(do
     let v <- eval l env
     let rv <- holding [v] (eval x env)
     standAt p
     let c <- holding [v,rv] (compareOp op1 v rv)
     release [v,rv] [c]
     if <- holding [c,rv] (truthy c) then (do
      let rv' <- holding [rv] (eval y env)
      standAt p
      operate [rv,rv'] (compareOp op2 rv rv')) else pure c):=by
    rw[arm_eval_Compare];show (do compareChain p (<- eval l env) [op1,op2] [eval x env,markedBehindIn op2 y (eval y env)])=_;rw[markedBehindIn_of_false q];rfl
   rw[arm]
   refine wpAny_bind ((H.e hR hE l).go e1 (pcL z8) fun v s1 ρ1 S1 r1=>wpAny_bind (wpAny_holding ((H.e S1.rel (S1.env hE) x).go e3 (pcL (pcR z8)) fun v' s2 ρ2 S2 r2=>wpAny_bind (wpAny_standAt (wpAny_bind (wpAny_holding
    ((ic B.toBs S2.rel op1 (S2.val r1) r2).go e5 (pcL (pcR (pcR z8))) fun d s3 ρ3 S3 r3=>wpAny_bind (wpAny_release (wpAny_bind (wpAny_holding ?_))))))))))
   cases c with
   | bool c =>
    rw[show d=.bool c from r3];refine wpAny_truthy_bool ?_
    cases c with
    | false =>
     refine au (show EM.ret (AV.bool false) es3=_ from e6) ?_;exact wpAny_pure ⟨ρ3,(S1.trans S2).trans S3,rfl⟩
    | true =>
     refine ag fun G0 hG0=>?_;replace e6:=ak (show (r.e y>>=_) es3=_ from e6);obtain ⟨z,es4,p7,p8,e7,e8,rfl⟩:=e6;refine hG0 ?_
     refine wpAny_bind (wpAny_holding ((H.e S3.rel (S3.env (S2.env (S1.env hE))) y).go e7 (pcL (pcR (pcR (pcR z8)))) fun v3 s4 ρ4 S4 r4=>wpAny_bind (wpAny_standAt (wpAny_operateT
      ((ic B.toBs S4.rel op2 (S4.val (S3.val r2)) r4).go e8 (pcR (pcR (pcR (pcR z8)))) fun d2 s5 ρ5 S5 r5=>⟨ρ5,(((S1.trans S2).trans S3).trans S4).trans S5,r5⟩)))))
   | _=>exact aL e6
  | [],_=>exact Tr.fail
  | _::_::_::_,_=>exact Tr.fail
  | [_],[]=>exact Tr.fail
  | [_],_::_::_=>exact Tr.fail
  | [_,_],[]=>exact Tr.fail
  | [_,_],[_]=>exact Tr.fail
  | [_,_],_::_::_::_=>exact Tr.fail
 | BinOp l op x p =>
  intro u es' pc e z8;refine ag fun G0 hG0=>?_;replace e:=ak e;obtain ⟨a,es1,p1,p2,e1,e2,rfl⟩:=e;replace e2:=ak e2;obtain ⟨b,es2,p3,p4,e3,e4,rfl⟩:=e2;refine hG0 ?_
  exact wpAny_BinOp ((H.e hR hE l).go e1 (pcL z8) fun v s1 ρ1 S1 r1=>(H.e S1.rel (S1.env hE) x).go e3 (pcL (pcR z8)) fun v' s2 ρ2 S2 r2 =>
   (DO S2.rel op (S2.val r1) r2).go e4 (pcR (pcR z8)) fun c s3 ρ3 S3 r3=>⟨ρ3,(S1.trans S2).trans S3,r3⟩)
 | UnaryOp op x p =>
  cases op with
  | USub =>
   cases x with
   | Constant c k q =>
    cases c with
    | int i =>
     intro u es' pc e z8;refine au e ?_;exact wpAny_UnaryOp (wpAny_Constant_int (P.neg_int ⟨ρ,Stp.toks0 hR _,_,rfl⟩))
    | _=>exact Tr.fail
   | _=>exact Tr.fail
  | _=>exact Tr.fail
 | IfExp c x y p =>
  intro u es' pc e z8;refine ag fun G0 hG0=>?_;replace e:=ak e;obtain ⟨b,es1,p1,p2,e1,e2,rfl⟩:=e;refine hG0 ?_;refine wpAny_IfExp ((H.t hR hE c).go e1 (pcL z8) fun v s1 ρ1 S1 r1=>?_);rw[show v=b from r1]
  cases b with
  | true=>exact (H.e S1.rel (S1.env hE) x).go e2 (pcR z8) fun v' s2 ρ2 S2 r2=>⟨ρ2,S1.trans S2,r2⟩
  | false=>exact (H.e S1.rel (S1.env hE) y).go e2 (pcR z8) fun v' s2 ρ2 S2 r2=>⟨ρ2,S1.trans S2,r2⟩
 | Subscript o ix p =>
  show Tr prog w z5 A (match jX ix with
   | some hi=>(r.e o>>=fun ov=>r.e hi>>=fun hv=>cv T ov>>=fun ob=>mt ob hv)
   | none=>(match jW ix with
    | some (lo,hi)=>(r.e o>>=fun ov=>r.e lo>>=fun lv=>nH r.e hi>>=fun hv=>mq ov lv hv)
    | none=>EM.chk (h7 ix) (r.e o>>=fun ov=>r.e ix>>=fun iv=>fu T ov iv))) es _ ρ s _
  cases q:jX ix with
  | some hi =>
   replace q:=v9 q;obtain ⟨sp,rfl⟩:=q;exact Ai B H hR hE sp p
  | none =>
   dsimp only
   cases q2:jW ix with
   | some t =>
    obtain ⟨lo,hi⟩:=t;replace q2:=uE q2;obtain ⟨sp,rfl⟩:=q2;exact CD H hR hE sp p
   | none=>exact Tr.chk fun h=>uD B H hR hE h p
 | BoolOp op xs p =>
  rw[arm_eval_BoolOp];exact qF H op p xs hR hE
 | List elts p =>
  refine Tr.chk fun q=>?_;refine ag fun G0 hG0=>?_;replace q:=Qx q;obtain ⟨q1,q2⟩:=q;refine hG0 ?_;have q2:elts.length < aa:=Qc q2;intro u es' pc e z8;refine ag fun G0 hG0=>?_;replace e:=ak e;obtain ⟨vs,es1,p1,p2,e1,e2,rfl⟩:=e;replace e2:=ak e2;obtain ⟨i,es2,p3,p4,e3,e4,rfl⟩:=e2;replace e3:=dF e3;obtain ⟨rfl,rfl,rfl⟩:=e3;refine hG0 ?_;refine au e4 ?_;refine wpAny_List ((j4 H p elts hR hE (by simpa using q1)).go e1 (pcL z8) fun bs s1 ρ1 S1 r1=>⟨?_,?_⟩)
  ·rw[<- r1.length,lD e1];exact cQ (Qk q2)
  ·exact ⟨_,S1.trans (Stp.push (t:=s1.toks) S1.rel ⟨bs.toArray,0,Qi _ rfl,by
    show All2 _ vs bs;exact r1.mono fun _ _ h=>h.ext1⟩),f8⟩
 | Tuple elts k p =>
  refine Tr.chk fun q=>?_;refine ag fun G0 hG0=>?_;replace q:=Qx q;obtain ⟨q1,q2⟩:=q;refine hG0 ?_;have q2:elts.length < aa:=Qc q2;intro u es' pc e z8;refine ag fun G0 hG0=>?_;replace e:=ak e;obtain ⟨vs,es1,p1,p2,e1,e2,rfl⟩:=e;replace e2:=ak e2;obtain ⟨i,es2,p3,p4,e3,e4,rfl⟩:=e2;replace e3:=dF e3;obtain ⟨rfl,rfl,rfl⟩:=e3;refine hG0 ?_;refine au e4 ?_;refine wpAny_Tuple ((j4 H p elts hR hE (by simpa using q1)).go e1 (pcL z8) fun bs s1 ρ1 S1 r1=>⟨?_,?_⟩)
  ·rw[<- r1.length,lD e1];exact cQ (Qk q2)
  ·exact ⟨_,S1.trans (Stp.push (t:=s1.toks) S1.rel ⟨bs.toArray,0,Qi _ rfl,by
    show All2 _ vs bs;exact r1.mono fun _ _ h=>h.ext1⟩),f8⟩
 | Dict keys values p =>
  refine Tr.chk fun q=>?_;replace q:=Qx q;obtain ⟨q1,q2⟩:=q;have q1:keys.length < 10:=Qc q1;have q2:0 < keys.length:=Qc q2;intro u es' pc e z8;refine ag fun G0 hG0=>?_;replace e:=ak e;obtain ⟨l,es1,p1,p2,e1,e2,rfl⟩:=e;replace e2:=ak e2;obtain ⟨i,es2,p3,p4,e3,e4,rfl⟩:=e2;replace e3:=dF e3;obtain ⟨rfl,rfl,rfl⟩:=e3;refine hG0 ?_;refine au e4 ?_;obtain ⟨sh1,sh2⟩:=og e1
  refine wpAny_Dict_walk (knd:=strKind prog w) sh1 sh2 (fun z=>by rw[z] at q2;exact absurd q2 (Nat.lt_irrefl 0)) (by lia)
   ((rJ H p keys values (s:={ s with heap:=s.heap.push { cls:=.type "dict",data:=.dict #[] },toks:=s.toks }) (Stp.junk (t:=s.toks) hR _).rel hE).go e1 (pcL z8) fun bs s1 ρ1 S1 r1=>?_)
  refine ag fun G0 hG0=>?_;obtain ⟨kvs,c1,c2,c3,_,_⟩:=r1;refine hG0 ?_;have low:∀ i,i < es.hp.length->ρ i≠s.heap.objs.size:=fun i hi=>Qh (hR.own i _ (Qo hi)).lt;refine ⟨kvs,c1,?_,fun h' hd hs=>⟨_,Stp.late (t':=_) hR S1 hs ?_,f8⟩⟩
  ·have D:(s.heap.push { cls:=.type "dict",data:=.dict #[] }).DictOf (strKind prog w) s.heap.objs.size []:=Heap.DictOf.new s.heap;refine ag fun G0 hG0=>?_;obtain ⟨o,es',ep,ho,rest⟩:=D;refine hG0 ?_;exact ⟨o,es',ep,S1.other _ _ low ho,rest⟩
  ·have e:merged [] kvs=kvs:=merged_nil_of_nodup kvs (by rw[ia c2];exact c3);rw[e] at hd;exact mI hd (c2.mono fun _ _ h=>⟨h.1,h.2.ext1⟩)
 | ListComp a b c d=>exact hH.comp hR hE a b c d
 | _=>exact Tr.fail
end
end TE
namespace TE
set_option tactic.hygienic false
section
variable {prog:Program} {w:World} {A:Around} {E:Value->Shared->Prop} {s:Shared}
theorem qt {it l:Addr} {i:Nat} {items:Array Value} {Q:Option Value->Shared->Prop} (hh:A.handled=none) (hit:s.heap.IsListIter it l i) (hl:s.heap.IsList l items) (hx:items[i]?=none)
  (hQ:∀ h',Heap.ExtBut it s.heap h'->s.heap.objs.size<=h'.objs.size->Q none { s with heap:=h' }):wpAny (model prog w) A (pyNext (.ref it)) Q E s:=by
 refine ag fun G0 hG0=>?_;obtain ⟨o,ho,hc,hd⟩:=id hit;obtain ⟨ol,hol,_,nl,hdl⟩:=hl;refine hG0 ?_;dsimp only[pyNext];refine wpAny_bind (wpAny_attempt (wpAny_callSpecial?_slot (name:=Str.ofString "__next__") hit.typeIs slot_listiter_next (wpAny_call_entry slot_listiter_next hit.typeIs entry_listiter_next ?_ (args_listiter_next _))));show wpAny _ _ (field (.ref it) 0>>=_) _ _ s;refine wpAny_bind (wpAny_field ho hd (x:=.ref l) rfl ?_);show wpAny _ _ (if (Value.ref l==Value.none)=true then _ else _) _ _ s
 rw[if_neg (show ¬ ((Value.ref l==Value.none)=true) from Bool.false_ne_true)];show wpAny _ _ (field (.ref it) 1>>=_) _ _ s;refine wpAny_bind (wpAny_field ho hd (x:=.int i 0) rfl ?_);show wpAny _ _ (seqItems? (.ref l)>>=_) _ _ s;refine wpAny_bind (wpAny_seqItems hol hdl ?_);simp only[Int.toNat_natCast,hx];refine wpAny_bind (wpAny_rule (wpAny_bind (wpAny_setField ho hd (by simp) ?_)));show wpAny _ _ (newExc (.type "StopIteration") []>>=_) _ _ _;refine wpAny_bind ?_;simp only[newExc,newTuple];refine wpAny_bind (wpAny_newObj_type ?_ (by size_fits));refine wpAny_bind (m:=firstArgMember _ _) (wpAny_of_eq (a:=Value.none) (by first | rfl | (simp only[firstArgMember];rfl)) ?_)
 refine wpAny_newObj_type ?_ (by size_fits);simp only[raiseNew];refine wpAny_bind (wpAny_handled ?_);rw[show A.in1.handled=none from hh];refine wpAny_bind (wpAny_pure (wpAny_throw ?_));refine wpAny_bind (wpAny_isInstance (T := "StopIteration") (b:=true) ⟨_,Qi _ rfl,rfl⟩ isSubtype_stop ?_);refine wpAny_pure (hQ _ (((Heap.SameBut.update ..).extBut.push _).push _) ?_);rw[Qs,Qs];exact Qf (Nat.le_of_eq (Heap.SameBut.update ..).1.symm) (Qf (Nat.le_succ _) (Nat.le_succ _))
theorem xk {it t:Addr} {i:Nat} {items:Array Value} {Q:Option Value->Shared->Prop} (hh:A.handled=none) (hit:IsTupIter s.heap it t i) (ht:IsTup s.heap t items) (hx:items[i]?=none)
  (hQ:∀ h',Heap.ExtBut it s.heap h'->s.heap.objs.size<=h'.objs.size->Q none { s with heap:=h' }):wpAny (model prog w) A (pyNext (.ref it)) Q E s:=by
 refine ag fun G0 hG0=>?_;obtain ⟨o,ho,hc,hd⟩:=id hit;obtain ⟨ol,hol,_,nl,hdl⟩:=ht;refine hG0 ?_;dsimp only[pyNext];refine wpAny_bind (wpAny_attempt (wpAny_callSpecial?_slot (name:=Str.ofString "__next__") hit.typeIs slot_tupleiter_next (wpAny_call_entry slot_tupleiter_next hit.typeIs entry_tupleiter_next ?_ (args_tupleiter_next _))));show wpAny _ _ (field (.ref it) 0>>=_) _ _ s;refine wpAny_bind (wpAny_field ho hd (x:=.ref t) rfl ?_);show wpAny _ _ (if (Value.ref t==Value.none)=true then _ else _) _ _ s
 rw[if_neg (show ¬ ((Value.ref t==Value.none)=true) from Bool.false_ne_true)];show wpAny _ _ (field (.ref it) 1>>=_) _ _ s;refine wpAny_bind (wpAny_field ho hd (x:=.int i 0) rfl ?_);show wpAny _ _ (seqItems? (.ref t)>>=_) _ _ s;refine wpAny_bind (wpAny_seqItems hol hdl ?_);simp only[Int.toNat_natCast,hx];refine wpAny_bind (wpAny_rule (wpAny_bind (wpAny_setField ho hd (by simp) ?_)));show wpAny _ _ (newExc (.type "StopIteration") []>>=_) _ _ _;refine wpAny_bind ?_;simp only[newExc,newTuple];refine wpAny_bind (wpAny_newObj_type ?_ (by size_fits));refine wpAny_bind (m:=firstArgMember _ _) (wpAny_of_eq (a:=Value.none) (by first | rfl | (simp only[firstArgMember];rfl)) ?_)
 refine wpAny_newObj_type ?_ (by size_fits);simp only[raiseNew];refine wpAny_bind (wpAny_handled ?_)
 first | rw[show A.in1.handled=none from hh] | rw[hh]
 refine wpAny_bind (wpAny_pure (wpAny_throw ?_));refine wpAny_bind (wpAny_isInstance (T := "StopIteration") (b:=true) ⟨_,Qi _ rfl,rfl⟩ isSubtype_stop ?_);refine wpAny_pure (hQ _ (((Heap.SameBut.update ..).extBut.push _).push _) ?_);rw[Qs,Qs];exact Qf (Nat.le_of_eq (Heap.SameBut.update ..).1.symm) (Qf (Nat.le_succ _) (Nat.le_succ _))
theorem uC {l:Addr} {its:Array Value} {ep:Nat} {x y:Value} {Q:List Value->Shared->Prop} (hh:A.handled=none) (o:s.heap.get? l=some { cls:=.type "list",data:=.seq its ep }) (e:its.toList=[x,y])
  (h:∀ h',(∀ b o,s.heap.get? b=some o->h'.get? b=some o)->s.heap.objs.size<=h'.objs.size->Q [x,y] { s with heap:=h' }):wpAny (model prog w) A (unpackItems (.ref l) 2 none) Q E s:=by
 have hl:=cg o;have ne:l≠s.heap.objs.size:=Qh (Qg o);refine ag fun G0 hG0=>?_;obtain ⟨il⟩:=its;dsimp only at e;subst e;refine hG0 ?_;dsimp only[unpackItems,notIterableAtAll];refine wpAny_bind (wpAny_bind (wpAny_specialOf hl.typeIs slot_list_iter.lookup (wpAny_pure ?_)));rw[if_neg (by decide)];refine wpAny_bind (wpAny_holding (wpAny_pyIter_list hl ?_));have it0:(s.heap.push { cls:=.type "list_iterator",data:=.fields #[.ref l,.int 0 0] }).IsListIter s.heap.objs.size l 0:=⟨_,Qi _ rfl,rfl,rfl⟩;have hl0:=hl.at (h':=s.heap.push { cls:=.type "list_iterator",data:=.fields #[.ref l,.int 0 0] }) fun _ e=>Qe _ e;refine wpAny_bind (wpAny_holding (wpAny_bind (wpAny_pyNext_list_item it0 hl0 (x:=x) rfl fun h1 it1 s1=>?_)));have hl1:=hl0.at fun _ e=>(s1.2 l ne).trans e;refine wpAny_bind (wpAny_holding (wpAny_bind (wpAny_pyNext_list_item it1 hl1 (x:=y) rfl fun h2 it2 s2=>?_)));have hl2:=hl1.at fun _ e=>(s2.2 l ne).trans e;refine wpAny_bind (wpAny_holding (wpAny_pure (wpAny_pure (wpAny_pure ?_))));rw[if_neg (by simp)];refine wpAny_bind (wpAny_holding (qt hh it2 hl2 rfl fun h3 e3 z3=>?_));simp only[Option.isSome_none,Bool.false_eq_true,if_false];refine wpAny_pure (h h3 (fun b o e=>?_) ?_)
 ·have nb:b≠s.heap.objs.size:=Qh (Qg e);exact e3 b o nb ((s2.2 b nb).trans ((s1.2 b nb).trans (Qe _ e)))
 ·have a1:h1.objs.size=s.heap.objs.size+1:=s1.1.trans (Qs ..);have a2:h2.objs.size=h1.objs.size:=s2.1;have a3:h2.objs.size<=h3.objs.size:=z3;lia
theorem uu {l:Addr} {its:Array Value} {ep:Nat} {x y:Value} {Q:List Value->Shared->Prop} (hh:A.handled=none) (o:s.heap.get? l=some { cls:=.type "tuple",data:=.seq its ep }) (e:its.toList=[x,y])
  (h:∀ h',(∀ b o,s.heap.get? b=some o->h'.get? b=some o)->s.heap.objs.size<=h'.objs.size->Q [x,y] { s with heap:=h' }):wpAny (model prog w) A (unpackItems (.ref l) 2 none) Q E s:=by
 have hl:IsTup s.heap l its:=⟨_,o,rfl,ep,rfl⟩;have ne:l≠s.heap.objs.size:=Qh (Qg o);refine ag fun G0 hG0=>?_;obtain ⟨il⟩:=its;dsimp only at e;subst e;refine hG0 ?_;dsimp only[unpackItems,notIterableAtAll];refine wpAny_bind (wpAny_bind (wpAny_specialOf hl.typeIs slot_tuple_iter.lookup (wpAny_pure ?_)));rw[if_neg (by decide)];refine wpAny_bind (wpAny_holding (iter_tuple hl ?_));have it0:IsTupIter (s.heap.push { cls:=.type "tuple_iterator",data:=.fields #[.ref l,.int 0 0] }) s.heap.objs.size l 0:=⟨_,Qi _ rfl,rfl,rfl⟩;have hl0:IsTup (s.heap.push { cls:=.type "tuple_iterator",data:=.fields #[.ref l,.int 0 0] }) l ⟨[x,y]⟩:=hl.keeps fun _ _ e=>Qe _ e;refine wpAny_bind (wpAny_holding (wpAny_bind (next_tuple_item it0 hl0 (x:=x) rfl fun h1 it1 s1=>?_)));have hl1:IsTup h1 l ⟨[x,y]⟩:=hl0.extBut s1.extBut ne;refine wpAny_bind (wpAny_holding (wpAny_bind (next_tuple_item it1 hl1 (x:=y) rfl fun h2 it2 s2=>?_)));have hl2:IsTup h2 l ⟨[x,y]⟩:=hl1.extBut s2.extBut ne;refine wpAny_bind (wpAny_holding (wpAny_pure (wpAny_pure (wpAny_pure ?_))));rw[if_neg (by simp)];refine wpAny_bind (wpAny_holding (xk hh it2 hl2 rfl fun h3 e3 z3=>?_));simp only[Option.isSome_none,Bool.false_eq_true,if_false];refine wpAny_pure (h h3 (fun b o e=>?_) ?_)
 ·have nb:b≠s.heap.objs.size:=Qh (Qg e);exact e3 b o nb ((s2.2 b nb).trans ((s1.2 b nb).trans (Qe _ e)))
 ·have a1:h1.objs.size=s.heap.objs.size+1:=s1.1.trans (Qs ..);have a2:h2.objs.size=h1.objs.size:=s2.1;have a3:h2.objs.size<=h3.objs.size:=z3;lia
end
end TE
namespace TE
set_option tactic.hygienic false
section
variable {P:Params} {z5:Heap} {ρ:Nat->Addr} {σ:List AO} {s:Shared}
theorem Stp.deaden (R:Rel P z5 ρ σ s.heap) {i:Nat} {h':Heap} {t:Nat} (hi:i < σ.length) (hs:Heap.ExtBut (ρ i) s.heap h') (hz:s.heap.objs.size<=h'.objs.size):Stp P z5 ρ σ s ρ (σ.set i .dead) { s with heap:=h',toks:=t } where
 gens:=rfl
 os:=rfl
 drawn:=rfl
 len:=by simp
 ext:=fun _ _=>rfl
 size:=hz
 fresh:=fun j a b=>by simp at b;lia
 other:=fun b o hb e=>hs b o (fun z=>hb i hi z.symm) e
 rel:=by
  refine ⟨Qf R.base hz,fun b o e=>?_,fun j o e=>?_,fun j hj=>R.high j (by simpa using hj),fun j k hj hk e=>R.inj j k (by simpa using hj) (by simpa using hk) e⟩
  ·exact hs b o (Qh (Qd (Qg e) (R.high i hi))) (R.keep b o e)
  ·rw[List.length_set]
   by_cases q:i=j
   ·subst q;rw[List.getElem?_set_self hi] at e;obtain rfl:=Qb e;exact Qd (R.own i _ (Qo hi)).lt hz
   ·rw[List.getElem?_set_ne q] at e;have hj:j < σ.length:=(Qy e).1;exact (R.own j o e).mono (Qa _) (fun _ _=>rfl) hz fun o h=>hs _ o (fun z=>q (R.inj i j hi hj z.symm)) h
end
section
variable {prog:Program} {w:World} {z5:Heap} {K:Frag} {T:Tab} {A:Around} {es:ES} {ρ:Nat->Addr} {s:Shared} {env:Env} {fr:Nat} {scope:Scope} {cells:List (Str×Nat)}
theorem mN {r:Ev} (H:aR prog w z5 A env fr scope cells r) (op:BoolOp):∀ (l:List Expr) {es:ES} {ρ:Nat->Addr} {s:Shared},Rel w.params z5 ρ es.hp s.heap->EnvR es.hp.length ρ env fr scope cells ->
  Tr prog w z5 A (iM r.t op l) es (allTrue op l env) ρ s RB
 | [],es,ρ,s,hR,hE=>by
  intro a es' pc e _;refine au e ?_
  cases op with
  | And=>exact wpAny_allTrue_And_nil ⟨ρ,Stp.refl hR,rfl⟩
  | Or=>exact wpAny_allTrue_Or_nil ⟨ρ,Stp.refl hR,rfl⟩
 | x::l,es,ρ,s,hR,hE=>by
  intro a es' pc e z8;replace e:=ak e;obtain ⟨b,es1,p1,p2,e1,e2,rfl⟩:=e
  cases op with
  | And =>
   refine wpAny_allTrue_And_cons ((H.t hR hE x).go e1 (pcL z8) fun c s1 ρ1 S1 r1=>?_);refine (show c=b from r1)▸?_
   cases b with
   | true=>exact (mN H .And l S1.rel (S1.env hE)).go e2 (pcR z8) fun d s2 ρ2 S2 r2=>⟨ρ2,S1.trans S2,r2⟩
   | false=>refine au (show EM.ret false es1=_ from e2) ?_;exact ⟨ρ1,S1,rfl⟩
  | Or =>
   refine wpAny_allTrue_Or_cons ((H.t hR hE x).go e1 (pcL z8) fun c s1 ρ1 S1 r1=>?_);refine (show c=b from r1)▸?_
   cases b with
   | false=>exact (mN H .Or l S1.rel (S1.env hE)).go e2 (pcR z8) fun d s2 ρ2 S2 r2=>⟨ρ2,S1.trans S2,r2⟩
   | true=>refine au (show EM.ret true es1=_ from e2) ?_;exact ⟨ρ1,S1,rfl⟩
theorem iT {r:Ev} (H:aR prog w z5 A env fr scope cells r) (hR:Rel w.params z5 ρ es.hp s.heap) (hE:EnvR es.hp.length ρ env fr scope cells) (x:Expr)
  (he:isTrue x env (eval x env)=(do let v <- eval x env;standAt x.pos;holding [v] (truthy v))):Tr prog w z5 A (r.e x>>=gL) es (isTrue x env (eval x env)) ρ s RB:=by
 intro a es' pc e z8;replace e:=ak e;obtain ⟨b,es1,p1,p2,e1,e2,rfl⟩:=e;exact wpAny_isTrue_value ((H.e hR hE x).go e1 (pcL z8) fun c s1 ρ1 S1 r1=>(zQ S1.rel r1).go e2 (pcR z8) fun d s2 ρ2 S2 r2=>⟨ρ2,S1.trans S2,r2⟩) he
theorem uJ {b:Bool} {k:Nat} {p:Pos} {Q:Bool->Shared->Prop} {E:Value->Shared->Prop} (h:Q b s):wpAny (model prog w) A (isTrue (.Constant (.bool b) k p) env (eval (.Constant (.bool b) k p) env)) Q E s:=by
 show wpAny (model prog w) A (do
  let v <- eval (.Constant (.bool b) k p) env
  standAt p
  holding [v] (truthy v)) Q E s
 exact wpAny_bind (wpAny_Constant_bool (wpAny_bind (wpAny_standAt (wpAny_holding (wpAny_truthy_bool h)))))
theorem zW (B:Bt prog w z5 K T) {r:Ev} (H:aR prog w z5 A env fr scope cells r) (hR:Rel w.params z5 ρ es.hp s.heap) (hE:EnvR es.hp.length ρ env fr scope cells) (e:Expr) :
  Tr prog w z5 A (ta T r e) es (isTrue e env (eval e env)) ρ s RB:=by
 cases e with
 | UnaryOp op x p =>
  cases op with
  | Not =>
   intro a es' pc e z8;refine ag fun G0 hG0=>?_;replace e:=ak e;obtain ⟨b,es1,p1,p2,e1,e2,rfl⟩:=e;refine hG0 ?_;refine au e2 ?_;exact wpAny_isTrue_Not ((H.t hR hE x).go e1 (pcL z8) fun c s1 ρ1 S1 r1=>⟨ρ1,S1,by show (!c)=!b;rw[show c=b from r1]⟩)
  | _=>exact Tr.fail
 | BoolOp op xs p=>exact (mN H op xs hR hE).way fun _ _ h=>wpAny_isTrue_BoolOp h
 | Compare l ops xs p =>
  match ops,xs with
  | [op],[x] =>
   refine Tr.chk fun q=>?_;intro u es' pc e z8;refine ag fun G0 hG0=>?_;replace e:=ak e;obtain ⟨a,es1,p1,p2,e1,e2,rfl⟩:=e;replace e2:=ak e2;obtain ⟨b,es2,p3,p4,e3,e4,rfl⟩:=e2;replace e4:=ak e4;obtain ⟨c,es3,p5,p6,e5,e6,rfl⟩:=e4;refine hG0 ?_
   refine wpAny_isTrue_Compare1 ((H.e hR hE l).go e1 (pcL z8) fun v s1 ρ1 S1 r1=>(H.e S1.rel (S1.env hE) x).go e3 (pcL (pcR z8)) fun v' s2 ρ2 S2 r2 =>
    (ic B.toBs S2.rel op (S2.val r1) r2).go e5 (pcL (pcR (pcR z8))) fun d s3 ρ3 S3 r3=>?_) (by simpa using q)
   cases c with
   | bool c =>
    refine ag fun G0 hG0=>?_;replace e6:=eC (show EM.ret c es3=_ from e6);obtain ⟨rfl,rfl,rfl⟩:=e6;refine hG0 ?_;refine (show d=.bool u from r3)▸?_;exact wpAny_truthy_bool ⟨ρ3,(S1.trans S2).trans S3,rfl⟩
   | _=>exact aL e6
  | [op1,op2],[x,y] =>
   refine Tr.chk fun q=>?_;have q:behindInMarks op2 y=false:=by simpa using q
   intro u es' pc e z8;replace e:=ak e;obtain ⟨a,es1,p1,p2,e1,e2,rfl⟩:=e;replace e2:=ak e2;obtain ⟨b,es2,p3,p4,e3,e4,rfl⟩:=e2;replace e4:=ak e4;obtain ⟨c,es3,p5,p6,e5,e6,rfl⟩:=e4
   have arm:isTrue (.Compare l [op1,op2] [x,y] p) env (eval (.Compare l [op1,op2] [x,y] p) env)=(do
     let v <- eval l env
     let rv <- holding [v] (eval x env)
     standAt p
     let c <- holding [v,rv] (compareOp op1 v rv)
     release [v,rv] [c]
     if <- holding [c,rv] (truthy c) then (do
      let rv' <- holding [rv] (eval y env)
      standAt p
      let d <- operate [rv,rv'] (compareOp op2 rv rv')
      holding [d] (truthy d)) else pure false):=by
    rw[arm_isTrue_Compare];show (do testChain p (<- eval l env) [op1,op2] [eval x env,markedBehindIn op2 y (eval y env)])=_;refine (markedBehindIn_of_false q)▸?_;rfl
   refine arm▸?_
   refine wpAny_bind ((H.e hR hE l).go e1 (pcL z8) fun v s1 ρ1 S1 r1=>wpAny_bind (wpAny_holding ((H.e S1.rel (S1.env hE) x).go e3 (pcL (pcR z8)) fun v' s2 ρ2 S2 r2=>wpAny_bind (wpAny_standAt (wpAny_bind (wpAny_holding
    ((ic B.toBs S2.rel op1 (S2.val r1) r2).go e5 (pcL (pcR (pcR z8))) fun d s3 ρ3 S3 r3=>wpAny_bind (wpAny_release (wpAny_bind (wpAny_holding ?_))))))))))
   cases c with
   | bool c =>
    refine (show d=.bool c from r3)▸?_;refine wpAny_truthy_bool ?_
    cases c with
    | false =>
     refine au (show EM.ret false es3=_ from e6) ?_;exact wpAny_pure ⟨ρ3,(S1.trans S2).trans S3,rfl⟩
    | true =>
     refine ag fun G0 hG0=>?_;replace e6:=ak (show (r.e y>>=_) es3=_ from e6);obtain ⟨z,es4,p7,p8,e7,e8,rfl⟩:=e6;replace e8:=ak e8;obtain ⟨f,es5,p9,p10,e9,e10,rfl⟩:=e8;refine hG0 ?_
     refine wpAny_bind (wpAny_holding ((H.e S3.rel (S3.env (S2.env (S1.env hE))) y).go e7 (pcL (pcR (pcR (pcR z8)))) fun v3 s4 ρ4 S4 r4=>wpAny_bind (wpAny_standAt (wpAny_bind (wpAny_operateT
      ((ic B.toBs S4.rel op2 (S4.val (S3.val r2)) r4).go e9 (pcL (pcR (pcR (pcR (pcR z8))))) fun d2 s5 ρ5 S5 r5=>wpAny_holding ?_))))))
     cases f with
     | bool f =>
      refine ag fun G0 hG0=>?_;replace e10:=eC (show EM.ret f es5=_ from e10);obtain ⟨rfl,rfl,rfl⟩:=e10;refine hG0 ?_;refine (show d2=.bool u from r5)▸?_;exact wpAny_truthy_bool ⟨ρ5,(((S1.trans S2).trans S3).trans S4).trans S5,rfl⟩
     | _=>exact aL e10
   | _=>exact aL e6
  | [],_=>exact Tr.fail
  | _::_::_::_,_=>exact Tr.fail
  | [_],[]=>exact Tr.fail
  | [_],_::_::_=>exact Tr.fail
  | [_,_],[]=>exact Tr.fail
  | [_,_],[_]=>exact Tr.fail
  | [_,_],_::_::_::_=>exact Tr.fail
 | Constant c k p =>
  cases c with
  | bool b =>
   intro a es' pc e z8;refine au (show EM.ret b es=_ from e) ?_;exact uJ ⟨ρ,Stp.refl hR,rfl⟩
  | _=>exact Tr.fail
 | Name x p=>exact iT H hR hE _ rfl
 | Attribute o a p=>exact iT H hR hE _ rfl
 | Call f a k p=>exact iT H hR hE _ rfl
 | Subscript a b p=>exact iT H hR hE _ rfl
 | BinOp a b c p=>exact iT H hR hE _ rfl
 | _=>exact Tr.fail
theorem iS (B:Bt prog w z5 K T) {r:Ev} (H:aR prog w z5 A env fr scope cells r) (hR:Rel w.params z5 ρ es.hp s.heap) (hE:EnvR es.hp.length ρ env fr scope cells) (t:Expr) {a:AV} {v:Value} (hv:VRel es.hp.length ρ a v) :
  Tr prog w z5 A (ge T fr scope cells r t a) es (assign t env v) ρ s RU:=by
 cases t with
 | Name x p=>exact (iR hR hE x hv).way fun _ _ h=>wpAny_assign_Name h
 | Attribute o name p =>
  intro u es' pc e z8;refine ag fun G0 hG0=>?_;replace e:=ak e;obtain ⟨ov,es1,p1,p2,e1,e2,rfl⟩:=e;refine hG0 ?_;rw[arm_assign_Attribute]
  exact wpAny_bind (wpAny_holding ((H.e hR hE o).go e1 (pcL z8) fun b s1 ρ1 S1 r1=>wpAny_bind (wpAny_standAt (wpAny_bind (wpAny_holding
   ((oI B.toBs B.cls S1.rel r1 name (S1.val hv)).go e2 (pcR z8) fun _ s2 ρ2 S2 _=>wpAny_release ⟨ρ2,S1.trans S2,trivial⟩))))))
 | Subscript o ix p =>
  refine Tr.chk fun q=>?_;intro u es' pc e z8;refine ag fun G0 hG0=>?_;replace e:=ak e;obtain ⟨ov,es1,p1,p2,e1,e2,rfl⟩:=e;replace e2:=ak e2;obtain ⟨iv,es2,p3,p4,e3,e4,rfl⟩:=e2;refine hG0 ?_;rw[arm_assign_Subscript]
  exact wpAny_bind (wpAny_holding ((H.e hR hE o).go e1 (pcL z8) fun b s1 ρ1 S1 r1=>wpAny_bind (wpAny_holding ((H.e S1.rel (S1.env hE) ix).go e3 (pcL (pcR z8)) fun c s2 ρ2 S2 r2=>wpAny_bind (wpAny_standAt (wpAny_bind (wpAny_holding
   ((oH S2.rel (S2.val r1) r2 (S2.val (S1.val hv))).go e4 (pcR (pcR z8)) fun _ s3 ρ3 S3 _=>wpAny_release ⟨ρ3,(S1.trans S2).trans S3,trivial⟩))))))))
 | _=>exact Tr.fail
theorem rS (B:Bt prog w z5 K T) {r:Ev} (H:aR prog w z5 A env fr scope cells r) (hR:Rel w.params z5 ρ es.hp s.heap) (hE:EnvR es.hp.length ρ env fr scope cells) (t1 t2:Expr) {a b:AV} {v x:Value} (hv:VRel es.hp.length ρ a v) (hx:VRel es.hp.length ρ b x) :
  Tr prog w z5 A (ge T fr scope cells r t1 a>>=fun _=>ge T fr scope cells r t2 b) es (assignInOrder [assign t1 env,assign t2 env] [v,x]) ρ s RU:=by
 intro u es' pc e z8;refine ag fun G0 hG0=>?_;replace e:=ak e;obtain ⟨_,es1,p1,p2,e1,e2,rfl⟩:=e;refine hG0 ?_
 exact wpAny_assignInOrder_more ((iS B H hR hE t1 hv).go e1 (pcL z8) fun _ s1 ρ1 S1 _=>wpAny_assignInOrder_more ((iS B H S1.rel (S1.env hE) t2 (S1.val hx)).go e2 (pcR z8) fun _ s2 ρ2 S2 _ =>
  wpAny_assignInOrder_none ⟨ρ2,S1.trans S2,trivial⟩))
theorem lV {t:Expr} (h:b0 t=false) (rest:List Expr):assignEach (t::rest) env=(false,assign t env)::assignEach rest env:=by
 cases t<;>first | rfl | exact noF h
theorem pS (B:Bt prog w z5 K T) (hA:A.handled=none) {r:Ev} (H:aR prog w z5 A env fr scope cells r) (hR:Rel w.params z5 ρ es.hp s.heap) (hE:EnvR es.hp.length ρ env fr scope cells) (t:Expr) {a:AV} {v:Value} (hv:VRel es.hp.length ρ a v) :
  Tr prog w z5 A (j8 T fr scope cells r t a) es (assign t env v) ρ s RU:=by
 cases t with
 | Tuple elts k p =>
  match elts with
  | [t1,t2] =>
   refine Tr.chk fun q=>?_;replace q:=Qx q;obtain ⟨q1,q2⟩:=q;have q1:b0 t1=false:=by simpa using q1
   have q2:b0 t2=false:=by simpa using q2
   have each:assignEach [t1,t2] env=[(false,assign t1 env),(false,assign t2 env)]:=by rw[lV q1,lV q2];rfl
   have k8 {m:EM Unit} {x y:Value} {l:Addr} (hvl:v=.ref l) (hu:∀ (Q:List Value->Shared->Prop) E,(∀ h',(∀ b o,s.heap.get? b=some o->h'.get? b=some o)->s.heap.objs.size<=h'.objs.size->Q [x,y] { s with heap:=h' })->wpAny (model prog w) A (unpackItems (.ref l) 2 none) Q E s)
     (hm:∀ s':Shared,Rel w.params z5 ρ es.hp s'.heap->Tr prog w z5 A m es (assignInOrder [assign t1 env,assign t2 env] [x,y]) ρ s' RU):Tr prog w z5 A m es (assign (.Tuple [t1,t2] k p) env v) ρ s RU:=by
    subst hvl;intro u es' pc e z8;rw[PyProof.Rows.assign_Tuple,each];refine wpAny_bind (wpAny_standAt ?_);show wpAny (model prog w) A (do assignInOrder [assign t1 env,assign t2 env] (<- holding [.ref l] (unpackItems (.ref l) 2 none))) _ _ s;refine wpAny_bind (wpAny_holding (hu _ _ fun h' hk hz=>?_));have S:=Stp.keeps (t:=s.toks) hR hz hk;exact (hm { s with heap:=h' } S.rel).go e z8 fun _ s1 ρ1 S1 _=>⟨ρ1,S.trans S1,trivial⟩
   refine Tr.peek fun ob es1 p1 e1 _=>?_;replace e1:=g8 B.toBs hR hv e1;obtain ⟨ad,hval,ho,_,rfl,rfl⟩:=e1;refine ⟨rfl,?_⟩
   cases ob with
   | tuple xs =>
    match xs,ho with
    | [a1,a2],ho =>
     refine ag fun G0 hG0=>?_;obtain ⟨its,ep,o1,o2⟩:=ho;obtain ⟨il⟩:=its;refine hG0 ?_
     match il,o2 with
     | [x,y],o2=>exact k8 (x:=x) (y:=y) hval (fun Q E h=>uu hA o1 rfl h) fun s' hR'=>rS B H hR' hE t1 t2 o2.1 o2.2.1
     | [],o2=>exact o2.elim
     | [_],o2=>exact o2.2.elim
     | _::_::_::_,o2=>exact o2.2.2.elim
    | [],_=>exact Tr.fail
    | [_],_=>exact Tr.fail
    | _::_::_::_,_=>exact Tr.fail
   | list xs =>
    match xs,ho with
    | [a1,a2],ho =>
     refine ag fun G0 hG0=>?_;obtain ⟨its,ep,o1,o2⟩:=ho;obtain ⟨il⟩:=its;refine hG0 ?_
     match il,o2 with
     | [x,y],o2=>exact k8 (x:=x) (y:=y) hval (fun Q E h=>uC hA o1 rfl h) fun s' hR'=>rS B H hR' hE t1 t2 o2.1 o2.2.1
     | [],o2=>exact o2.elim
     | [_],o2=>exact o2.2.elim
     | _::_::_::_,o2=>exact o2.2.2.elim
    | [],_=>exact Tr.fail
    | [_],_=>exact Tr.fail
    | _::_::_::_,_=>exact Tr.fail
   | _=>exact Tr.fail
  | []=>exact Tr.fail
  | [_]=>exact Tr.fail
  | _::_::_::_=>exact Tr.fail
 | Name x p=>exact iS B H hR hE (.Name x p) hv
 | Attribute o name p=>exact iS B H hR hE (.Attribute o name p) hv
 | Subscript o ix p=>exact iS B H hR hE (.Subscript o ix p) hv
 | _=>exact Tr.fail
end
end TE
namespace TE
set_option tactic.hygienic false
section
variable {prog:Program} {w:World} {z5:Heap} {K:Frag} {T:Tab} {A:Around} {es:ES} {ρ:Nat->Addr} {s:Shared} {env:Env} {fr:Nat} {scope:Scope} {cells:List (Str×Nat)}
theorem fC {r:Ev} (H:aR prog w z5 A env fr scope cells r):∀ (l:List Stmt) {es:ES} {ρ:Nat->Addr} {s:Shared},Rel w.params z5 ρ es.hp s.heap->EnvR es.hp.length ρ env fr scope cells ->
  Tr prog w z5 A (cH r.s l) es (execs l env) ρ s RF
 | [],es,ρ,s,hR,hE=>by
  intro a es' pc e _;refine au e ?_;exact wpAny_execs_nil ⟨ρ,Stp.refl hR,rfl⟩
 | x::l,es,ρ,s,hR,hE=>by
  intro a es' pc e z8;refine ag fun G0 hG0=>?_;replace e:=ak e;obtain ⟨f,es1,p1,p2,e1,e2,rfl⟩:=e;refine hG0 ?_;show wpAny (model prog w) A (do match <- exec x env with | .next=>execs l env | f=>pure f) _ _ s
  refine wpAny_bind ((H.s hR hE x).go e1 (pcL z8) fun c s1 ρ1 S1 r1=>?_)
  cases f with
  | next =>
   rw[show c=.next from r1];exact (fC H l S1.rel (S1.env hE)).go e2 (pcR z8) fun d s2 ρ2 S2 r2=>⟨ρ2,S1.trans S2,r2⟩
  | brk =>
   rw[show c=.brk from r1];refine au (show EM.ret AF.brk es1=_ from e2) ?_;exact wpAny_pure ⟨ρ1,S1,rfl⟩
  | cont =>
   rw[show c=.cont from r1];refine au (show EM.ret AF.cont es1=_ from e2) ?_;exact wpAny_pure ⟨ρ1,S1,rfl⟩
  | ret v =>
   obtain ⟨u,rfl,r1⟩:=r1;refine au (show EM.ret (AF.ret v) es1=_ from e2) ?_;exact wpAny_pure ⟨ρ1,S1,u,rfl,r1⟩
theorem Ax {target:Expr} {it l:Addr} {i:Nat} {v:Value} {Q:Unit->Shared->Prop} {E:Value->Shared->Prop} (hit:s.heap.IsListIter it l i) (h:Q () s):wpAny (model prog w) A (letOwnedTupleGo target (.ref it) v) Q E s:=by
 cases target with
 | Tuple elts k p =>
  cases v with
  | ref a=>exact wpAny_letOwnedTupleGo_listiter hit h
  | _=>exact wpAny_pure h
 | List elts p =>
  obtain ⟨o,ho,hc,hd⟩:=hit
  cases v with
  | ref a =>
   unfold letOwnedTupleGo;refine wpAny_bind (wpAny_load ho ?_);rw[hc,hd];dsimp only;rw[show (["enumerate","zip","dict_itemiterator","dict_reverseitemiterator","odict_iterator","itertools.zip_longest","itertools.pairwise"]:List String).contains "list_iterator" = false by decide +kernel,Bool.false_and,if_neg Bool.false_ne_true];exact wpAny_pure h
  | _=>exact wpAny_pure h
 | _=>exact wpAny_pure h
inductive LI (P:Params) (z5:Heap) (ρ:Nat->Addr) (hp:List AO) (s:Shared) (m:Nat->EM AF) (a:AF) (es':ES) (n:Nat) (s1:Shared):Prop
 | mk (es1:ES) (ρ1:Nat->Addr) (pc:List Prop) (S:Stp P z5 ρ hp s ρ1 es1.hp s1) (e:m n es1=some (a,es',pc)) (h:∀ p∈pc,p):LI P z5 ρ hp s m a es' n s1
inductive LR (P:Params) (z5:Heap) (ρ:Nat->Addr) (hp:List AO) (s:Shared) (a:AF) (hp':List AO) (r:Result) (s':Shared):Prop
 | mk (fl:Flow) (ρ':Nat->Addr) (e:r=.ok fl) (S:Stp P z5 ρ hp s ρ' hp' s') (h:RF a hp'.length ρ' fl):LR P z5 ρ hp s a hp' r s'
theorem Es (B:Bt prog w z5 K T) (hA:A.handled=none) {r:Ev} (H:aR prog w z5 A env fr scope cells r) {target:Expr} {body:List Stmt} {it:Nat} {a:AF} {es':ES} {pc:List Prop} {k:Nat}
  (hR:Rel w.params z5 ρ es.hp s.heap) (hE:EnvR es.hp.length ρ env fr scope cells) (hi:it < es.hp.length) (e:forLoop T fr scope cells r target body it k es=some (a,es',pc)) (z8:∀ p∈pc,p) :
  codeAny (model prog w) A (.forLoop target (.ref (ρ it)) body [] env) (LR w.params z5 ρ es.hp s a es'.hp) s:=by
 refine codeAny_forLoop_any (LI w.params z5 ρ es.hp s (forLoop T fr scope cells r target body it) a es') (fun n s1 hI=>?_) k ⟨es,ρ,pc,Stp.refl hR,e,z8⟩
 cases n with
 | zero=>obtain ⟨es1,ρ1,y0,S1,e1,hp1⟩:=hI;exact aL e1
 | succ n =>
  refine ag fun G hG=>?_;refine ag fun G0 hG0=>?_;obtain ⟨es1,ρ1,y0,S1,e1,hp1⟩:=hI;have hρ:ρ1 it=ρ it:=S1.ext it hi;replace e1:=ak e1;obtain ⟨o,es2,p1,p2,f1,f2,rfl⟩:=e1;replace f1:=bG f1;obtain ⟨ho,rfl,rfl⟩:=f1;refine hG0 ?_
  cases o with
  | iter l i =>
   replace f2:=ak f2;obtain ⟨ob,es3,p3,p4,f3,f4,rfl⟩:=f2;replace ho:=S1.rel.at ho;obtain ⟨b,hl,hit⟩:=ho;rw[hρ] at hit;replace f3:=g8 B.toBs S1.rel hl f3;obtain ⟨ad,hval,hob,_,rfl,rfl⟩:=f3
   cases hval
   cases ob with
   | list xs =>
    replace f4:=c8 (show EM.chk _ _ es3=_ from f4);obtain ⟨g1,g2⟩:=f4;obtain ⟨its,ep,o1,o2⟩:=hob;have hls:=cg o1;have hi1:it < es3.hp.length:=Qd hi S1.len
    cases hx:xs[i]? with
    | none =>
     rw[hx] at g2;refine ag fun G0 hG0=>?_;replace g2:=ak g2;obtain ⟨_,es4,p5,p6,u1,u2,rfl⟩:=g2;replace u1:=cR u1;obtain ⟨rfl,rfl⟩:=u1;refine hG0 ?_;refine hG ?_;refine au u2 ?_
     have hn:its[i]?=none:=by
      rw[<- Qq,List.getElem?_eq_none_iff,<- o2.length];exact List.getElem?_eq_none_iff.mp hx
     refine qt hA hit hls hn fun h' he hz=>wpAny_execs_nil ⟨.next,ρ1,rfl,S1.trans (Stp.deaden (t:=s1.toks) S1.rel hi1 (hρ▸he) hz),rfl⟩
    | some av =>
     rw[hx] at g2;refine ag fun G0 hG0=>?_;replace g2:=ak g2;obtain ⟨_,es4,p5,p6,u1,u2,rfl⟩:=g2;replace u1:=cR u1;obtain ⟨rfl,rfl⟩:=u1;replace u2:=ak u2;obtain ⟨_,es5,p7,p8,u3,u4,rfl⟩:=u2;replace u4:=ak u4;obtain ⟨fl,es6,p9,p10,u5,u6,rfl⟩:=u4;replace hx:=o2.get hx;obtain ⟨v,hv1,hv2⟩:=hx;refine hG0 ?_;refine hG<|wpAny_pyNext_list_item hit hls (x:=v) (by rw[<- Qq];exact hv1) fun h' hit' hs'=>Ax hit' ?_
     have S2:Stp w.params z5 ρ1 es3.hp s1 ρ1 (es3.hp.set it (.iter l (i+1))) { s1 with heap:=h' } :=
      Stp.set (t:=s1.toks) S1.rel hi1 (by rw[hρ];exact hs') ⟨b,hl,by rw[hρ];exact hit'⟩
     have S12:=S1.trans S2;refine (pS B hA H (es:=⟨es3.hp.set it (.iter l (i+1)),es3.dec⟩) S2.rel (S12.env hE) target (S2.val hv2)).go u3 (pcL (pcR (pcR (pcR hp1)))) fun _ s3 ρ3 S3 _=>?_;have S13:=S12.trans S3;refine (fC H body S3.rel (S13.env hE)).go u5 (pcL (pcR (pcR (pcR (pcR hp1))))) fun c s4 ρ4 S4 r4=>?_;have S14:=S13.trans S4
     cases fl with
     | next=>rw[show c=.next from r4];exact ⟨n,Qt n,es6,ρ4,p10,S14,u6,pcR (pcR (pcR (pcR (pcR hp1))))⟩
     | cont=>rw[show c=.cont from r4];exact ⟨n,Qt n,es6,ρ4,p10,S14,u6,pcR (pcR (pcR (pcR (pcR hp1))))⟩
     | brk =>
      rw[show c=.brk from r4];refine au (show EM.ret AF.next es6=_ from u6) ?_;exact ⟨.next,ρ4,rfl,S14,rfl⟩
     | ret u =>
      obtain ⟨y,rfl,r5⟩:=r4;refine au (show EM.ret (AF.ret u) es6=_ from u6) ?_;exact ⟨.ret y,ρ4,rfl,S14,y,rfl,r5⟩
   | _=>exact aL f4
  | _=>exact aL f2
theorem zO {r:Ev} (H:aR prog w z5 A env fr scope cells r) (hR:Rel w.params z5 ρ es.hp s.heap) (hE:EnvR es.hp.length ρ env fr scope cells) (test:Expr) (body:List Stmt) (p:Pos) (k:Nat) :
  Tr prog w z5 A (whileLoop r test body k) es (exec (.While test body [] p) env) ρ s RF:=by
 intro a es' pc e z8;refine wpAny_While (codeAny_mono (codeAny_whileLoop (R:=LR w.params z5 ρ es.hp s a es'.hp) (LI w.params z5 ρ es.hp s (whileLoop r test body) a es') (fun n s1 hI=>?_) k ⟨es,ρ,pc,Stp.refl hR,e,z8⟩) fun r s' z=>?_)
 ·obtain ⟨es1,ρ1,y0,S1,e1,hp1⟩:=hI
  cases n with
  | zero=>exact aL e1
  | succ n =>
   refine ag fun G0 hG0=>?_;replace e1:=ak (show (r.t test>>=_) es1=_ from e1);obtain ⟨b,es2,p1,p2,f1,f2,rfl⟩:=e1;refine hG0 ?_;refine wpAny_mono ((H.t S1.rel (S1.env hE) test).go f1 (pcL hp1) (Q:=fun b' s2=>∃ ρ2,Stp w.params z5 ρ1 es1.hp s1 ρ2 es2.hp s2/\b'=b) (E:=fun _ _=>False) fun c s2 ρ2 S2 r2=>⟨ρ2,S2,r2⟩) (fun b' s2 zz=>?_) fun _ _ x=>x.elim;obtain ⟨ρ2,S2,rfl⟩:=zz;have S12:=S1.trans S2
   cases b' with
   | false =>
    refine au (show EM.ret AF.next es2=_ from f2) ?_;exact wpAny_execs_nil ⟨.next,ρ2,rfl,S12,rfl⟩
   | true =>
    refine ag fun G0 hG0=>?_;replace f2:=ak (show (cH r.s body>>=_) es2=_ from f2);obtain ⟨fl,es3,p3,p4,g1,g2,rfl⟩:=f2;refine hG0 ?_;refine (fC H body S2.rel (S12.env hE)).go g1 (pcL (pcR hp1)) fun c s3 ρ3 S3 r3=>?_;have S13:=S12.trans S3
    cases fl with
    | next=>rw[show c=.next from r3];exact ⟨n,Qt n,es3,ρ3,p4,S13,g2,pcR (pcR hp1)⟩
    | cont=>rw[show c=.cont from r3];exact ⟨n,Qt n,es3,ρ3,p4,S13,g2,pcR (pcR hp1)⟩
    | brk =>
     rw[show c=.brk from r3];refine au (show EM.ret AF.next es3=_ from g2) ?_;exact ⟨.next,ρ3,rfl,S13,rfl⟩
    | ret u =>
     obtain ⟨y,rfl,r5⟩:=r3;refine au (show EM.ret (AF.ret u) es3=_ from g2) ?_;exact ⟨.ret y,ρ3,rfl,S13,y,rfl,r5⟩
 ·obtain ⟨fl,ρ',rfl,S,rr⟩:=z;exact ⟨ρ',S,rr⟩
theorem om {e:Expr} (h:ng e=false) (t:Option Expr) (line:Nat):swapsWith e t line env=pure false:=by
 cases e<;>first | rfl | exact noF h
theorem CH {v t:Expr} (h:(!tC v||tD t)=true):swappedStores [t] v env=pure none:=by
 cases t with
 | Tuple ts c p =>
  cases v with
  | Tuple=>exact noT h
  | _=>rfl
 | List ts p =>
  cases v with
  | Tuple=>exact noT h
  | _=>rfl
 | _=>rfl
theorem pi {n:Nat} (H:EnvR n ρ env fr scope cells):interactive env=false:=by
 unfold interactive;rw[H.hscope,H.hkind];rfl
theorem uQ {t:Expr} {r:Ev} {a:AV} {x:Unit×ES×List Prop} (e:j8 T fr scope cells r t a es=some x):b0 t=false:=by
 cases t<;>first | rfl | (exact non e)
theorem AS {op:Operator} (h:tF op=true):op=.Add:=by
 cases op<;>first | rfl | exact noT h
theorem zX (B:Bt prog w z5 K T) {hook:cy} (hH:fG prog w z5 A env fr scope cells hook) (hA:A.handled=none) {r:Ev} (H:aR prog w z5 A env fr scope cells r) (hR:Rel w.params z5 ρ es.hp s.heap) (hE:EnvR es.hp.length ρ env fr scope cells) (st:Stmt) :
  Tr prog w z5 A (tc T hook fr scope cells r st) es (exec st env) ρ s RF:=by
 cases st with
 | Expr e p =>
  refine Tr.chk fun q=>?_;intro u es' pc e' z8;obtain ⟨v,es1,p1,p2,e1,e2,rfl⟩:=ak e';refine au e2 ?_;exact wpAny_Expr_any ((H.e hR hE e).go e1 (pcL z8) fun b s1 ρ1 S1 r1=>⟨ρ1,S1,rfl⟩) (pi hE) (om (by simpa using q) _ _)
 | Pass p =>
  intro u es' pc e z8;refine au e ?_;exact wpAny_Pass ⟨ρ,Stp.refl hR,rfl⟩
 | Break p =>
  intro u es' pc e z8;refine au e ?_;exact wpAny_Break ⟨ρ,Stp.refl hR,rfl⟩
 | Return v p =>
  cases v with
  | none=>exact Tr.fail
  | some x =>
   intro u es' pc e z8;refine ag fun G0 hG0=>?_;replace e:=ak e;obtain ⟨v,es1,p1,p2,e1,e2,rfl⟩:=e;refine hG0 ?_;refine au e2 ?_;exact wpAny_Return_some ((H.e hR hE x).go e1 (pcL z8) fun b s1 ρ1 S1 r1=>⟨ρ1,S1,b,rfl,r1⟩)
 | Assign ts value p =>
  match ts with
  | [t] =>
   refine Tr.chk fun q=>?_;replace q:=Qx q;obtain ⟨q1,q2⟩:=q;intro u es' pc e z8;refine ag fun G0 hG0=>?_;replace e:=ak e;obtain ⟨v,es1,p1,p2,e1,e2,rfl⟩:=e;replace e2:=ak e2;obtain ⟨_,es2,p3,p4,e3,e4,rfl⟩:=e2;refine hG0 ?_;refine au e4 ?_;refine wpAny_Assign_stores ((H.e hR hE value).go e1 (pcL z8) fun b s1 ρ1 S1 r1=>?_) (om (by simpa using q1) _ _) (CH q2);rw[lV (uQ e3)];exact (pS B hA H S1.rel (S1.env hE) t r1).go e3 (pcL (pcR z8)) fun _ s2 ρ2 S2 _=>⟨ρ2,S1.trans S2,rfl⟩
  | []=>exact Tr.fail
  | _::_::_=>exact Tr.fail
 | AugAssign t op value p =>
  refine Tr.chk fun hop=>?_;obtain rfl:=AS hop
  cases t with
  | Name x np =>
   intro u es' pc e z8;refine ag fun G0 hG0=>?_;replace e:=ak e;obtain ⟨a,es1,p1,p2,e1,e2,rfl⟩:=e;replace e2:=ak e2;obtain ⟨b,es2,p3,p4,e3,e4,rfl⟩:=e2;replace e4:=ak e4;obtain ⟨c,es3,p5,p6,e5,e6,rfl⟩:=e4;replace e6:=ak e6;obtain ⟨_,es4,p7,p8,e7,e8,rfl⟩:=e6;refine hG0 ?_;refine au e8 ?_
   exact wpAny_AugAssign_Name ((q9 B.toBs hR hE x).go e1 (pcL z8) fun v1 s1 ρ1 S1 r1=>(H.e S1.rel (S1.env hE) value).go e3 (pcL (pcR z8)) fun v2 s2 ρ2 S2 r2 =>
    (mE S2.rel .Add rfl (S2.val r1) r2).go e5 (pcL (pcR (pcR z8))) fun v3 s3 ρ3 S3 r3=>(iR S3.rel (S3.env (S2.env (S1.env hE))) x r3).go e7 (pcL (pcR (pcR (pcR z8)))) fun _ s4 ρ4 S4 _ =>
     ⟨ρ4,((S1.trans S2).trans S3).trans S4,rfl⟩)
  | Attribute o name np =>
   intro u es' pc e z8;refine ag fun G0 hG0=>?_;replace e:=ak e;obtain ⟨ov,es0,p1,p2,e1,e2,rfl⟩:=e;replace e2:=ak e2;obtain ⟨a,es1,p3,p4,e3,e4,rfl⟩:=e2;replace e4:=ak e4;obtain ⟨b,es2,p5,p6,e5,e6,rfl⟩:=e4;replace e6:=ak e6;obtain ⟨c,es3,p7,p8,e7,e8,rfl⟩:=e6;replace e8:=ak e8;obtain ⟨_,es4,p9,p10,e9,e10,rfl⟩:=e8;refine hG0 ?_;refine au e10 ?_
   exact wpAny_AugAssign_AttributeAny ((H.e hR hE o).go e1 (pcL z8) fun v0 s0 ρ0 S0 r0=>(oT B.toBs B.cls S0.rel r0 name true).go e3 (pcL (pcR z8)) fun v1 s1 ρ1 S1 r1 =>
    (H.e S1.rel (S1.env (S0.env hE)) value).go e5 (pcL (pcR (pcR z8))) fun v2 s2 ρ2 S2 r2=>(mE S2.rel .Add rfl (S2.val r1) r2).go e7 (pcL (pcR (pcR (pcR z8)))) fun v3 s3 ρ3 S3 r3 =>
     (oI B.toBs B.cls S3.rel (S3.val (S2.val (S1.val r0))) name r3).go e9 (pcL (pcR (pcR (pcR (pcR z8))))) fun _ s4 ρ4 S4 _=>⟨ρ4,(((S0.trans S1).trans S2).trans S3).trans S4,rfl⟩)
  | Subscript o ix np =>
   refine Tr.chk fun q=>?_;intro u es' pc e z8;replace e:=ak e;obtain ⟨ov,es0,p1,p2,e1,e2,rfl⟩:=e;replace e2:=ak e2;obtain ⟨iv,esi,p3,p4,e3,e4,rfl⟩:=e2;replace e4:=ak e4;obtain ⟨a,es1,p5,p6,e5,e6,rfl⟩:=e4;replace e6:=ak e6;obtain ⟨b,es2,p7,p8,e7,e8,rfl⟩:=e6;replace e8:=ak e8;obtain ⟨c,es3,p9,p10,e9,e10,rfl⟩:=e8;replace e10:=ak e10;obtain ⟨_,es4,p11,p12,e11,e12,rfl⟩:=e10;refine au e12 ?_
   exact wpAny_AugAssign_SubscriptAny ((H.e hR hE o).go e1 (pcL z8) fun v0 s0 ρ0 S0 r0=>(H.e S0.rel (S0.env hE) ix).go e3 (pcL (pcR z8)) fun vi si ρi Si ri =>
    (wB B.toBs Si.rel (Si.val r0) ri).go e5 (pcL (pcR (pcR z8))) fun v1 s1 ρ1 S1 r1 =>
    (H.e S1.rel (S1.env (Si.env (S0.env hE))) value).go e7 (pcL (pcR (pcR (pcR z8)))) fun v2 s2 ρ2 S2 r2=>(mE S2.rel .Add rfl (S2.val r1) r2).go e9 (pcL (pcR (pcR (pcR (pcR z8))))) fun v3 s3 ρ3 S3 r3 =>
     (oH S3.rel (S3.val (S2.val (S1.val (Si.val r0)))) (S3.val (S2.val (S1.val ri))) r3).go e11 (pcL (pcR (pcR (pcR (pcR (pcR z8)))))) fun _ s4 ρ4 S4 _=>⟨ρ4,((((S0.trans Si).trans S1).trans S2).trans S3).trans S4,rfl⟩)
    (by intro ov iv new;cases ix<;>first | rfl | exact noT q)
  | _=>exact Tr.fail
 | If test body orelse p =>
  intro u es' pc e z8;refine ag fun G0 hG0=>?_;replace e:=ak e;obtain ⟨b,es1,p1,p2,e1,e2,rfl⟩:=e;refine hG0 ?_;refine wpAny_If ((H.t hR hE test).go e1 (pcL z8) fun v s1 ρ1 S1 r1=>?_);rw[show v=b from r1]
  cases b with
  | true=>exact (fC H body S1.rel (S1.env hE)).go e2 (pcR z8) fun v' s2 ρ2 S2 r2=>⟨ρ2,S1.trans S2,r2⟩
  | false=>exact (fC H orelse S1.rel (S1.env hE)).go e2 (pcR z8) fun v' s2 ρ2 S2 r2=>⟨ρ2,S1.trans S2,r2⟩
 | While test body orelse p =>
  cases orelse with
  | cons _ _=>exact Tr.fail
  | nil =>
   show Tr prog w z5 A (match mD test with
    | true=>whileLoop r test body 3
    | false=>hook.s (.While test body [] p) fr scope) es _ ρ s _
   cases mD test with
   | true=>exact zO H hR hE _ body p 3
   | false=>exact hH.stm hR hE _
 | For target iter body orelse p =>
  cases orelse with
  | cons _ _=>exact Tr.fail
  | nil =>
   show Tr prog w z5 A (match nf iter with
    | true=>hook.s (.For target iter body [] p) fr scope
    | false=>EM.chk (!tE iter) (tv T fr scope cells r target iter body)) es _ ρ s _
   cases nf iter with
   | true=>exact hH.stm hR hE _
   | false =>
    refine Tr.chk fun q=>?_;intro u es' pc e z8;replace e:=ak e;obtain ⟨x,es1,p1,p2,e1,e2,rfl⟩:=e;refine wpAny_For ((H.e hR hE iter).go e1 (pcL z8) fun v s1 ρ1 S1 r1=>?_) (fun x=>by cases iter<;>first | rfl | exact noT q)
    cases x with
    | ptr i =>
     refine ag fun G0 hG0=>?_;obtain ⟨hi,rfl⟩:=r1;replace e2:=ak (show (EM.obj i>>=_) es1=_ from e2);obtain ⟨o,es2,p3,p4,e3,e4,rfl⟩:=e2;replace e3:=bG e3;obtain ⟨ho,rfl,rfl⟩:=e3;refine hG0 ?_
     cases o with
     | list xs =>
      refine ag fun G0 hG0=>?_;replace e4:=ak (show (EM.new (.iter (.ptr i) 0)>>=_) es2=_ from e4);obtain ⟨it,es3,p5,p6,e5,e6,rfl⟩:=e4;replace e5:=dF e5;obtain ⟨rfl,rfl,rfl⟩:=e5;replace ho:=S1.rel.at ho;obtain ⟨its,ep,o1,o2⟩:=ho;refine hG0 ?_;refine wpAny_pyIter_list (cg o1) ?_
      have S2:Stp w.params z5 ρ1 es2.hp s1 _ (es2.hp++[AO.iter (.ptr i) 0]) { s1 with heap:=s1.heap.push { cls:=.type "list_iterator",data:=.fields #[.ref (ρ1 i),.int 0 0] } } :=
       Stp.push (t:=s1.toks) S1.rel ⟨ρ1 i,VRel.ext1 (x:=.ptr i) ⟨hi,rfl⟩,_,Qi _ rfl,rfl,rfl⟩
      have S12:=S1.trans S2;have key:=Es (es:=⟨es2.hp++[AO.iter (.ptr i) 0],es2.dec⟩) B hA H S2.rel (S12.env hE) (by simp) e6 (pcR (pcR (pcR z8)));rw[dZ] at key;refine codeAny_mono key fun r s' z=>?_;obtain ⟨fl,ρ',rfl,S3,r3⟩:=z;exact ⟨ρ',S12.trans S3,r3⟩
     | _=>exact aL e4
    | _=>exact aL e2
 | _=>exact Tr.fail
end
end TE
namespace TE
set_option backward.match.sparseCases false
set_option tactic.hygienic false
theorem lz:∀ {names:List Str} {vs:List Value} {n:Str},names.length=vs.length->n∈names->((names.zip vs).lookup n).isSome=true
 | [],_,_,_,h=>nomatch h
 | a::names,[],_,h,_=>by cases h
 | a::names,v::vs,n,h,hm=>by
  rw[List.zip_cons_cons,List.lookup_cons]
  by_cases q:n=a
  ·have:(n==a)=true:=beq_iff_eq.mpr q;rw[this];rfl
  ·have:(n==a)=false:=beq_eq_false_iff_ne.mpr q;rw[this];exact lz (Nat.succ.inj h) ((Qz hm).resolve_left q)
theorem oU {α β:Type} {f g:α->Option β}:∀ {l:List α},(∀ x∈l,f x=g x)->l.filterMap f=l.filterMap g
 | [],_=>rfl
 | a::l,h=>by
  rw[List.filterMap_cons,List.filterMap_cons,h a (.head _),oU fun x hx=>h x (.tail _ hx)]
theorem pU:∀ {names:List Str} {vs:List Value},names.length=vs.length->names.Nodup->(names.filterMap fun n=>((names.zip vs).lookup n).map (n,·))=names.zip vs
 | [],_,_,_=>rfl
 | a::names,[],h,_=>by cases h
 | a::names,v::vs,h,hn=>by
  replace hn:=List.nodup_cons.mp hn;obtain ⟨n1,n2⟩:=hn;have ih:=pU (Nat.succ.inj h) n2;rw[List.zip_cons_cons,List.filterMap_cons];have e:((a,v)::names.zip vs).lookup a=some v:=by rw[List.lookup_cons,beq_self_eq_true]
  rw[e];show (a,v)::_=_
  congr 1
  refine Eq.trans (oU fun n hm=>?_) ih;have:(n==a)=false:=beq_eq_false_iff_ne.mpr fun e=>n1 (e▸hm);rw[List.lookup_cons,this]
theorem py {names:List Str} {vs:List Value} (hl:names.length=vs.length):∀ (l:List (Str×Value)),(∀ p∈l,p.1∈names) ->
  (forIn l (names.zip vs) fun (x:Str×Value) (c:List (Str×Value))=>if (c.lookup x.1).isNone=true then (pure (ForInStep.yield (c++[(x.1,x.2)])):Sem _) else pure (ForInStep.yield c))=pure (names.zip vs)
 | [],_=>by rw[List.forIn_nil]
 | p::l,h=>by
  have q:=lz hl (h p (.head _))
  have q':¬ ((names.zip vs).lookup p.1).isNone=true:=by
   cases z:(names.zip vs).lookup p.1 with
   | none=>rw[z] at q;exact noT q
   | some _=>simp
  rw[List.forIn_cons,if_neg q',pure_bind];exact py hl l fun p hp=>h p (.tail _ hp)
section
variable {prog:Program} {w:World} {M:Model} {A:Around} {s:Shared} {E:Value->Shared->Prop}
theorem tJ {α:Type} {p:Prop} [Decidable p] {t u:Sem α} {Q:α->Shared->Prop} (h:¬ p) (k:wpAny M A u Q E s):wpAny M A (if p then t else u) Q E s:=by rw[if_neg h];exact k
theorem FV {α:Type} {l:List α} (h:l=[]):¬ ((!l.isEmpty)=true):=by rw[h];exact noT
theorem Gj {α β:Type} {t:Sem α} {a:α} {f:α->Sem β} {Q:β->Shared->Prop} (h:t=pure a) (k:wpAny M A (f a) Q E s):wpAny M A (t>>=f) Q E s:=by rw[h,pure_bind];exact k
end
theorem qG {fd:FuncData} {vs:List Value} {ps:List Arg} {kd:List (Option Expr)} {ds:List Expr} {s:Shared} {r:Option (Array Value)} (hp:fd.params=⟨[],ps,none,[],kd,none,ds⟩) (hl:ps.length=vs.length) (hn:(ps.map (·.arg)).Nodup)
  (hd:∀ (M:Model) (A:Around) (E:Value->Shared->Prop) (Q:Option (Array Value)->Shared->Prop),Q r s->wpAny M A (seqItems? fd.defaults) Q E s):BindsTo s fd ⟨vs,[]⟩ ((ps.map (·.arg)).zip vs):=fun M A E Q hq=>by
 have hl':(ps.map (·.arg)).length=vs.length:=by rw[List.length_map];exact hl
 obtain ⟨a1,a2,a3,params,a5,a6,a7,a8,a9⟩:=fd;dsimp only at hp;subst hp;unfold bindArgs;dsimp only[List.map_nil,List.nil_append];refine wpAny_bind (wpAny_pure ?_);refine wpAny_bind (hd M A E _ ?_);refine tJ (fun h=>?_) ?_
 ·have h:=(Qx h).1;exact absurd (of_decide_eq_true h) (Nat.not_lt.mpr (Nat.le_of_eq hl'.symm))
 have c2:∀ k,((ps.map (·.arg)).take k).filter (fun n=>(((ps.map (·.arg)).zip vs).lookup n).isNone)=[]:=fun k=>by
  rw[List.filter_eq_nil_iff];intro n hm;have q:=lz hl' (List.mem_of_mem_take hm)
  cases z:((ps.map (·.arg)).zip vs).lookup n with
  | none=>rw[z] at q;exact noT q
  | some _=>exact Bool.false_ne_true
 refine tJ (FV (c2 _)) ?_;refine Gj (py hl' _ fun p hp=>List.mem_of_mem_drop (List.of_mem_zip hp).1) ?_;refine wpAny_bind (wpAny_pure (wpAny_pure ?_));show Q (((ps.map Arg.arg)++[]).filterMap fun n=>(((ps.map Arg.arg).zip vs).lookup n).map (n,·)) s;rw[List.append_nil,pU hl' hn];exact hq
theorem oP:∀ {l:List (Str×Value)} {x:Str} {v:Value},(l.map (·.1)).Nodup->(x,v)∈l->l.lookup x=some v
 | [],_,_,_,h=>nomatch h
 | (k,u)::l,x,v,hn,h=>by
  replace hn:=List.nodup_cons.mp hn;obtain ⟨n1,n2⟩:=hn;rw[List.lookup_cons];rcases Qz h with e | h
  ·cases e;rw[beq_self_eq_true]
  ·have:(x==k)=false:=beq_eq_false_iff_ne.mpr fun e=>n1 (e▸List.mem_map.mpr ⟨(x,v),h,rfl⟩);rw[this];exact oP n2 h
theorem sC {n:Nat} {ρ:Nat->Addr}:∀ {bs:List (Str×AV)} {binds:List (Str×Value)} {x:Str} {a:AV},All2 (cF n ρ) bs binds->lk bs x=some a->∃ v,(x,v)∈binds/\VRel n ρ a v
 | [],_,_,_,_,e=>non e
 | (k,u)::l,(k',y)::r,x,a,h,e=>by
  have e:(match seq k x with | true=>some u | false=>lk l x)=some a:=e
  obtain ⟨h1,h2⟩:=h.1;dsimp only at h1 h2;subst h1
  cases q:seq k x with
  | true=>rw[q] at e;obtain rfl:=Qb e;rw[(bt k x).mp q];exact ⟨y,.head _,h2⟩
  | false =>
   rw[q] at e;replace e:=sC h.2 e;obtain ⟨v,m,z⟩:=e;exact ⟨v,.tail _ m,z⟩
 | _::_,[],_,_,h,_=>h.elim
theorem Ao {n:Nat} {ρ:Nat->Addr} {bs:List (Str×AV)} {binds:List (Str×Value)} {x:Str} {a:AV} (h:All2 (cF n ρ) bs binds) (hn:(binds.map (·.1)).Nodup) (e:lk bs x=some a) :
  ∃ v,binds.reverse.lookup x=some v/\VRel n ρ a v:=by
 replace e:=sC h e;obtain ⟨v,m,z⟩:=e;exact ⟨v,oP (by rw[List.map_reverse];exact List.pairwise_reverse.mpr (hn.imp fun h=>h.symm)) (List.mem_reverse.mpr m),z⟩
structure bP (w:World) (z5:Heap) (f:Addr) (r:cJ):Prop where
 ok:∃ (K:Frag) (oc:Value) (od:Option Addr) (osl:Array (Option Value)) (fd:FuncData),K.In z5/\K.lookup f=some ⟨oc,od,.func fd,osl⟩/\fd.scope=r.scope/\fd.globals=mainGlobals/\fd.builtins=builtinsNs/\fd.body=.stmts r.body/\codeIn K fd.code fd.qualname=true /\
  ∀ args bs,bF r.dflts r.params.args args=some bs->∀ n ρ vs (s:Shared),(∀ b o,z5.get? b=some o->s.heap.get? b=some o)->All2 (VRel n ρ) args vs ->
   ∃ binds,BindsTo s fd ⟨vs,[]⟩ binds/\All2 (cF n ρ) bs binds/\(binds.map (·.1)).Nodup/\∀ y∈binds,r.scope.names.lookup y.1=some .local
 kind:r.scope.kind=.function
 co:r.scope.isCoroutine=false
 gen:r.scope.isGenerator=false
 nocell:∀ x∈r.scope.names,x.2≠.cell
section
variable {prog:Program} {w:World} {z5:Heap} {K:Frag} {T:Tab} {A:Around} {es:ES} {ρ:Nat->Addr} {s:Shared} {env:Env} {fr:Nat} {scope:Scope} {cells:List (Str×Nat)}
theorem gt (B:Bt prog w z5 K T) {n:Nat} {call:Addr->List AV->EM AV} (hC:fH prog w z5 n call) (hF:gm z5 call) {hook:cy} (hH:fG prog w z5 A env fr scope cells hook) (hA:BOK n A) :
  ∀ k,aR prog w z5 A env fr scope cells (ev T call hook fr scope cells k)
 | 0=>⟨fun _ _ _=>Tr.fail,fun _ _ _=>Tr.fail,fun _ _ _=>Tr.fail⟩
 | k+1=>⟨fun hR hE x=>zY B hC hF hH hA (gt B hC hF hH hA k) hR hE x,fun hR hE x=>zW B (gt B hC hF hH hA k) hR hE x,fun hR hE x=>zX B hH hA.handled (gt B hC hF hH hA k) hR hE x⟩
theorem Am (B:Bt prog w z5 K T) {n:Nat} {call:Addr->List AV->EM AV} (hC:fH prog w z5 n call) (hF:gm z5 call) {hook:cy} (hH:∀ A env fr scope,BOK n A->fG prog w z5 A env fr scope [] hook) (hA:AOK (n+1) A)
  {f:Addr} {r:cJ} (hf:bP w z5 f r) (hR:Rel w.params z5 ρ es.hp s.heap) {args:List AV} {vs:List Value} (hv:All2 (VRel es.hp.length ρ) args vs):TrC prog w z5 A (ky T hook call r args) es (.ref f) vs ρ s:=by
 intro a es' pc e z8
 have e:(match bF r.dflts r.params.args args with
  | none=>EM.fail
  | some binds=>EM.new (.ns binds)>>=fun fr=>cH (ev T call hook fr r.scope [] 40).s r.body>>=fun fl=>match fl with | .next=>EM.ret AV.none | .ret v=>EM.ret v | _=>EM.fail) es=some (a,es',pc):=e
 cases q:bF r.dflts r.params.args args with
 | none=>rw[q] at e;exact aL e
 | some bs =>
  rw[q] at e;refine ag fun G0 hG0=>?_;replace e:=ak e;obtain ⟨i,es1,p1,p2,e1,e2,rfl⟩:=e;replace e1:=dF e1;obtain ⟨rfl,rfl,rfl⟩:=e1;replace e2:=ak e2;obtain ⟨fl,es2,p3,p4,e3,e4,rfl⟩:=e2;obtain ⟨K',oc,od,osl,fd,X,k1,k2,k3,k4,k5,k6,kb⟩:=hf.ok;replace X:=X.keeps hR.keep;replace hv:=kb args bs q es.hp.length ρ vs s hR.keep hv;obtain ⟨binds,b1,b2,b3,b4⟩:=hv;refine hG0 ?_;have dp:=hA.depth
  refine codeAny_call_def (fd:=fd) (body:=r.body) (binds:=binds) (Qd (by omega:A.depth < 900) (by decide)) (X _ _ k1) rfl (B.lim.keeps hR.keep) (codeRec_of X k6) k5 b1
   (by rw[k2];exact hf.nocell) (by rw[k2];exact b4) (fun h1 hns hk1=>?_) (by rw[k2];exact hf.co) (by rw[k2];exact hf.gen) (by rw[k2];exact hf.kind)
  have hsz:s.heap.objs.size<=h1.objs.size:=Qk hns.lt
  have S1:Stp w.params z5 ρ es.hp s _ (es.hp++[AO.ns bs]) { s with heap:=h1,toks:=s.toks+binds.length } :=
   Stp.new hR (Qa _) hsz hk1 ⟨_,hns,fun x av hx=>by
    replace hx:=Ao b2 b3 hx;obtain ⟨v,z1,z2⟩:=hx;exact ⟨v,z1,z2.ext1⟩⟩
  have hE:EnvR (es.hp++[AO.ns bs]).length (ext1 ρ es.hp.length s.heap.objs.size) (callEnv fd s.heap.objs.size f) es.hp.length r.scope [] :=
   ⟨k2,hf.kind,hf.co,by simp,by rw[dZ];rfl,k3,k4,fun x i h=>by cases h⟩
  refine (fC (gt B hC hF (hH _ _ _ _ (hA.deeper _)) (hA.deeper _) 40) r.body S1.rel hE).go e3 (pcL (pcR z8)) fun c s2 ρ2 S2 r2=>?_
  cases fl with
  | next =>
   rw[show c=.next from r2];refine au (show EM.ret AV.none es2=_ from e4) ?_;exact ⟨.none,ρ2,rfl,S1.trans S2,rfl⟩
  | ret v =>
   obtain ⟨u,rfl,r2⟩:=r2;refine au (show EM.ret v es2=_ from e4) ?_;exact ⟨u,ρ2,rfl,S1.trans S2,r2⟩
  | _=>exact aL e4
noncomputable def jf (prog:Program) (w:World) (z5:Heap) (f:Addr) (g:List AV->EM AV):Prop :=
 FnH z5 f/\∀ A,A.handled=none->A.depth<=888->∀ es ρ s args vs,Rel w.params z5 ρ es.hp s.heap->All2 (VRel es.hp.length ρ) args vs->TrC prog w z5 A (g args) es (.ref f) vs ρ s
theorem jS {hook:cy} {spec:Addr->Option (List AV->EM AV)} (hS:∀ f g,spec f=some g->FnH z5 f) (hT:∀ f r,T.fn f=some r->bP w z5 f r):∀ n,gm z5 (db T hook spec n)
 | 0=>fun f args es r e=>non e
 | n+1=>fun f args es r e=>by
  have e:(match spec f with | some g=>EM.chk (Nat.ble 2 n) (g args) | none=>match T.fn f with | some r=>ky T (kg hook n) (db T hook spec n) r args | none=>EM.fail) es=some r:=e
  cases q:spec f with
  | some g=>exact hS f g q
  | none =>
   rw[q] at e;dsimp only at e
   cases q2:T.fn f with
   | none=>rw[q2] at e;exact non e
   | some rr =>
    obtain ⟨K',oc,od,osl,fd,X,k1,_⟩:=(hT f rr q2).ok;refine ⟨K',X,?_⟩;unfold fnIn;rw[k1]
noncomputable def kj (prog:Program) (w:World) (z5:Heap) (hook:cy):Prop:=∀ A env fr scope,A.handled=none->A.depth<=889->fG prog w z5 A env fr scope [] hook
theorem yh {hook:cy} (hH:kj prog w z5 hook):∀ n A env fr scope,BOK n A->fG prog w z5 A env fr scope [] (kg hook n)
 | 0,_,_,_,_,_=>⟨fun _ _ _ _ _ _=>Tr.fail,fun _ _ _ _ _ _ _ _=>Tr.fail,fun _ _ _=>Tr.fail⟩
 | 1,_,_,_,_,_=>⟨fun _ _ _ _ _ _=>Tr.fail,fun _ _ _ _ _ _ _ _=>Tr.fail,fun _ _ _=>Tr.fail⟩
 | n+2,A,env,fr,scope,h=>hH A env fr scope h.handled (by have:=h.depth;lia)
theorem gE (B:Bt prog w z5 K T) {hook:cy} (hH:kj prog w z5 hook) {spec:Addr->Option (List AV->EM AV)} (hS:∀ f g,spec f=some g->jf prog w z5 f g)
  (hT:∀ f r,T.fn f=some r->bP w z5 f r):∀ n,fH prog w z5 n (db T hook spec n)
 | 0=>fun A hA es ρ s f args vs hR hv a es' pc e z8=>(dE (show EM.fail es=_ from e)).elim
 | n+1=>fun A hA es ρ s f args vs hR hv=>by
  show TrC prog w z5 A (match spec f with | some g=>EM.chk (Nat.ble 2 n) (g args) | none=>match T.fn f with | some r=>ky T (kg hook n) (db T hook spec n) r args | none=>EM.fail) es (.ref f) vs ρ s
  cases q:spec f with
  | some g =>
   intro a es' pc e z8;replace e:=c8 e;obtain ⟨q2,e⟩:=e;have q2:2<=n:=Qc q2;exact (hS f g q).2 A hA.handled (by have:=hA.depth;lia) es ρ s args vs hR hv a es' pc e z8
  | none =>
   dsimp only
   cases q2:T.fn f with
   | none=>exact fun a es' pc e z8=>aL e
   | some r=>exact Am B (gE B hH hS hT n) (jS (fun f g h=>(hS f g h).1) hT n) (yh hH n) hA (hT f r q2) hR hv
end
end TE
namespace TE
set_option backward.match.sparseCases false
noncomputable def gY:Option Obj->Option (Value×Option Addr×Array Value×Nat×Array (Option Value))
 | some ⟨c,d,.seq its n,sl⟩=>some (c,d,its,n,sl)
 | _=>none
noncomputable def gr:Option Obj->Option (Value×Option Addr×Array DictEntry×Nat×Array (Option Value))
 | some ⟨c,d,.dict ents n,sl⟩=>some (c,d,ents,n,sl)
 | _=>none
theorem lN {o:Option Obj} {x:Value×Option Addr×Array Value×Nat×Array (Option Value)} (h:gY o=some x):o=some ⟨x.1,x.2.1,.seq x.2.2.1 x.2.2.2.1,x.2.2.2.2⟩:=by
 cases o with
 | none=>exact non h
 | some o =>
  obtain ⟨c,d,dat,sl⟩:=o
  cases dat with
  | seq=>obtain rfl:=Qb h;rfl
  | _=>exact non h
theorem lC {o:Option Obj} {x:Value×Option Addr×Array DictEntry×Nat×Array (Option Value)} (h:gr o=some x):o=some ⟨x.1,x.2.1,.dict x.2.2.1 x.2.2.2.1,x.2.2.2.2⟩:=by
 cases o with
 | none=>exact non h
 | some o =>
  obtain ⟨c,d,dat,sl⟩:=o
  cases dat with
  | dict=>obtain rfl:=Qb h;rfl
  | _=>exact non h
noncomputable def gS:Option Obj->Option (Value×Option Addr×FuncData×Array (Option Value))
 | some ⟨c,d,.func fd,sl⟩=>some (c,d,fd,sl)
 | _=>none
theorem lB {o:Option Obj} {x:Value×Option Addr×FuncData×Array (Option Value)} (h:gS o=some x):o=some ⟨x.1,x.2.1,.func x.2.2.1,x.2.2.2⟩:=by
 cases o with
 | none=>exact non h
 | some o =>
  obtain ⟨c,d,dat,sl⟩:=o
  cases dat with
  | func=>obtain rfl:=Qb h;rfl
  | _=>exact non h
noncomputable def tP (K:Frag) (C:Addr) (x:Str):eb->Bool
 | .absent=>findIn K (.ref C) x==some none
 | .fn f=>findIn K (.ref C) x==some (some (.ref f))&&typeIn K (.ref f)==some (.type "function")&&specialIn K (.ref f) "__get__" == some (some (.builtin "function.__get__"))&&takesIn K (.ref f)==some false&&!copiedNames.contains x
 | .val a=>(match a with
  | .int i=>(match findIn K (.ref C) x with
   | some (some v)=>(match v with
    | .int j t=>decide (j=i)&&specialIn K (.int j t) "__get__" == some none
    | _=>false)
   | _=>false)&&!copiedNames.contains x
  | _=>false)
theorem BX {K:Frag} {C:Addr} {x:Str} {c:eb} (h:tP K C x c=true):sY K C x c:=by
 cases c with
 | absent=>exact beq_iff_eq.mp h
 | fn f =>
  refine ag fun G0 hG0=>?_;obtain ⟨h,h5⟩:=Qx h;obtain ⟨h,h4⟩:=Qx h;obtain ⟨h,h3⟩:=Qx h;obtain ⟨h1,h2⟩:=Qx h;refine hG0 ?_;exact ⟨beq_iff_eq.mp h1,beq_iff_eq.mp h2,beq_iff_eq.mp h3,beq_iff_eq.mp h4,by simpa using h5⟩
 | val a =>
  cases a with
  | int i =>
   obtain ⟨h1,h2⟩:=Qx h
   cases q:findIn K (.ref C) x with
   | none=>rw[q] at h1;exact noT h1
   | some o =>
    rw[q] at h1
    cases o with
    | none=>exact noT h1
    | some v =>
     cases v with
     | int j t =>
      obtain ⟨g1,g2⟩:=Qx h1;exact ⟨_,q,beq_iff_eq.mp g2,rfl,by simpa using h2,fun n ρ=>⟨t,by rw[of_decide_eq_true g1]⟩⟩
     | _=>exact noT h1
  | _=>exact noT h
noncomputable def gQ (K:Frag) (C:Addr) (l:List (Str×eb)):Bool :=
 plainGet K C "" && hasDictIn K C&&findIn K (.ref C) "__setattr__" == some (some (.builtin "object.__setattr__"))&&plainOver K C&&l.all fun p=>tP K C p.1 p.2
theorem nC {α:Type}:∀ {l:List (Str×α)} {x:Str} {c:α},lk l x=some c->(x,c)∈l
 | [],_,_,e=>non e
 | (k,u)::r,x,c,e=>by
  have e:(match seq k x with | true=>some u | false=>lk r x)=some c:=e
  cases q:seq k x with
  | true=>rw[q] at e;obtain rfl:=Qb e;rw[(bt k x).mp q];exact .head _
  | false=>rw[q] at e;exact .tail _ (nC e)
theorem lW {K:Frag} {C:Addr} {l:List (Str×eb)} (h:gQ K C l=true):ui K C l:=by
 refine ag fun G0 hG0=>?_;obtain ⟨h,h5⟩:=Qx h;obtain ⟨h,h4⟩:=Qx h;obtain ⟨h,h3⟩:=Qx h;obtain ⟨h1,h2⟩:=Qx h;refine hG0 ?_;exact ⟨h1,h2,beq_iff_eq.mp h3,h4,fun x c e=>BX (List.all_eq_true.mp h5 (x,c) (nC e))⟩
noncomputable def gU (K:Frag) (a fI:Addr):Bool:=makesIn K a&&findIn K (.ref a) "__init__" == some (some (.ref fI))&&typeIn K (.ref fI)==some (.type "function")&&keepIn K (.ref a)
theorem me {K:Frag} {a fI:Addr} (h:gU K a fI=true):makesIn K a=true/\findIn K (.ref a) "__init__" = some (some (.ref fI))/\typeIn K (.ref fI)=some (.type "function")/\keepIn K (.ref a)=true:=by
 refine ag fun G0 hG0=>?_;obtain ⟨h,h4⟩:=Qx h;obtain ⟨h,h3⟩:=Qx h;obtain ⟨h1,h2⟩:=Qx h;refine hG0 ?_;exact ⟨h1,beq_iff_eq.mp h2,beq_iff_eq.mp h3,h4⟩
end TE
namespace TE
noncomputable def tN (K:Frag):Value->Bool
 | .none=>true
 | .ref T=>(gY (K.lookup T)).isSome
 | _=>false
theorem rK {K:Frag} {h:Heap} (X:K.In h) {v:Value} (e:tN K v=true) {s:Shared} (hk:∀ b o,h.get? b=some o->s.heap.get? b=some o) :
  ∃ r,∀ (M:Model) (A:Around) (E:Value->Shared->Prop) (Q:Option (Array Value)->Shared->Prop),Q r s->wpAny M A (seqItems? v) Q E s:=by
 cases v with
 | none=>exact ⟨none,fun M A E Q h=>wpAny_pure h⟩
 | ref T =>
  obtain ⟨x,q⟩:=Option.isSome_iff_exists.mp (show (gY (K.lookup T)).isSome=true from e);exact ⟨some x.2.2.1,fun M A E Q h=>wpAny_seqItems (hk _ _ (X _ _ (lN q))) rfl h⟩
 | _=>exact noT e
noncomputable def fnB (K:Frag) (f:Addr):Bool:=match gS (K.lookup f) with
 | some x=>x.2.2.1.globals==mainGlobals&&x.2.2.1.builtins==builtinsNs&&codeIn K x.2.2.1.code x.2.2.1.qualname&&tN K x.2.2.1.defaults
 | none=>false
noncomputable def c9 (K:Frag) (f:Addr):Option (Arguments×FuncBody×Scope):=match gS (K.lookup f) with
 | some x=>some (x.2.2.1.params,x.2.2.1.body,x.2.2.1.scope)
 | none=>none
noncomputable def mW (r:cJ):Bool:=r.params.posonlyargs.isEmpty&&r.params.vararg.isNone&&r.params.kwonlyargs.isEmpty&&r.params.kwarg.isNone&&decide (r.params.args.map (·.arg)).Nodup &&
 r.params.args.all (fun a=>r.scope.names.lookup a.arg==some .local)&&r.scope.names.all (fun x=>x.2 != .cell)&&r.scope.kind==.function&&!r.scope.isCoroutine&&!r.scope.isGenerator&&r.dflts.isEmpty
theorem oq {n:Nat} {ρ:Nat->Addr}:∀ {ps:List Arg} {args:List AV} {vs:List Value} {bs:List (Str×AV)},bF [] ps args=some bs->All2 (VRel n ρ) args vs->ps.length=vs.length/\All2 (cF n ρ) bs ((ps.map (·.arg)).zip vs)
 | [],[],[],bs,e,_=>by cases e;exact ⟨rfl,trivial⟩
 | a::ps,x::args,v::vs,bs,e,h=>by
  have e:(match bF [] ps args with | some l=>some ((a.arg,x)::l) | none=>none)=some bs:=e
  cases q:bF [] ps args with
  | none=>rw[q] at e;exact non e
  | some l =>
   rw[q] at e;obtain rfl:=Qb e;obtain ⟨h1,h2⟩:=oq q h.2;exact ⟨by rw[List.length_cons,List.length_cons,h1],⟨rfl,h.1⟩,h2⟩
 | [],[],_::_,_,_,h=>h.elim
 | [],_::_,_,_,e,_=>non e
 | a::ps,[],_,bs,e,_=>by
  have:(match (none:Option AV),bF [] ps [] with | some v,some l=>some ((a.arg,v)::l) | _,_=>none)=some bs:=e
  exact non this
 | _::_,_::_,[],_,_,h=>h.elim
theorem rC {w:World} {z5:Heap} {K:Frag} {f:Addr} {r:cJ} (X:K.In z5) (h1:fnB K f=true) (h2:c9 K f=some (r.params,.stmts r.body,r.scope)) (h3:mW r=true):bP w z5 f r:=by
 obtain ⟨name,qual,⟨po,ps,va,ko,kd,kw,ds⟩,body,scope,dflts⟩:=r;dsimp only[mW] at h3;simp only[Bool.and_eq_true,List.isEmpty_iff,Option.isNone_iff_eq_none,decide_eq_true_eq,List.all_eq_true,beq_iff_eq,bne_iff_ne,Bool.not_eq_true',ne_eq] at h3;obtain ⟨⟨⟨⟨⟨⟨⟨⟨⟨⟨rfl,rfl⟩,rfl⟩,rfl⟩,nd⟩,loc⟩,nc⟩,kind⟩,co⟩,gen⟩,rfl⟩:=h3;dsimp only[fnB] at h1;dsimp only[c9] at h2
 cases q:gS (K.lookup f) with
 | none=>rw[q] at h1;exact noT h1
 | some x =>
  obtain ⟨oc,od,fd,osl⟩:=x;rw[q] at h1 h2;have q:K.lookup f=some ⟨oc,od,.func fd,osl⟩:=lB q;dsimp only at h1 h2;simp only[Option.some.injEq,Prod.mk.injEq] at h2;refine ag fun G0 hG0=>?_;obtain ⟨p1,p2,p3⟩:=h2;obtain ⟨h1,d⟩:=Qx h1;obtain ⟨h1,c⟩:=Qx h1;obtain ⟨g,b⟩:=Qx h1;refine hG0 ?_;refine ⟨⟨K,oc,od,osl,fd,X,q,p3,beq_iff_eq.mp g,beq_iff_eq.mp b,p2,c,fun args bs e n ρ vs s hk hv=>?_⟩,kind,co,gen,fun x hx=>nc x hx⟩;obtain ⟨l1,l2⟩:=oq e hv;obtain ⟨rr,hr⟩:=rK X d hk
  have hn:((List.map (fun x=>x.arg) ps).zip vs).map (·.1)=ps.map (·.arg):=by
   rw[List.map_fst_zip];rw[List.length_map,l1];exact Qa _
  refine ⟨_,qG p1 l1 nd hr,l2,by rw[hn];exact nd,fun y hy=>?_⟩;refine ag fun G0 hG0=>?_;obtain ⟨a,ha,e⟩:=List.mem_map.mp (List.of_mem_zip (a:=y.1) (b:=y.2) hy).1;refine hG0 ?_;rw[<- e];exact loc a ha
noncomputable def Ge (i:Int):Value->Bool
 | .int j _=>decide (i=j)
 | _=>false
noncomputable def Gd (s:Str):Value->Bool
 | .str t _=>seq s t
 | _=>false
noncomputable def jc (a:AV) (v:Value):Bool:=match a with
 | .none=>v==.none
 | .bool a=>v==.bool a
 | .int i=>Ge i v
 | .str s=>Gd s v
 | .con (.ref a)=>v==.ref a
 | _=>false
theorem eD {a:AV} {v:Value} (h:jc a v=true) (n:Nat) (ρ:Nat->Addr):VRel n ρ a v:=by
 cases a with
 | none=>exact beq_iff_eq.mp h
 | bool b=>exact beq_iff_eq.mp h
 | int i =>
  cases v with
  | int j t=>exact ⟨t,by rw[of_decide_eq_true (show decide (i=j)=true from h)]⟩
  | _=>exact noT h
 | str s =>
  cases v with
  | str x t=>exact ⟨t,by rw[(bt s x).mp h]⟩
  | _=>exact noT h
 | con c =>
  cases c with
  | ref a=>exact beq_iff_eq.mp h
  | _=>exact noT h
 | _=>exact noT h
noncomputable def m9:List AV->List Value->Bool
 | [],[]=>true
 | a::l,v::r=>jc a v&&m9 l r
 | _,_=>false
theorem pE (n:Nat) (ρ:Nat->Addr):∀ {l:List AV} {r:List Value},m9 l r=true->All2 (VRel n ρ) l r
 | [],[],_=>trivial
 | a::l,v::r,h=>let ⟨h1,h2⟩:=Qx h;⟨eD h1 n ρ,pE n ρ h2⟩
 | [],_::_,h=>noT h
 | _::_,[],h=>noT h
noncomputable def na:List (Str×AV)->List DictEntry->Bool
 | [],[]=>true
 | p::l,e::r=>jc (.str p.1) e.key&&jc p.2 e.val&&na l r
 | _,_=>false
theorem pF {P:Params} (n:Nat) (ρ:Nat->Addr):∀ {l:List (Str×AV)} {r:List DictEntry},na l r=true->r.map (·.hash)=l.map (fun p=>PyData.keyHash P p.1)->All2 (EntR P n ρ) l r
 | [],[],_,_=>trivial
 | p::l,e::r,h,hh=>by
  obtain ⟨h,h3⟩:=Qx h;obtain ⟨h1,h2⟩:=Qx h;rw[List.map_cons,List.map_cons,List.cons.injEq] at hh;exact ⟨⟨eD h1 n ρ,hh.1,eD h2 n ρ⟩,pF n ρ h3 hh.2⟩
 | [],_::_,h,_=>noT h
 | _::_,[],h,_=>noT h
noncomputable def jn (K:Frag) (a:Addr) (o:AO):Bool:=match o with
 | .tuple xs=>(match gY (K.lookup a) with
  | some x=>x.1==.type "tuple" && x.2.1==none&&(m9 xs x.2.2.1.toList&&x.2.2.2.2.isEmpty)
  | none=>false)
 | .dict es=>(match gr (K.lookup a) with
  | some x=>x.1==.type "dict" && x.2.1==none&&(na es x.2.2.1.toList&&x.2.2.2.2.isEmpty&&decide (es.map (·.1)).Nodup)
  | none=>false)
 | _=>false
noncomputable def i3 (K:Frag) (a:Addr):List Int:=match gr (K.lookup a) with
 | some x=>x.2.2.1.toList.map (·.hash)
 | none=>[]
theorem lF {K:Frag} {h:Heap} {P:Params} (X:K.In h) {a:Addr} {xs:List AV} (e:jn K a (.tuple xs)=true) (n:Nat) (ρ:Nat->Addr):ORel P n ρ h a (.tuple xs):=by
 dsimp only[jn] at e
 cases q:gY (K.lookup a) with
 | none=>rw[q] at e;exact noT e
 | some x =>
  rw[q] at e;obtain ⟨e,e2⟩:=Qx e;obtain ⟨c1,c2⟩:=Qx e;obtain ⟨e1,e2⟩:=Qx e2;have q:=lN q;rw[beq_iff_eq.mp c1,beq_iff_eq.mp c2,Array.isEmpty_iff.mp e2] at q;exact ⟨x.2.2.1,_,X _ _ q,pE n ρ e1⟩
theorem yv {K:Frag} {h:Heap} {P:Params} (X:K.In h) {a:Addr} {es:List (Str×AV)} (e:jn K a (.dict es)=true) (hh:i3 K a=es.map fun p=>PyData.keyHash P p.1) (n:Nat) (ρ:Nat->Addr):ORel P n ρ h a (.dict es):=by
 dsimp only[jn] at e;dsimp only[i3] at hh
 cases q:gr (K.lookup a) with
 | none=>rw[q] at e;exact noT e
 | some x =>
  rw[q] at e hh;obtain ⟨e,e2⟩:=Qx e;obtain ⟨c1,c2⟩:=Qx e;obtain ⟨e,e3⟩:=Qx e2;obtain ⟨e1,e2⟩:=Qx e;have q:=lC q;rw[beq_iff_eq.mp c1,beq_iff_eq.mp c2,Array.isEmpty_iff.mp e2] at q;exact ⟨x.2.2.1.toList,_,X _ _ q,pF n ρ e1 hh,of_decide_eq_true e3⟩
end TE
namespace TE
set_option backward.match.sparseCases false
set_option tactic.hygienic false
noncomputable def cP (i:Nat):List Nat->Option Nat
 | []=>none
 | a::r=>match Nat.beq a i with
  | true=>some 0
  | false=>match cP i r with
   | some j=>some (j+1)
   | none=>none
theorem lP:∀ {i j:Nat} {m:List Nat},cP i m=some j->m[j]?=some i
 | i,j,[],h=>non h
 | i,j,a::r,h=>by
  dsimp only[cP] at h
  cases q:Nat.beq a i with
  | true=>rw[q] at h;obtain rfl:=Qb h;rw[Nat.eq_of_beq_eq_true q];rfl
  | false =>
   rw[q] at h;dsimp only at h
   cases q2:cP i r with
   | none=>rw[q2] at h;exact non h
   | some k=>rw[q2] at h;obtain rfl:=Qb h;exact (lP (m:=r) q2:r[k]?=some i)
noncomputable def fU (ρ:Nat->Addr) (m:List Nat) (num:Bool):AV->AV
 | .ptr i=>match cP i m with
  | some j=>.ptr j
  | none=>.con (.ref (ρ i))
 | .str s=>.sstr s
 | .int i=>match num with
  | true=>.sint i
  | false=>.int i
 | a=>a
noncomputable def js (ρ:Nat->Addr) (m:List Nat) (num:Bool):List AV->List AV
 | []=>[]
 | a::r=>fU ρ m num a::js ρ m num r
noncomputable def dy (ρ:Nat->Addr) (m:List Nat) (num:Bool):List (Str×AV)->List (Str×AV)
 | []=>[]
 | (k,a)::r=>(k,fU ρ m num a)::dy ρ m num r
noncomputable def jr (ρ:Nat->Addr) (m:List Nat) (num:Bool):AO->AO
 | .list xs=>.list (js ρ m num xs)
 | .snoc ys xs=>.snoc ys (js ρ m num xs)
 | .numl ns=>.numl ns
 | .tuple xs=>.tuple (js ρ m num xs)
 | .dict es=>.dict (dy ρ m num es)
 | .inst C d=>match cP d m with
  | some j=>.inst C j
  | none=>.dead
 | .meth f self=>.meth f (fU ρ m num self)
 | .ns loc=>.ns (dy ρ m num loc)
 | .cell none=>.cell none
 | .cell (some v)=>.cell (some (fU ρ m num v))
 | .iter _ _=>.dead
 | .dead=>.dead
noncomputable def inL (i:Nat) (ks:List Nat):Bool:=match cP i ks with
 | some _=>true
 | none=>false
noncomputable def atD:List AO->Nat->AO
 | [],_=>.dead
 | a::_,0=>a
 | _::r,n+1=>atD r n
noncomputable def jb (ρ:Nat->Addr) (m ks:List Nat) (hp:List AO):List Nat->List AO
 | []=>[]
 | i::r=>jr ρ m (inL i ks) (atD hp i)::jb ρ m ks hp r
noncomputable def pick (ρ:Nat->Addr) (m ks:List Nat) (hp:List AO):List AO:=jb ρ m ks hp m
noncomputable def bB (m:List Nat) (n:Nat):Bool:=match m with
 | []=>true
 | i::r=>match Nat.blt i n with
  | true=>bB r n
  | false=>false
theorem i4:∀ {m:List Nat} {n:Nat},bB m n=true->∀ i∈m,i < n
 | [],_,_,_,h=>nomatch h
 | i::r,n,e,j,h=>by
  dsimp only[bB] at e
  cases q:Nat.blt i n with
  | true =>
   rw[q] at e;rcases Qz h with rfl | h
   ·exact Qc q
   ·exact i4 e j h
  | false=>rw[q] at e;exact noT e
theorem gd:∀ {l:List AO} {i:Nat},i < l.length->l[i]?=some (atD l i)
 | [],_,h=>absurd h (Nat.not_lt_zero _)
 | a::_,0,_=>rfl
 | _::r,i+1,h=>gd (l:=r) (Nat.lt_of_succ_lt_succ h)
section
variable {P:Params} {z5 h:Heap} {ρ:Nat->Addr} {σ:List AO} {m:List Nat} {n n':Nat} {num:Bool}
structure Ren (m:List Nat) (n n':Nat) (ρ ρ':Nat->Addr):Prop where
 ptr:∀ i j,cP i m=some j->i < n->j < n'/\ρ' j=ρ i
variable {ρ':Nat->Addr}
theorem Ren.val (R:Ren m n n' ρ ρ') {a:AV} {v:Value} (h:VRel n ρ a v):VRel n' ρ' (fU ρ m num a) v:=by
 cases a with
 | ptr i =>
  show VRel n' ρ' (match cP i m with | some j=>.ptr j | none=>.con (.ref (ρ i))) v
  obtain ⟨h1,rfl⟩:=h
  cases q:cP i m with
  | none=>rfl
  | some j =>
   replace h1:=R.ptr i j q h1;obtain ⟨q1,q2⟩:=h1;exact ⟨q1,by rw[q2]⟩
 | int i=>cases num<;>exact h
 | _=>exact h
theorem Ren.list (R:Ren m n n' ρ ρ'):∀ {l:List AV} {vs:List Value},All2 (VRel n ρ) l vs->All2 (VRel n' ρ') (js ρ m num l) vs
 | [],[],_=>trivial
 | a::r,v::vs,h=>⟨R.val h.1,R.list h.2⟩
 | [],_::_,h=>h.elim
 | _::_,[],h=>h.elim
theorem o4:∀ {l:List (Str×AV)},(dy ρ m num l).map (·.1)=l.map (·.1)
 | []=>rfl
 | (k,a)::r=>by
  show k::(dy ρ m num r).map (·.1)=k::r.map (·.1);rw[o4]
theorem Ren.ents (R:Ren m n n' ρ ρ'):∀ {l:List (Str×AV)} {vs:List DictEntry},All2 (EntR P n ρ) l vs->All2 (EntR P n' ρ') (dy ρ m num l) vs
 | [],[],_=>trivial
 | (k,a)::r,v::vs,h=>⟨⟨h.1.1,h.1.2.1,R.val h.1.2.2⟩,R.ents h.2⟩
 | [],_::_,h=>h.elim
 | _::_,[],h=>h.elim
theorem qM:∀ {l:List (Str×AV)} {x:Str} {b:AV},lk (dy ρ m num l) x=some b->∃ a,lk l x=some a/\b=fU ρ m num a
 | [],x,b,h=>non h
 | (k,a)::r,x,b,h=>by
  have h:(match seq k x with | true=>some (fU ρ m num a) | false=>lk (dy ρ m num r) x)=some b:=h
  show ∃ a',(match seq k x with | true=>some a | false=>lk r x)=some a'/\_
  cases q:seq k x with
  | true=>rw[q] at h;obtain rfl:=Qb h;exact ⟨a,rfl,rfl⟩
  | false=>rw[q] at h;exact qM h
theorem Ren.obj (R:Ren m n n' ρ ρ') {o:AO} {a:Addr} (H:ORel P n ρ h a o):ORel P n' ρ' h a (jr ρ m num o):=by
 cases o with
 | list xs=>obtain ⟨its,ep,e1,e2⟩:=H;exact ⟨its,ep,e1,R.list e2⟩
 | snoc ys xs=>obtain ⟨its,ep,zs,e1,e2,e3⟩:=H;exact ⟨its,ep,zs,e1,e2,R.list e3⟩
 | numl ns=>exact H
 | tuple xs=>obtain ⟨its,ep,e1,e2⟩:=H;exact ⟨its,ep,e1,R.list e2⟩
 | dict es=>obtain ⟨ents,ep,e1,e2,e3⟩:=H;exact ⟨ents,ep,e1,R.ents e2,by rw[o4];exact e3⟩
 | inst C d =>
  show ORel P n' ρ' h a (match cP d m with | some j=>.inst C j | none=>.dead)
  cases q:cP d m with
  | none=>exact Qg H.2
  | some j =>
   obtain ⟨q1,q2⟩:=R.ptr d j q H.1;exact ⟨q1,by rw[q2];exact H.2⟩
 | meth f self=>obtain ⟨u,h1,h2⟩:=H;exact ⟨u,h1,R.val h2⟩
 | ns loc =>
  obtain ⟨mm,h1,h2⟩:=H;refine ⟨mm,h1,fun x b hb=>?_⟩;replace hb:=qM hb;obtain ⟨a,z1,rfl⟩:=hb;replace z1:=h2 x a z1;obtain ⟨v,z3,z4⟩:=z1;exact ⟨v,z3,R.val z4⟩
 | cell v =>
  obtain ⟨ob,v',h1,h2,h3⟩:=H
  cases v with
  | none=>exact ⟨ob,v',h1,h2,fun av e=>by cases e⟩
  | some v =>
   refine ⟨ob,v',h1,h2,fun av e=>?_⟩;obtain rfl:=Qb e;replace rfl:=h3 v rfl;obtain ⟨y,y1,y2⟩:=rfl;exact ⟨y,y1,R.val y2⟩
 | iter l i=>obtain ⟨b,q,e⟩:=H;obtain ⟨o,e,_⟩:=e;exact Qg e
 | dead=>exact H
theorem lw {ks:List Nat} {hp:List AO}:∀ {l:List Nat},(jb ρ m ks hp l).length=l.length/\∀ (j:Nat) (o':AO),(jb ρ m ks hp l)[j]?=some o'->∃ (i:Nat),l[j]?=some i/\o'=jr ρ m (inL i ks) (atD hp i)
 | []=>⟨rfl,fun j o' e=>by cases e⟩
 | i::r=>by
  replace r:=lw (ks:=ks) (hp:=hp) (l:=r);obtain ⟨h1,h2⟩:=r;refine ⟨by show (_::jb ρ m ks hp r).length=_;rw[List.length_cons,List.length_cons,h1],fun j o' e=>?_⟩
  cases j with
  | zero=>obtain rfl:=Qb e;exact ⟨i,rfl,rfl⟩
  | succ j=>exact h2 j o' e
theorem mc {ks:List Nat} {hp:List AO}:(TE.pick ρ m ks hp).length=m.length:=lw.1
noncomputable def bh (ρ:Nat->Addr) (m:List Nat):Nat->Addr:=fun j=>ρ (m.getD j 0)
theorem cp {j i:Nat} (q:m[j]?=some i):bh ρ m j=ρ i:=by unfold bh;rw[Qp,q];rfl
theorem dX {ks:List Nat} (hf:bB m σ.length=true) {j:Nat} (hj:j < (TE.pick ρ m ks σ).length):∃ i,i < σ.length/\m[j]?=some i/\bh ρ m j=ρ i:=by
 rw[mc] at hj;have e:=Qo hj;exact ⟨_,i4 hf _ (Ql e),e,cp e⟩
theorem Rel.pick {ks:List Nat} (R:Rel P z5 ρ σ h) (hf:bB m σ.length=true) (hn:m.Nodup):Rel P z5 (bh ρ m) (TE.pick ρ m ks σ) h:=by
 have RR:Ren m σ.length (TE.pick ρ m ks σ).length ρ (bh ρ m):=⟨fun i j q hi=>by
  have q:=lP q;exact ⟨by rw[mc];exact (Qy q).1,cp q⟩⟩
 refine ⟨R.base,R.keep,fun j o' e'=>?_,fun j hj=>?_,fun j k hj hk e'=>?_⟩
 ·obtain ⟨i,q1,rfl⟩:=lw.2 j o' e';rw[cp q1];exact RR.obj (R.own i _ (gd (i4 hf _ (Ql q1))))
 ·replace hj:=dX (ρ:=ρ) hf hj;obtain ⟨i,q1,_,q2⟩:=hj;rw[q2];exact R.high i q1
 ·replace hj:=dX (ρ:=ρ) hf hj;obtain ⟨i,q2,q1,e1⟩:=hj;replace hk:=dX (ρ:=ρ) hf hk;obtain ⟨i',q2',q1',e1'⟩:=hk;rw[e1,e1'] at e';have:=R.inj i i' q2 q2' e';subst this;exact (List.getElem?_inj (Qy q1).1 hn).mp (q1.trans q1'.symm)
end
end TE
namespace TE
set_option tactic.hygienic false
section
variable {P:Params} {z5 h:Heap} {ρ ρ' ρ₁ ρ₂ ρ₁':Nat->Addr} {σ σ' σ₁ σ₂ σ₁':List AO} {m m' ks ks':List Nat} {n n':Nat} {s s':Shared}
noncomputable def Disj (n:Nat) (ρ:Nat->Addr) (n':Nat) (ρ':Nat->Addr):Prop:=∀ i j,i < n->j < n'->ρ i≠ρ' j
theorem Disj.symm (D:Disj n ρ n' ρ'):Disj n' ρ' n ρ:=fun i j hi hj e=>D j i hj hi e.symm
theorem Rel.beside (R:Rel P z5 ρ σ s.heap) (S:Stp P z5 ρ₁ σ₁ s ρ₁' σ₁' s') (D:Disj σ.length ρ σ₁.length ρ₁):Rel P z5 ρ σ s'.heap/\Disj σ.length ρ σ₁'.length ρ₁':=by
 refine ⟨⟨Qf R.base S.size,S.rel.keep,fun i o e=>?_,R.high,R.inj⟩,fun i j hi hj e=>?_⟩
 ·have hi:=(Qy e).1;exact (R.own i o e).mono (Qa _) (fun _ _=>rfl) S.size fun ob h=>S.other _ _ (fun j hj z=>D i j hi hj z.symm) h
 ·have low:ρ i < s.heap.objs.size:=(R.own i _ (Qo hi)).lt
  by_cases q:j < σ₁.length
  ·rw[S.ext j q] at e;exact D i j hi q e
  ·have:=S.fresh j (Nat.not_lt.mp q) hj;rw[<- e] at this;exact absurd low (Nat.not_lt.mpr this)
theorem Disj.pick (D:Disj n ρ₁ σ.length ρ) (e:bB m σ.length=true):Disj n ρ₁ (TE.pick ρ m ks σ).length (bh ρ m):=fun i j hi hj z=>by
 replace hj:=dX (ρ:=ρ) e hj;obtain ⟨k,k1,_,k3⟩:=hj;rw[k3] at z;exact D i k hi k1 z
theorem o9 (R:Rel P z5 ρ σ h) (e1:bB m σ.length=true) (e2:bB m' σ.length=true) (hd:∀ x,x∈m->x ∉ m'):Disj (TE.pick ρ m ks σ).length (bh ρ m) (TE.pick ρ m' ks' σ).length (bh ρ m'):=fun i j hi hj z=>by
 replace hi:=dX (ρ:=ρ) e1 hi;obtain ⟨k,k1,k2,k3⟩:=hi;replace hj:=dX (ρ:=ρ) e2 hj;obtain ⟨l,l1,l2,l3⟩:=hj;rw[k3,l3] at z;have:=R.inj k l k1 l1 z;subst this;exact hd _ (Ql k2) (Ql l2)
noncomputable def dv (k n:Nat):List Nat:=List.replicate k 1000000++List.range n
noncomputable def d8 (ρ:Nat->Addr) (t:List Nat):List AO->List AO
 | []=>[]
 | o::r=>jr ρ t false o::d8 ρ t r
theorem oD {t:List Nat}:∀ {l:List AO},(d8 ρ t l).length=l.length/\∀ (j:Nat) (o':AO),(d8 ρ t l)[j]?=some o'->∃ o,l[j]?=some o/\o'=jr ρ t false o
 | []=>⟨rfl,fun j o' e=>by cases e⟩
 | o::r=>by
  replace r:=oD (t:=t) (l:=r);obtain ⟨h1,h2⟩:=r;refine ⟨by show (_::d8 ρ t r).length=_;rw[List.length_cons,List.length_cons,h1],fun j o' e=>?_⟩
  cases j with
  | zero=>obtain rfl:=Qb e;exact ⟨o,rfl,rfl⟩
  | succ j=>exact h2 j o' e
theorem xj {k n i j:Nat} (hn:n < 1000000) (hi:i < n) (e:(dv k n)[j]?=some i):j=i+k:=by
 unfold dv at e
 by_cases q:j < k
 ·rw[List.getElem?_append_left (by simpa using q),List.getElem?_replicate,if_pos q] at e;obtain rfl:=Qb e;lia
 ·have hq:k<=j:=Nat.not_lt.mp q;rw[Qr (by simpa using hq),List.length_replicate] at e;replace e:=Qy e;obtain ⟨h1,h2⟩:=e;rw[List.getElem_range] at h2;omega
noncomputable def c6 (k:Nat) (ρ₁ ρ₂:Nat->Addr):Nat->Addr:=fun i=>if i < k then ρ₁ i else ρ₂ (i - k)
theorem dj {k i:Nat} (h:i < k):c6 k ρ₁ ρ₂ i=ρ₁ i:=if_pos h
theorem d6 (k i:Nat):c6 k ρ₁ ρ₂ (i+k)=ρ₂ i:=by
 unfold c6;rw[if_neg (by simp),Nat.add_sub_cancel]
theorem Rel.join (R₁:Rel P z5 ρ₁ σ₁ h) (R₂:Rel P z5 ρ₂ σ₂ h) (D:Disj σ₁.length ρ₁ σ₂.length ρ₂) (hn:σ₂.length < 1000000) :
  Rel P z5 (c6 σ₁.length ρ₁ ρ₂) (σ₁++d8 ρ₂ (dv σ₁.length σ₂.length) σ₂) h:=by
 replace σ₂:=oD (ρ:=ρ₂) (t:=dv σ₁.length σ₂.length) (l:=σ₂);obtain ⟨l1,l2⟩:=σ₂;generalize hσ':d8 ρ₂ (dv σ₁.length σ₂.length) σ₂=σ' at l1 l2 ⊢
 have RR:Ren (dv σ₁.length σ₂.length) σ₂.length (σ₁++σ').length ρ₂ (c6 σ₁.length ρ₁ ρ₂):=⟨fun i j q hi=>by
  have:=xj hn hi (lP q);subst this;exact ⟨by rw[List.length_append,l1];lia,d6 _ _⟩⟩
 have len:(σ₁++σ').length=σ₁.length+σ₂.length:=by rw[List.length_append,l1]
 refine ⟨R₁.base,R₁.keep,fun i o e'=>?_,fun i hi=>?_,fun i j hi hj z=>?_⟩
 ·by_cases q:i < σ₁.length
  ·rw[List.getElem?_append_left q] at e';rw[dj q];exact (R₁.own i o e').mono (by rw[len];exact Nat.le_add_right σ₁.length σ₂.length) (fun k hk=>dj hk) (Qa _) fun _ h=>h
  ·have q:=Nat.not_lt.mp q;rw[Qr q] at e';obtain ⟨o2,z1,rfl⟩:=l2 _ _ e';have:=RR.obj (num:=false) (R₂.own _ _ z1);have ei:i=(i - σ₁.length)+σ₁.length:=by lia
   rw[ei,d6];exact this
 ·by_cases q:i < σ₁.length
  ·rw[dj q];exact R₁.high i q
  ·have ei:i=(i - σ₁.length)+σ₁.length:=by omega
   rw[ei,d6];exact R₂.high _ (by lia)
 ·by_cases q:i < σ₁.length
  ·by_cases q':j < σ₁.length
   ·rw[dj q,dj q'] at z;exact R₁.inj i j q q' z
   ·have ej:j=(j - σ₁.length)+σ₁.length:=by lia
    rw[dj q,ej,d6] at z;exact (D i (j - σ₁.length) q (by lia) z).elim
  ·have ei:i=(i - σ₁.length)+σ₁.length:=by lia
   by_cases q':j < σ₁.length
   ·rw[dj q',ei,d6] at z;exact (D j (i - σ₁.length) q' (by lia) z.symm).elim
   ·have ej:j=(j - σ₁.length)+σ₁.length:=by lia
    rw[ei,ej,d6,d6] at z;have:=R₂.inj _ _ (by lia) (by lia) z;lia
theorem Disj.join (D₁:Disj n ρ σ₁.length ρ₁) (D₂:Disj n ρ σ₂.length ρ₂) (hl:σ'.length=σ₂.length):Disj n ρ (σ₁++σ').length (c6 σ₁.length ρ₁ ρ₂):=fun i j hi hj z=>by
 rw[List.length_append,hl] at hj
 by_cases q:j < σ₁.length
 ·rw[dj q] at z;exact D₁ i j hi q z
 ·have ej:j=(j - σ₁.length)+σ₁.length:=by omega
  rw[ej,d6] at z;exact D₂ i _ hi (by lia) z
structure Kept (F:List (Addr×Obj)) (n:Nat) (ρ:Nat->Addr) (h:Heap):Prop where
 here:∀ p∈F,h.get? p.1=some p.2
 apart:∀ p∈F,∀ i,i < n->ρ i≠p.1
variable {F:List (Addr×Obj)}
theorem Kept.step (K:Kept F σ.length ρ s.heap) (S:Stp P z5 ρ σ s ρ' σ' s'):Kept F σ'.length ρ' s'.heap :=
 ⟨fun p hp=>S.other _ _ (K.apart p hp) (K.here p hp),fun p hp i hi e=>by
  by_cases q:i < σ.length
  ·rw[S.ext i q] at e;exact K.apart p hp i q e
  ·have h1:=S.fresh i (Nat.not_lt.mp q) hi;have h2:=Qg (K.here p hp);rw[e] at h1;exact absurd h2 (Nat.not_lt.mpr h1)⟩
theorem Kept.pick (K:Kept F σ.length ρ h) (e:bB m σ.length=true):Kept F (TE.pick ρ m ks σ).length (bh ρ m) h :=
 ⟨K.here,fun p hp i hi z=>by
  replace hi:=dX (ρ:=ρ) e hi;obtain ⟨k,k1,_,k3⟩:=hi;rw[k3] at z;exact K.apart p hp k k1 z⟩
theorem Kept.cons (K:Kept F n ρ h) {a:Addr} {o:Obj} (e:h.get? a=some o) (ha:∀ i,i < n->ρ i≠a):Kept ((a,o)::F) n ρ h :=
 ⟨fun p hp=>by rcases Qz hp with rfl | hp;exact e;exact K.here p hp,fun p hp=>by rcases Qz hp with rfl | hp;exact ha;exact K.apart p hp⟩
theorem qH (R:Rel P z5 ρ σ h) (e:bB m σ.length=true) {i:Nat} (hi:i < σ.length) (hm:i ∉ m):∀ j,j < (TE.pick ρ m ks σ).length->bh ρ m j≠ρ i:=fun j hj z=>by
 replace hj:=dX (ρ:=ρ) e hj;obtain ⟨k,k1,k2,k3⟩:=hj;rw[k3] at z;have:=R.inj k i k1 hi z;subst this;exact hm (Ql k2)
end
end TE
set_option bootstrap.genMatcherCode false
namespace TE
set_option backward.match.sparseCases false
set_option tactic.hygienic false
noncomputable def kJ (n:Str):List Stmt->Option (Arguments×List Stmt×Scope)
 | []=>none
 | .FunctionDef m a b _ _ _ sc _ _ _::r=>match seq m n with | true=>some (a,b,sc) | false=>kJ n r
 | _::r=>kJ n r
noncomputable def mL (n:Str):List Stmt->List Stmt
 | []=>[]
 | .ClassDef m _ _ b _ _ _ _ _ _ _::r=>match seq m n with | true=>b | false=>mL n r
 | _::r=>mL n r
noncomputable def mP (n:Str):Option (Arguments×List Stmt×Scope):=kJ n PySem.Challenge.pw_te0022_01.main.body
noncomputable def gI (c n:Str):Option (Arguments×List Stmt×Scope):=kJ n (mL c PySem.Challenge.pw_te0022_01.main.body)
noncomputable def jj (qual:Str) (dfl:List (Str×AV)) (d:Option (Arguments×List Stmt×Scope)):Option cJ:=match d with
 | some (a,b,sc)=>some ⟨qual,qual,a,b,sc,dfl⟩
 | none=>none
noncomputable def cN0:Str:=⟨#[84,101,120,116]⟩
noncomputable def cN1:Str:=⟨#[72,84,77,76,85,110,105,99,111,100,101,73,110,112,117,116,83,116,114,101,97,109]⟩
noncomputable def cN2:Str:=⟨#[72,84,77,76,84,111,107,101,110,105,122,101,114]⟩
noncomputable def eX (x:Str):Option cJ:=jj ⟨#[]⟩ [] (mP x)
noncomputable def bq (c x:Str):Option cJ:=jj ⟨#[]⟩ [] (gI c x)
noncomputable def fnL:List (Nat×Option cJ):=[(42,eX ⟨#[97,115,99,105,105,76,111,119,101,114]⟩),
 (63,bq cN0 ⟨#[95,95,105,110,105,116,95,95]⟩),
 (70,bq cN0 ⟨#[114,101,97,100]⟩),
 (84,eX ⟨#[95,105,115,95,105,110,118,97,108,105,100]⟩),
 (98,bq cN1 ⟨#[95,95,105,110,105,116,95,95]⟩),
 (105,bq cN1 ⟨#[114,101,115,101,116]⟩),
 (112,bq cN1 ⟨#[111,112,101,110,83,116,114,101,97,109]⟩),
 (119,bq cN1 ⟨#[95,112,111,115,105,116,105,111,110]⟩),
 (126,bq cN1 ⟨#[112,111,115,105,116,105,111,110]⟩),
 (133,bq cN1 ⟨#[99,104,97,114]⟩),
 (141,jj ⟨#[]⟩ [(⟨#[99,104,117,110,107,83,105,122,101]⟩,.none)] (gI cN1 ⟨#[114,101,97,100,67,104,117,110,107]⟩)),
 (148,bq cN1 ⟨#[99,104,97,114,97,99,116,101,114,69,114,114,111,114,115,85,67,83,52]⟩),
 (156,jj ⟨#[]⟩ [(⟨#[111,112,112,111,115,105,116,101]⟩,.bool false)] (gI cN1 ⟨#[99,104,97,114,115,85,110,116,105,108]⟩)),
 (261,jj ⟨#[]⟩ [(⟨#[112,97,114,115,101,114]⟩,.none)] (gI cN2 ⟨#[95,95,105,110,105,116,95,95]⟩)),
 (297,bq cN2 ⟨#[101,109,105,116,67,117,114,114,101,110,116,84,111,107,101,110]⟩),
 (304,bq cN2 ⟨#[100,97,116,97,83,116,97,116,101]⟩),
 (353,bq cN2 ⟨#[116,97,103,79,112,101,110,83,116,97,116,101]⟩),
 (360,bq cN2 ⟨#[99,108,111,115,101,84,97,103,79,112,101,110,83,116,97,116,101]⟩),
 (367,bq cN2 ⟨#[116,97,103,78,97,109,101,83,116,97,116,101]⟩),
 (535,bq cN2 ⟨#[98,101,102,111,114,101,65,116,116,114,105,98,117,116,101,78,97,109,101,83,116,97,116,101]⟩),
 (542,bq cN2 ⟨#[97,116,116,114,105,98,117,116,101,78,97,109,101,83,116,97,116,101]⟩),
 (549,bq cN2 ⟨#[97,102,116,101,114,65,116,116,114,105,98,117,116,101,78,97,109,101,83,116,97,116,101]⟩),
 (556,bq cN2 ⟨#[98,101,102,111,114,101,65,116,116,114,105,98,117,116,101,86,97,108,117,101,83,116,97,116,101]⟩),
 (563,bq cN2 ⟨#[97,116,116,114,105,98,117,116,101,86,97,108,117,101,68,111,117,98,108,101,81,117,111,116,101,100,83,116,97,116,101]⟩),
 (570,bq cN2 ⟨#[97,116,116,114,105,98,117,116,101,86,97,108,117,101,83,105,110,103,108,101,81,117,111,116,101,100,83,116,97,116,101]⟩),
 (577,bq cN2 ⟨#[97,116,116,114,105,98,117,116,101,86,97,108,117,101,85,110,81,117,111,116,101,100,83,116,97,116,101]⟩),
 (584,bq cN2 ⟨#[97,102,116,101,114,65,116,116,114,105,98,117,116,101,86,97,108,117,101,83,116,97,116,101]⟩),
 (591,bq cN2 ⟨#[115,101,108,102,67,108,111,115,105,110,103,83,116,97,114,116,84,97,103,83,116,97,116,101]⟩),
 (605,bq cN2 ⟨#[109,97,114,107,117,112,68,101,99,108,97,114,97,116,105,111,110,79,112,101,110,83,116,97,116,101]⟩),
 (612,bq cN2 ⟨#[99,111,109,109,101,110,116,83,116,97,114,116,83,116,97,116,101]⟩),
 (619,bq cN2 ⟨#[99,111,109,109,101,110,116,83,116,97,114,116,68,97,115,104,83,116,97,116,101]⟩),
 (626,bq cN2 ⟨#[99,111,109,109,101,110,116,83,116,97,116,101]⟩),
 (633,bq cN2 ⟨#[99,111,109,109,101,110,116,69,110,100,68,97,115,104,83,116,97,116,101]⟩),
 (640,bq cN2 ⟨#[99,111,109,109,101,110,116,69,110,100,83,116,97,116,101]⟩),
 (773,eX ⟨#[95,108,97,119,95,78,65,77,69,83]⟩),
 (780,eX ⟨#[95,108,97,119,95,75,69,89,83]⟩),
 (787,eX ⟨#[95,108,97,119,95,86,65,76,85,69,83]⟩),
 (794,eX ⟨#[95,108,97,119,95,84,69,88,84,83]⟩),
 (801,eX ⟨#[95,108,97,119,95,78,79,84,69,83]⟩),
 (808,eX ⟨#[95,108,97,119,95,110,101,120,116]⟩),
 (813,eX ⟨#[95,108,97,119,95,115,109,97,108,108]⟩),
 (820,eX ⟨#[95,108,97,119,95,97,116,116,114,105,98,117,116,101]⟩)]
noncomputable def kZ {α:Type} (f:Nat):List (Nat×Option α)->Option α
 | []=>none
 | (k,a)::r=>match Nat.beq k f with
  | true=>a
  | false=>kZ f r
theorem qz {α:Type} {f:Nat} {x:α}:∀ {l:List (Nat×Option α)},kZ f l=some x->f∈l.map (·.1)
 | (k,a)::r,h=>by
  dsimp only[kZ] at h
  cases q:Nat.beq k f with
  | true=>rw[Nat.eq_of_beq_eq_true q];exact .head _
  | false=>rw[q] at h;exact .tail _ (qz h)
noncomputable def dP (f:Addr):Option cJ:=kZ f fnL
noncomputable def la:List (Str×eb):=[(⟨#[115,116,114,101,97,109]⟩,.absent),(⟨#[112,97,114,115,101,114]⟩,.absent),(⟨#[101,115,99,97,112,101,70,108,97,103]⟩,.absent),(⟨#[108,97,115,116,70,111,117,114,67,104,97,114,115]⟩,.absent),(⟨#[115,116,97,116,101]⟩,.absent),(⟨#[101,115,99,97,112,101]⟩,.absent),(⟨#[99,117,114,114,101,110,116,84,111,107,101,110]⟩,.absent),(⟨#[116,111,107,101,110,81,117,101,117,101]⟩,.absent),(⟨#[100,97,116,97,83,116,97,116,101]⟩,.fn 304),(⟨#[101,110,116,105,116,121,68,97,116,97,83,116,97,116,101]⟩,.fn 311),(⟨#[116,97,103,79,112,101,110,83,116,97,116,101]⟩,.fn 353),(⟨#[99,108,111,115,101,84,97,103,79,112,101,110,83,116,97,116,101]⟩,.fn 360),(⟨#[116,97,103,78,97,109,101,83,116,97,116,101]⟩,.fn 367),(⟨#[98,101,102,111,114,101,65,116,116,114,105,98,117,116,101,78,97,109,101,83,116,97,116,101]⟩,.fn 535),(⟨#[97,116,116,114,105,98,117,116,101,78,97,109,101,83,116,97,116,101]⟩,.fn 542),(⟨#[97,102,116,101,114,65,116,116,114,105,98,117,116,101,78,97,109,101,83,116,97,116,101]⟩,.fn 549),(⟨#[98,101,102,111,114,101,65,116,116,114,105,98,117,116,101,86,97,108,117,101,83,116,97,116,101]⟩,.fn 556),(⟨#[97,116,116,114,105,98,117,116,101,86,97,108,117,101,68,111,117,98,108,101,81,117,111,116,101,100,83,116,97,116,101]⟩,.fn 563),(⟨#[97,116,116,114,105,98,117,116,101,86,97,108,117,101,83,105,110,103,108,101,81,117,111,116,101,100,83,116,97,116,101]⟩,.fn 570),(⟨#[97,116,116,114,105,98,117,116,101,86,97,108,117,101,85,110,81,117,111,116,101,100,83,116,97,116,101]⟩,.fn 577),(⟨#[97,102,116,101,114,65,116,116,114,105,98,117,116,101,86,97,108,117,101,83,116,97,116,101]⟩,.fn 584),(⟨#[115,101,108,102,67,108,111,115,105,110,103,83,116,97,114,116,84,97,103,83,116,97,116,101]⟩,.fn 591),(⟨#[98,111,103,117,115,67,111,109,109,101,110,116,83,116,97,116,101]⟩,.fn 598),(⟨#[109,97,114,107,117,112,68,101,99,108,97,114,97,116,105,111,110,79,112,101,110,83,116,97,116,101]⟩,.fn 605),(⟨#[99,111,109,109,101,110,116,83,116,97,114,116,83,116,97,116,101]⟩,.fn 612),(⟨#[99,111,109,109,101,110,116,83,116,97,114,116,68,97,115,104,83,116,97,116,101]⟩,.fn 619),(⟨#[99,111,109,109,101,110,116,83,116,97,116,101]⟩,.fn 626),(⟨#[99,111,109,109,101,110,116,69,110,100,68,97,115,104,83,116,97,116,101]⟩,.fn 633),(⟨#[99,111,109,109,101,110,116,69,110,100,83,116,97,116,101]⟩,.fn 640),(⟨#[99,111,109,109,101,110,116,69,110,100,66,97,110,103,83,116,97,116,101]⟩,.fn 647),(⟨#[101,109,105,116,67,117,114,114,101,110,116,84,111,107,101,110]⟩,.fn 297)]
noncomputable def lb:List (Str×eb):=[(⟨#[114,101,112,111,114,116,67,104,97,114,97,99,116,101,114,69,114,114,111,114,115]⟩,.absent),(⟨#[110,101,119,76,105,110,101,115]⟩,.absent),(⟨#[100,97,116,97,83,116,114,101,97,109]⟩,.absent),(⟨#[99,104,117,110,107]⟩,.absent),(⟨#[99,104,117,110,107,83,105,122,101]⟩,.absent),(⟨#[99,104,117,110,107,79,102,102,115,101,116]⟩,.absent),(⟨#[101,114,114,111,114,115]⟩,.absent),(⟨#[112,114,101,118,78,117,109,76,105,110,101,115]⟩,.absent),(⟨#[112,114,101,118,78,117,109,67,111,108,115]⟩,.absent),(⟨#[95,98,117,102,102,101,114,101,100,67,104,97,114,97,99,116,101,114]⟩,.absent),(⟨#[111,112,101,110,83,116,114,101,97,109]⟩,.fn 112),(⟨#[114,101,115,101,116]⟩,.fn 105),(⟨#[95,112,111,115,105,116,105,111,110]⟩,.fn 119),(⟨#[112,111,115,105,116,105,111,110]⟩,.fn 126),(⟨#[99,104,97,114]⟩,.fn 133),(⟨#[114,101,97,100,67,104,117,110,107]⟩,.fn 141),(⟨#[99,104,97,114,97,99,116,101,114,69,114,114,111,114,115,85,67,83,52]⟩,.fn 148),(⟨#[99,104,97,114,115,85,110,116,105,108]⟩,.fn 156),(⟨#[117,110,103,101,116]⟩,.fn 163),(⟨#[95,100,101,102,97,117,108,116,67,104,117,110,107,83,105,122,101]⟩,.val (.int 10240))]
noncomputable def kL:List (Str×eb):=[(⟨#[116,101,120,116]⟩,.absent),(⟨#[112,108,97,99,101]⟩,.absent),(⟨#[114,101,97,100]⟩,.fn 70)]
noncomputable def jv:List (Str×AV):=[(⟨#[84,101,120,116]⟩,.con (.ref 73)),(⟨#[72,84,77,76,85,110,105,99,111,100,101,73,110,112,117,116,83,116,114,101,97,109]⟩,.con (.ref 166)),(⟨#[72,84,77,76,84,111,107,101,110,105,122,101,114]⟩,.con (.ref 762)),(⟨#[69,79,70]⟩,.none),(⟨#[116,111,107,101,110,84,121,112,101,115]⟩,.con (.ref 48)),(⟨#[116,97,103,84,111,107,101,110,84,121,112,101,115]⟩,.con (.ref 49)),(⟨#[115,112,97,99,101,67,104,97,114,97,99,116,101,114,115]⟩,.con (.ref 22)),(⟨#[97,115,99,105,105,76,101,116,116,101,114,115]⟩,.con (.ref 27)),(⟨#[108,101,110]⟩,.bi .len),(⟨#[111,114,100]⟩,.bi .ord),(⟨#[100,105,99,116]⟩,.bi .dict),(⟨#[99,104,114]⟩,.con (.builtin "chr")),(⟨#[97,115,99,105,105,76,111,119,101,114]⟩,.con (.ref 42)),(⟨#[95,105,115,95,105,110,118,97,108,105,100]⟩,.con (.ref 84)),(⟨#[95,108,97,119,95,78,65,77,69,83]⟩,.con (.ref 773)),(⟨#[95,108,97,119,95,75,69,89,83]⟩,.con (.ref 780)),(⟨#[95,108,97,119,95,86,65,76,85,69,83]⟩,.con (.ref 787)),(⟨#[95,108,97,119,95,84,69,88,84,83]⟩,.con (.ref 794)),(⟨#[95,108,97,119,95,78,79,84,69,83]⟩,.con (.ref 801)),(⟨#[95,108,97,119,95,110,101,120,116]⟩,.con (.ref 808)),(⟨#[95,108,97,119,95,115,109,97,108,108]⟩,.con (.ref 813)),(⟨#[95,108,97,119,95,97,116,116,114,105,98,117,116,101]⟩,.con (.ref 820))]
noncomputable def ah:List Str:=[⟨#[9]⟩,⟨#[10]⟩,⟨#[12]⟩,⟨#[32]⟩,⟨#[13]⟩]
noncomputable def aC:List Str:=[⟨#[97]⟩,⟨#[98]⟩,⟨#[99]⟩,⟨#[100]⟩,⟨#[101]⟩,⟨#[102]⟩,⟨#[103]⟩,⟨#[104]⟩,⟨#[105]⟩,⟨#[106]⟩,⟨#[107]⟩,⟨#[108]⟩,⟨#[109]⟩,⟨#[110]⟩,⟨#[111]⟩,⟨#[112]⟩,⟨#[113]⟩,⟨#[114]⟩,⟨#[115]⟩,⟨#[116]⟩,⟨#[117]⟩,⟨#[118]⟩,⟨#[119]⟩,⟨#[120]⟩,⟨#[121]⟩,⟨#[122]⟩,⟨#[65]⟩,⟨#[66]⟩,⟨#[67]⟩,⟨#[68]⟩,⟨#[69]⟩,⟨#[70]⟩,⟨#[71]⟩,⟨#[72]⟩,⟨#[73]⟩,⟨#[74]⟩,⟨#[75]⟩,⟨#[76]⟩,⟨#[77]⟩,⟨#[78]⟩,⟨#[79]⟩,⟨#[80]⟩,⟨#[81]⟩,⟨#[82]⟩,⟨#[83]⟩,⟨#[84]⟩,⟨#[85]⟩,⟨#[86]⟩,⟨#[87]⟩,⟨#[88]⟩,⟨#[89]⟩,⟨#[90]⟩]
noncomputable def fF:List Str->List AV
 | []=>[]
 | a::r=>.str a::fF r
noncomputable def ttab:List (Str×AV):=[(⟨#[68,111,99,116,121,112,101]⟩,.int 0),(⟨#[67,104,97,114,97,99,116,101,114,115]⟩,.int 1),(⟨#[83,112,97,99,101,67,104,97,114,97,99,116,101,114,115]⟩,.int 2),(⟨#[83,116,97,114,116,84,97,103]⟩,.int 3),(⟨#[69,110,100,84,97,103]⟩,.int 4),(⟨#[69,109,112,116,121,84,97,103]⟩,.int 5),(⟨#[67,111,109,109,101,110,116]⟩,.int 6),(⟨#[80,97,114,115,101,69,114,114,111,114]⟩,.int 7)]
noncomputable def tab:Tab where
 glob:=jv
 cobj:=fun a=>match a with
  | 48=>some (.dict ttab)
  | 49=>some (.tuple [.int 3,.int 4,.int 5])
  | 22=>some (.tuple (fF ah))
  | 27=>some (.tuple (fF aC))
  | _=>none
 cls:=fun C=>match C with
  | 73=>kL
  | 166=>lb
  | 762=>la
  | _=>[]
 init:=fun C=>match C with
  | 73=>some 63
  | 166=>some 98
  | 762=>some 261
  | _=>none
 fn:=dP
noncomputable def gv (a b:Stmt):Prop:=a=b
noncomputable def ea (a b:Expr):Prop:=a=b
noncomputable def oR:List Stmt->Option Stmt
 | .While _ (_::.While a b c p::_) _ _::_=>some (.While a b c p)
 | _::r=>oR r
 | []=>none
noncomputable def i6:Stmt:=match gI ⟨#[72,84,77,76,85,110,105,99,111,100,101,73,110,112,117,116,83,116,114,101,97,109]⟩ ⟨#[99,104,97,114,115,85,110,116,105,108]⟩ with
 | some (_,b,_)=>(oR b).getD (.Pass ⟨0,0,0,0⟩)
 | none=>.Pass ⟨0,0,0,0⟩
noncomputable def i9:Stmt:=match gI ⟨#[72,84,77,76,85,110,105,99,111,100,101,73,110,112,117,116,83,116,114,101,97,109]⟩ ⟨#[99,104,97,114,97,99,116,101,114,69,114,114,111,114,115,85,67,83,52]⟩ with
 | some (_,b,_)=>b.headD (.Pass ⟨0,0,0,0⟩)
 | none=>.Pass ⟨0,0,0,0⟩
noncomputable def tg:List Stmt->Option Expr
 | .Return (some e) _::_=>some e
 | _::r=>tg r
 | []=>none
noncomputable def dR (n:Str):Expr:=match mP n with
 | some (_,b,_)=>(tg b).getD (.Constant .none 0 ⟨0,0,0,0⟩)
 | none=>.Constant .none 0 ⟨0,0,0,0⟩
noncomputable def gM (opp:Bool) (l:List Str) (cs:List Nat):Nat:=(cs.takeWhile fun c=>(aA ⟨#[c]⟩ l)==opp).length
noncomputable def bS (c:Nat):Nat:=match Nat.ble 65 c&&Nat.ble c 90 with
 | true=>c+32
 | false=>c
noncomputable def ac (s:Str):Str:=⟨(s.cps.toList.map bS).toArray⟩
noncomputable def cD (c:Nat):Prop:=c=10\/(32<=c/\c < 127)
noncomputable def jJ (i:Nat):EM (Str×Int):=do
 let (C,_,es) <- ij i
 EM.chk (Nat.beq C 166) (match lk es ⟨#[99,104,117,110,107]⟩,lk es ⟨#[99,104,117,110,107,83,105,122,101]⟩ with
  | some (.sstr x),some n=>(match aY n with
   | some (n,_)=>EM.ret (x,n)
   | none=>EM.fail)
  | _,_=>EM.fail)
noncomputable def jT (ch:AV):EM (List Str):=do
 match <- cv tab ch with
 | .tuple xs=>EM.lift (bQ xs)
 | _=>EM.fail
noncomputable def dS (sc:Scope) (x:Str):Bool:=match lk sc.names x with
 | some .local=>true
 | _=>false
noncomputable def kG (sc:Scope) (x:Str):Bool:=match lk sc.names x with
 | some .globalImplicit=>true
 | _=>false
noncomputable def nt (fr:Nat) (sc:Scope):EM AF:=EM.chk (dS sc ⟨#[115,101,108,102]⟩&&dS sc ⟨#[99,104,97,114,97,99,116,101,114,115]⟩&&dS sc ⟨#[111,112,112,111,115,105,116,101]⟩&&dS sc ⟨#[101,110,100]⟩) do
 let loc <- locals fr
 match lk loc ⟨#[115,101,108,102]⟩,lk loc ⟨#[99,104,97,114,97,99,116,101,114,115]⟩,lk loc ⟨#[111,112,112,111,115,105,116,101]⟩,lk loc ⟨#[101,110,100]⟩ with
 | some (.ptr i),some ch,some (.bool opp),some en=>(match aY en with
  | some (e,_)=>do
   let (x,n) <- jJ i
   let l <- jT ch
   EM.need (0<=e/\e<=n/\n=x.length/\x.length<=aa)
   EM.set fr (.ns (put loc ⟨#[101,110,100]⟩ (.sint (e+gM opp l (x.cps.toList.drop e.toNat)))))
   EM.ret .next
  | none=>EM.fail)
 | _,_,_,_=>EM.fail
noncomputable def nI (fr:Nat) (sc:Scope):EM AF:=EM.chk (dS sc ⟨#[100,97,116,97]⟩&&dS sc ⟨#[99]⟩&&kG sc ⟨#[95,105,115,95,105,110,118,97,108,105,100]⟩&&kG sc ⟨#[111,114,100]⟩) do
 let loc <- locals fr
 match lk loc ⟨#[100,97,116,97]⟩,lk loc ⟨#[99]⟩ with
 | some (.sstr x),none=>do
  EM.need (∀ c∈x.cps.toList,cD c)
  EM.need (x.length<=aa)
  EM.ret .next
 | _,_=>EM.fail
noncomputable def tu (e:Expr) (fr:Nat) (sc:Scope):EM AV:=do
 let loc <- locals fr
 match lk loc ⟨#[116,101,120,116]⟩ with
 | some (.sstr x)=>EM.chk (dS sc ⟨#[116,101,120,116]⟩) do
  EM.need (ea e (dR ⟨#[97,115,99,105,105,76,111,119,101,114]⟩))
  EM.need (x.length<=aa)
  EM.ret (.sstr (ac x))
 | some _=>EM.fail
 | none=>match lk loc ⟨#[110,97,109,101]⟩ with
  | some (.str x)=>EM.chk (dS sc ⟨#[110,97,109,101]⟩) do
   EM.need (ea e (dR ⟨#[95,108,97,119,95,115,109,97,108,108]⟩))
   EM.need (x.length<=aa)
   EM.ret (.sstr (ac x))
  | some (.sstr x)=>EM.chk (dS sc ⟨#[110,97,109,101]⟩) do
   EM.need (ea e (dR ⟨#[95,108,97,119,95,115,109,97,108,108]⟩))
   EM.need (x.length<=aa)
   EM.ret (.sstr (ac x))
  | _=>EM.fail
noncomputable def gV:cy where
 e:=fun e fr sc=>match e with
  | .Call ..=>tu e fr sc
  | _=>EM.fail
 s:=fun st fr sc=>match st with
  | .While ..=>do EM.need (gv st i6);nt fr sc
  | .For ..=>do EM.need (gv st i9);nI fr sc
  | _=>EM.fail
end TE
namespace TE
set_option genSizeOf false
set_option genInjectivity false
set_option backward.match.sparseCases false
set_option tactic.hygienic false
structure Fx where
 lf:Value
 nl:Value
structure Sx where
 Y:Str
 n:Int
 k:Int
 pl:Int
 pc:Int
 p:Int
noncomputable def FM (f:Fx) (rc:AV) (x:Sx):List (Str×AV):=[(⟨#[114,101,112,111,114,116,67,104,97,114,97,99,116,101,114,69,114,114,111,114,115]⟩,rc),(⟨#[110,101,119,76,105,110,101,115]⟩,.con f.nl),(⟨#[100,97,116,97,83,116,114,101,97,109]⟩,.ptr 8),(⟨#[99,104,117,110,107]⟩,.sstr x.Y),(⟨#[99,104,117,110,107,83,105,122,101]⟩,.sint x.n),(⟨#[99,104,117,110,107,79,102,102,115,101,116]⟩,.sint x.k),(⟨#[101,114,114,111,114,115]⟩,.ptr 6),(⟨#[112,114,101,118,78,117,109,76,105,110,101,115]⟩,.sint x.pl),(⟨#[112,114,101,118,78,117,109,67,111,108,115]⟩,.sint x.pc),(⟨#[95,98,117,102,102,101,114,101,100,67,104,97,114,97,99,116,101,114]⟩,.none)]
noncomputable def nr (f:Fx) (ct:AV):List (Str×AV):=[(⟨#[115,116,114,101,97,109]⟩,.ptr 3),(⟨#[112,97,114,115,101,114]⟩,.none),(⟨#[101,115,99,97,112,101,70,108,97,103]⟩,.bool false),(⟨#[108,97,115,116,70,111,117,114,67,104,97,114,115]⟩,.con f.lf),(⟨#[115,116,97,116,101]⟩,.ptr 7),(⟨#[101,115,99,97,112,101]⟩,.bool false),(⟨#[99,117,114,114,101,110,116,84,111,107,101,110]⟩,ct),(⟨#[116,111,107,101,110,81,117,101,117,101]⟩,.ptr 5)]
noncomputable def base (f:Fx) (rc:AV) (X:Str) (x:Sx) (st:Addr) (ct:AV) (q:List AV) (R:List AO):List AO :=
 .ns [(⟨#[115,101,108,102]⟩,.ptr 1)]::.inst 762 2::.dict (nr f ct)::.inst 166 4::.dict (FM f rc x)::.list q::.list []::.meth st (.ptr 1)::.inst 73 9::.dict [(⟨#[116,101,120,116]⟩,.sstr X),(⟨#[112,108,97,99,101]⟩,.sint x.p)]::R
noncomputable def r8:List (Str×Str)->List AO
 | []=>[]
 | (a,b)::r=>.list [.sstr a,.sstr b]::r8 r
noncomputable def iY (i:Nat):List (Str×Str)->List AV
 | []=>[]
 | _::r=>.ptr i::iY (i+1) r
noncomputable def bH:List (Str×Str)->List (Str×AV)
 | []=>[]
 | (a,b)::r=>(a,.sstr b)::bH r
noncomputable def bV (nm:Str) (sc:Bool) (d:Nat):AO:=.dict [(⟨#[116,121,112,101]⟩,.int 3),(⟨#[110,97,109,101]⟩,.sstr nm),(⟨#[100,97,116,97]⟩,.ptr d),(⟨#[115,101,108,102,67,108,111,115,105,110,103]⟩,.bool sc),(⟨#[115,101,108,102,67,108,111,115,105,110,103,65,99,107,110,111,119,108,101,100,103,101,100]⟩,.bool false)]
noncomputable def k9 (nm:Str) (d:Nat):AO:=.dict [(⟨#[116,121,112,101]⟩,.int 4),(⟨#[110,97,109,101]⟩,.sstr nm),(⟨#[100,97,116,97]⟩,.ptr d),(⟨#[115,101,108,102,67,108,111,115,105,110,103]⟩,.bool false)]
noncomputable def nx (t:Str):AO:=.dict [(⟨#[116,121,112,101]⟩,.int 6),(⟨#[100,97,116,97]⟩,.sstr t)]
noncomputable def aW (ty:Int) (t:Str):AO:=.dict [(⟨#[116,121,112,101]⟩,.int ty),(⟨#[100,97,116,97]⟩,.sstr t)]
noncomputable def ai (nm:Str) (l:List (Str×Str)):List AO:=bV nm false 11::.list (iY 12 l)::r8 l
noncomputable def dU (nm:Str):List AO:=[k9 nm 11,.list []]
noncomputable def aZ (t:Str):List AO:=[nx t]
noncomputable def jk (o:AO) (k:Str):Option Nat:=match o with
 | .dict es=>(match lk es k with
  | some (.ptr i)=>some i
  | _=>none)
 | _=>none
noncomputable def mY:List AV->List Nat
 | []=>[]
 | .ptr i::r=>i::mY r
 | _::r=>mY r
noncomputable def sF (o:AO):List Nat:=match o with
 | .list xs=>mY xs
 | _=>[]
noncomputable def FH (hp:List AO) (t:Nat):List Nat:=match jk (atD hp t) ⟨#[100,97,116,97]⟩ with
 | some d=>t::d::sF (atD hp d)
 | none=>[t]
noncomputable def Cp (o:AO):Nat:=match o with
 | .meth f _=>f
 | _=>0
noncomputable def Gk (hp:List AO) (st:Nat):List Nat:=match Nat.beq (Cp (atD hp st)) 304 with
 | true=>[]
 | false=>match jk (atD hp 2) ⟨#[99,117,114,114,101,110,116,84,111,107,101,110]⟩ with
  | some t=>FH hp t
  | none=>[]
noncomputable def FZ (hp:List AO):List Nat:=match sF (atD hp 5) with
 | t::_=>(match jk (atD hp t) ⟨#[100,97,116,97]⟩ with
  | some d=>[t,d]
  | none=>[t])
 | []=>[]
noncomputable def dH (hp:List AO):List Nat:=match jk (atD hp 2) ⟨#[115,116,97,116,101]⟩ with
 | some st=>0::1::2::3::4::5::6::st::8::9::(Gk hp st++FZ hp)
 | none=>[]
noncomputable def fN:List Nat->Bool
 | []=>true
 | a::r=>match inL a r with
  | true=>false
  | false=>fN r
noncomputable def aj (ρ:Nat->Addr) (r:Option (Bool×ES×List Prop)):Option (Bool×List AO×List Nat×List Prop):=match r with
 | some (b,es,pc)=>(match bB (dH es.hp) es.hp.length&&fN (dH es.hp) with
  | true=>some (b,pick ρ (dH es.hp) [4,9] es.hp,es.dec,pc)
  | false=>none)
 | none=>none
noncomputable def fD:Addr->Option (List AV->EM AV):=fun _=>none
noncomputable def bu:cy:=⟨fun _ _ _=>EM.fail,fun _ _ _=>EM.fail⟩
noncomputable def bL:Arguments×List Stmt×Scope:=(gI ⟨#[72,84,77,76,84,111,107,101,110,105,122,101,114]⟩ ⟨#[95,95,105,116,101,114,95,95]⟩).getD (⟨[],[],none,[],[],none,[]⟩,[],⟨.function,[],false,false,[]⟩)
noncomputable def gscope:Scope:=bL.2.2
noncomputable def lY:List Stmt->Expr×List Stmt
 | .While t b _ _::_=>(t,b)
 | _::r=>lY r
 | []=>(.Constant .none 0 ⟨0,0,0,0⟩,[])
noncomputable def dO:Expr:=(lY bL.2.1).1
noncomputable def eS:List Stmt:=(lY bL.2.1).2
noncomputable def gev:Ev:=ev tab (db tab gV fD 8) bu 0 gscope [] 10
noncomputable def turn (hp:List AO) (dec:List Nat):Option (Bool×ES×List Prop):=gev.t dO ⟨hp,dec⟩
noncomputable def chS (Y:Str) (k:Int):Str:=⟨#[Y.cps.getD k.toNat 0]⟩
noncomputable def goS (x:Sx) (k:Int):Sx:={ x with k:=k }
end TE
namespace TE
set_option tactic.hygienic false
section
variable {prog:Program} {w:World} {z5:Heap} {K:Frag} {T:Tab} {A:Around} {es:ES} {ρ:Nat->Addr} {s:Shared} {env:Env} {fr:Nat} {scope:Scope} {cells:List (Str×Nat)}
theorem hU {g:Str} {gp p:Pos} {a:Expr} {id:String} {Q:Value->Shared->Prop} {E:Value->Shared->Prop} (hs:b0 a=false)
  (hg:∀ (Q:Value->Shared->Prop) E,Q (.builtin id) s->wpAny (model prog w) A (eval (.Name g gp) env) Q E s)
  (h:wpAny (model prog w) A (eval a env) (fun v s1=>wpAny (model prog w) A (call (.builtin id) [v]) Q E s1) E s):wpAny (model prog w) A (eval (.Call (.Name g gp) [a] [] p) env) Q E s:=by
 have arm:eval (.Call (.Name g gp) [a] [] p) env=(do callWith p (<- eval (.Name g gp) env) [] (backTo p (starEach [a] env)) []):=rfl;rw[arm];refine wpAny_bind (hg _ _ ?_);have plain:(backTo p (starEach [a] env)).any (·.1)=false:=ff p (by rw[List.any_cons,hs];rfl);refine callWith_builtin plain ?_
 have L:wpAny (model prog w) A (spliced (backTo p (starEach [a] env))) (fun vs s'=>wpAny (model prog w) A (call (.builtin id) vs) Q E s') E s :=
  wpAny_items_cons (wpAny_mono h (fun v s' h'=>wpAny_items_nil h') fun _ _ x=>x) (cf hs [])
 rw[cf hs] at L ⊢;exact evalArgs_plain L
theorem f7 (B:Bs prog w z5 K T) (hk:∀ b o,z5.get? b=some o->s.heap.get? b=some o) {x:Str} {p:Pos} {v:Value} (hx:lk T.glob x=some (.con v)\/∃ b,lk T.glob x=some (.bi b)/\v=b.val) (hd:(x==("__debug__" : Str))=false)
  (hkf:env.scope.kind=.function) (hbk:env.blockKind=.function) (hko:env.kindOf x=some .globalImplicit) (hg:env.globals=mainGlobals) (hb:env.builtins=builtinsNs) {Q:Value->Shared->Prop} {E:Value->Shared->Prop} (h:Q v s) :
  wpAny (model prog w) A (eval (.Name x p) env) Q E s:=by
 refine wpAny_Name ?_ hd
 have load:loadName env x=loadGlobal env x:=by
  unfold loadName;rw[hkf,hbk,hko];rfl
 rw[load];obtain ⟨mg,mb,g,b,hgl⟩:=B.glob
 have key:∀ a,lk T.glob x=some a->VRel 0 (fun _=>0) a v->(∀ v',VRel 0 (fun _=>0) a v'->v'=v)->wpAny (model prog w) A (loadGlobal env x) Q E s:=fun a ha _ huniq=>by
  replace ha:=hgl x a ha;obtain ⟨v',hv,r⟩:=ha;have e:=huniq v' (r _ _);subst e;rcases hv with hv | ⟨h1,h2⟩
  ·exact loadGlobal_global (hg▸g.keeps hk) hv h
  ·exact loadGlobal_builtin (hg▸g.keeps hk) h1 (hb▸b.keeps hk) h2 h
 rcases hx with hx | ⟨bi,hx,rfl⟩
 ·exact key _ hx rfl fun v' e=>e
 ·exact key _ hx rfl fun v' e=>e
theorem cU {x:Str} {p:Pos} {v:Value} {m:Str->Option Value} (hd:(x==("__debug__" : Str))=false) (hkf:env.scope.kind=.function) (hko:env.kindOf x=some .local) (hns:s.heap.Ns env.locals m) (hm:m x=some v)
  {Q:Value->Shared->Prop} {E:Value->Shared->Prop} (h:Q v s):wpAny (model prog w) A (eval (.Name x p) env) Q E s :=
 wpAny_Name (wpAny_loadName_local hkf hko hns hm h) hd
noncomputable def cC:Str:=⟨#[99]⟩
noncomputable def iL:Str:=⟨#[99,104,114]⟩
noncomputable def ew:Str:=⟨#[111,114,100]⟩
noncomputable def ii (p3 p4 p5 p6 p7 p8 p9 p10 p11 p12 p13 p14 p15:Pos):Expr :=
 .IfExp (.Compare (.Constant (.str ⟨#[65]⟩) 0 p3) [.LtE,.LtE] [.Name cC p4,.Constant (.str ⟨#[90]⟩) 0 p5] p6)
  (.Call (.Name iL p7) [.BinOp (.Call (.Name ew p8) [.Name cC p9] [] p10) .Add (.Constant (.int 32) 0 p11) p12] [] p13) (.Name cC p14) p15
theorem jC (s:Shared) (k:Nat):PySem.Keeps s { s with toks:=k }:=⟨s.heap,k,rfl,fun _ _ e=>e⟩
theorem sB (a b:Nat):(!(decide ((⟨#[b]⟩:Str).cps.toList < (⟨#[a]⟩:Str).cps.toList)))=Nat.ble a b:=by
 have e:((⟨#[b]⟩:Str).cps.toList < (⟨#[a]⟩:Str).cps.toList)↔b < a:=by
  show ([b] < [a])↔_;rw[List.cons_lt_cons_iff];constructor
  ·rintro (h | ⟨_,h⟩)
   ·exact h
   ·exact absurd h (List.not_lt_nil _)
  ·exact .inl
 rw[decide_eq_decide.mpr e]
 by_cases q:b < a
 ·rw[decide_eq_true q];have:¬ a<=b:=by exact Nat.not_le_of_lt q
  cases h:Nat.ble a b with
  | true=>exact absurd (Qc h) this
  | false=>rfl
 ·rw[decide_eq_false q];have:a<=b:=by exact Nat.le_of_not_lt q
  exact (Nat.ble_eq_true_of_le this).symm
theorem xN (B:Bs prog w z5 K tab) (hk:∀ b o,z5.get? b=some o->s.heap.get? b=some o) {p3 p4 p5 p6 p7 p8 p9 p10 p11 p12 p13 p14 p15:Pos} {c:Nat} {u:Tok} {m:Str->Option Value}
  (hkf:env.scope.kind=.function) (hbk:env.blockKind=.function) (k1:env.kindOf cC=some .local) (k2:env.kindOf iL=some .globalImplicit) (k3:env.kindOf ew=some .globalImplicit) (hg:env.globals=mainGlobals) (hb:env.builtins=builtinsNs)
  (hns:s.heap.Ns env.locals m) (hm:m cC=some (.str ⟨#[c]⟩ u)) {Q:Value->Shared->Prop} {E:Value->Shared->Prop} (h:∀ t k,Q (.str ⟨#[bS c]⟩ t) { s with toks:=k }) :
  wpAny (model prog w) A (eval (ii p3 p4 p5 p6 p7 p8 p9 p10 p11 p12 p13 p14 p15) env) Q E s:=by
 have dC:(cC==("__debug__" : Str))=false:=by decide +kernel
 have dChr:(iL==("__debug__" : Str))=false:=by decide +kernel
 have dOrd:(ew==("__debug__" : Str))=false:=by decide +kernel
 have arm:isTrue (.Compare (.Constant (.str ⟨#[65]⟩) 0 p3) [.LtE,.LtE] [.Name cC p4,.Constant (.str ⟨#[90]⟩) 0 p5] p6) env (eval (.Compare (.Constant (.str ⟨#[65]⟩) 0 p3) [.LtE,.LtE] [.Name cC p4,.Constant (.str ⟨#[90]⟩) 0 p5] p6) env)=(do
   let v <- eval (.Constant (.str ⟨#[65]⟩) 0 p3) env
   let rv <- holding [v] (eval (.Name cC p4) env)
   standAt p6
   let c <- holding [v,rv] (compareOp .LtE v rv)
   release [v,rv] [c]
   if <- holding [c,rv] (truthy c) then (do
    let rv' <- holding [rv] (eval (.Constant (.str ⟨#[90]⟩) 0 p5) env)
    standAt p6
    let d <- operate [rv,rv'] (compareOp .LtE rv rv')
    holding [d] (truthy d)) else pure false):=rfl
 have low:c < 128->∀ k,wpAny (model prog w) A (eval (.Call (.Name iL p7) [.BinOp (.Call (.Name ew p8) [.Name cC p9] [] p10) .Add (.Constant (.int 32) 0 p11) p12] [] p13) env) (fun v s'=>∃ t k,v=.str ⟨#[c+32]⟩ t/\s'={ s with toks:=k }) E { s with toks:=k }:=fun hc k=>by
  refine hU rfl (fun Q E hq=>f7 (s:={ s with toks:=k }) (T:=tab) B hk (x:=iL) (v:=.builtin "chr") (.inl rfl) dChr hkf hbk k2 hg hb hq) ?_
  refine wpAny_BinOp (hU rfl (fun Q E hq=>f7 (s:={ s with toks:=k }) (T:=tab) B hk (x:=ew) (v:=.builtin "ord") (.inr ⟨BI.ord,rfl,rfl⟩) dOrd hkf hbk k3 hg hb hq) ?_)
  refine cU (s:={ s with toks:=k }) dC hkf k1 hns hm (P.ord_of_char (wpAny_Constant_int (P.add_int (P.chr_of_int ?_ ?_))))
  ·simp only[Bool.or_eq_false_iff,decide_eq_false_iff_not];lia
  ·have:((c:Int)+32).toNat=c+32:=by rfl
   rw[this];exact ⟨_,_,rfl,rfl⟩
 have same:∀ k,wpAny (model prog w) A (eval (.Name cC p14) env) (fun v s'=>∃ t k,v=.str ⟨#[c]⟩ t/\s'={ s with toks:=k }) E { s with toks:=k }:=fun k=>cU (s:={ s with toks:=k }) dC hkf k1 hns hm ⟨u,k,rfl,rfl⟩
 unfold ii;refine wpAny_IfExp ?_;rw[arm];refine wpAny_bind (wpAny_Constant_str (wpAny_bind (wpAny_holding (cU (s:={ s with toks:=s.toks+1 }) dC hkf k1 hns hm (wpAny_bind (wpAny_standAt (wpAny_bind (wpAny_holding (P.le_str (wpAny_bind (wpAny_release (wpAny_bind (wpAny_holding ?_)))))))))))))
 rw[sB 65 c];refine wpAny_truthy_bool ?_
 cases q1:Nat.ble 65 c with
 | false =>
  have:bS c=c:=by unfold bS;rw[q1];rfl
  rw[this] at h;refine wpAny_pure ?_;exact wpAny_mono (same _) (fun v s' ⟨t,k,e1,e2⟩=>by subst e1 e2;exact h t k) fun _ _ x=>x
 | true =>
  refine wpAny_bind (wpAny_holding (wpAny_Constant_str (wpAny_bind (wpAny_standAt (wpAny_bind (wpAny_operateT (P.le_str (wpAny_holding ?_))))))));rw[sB c 90];refine wpAny_truthy_bool ?_
  cases q2:Nat.ble c 90 with
  | false =>
   have:bS c=c:=by unfold bS;rw[q1,q2];rfl
   rw[this] at h;exact wpAny_mono (same _) (fun v s' ⟨t,k,e1,e2⟩=>by subst e1 e2;exact h t k) fun _ _ x=>x
  | true =>
   have:bS c=c+32:=by unfold bS;rw[q1,q2];rfl
   rw[this] at h;exact wpAny_mono (low (by have:=Qc q2;lia) _) (fun v s' ⟨t,k,e1,e2⟩=>by subst e1 e2;exact h t k) fun _ _ x=>x
end
end TE
namespace TE
set_option tactic.hygienic false
theorem rf:∀ {cs:List Nat} {vs:List Value} {ys:List Value},vs.length=cs.length->(∀ (j:Nat) (v:Value),vs[j]?=some v->∃ c u,cs[j]?=some c/\v=.str ⟨#[c]⟩ u) ->
  Paired (fun v r=>∀ c u,v=.str ⟨#[c]⟩ u->∃ t,r=.str ⟨#[bS c]⟩ t) vs ys->∃ l:List (Str×Tok),ys=strValues l/\l.map (·.1)=cs.map fun c=>⟨#[bS c]⟩
 | [],[],_,_,_,h=>by cases h;exact ⟨[],rfl,rfl⟩
 | c::cs,v::vs,_,hl,hv,h=>by
  cases h with
  | cons h1 h2 =>
   refine ag fun G0 hG0=>?_;replace rfl:=hv 0 _ rfl;obtain ⟨c',u,e1,rfl⟩:=rfl;obtain rfl:=Qb e1;replace rfl:=h1 _ _ rfl;obtain ⟨t,rfl⟩:=rfl;obtain ⟨l,rfl,e⟩:=rf (by simpa using hl) (fun j v hj=>hv (j+1) v hj) h2;refine hG0 ?_;exact ⟨(⟨#[bS c]⟩,t)::l,rfl,by rw[List.map_cons,List.map_cons,e]⟩
 | [],_::_,_,hl,_,_=>by cases hl
 | _::_,[],_,hl,_,_=>by cases hl
theorem oe:∀ (cs:List Nat) (acc:Array Nat),(cs.map fun c=>(⟨#[bS c]⟩:Str)).foldl (fun a p=>a++(⟨#[]⟩:Str).cps++p.cps) acc=acc++(cs.map bS).toArray
 | [],acc=>by simp
 | c::cs,acc=>by
  rw[List.map_cons,List.foldl_cons,oe cs];simp
theorem AL (x:Str):Txt.join ⟨#[]⟩ (x.cps.toList.map fun c=>(⟨#[bS c]⟩:Str))=ac x:=by
 dsimp only[Txt.join,Builtin.Str.glued,ac]
 cases h:x.cps.toList with
 | nil=>rfl
 | cons c cs =>
  show (⟨(cs.map fun c=>(⟨#[bS c]⟩:Str)).foldl _ #[bS c]⟩:Str)=_;rw[oe];simp
theorem wx (x:Str) (hz:x.length<=aa):JoinOk ⟨#[]⟩ (x.cps.toList.map fun c=>(⟨#[bS c]⟩:Str))=true:=by
 have:Builtin.Str.tooLong ((x.cps.toList.map fun c=>(⟨#[bS c]⟩:Str)).toArray.foldl (fun a p=>a+p.length+(⟨#[]⟩:Str).length) 0)=false:=by
  refine StrLaws.joinFits (B:=1) (fun y hy=>?_) ?_
  ·replace hy:=List.mem_map.mp hy;obtain ⟨c,_,rfl⟩:=hy;exact Qa _
  ·have:(⟨#[]⟩:Str).length=0:=rfl;rw[this,List.length_map];have:x.cps.toList.length=x.length:=rfl;rw[this];dsimp only[aa] at hz;lia
 dsimp only[JoinOk];rw[this];rfl
section
variable {prog:Program} {w:World} {z5:Heap} {K:Frag} {T:Tab} {A:Around} {s:Shared} {env:Env}
noncomputable def fm:Scope:={ kind:=.function,names:=[(⟨#[46,48]⟩,.local),(cC,.local),(iL,.globalImplicit),(ew,.globalImplicit)],isGenerator:=false,isCoroutine:=false }
theorem vF:closureFor fm env=pure []:=by
 dsimp only[closureFor,fm];simp only[List.forIn_cons,List.forIn_nil];rfl
noncomputable def my (tn:Str) (q1 q2 q3 q4 q5 q6 p3 p4 p5 p6 p7 p8 p9 p10 p11 p12 p13 p14 p15:Pos):Expr :=
 .Call (.Attribute (.Constant (.str ⟨#[]⟩) 0 q1) ⟨#[106,111,105,110]⟩ q2) [.ListComp (ii p3 p4 p5 p6 p7 p8 p9 p10 p11 p12 p13 p14 p15) [⟨.Name cC q3,.Name tn q4,[],0⟩] fm q5] [] q6
theorem AB (B:Bs prog w z5 K tab) (hA:A.handled=none) (hk:∀ b o,z5.get? b=some o->s.heap.get? b=some o) {tn:Str} {q1 q2 q3 q4 q5 q6 p3 p4 p5 p6 p7 p8 p9 p10 p11 p12 p13 p14 p15:Pos} {x:Str} {t:Tok} {m:Str->Option Value} (hz:x.length<=aa)
  (hq:(q2.endLine==q6.line)=true) (hd:(tn==("__debug__" : Str))=false) (hkf:env.scope.kind=.function) (k1:env.kindOf tn=some .local) (hg:env.globals=mainGlobals) (hb:env.builtins=builtinsNs)
  (hns:s.heap.Ns env.locals m) (hm:m tn=some (.str x t)) {Q:Value->Shared->Prop} {E:Value->Shared->Prop} (h:∀ t h' k,(∀ b o,s.heap.get? b=some o->h'.get? b=some o)->Q (.str (ac x) t) { s with heap:=h',toks:=k }) :
  wpAny (model prog w) A (eval (my tn q1 q2 q3 q4 q5 q6 p3 p4 p5 p6 p7 p8 p9 p10 p11 p12 p13 p14 p15) env) Q E s:=by
 dsimp only[my];rw[arm_eval_Call,j7 (o:=.Constant (.str ⟨#[]⟩) 0 q1) rfl];refine wpAny_bind (wpAny_Constant_str (wpAny_bind (wpAny_standAt ?_)));have few:∀ l,methodCallForm ([Expr.ListComp l [⟨.Name cC q3,.Name tn q4,[],0⟩] fm q5].length+([]:List Keyword).length) (backTo q6 (starEach [.ListComp l [⟨.Name cC q3,.Name tn q4,[],0⟩] fm q5] env)) (backToKw q6 (keywordEach [] env))=true:=fun l=>rfl
 have cw:∀ l,(do
   let callPos <- methodCallPos true (.Constant (.str ⟨#[]⟩) 0 q1) env q2 q6
   callWith callPos · · (backTo q6 (starEach [.ListComp l [⟨.Name cC q3,.Name tn q4,[],0⟩] fm q5] env)) (backToKw q6 (keywordEach [] env)):Value->List Value->Sem Value)=fun f first=>callWith q6 f first (backTo q6 (starEach [.ListComp l [⟨.Name cC q3,.Name tn q4,[],0⟩] fm q5] env)) []:=by
  intro l
  funext f first
  dsimp only[methodCallPos];rw[hq];rfl
 dsimp only[methodCall];rw[few (ii p3 p4 p5 p6 p7 p8 p9 p10 p11 p12 p13 p14 p15)];refine wpAny_bind (wpAny_holding ?_);refine GM.join ?_;have:=congrFun (congrFun (cw (ii p3 p4 p5 p6 p7 p8 p9 p10 p11 p12 p13 p14 p15)) (.builtin "str.join")) [.str ⟨#[]⟩ s.toks];dsimp only at this ⊢;rw[this];refine callWith_builtin (ff q6 rfl) ?_
 suffices L:wpAny (model prog w) A (spliced (backTo q6 (starEach [.ListComp (ii p3 p4 p5 p6 p7 p8 p9 p10 p11 p12 p13 p14 p15) [⟨.Name cC q3,.Name tn q4,[],0⟩] fm q5] env)))
   (fun vs s'=>wpAny (model prog w) A (call (.builtin "str.join") ([.str ⟨#[]⟩ s.toks]++vs)) Q E s') E { s with toks:=s.toks+1 } by
  rw[cf rfl] at L ⊢;exact evalArgs_plain L
 refine wpAny_items_cons ?_ (cf rfl []);refine wpAny_ListComp_free (cl:=[]) (fun _=>true) (fun v r=>∀ c u,v=.str ⟨#[c]⟩ u->∃ t,r=.str ⟨#[bS c]⟩ t) vF (by decide) rfl (by decide +kernel) (by decide +kernel) ?_ (fun _=>rfl);refine cU (s:={ s with toks:=s.toks+1 }) hd hkf k1 hns hm ?_
 refine wpAny_pyIter_str fun o St W hst=>?_;refine ⟨s.heap.objs.size,[s.heap.objs.size],[s.heap.objs.size],x.cps.size,SignAt x,St,rfl,W A hA,cQ hz,hst,?_,⟨?_,?_⟩,?_⟩
 ·intro b hb;show b < (s.heap.push o).objs.size;rw[Qs,List.mem_singleton.mp hb];exact Qt _
 ·intro C i v s3 m3 E' _ _ _ _ _ _;exact wpAny_pure ⟨rfl,jC s3 s3.toks⟩
 ·intro C i v s3 m3 E' hC hv _ hn3 hm3 hk3 _;obtain ⟨c,u,_,rfl⟩:=hv
  have hk3':∀ b o',z5.get? b=some o'->s3.heap.get? b=some o':=fun b o' e=>by
   have e':=hk b o' e;exact hk3 b o' (fun z=>absurd (Qg e') ((List.mem_singleton.mp z)▸Nat.lt_irrefl _)) (Qe o e')
  refine xN (env:=compEnvC fm [] C env) B hk3' rfl rfl rfl rfl rfl hg hb hn3 hm3 fun t k=>⟨fun c' u' e=>?_,jC s3 k⟩
  cases e
  exact ⟨t,rfl⟩
 ·intro D h' tk ys vs _ hl _ hlen hv hp hk';rw[List.filter_eq_self.mpr fun _ _=>rfl] at hp
  obtain ⟨l,e1,e2⟩:=rf (by rw[hlen];exact (Qw).symm) (fun j v hj=>by
   refine ag fun G0 hG0=>?_;replace hj:=hv j v hj;obtain ⟨c,u,e,e'⟩:=hj;refine hG0 ?_;exact ⟨c,u,by rw[Qq];exact e,e'⟩) hp
  refine wpAny_items_nil ?_;have hys:ys=(strValues l).toArray:=by rw[<- e1]
  refine SC.join (hys▸hl) e2 (wx x hz) fun t' k=>?_;rw[AL];refine h t' h' k fun b o' e=>hk' b o' (fun z=>absurd (Qg e) ((List.mem_singleton.mp z)▸Nat.lt_irrefl _)) (Qe o e)
end
end TE
namespace TE
set_option tactic.hygienic false
open PySem PySem.W PySem.Calls PyProof.Rows Sem
theorem pW (h:Heap) (a:Addr) (f:Obj->Obj):(h.update a f).objs.size=h.objs.size:=(Heap.SameBut.update ..).1
theorem lI {M:Model} {Γ:Ctx} {p:Pos} {t:Sem Fin} {fs:List Frame} {s s':Shared} {e:End} (h:Runs M Γ p t fs s e s'):s.heap.objs.size<=s'.heap.objs.size:=by
 induction h<;>(try simp only[Shared.setGen,Qs,pW] at *)<;>omega
theorem vU {M:Model} {Γ:Ctx} {p:Pos} {g:Nat} {r:Resume} {s s':Shared} {res:GenResult} (h:Wakes M Γ p g r s res s'):s.heap.objs.size<=s'.heap.objs.size:=by
 unfold Wakes at h
 split at h
 ·exact h.elim
 ·split at h
  ·obtain ⟨e1,s1,hr,_,_,rfl⟩:=h;exact (lI hr:(s.setGen g .running).heap.objs.size<=s1.heap.objs.size)
  ·rw[h.2];exact Qa _
  ·rw[h.2];exact Qa _
 ·obtain ⟨e1,s1,hr,_,_,rfl⟩:=h;exact (lI hr:(s.setGen g .running).heap.objs.size<=s1.heap.objs.size)
 ·rw[h.2];exact Qa _
 ·rw[h.2];exact Qa _
theorem Cb {α:Type} (M:Model) (Γ:Ctx) (n:Nat) (t:Sem α):∀ (Q:α->Pos->Shared->Prop) (E:Value->Pos->Shared->Prop) (p:Pos) (s:Shared),n<=s.heap.objs.size->wp M Γ t Q E p s ->
  wp M Γ t (fun a p' s'=>n<=s'.heap.objs.size/\Q a p' s') (fun e p' s'=>n<=s'.heap.objs.size/\E e p' s') p s:=by
 induction t with
 | pure a=>intro Q E p s hn h;exact ⟨hn,h⟩
 | raise e=>intro Q E p s hn h;exact ⟨hn,h⟩
 | unsupported _=>intro Q E p s _ h;exact h
 | finish _=>intro Q E p s _ h;exact h
 | rule _ k ih=>intro Q E p s hn h;exact ih () Q E p s hn h
 | «at» p' k ih=>intro Q E p s hn h;exact ih () Q E p' s hn h
 | load a _ k ih=>intro Q E p s hn h;obtain ⟨o,ho,h⟩:=h;exact ⟨o,ho,ih o Q E p s hn h⟩
 | update a _ f k ih=>intro Q E p s hn h;exact ⟨h.1,ih () Q E p _ (by simp only[pW];exact hn) h.2⟩
 | loadIfAlive a k ih=>intro Q E p s hn h;exact ih _ Q E p s hn h
 | point _ k ih=>intro Q E p s hn h;exact ih () Q E p s hn h
 | register _ _=>intro Q E p s _ h;exact h
 | alloc o k ih=>intro Q E p s hn h;exact ih _ Q E p _ (by simp only[Qs];exact Nat.le_add_right_of_le hn) h
 | fresh k ih=>intro Q E p s hn h;exact ih _ Q E p _ hn h
 | ask k ih=>intro Q E p s hn h;exact ih _ Q E p s hn h
 | choose src m k ih=>intro Q E p s hn h;exact ⟨h.1,ih _ Q E p _ hn h.2⟩
 | os q _ k ih=>intro Q E p s hn h;exact ih _ Q E p _ hn h
 | call c hd _ _ k ih=>intro Q E p s hn h;obtain ⟨r,s',hr,h⟩:=h;exact ⟨r,s',hr,ih r Q E p s' (Qf hn (lI hr)) h⟩
 | handled own k ih=>intro Q E p s hn h;exact ih _ Q E p s hn h
 | genState g k ih=>intro Q E p s hn h;obtain ⟨st,hs,h⟩:=h;exact ⟨st,hs,ih _ Q E p s hn h⟩
 | newGen c k ih=>intro Q E p s hn h;exact ih _ Q E p _ hn h
 | resume g r _ k ih=>intro Q E p s hn h;obtain ⟨res,s',hw,h⟩:=h;exact ⟨res,s',hw,ih res Q E p s' (Qf hn (vU hw)) h⟩
 | yield _ _ _ _=>intro Q E p s _ h;exact h
 | stack k ih=>intro Q E p s hn h;exact ih _ Q E p s hn h
 | fork _ _=>intro Q E p s _ h;exact h
 | thread k ih=>intro Q E p s hn h;exact ih _ Q E p s hn h
 | await _ _ _ _ _=>intro Q E p s _ h;exact h
theorem CG {α:Type} {M:Model} {A:Around} {s:Shared} {t:Sem α} {Q:α->Shared->Prop} {E:Value->Shared->Prop} (h:wpAny M A t Q E s) :
  wpAny M A t (fun a s'=>s.heap.objs.size<=s'.heap.objs.size/\Q a s') (fun e s'=>s.heap.objs.size<=s'.heap.objs.size/\E e s') s :=
 fun Γ p hΓ=>Cb M Γ s.heap.objs.size t _ _ p s (Qa _) (h Γ p hΓ)
theorem jD {α:Type} {M:Model} {A:Around} {s:Shared} {t:Sem α} {Q:α->Shared->Prop} {E:Value->Shared->Prop} (h:wpAny M A t (fun a s'=>s.heap.objs.size<=s'.heap.objs.size->Q a s') (fun e s'=>s.heap.objs.size<=s'.heap.objs.size->E e s') s):wpAny M A t Q E s :=
 wpAny_mono (CG h) (fun _ _ x=>x.2 x.1) (fun _ _ x=>x.2 x.1)
end TE
namespace TE
set_option backward.match.sparseCases false
set_option tactic.hygienic false
section
variable {P:Params} {z5:Heap} {ρ:Nat->Addr} {σ:List AO} {s s':Shared}
theorem Stp.frameOnly (R:Rel P z5 ρ σ s.heap) {fr:Nat} {o:AO} (hfr:fr < σ.length) (g:s'.gens=s.gens) (os:s'.os=s.os) (dr:s'.drawn=s.drawn) (hz:s.heap.objs.size<=s'.heap.objs.size)
  (hk:∀ b ob,b≠ρ fr->s.heap.get? b=some ob->s'.heap.get? b=some ob) (ho:ORel P σ.length ρ s'.heap (ρ fr) o):Stp P z5 ρ σ s ρ (σ.set fr o) s' where
 gens:=g
 os:=os
 drawn:=dr
 len:=by simp
 ext:=fun _ _=>rfl
 size:=hz
 fresh:=fun i a b=>by simp at b;lia
 other:=fun b ob hb e=>hk b ob (fun z=>hb fr hfr z.symm) e
 rel:=by
  refine ⟨Qf R.base hz,fun b ob e=>?_,fun j oj e=>?_,fun j hj=>R.high j (by simpa using hj),fun j k hj hk e=>R.inj j k (by simpa using hj) (by simpa using hk) e⟩
  ·have ne:b≠ρ fr:=Qh (Qd (Qg e) (R.high fr hfr));exact hk b ob ne (R.keep b ob e)
  ·rw[List.length_set]
   by_cases q:fr=j
   ·subst q;rw[List.getElem?_set_self hfr] at e;obtain rfl:=Qb e;exact ho
   ·rw[List.getElem?_set_ne q] at e;have hj:j < σ.length:=(Qy e).1;exact (R.own j oj e).mono (Qa _) (fun _ _=>rfl) hz fun ob h=>hk _ ob (fun z=>q (R.inj fr j hfr hj z.symm)) h
end
section
variable {prog:Program} {w:World} {z5:Heap} {K:Frag} {T:Tab} {A:Around} {es:ES} {ρ:Nat->Addr} {s:Shared} {env:Env} {fr:Nat} {scope:Scope} {cells:List (Str×Nat)}
theorem Bu {g:Str} {gp p:Pos} {a:Expr} {f:Value} {P:Heap->Prop} {Q:Value->Shared->Prop} {E:Value->Shared->Prop} (hs:b0 a=false) (hP:∀ h,P h->Keeps (model prog w) f h)
  (hg:∀ (Q:Value->Shared->Prop) E,Q f s->wpAny (model prog w) A (eval (.Name g gp) env) Q E s)
  (h:wpAny (model prog w) A (eval a env) (fun v s1=>P s1.heap/\wpAny (model prog w) A (call f [v]) Q E s1) E s):wpAny (model prog w) A (eval (.Call (.Name g gp) [a] [] p) env) Q E s:=by
 have arm:eval (.Call (.Name g gp) [a] [] p) env=(do callWith p (<- eval (.Name g gp) env) [] (backTo p (starEach [a] env)) []):=rfl;rw[arm];refine wpAny_bind (hg _ _ ?_);have plain:((backTo p (starEach [a] env)).any (·.1)||([]:List (Option Str×Sem Value)).any (·.1.isNone))=false:=by rw[ff p (by rw[List.any_cons,hs];rfl)];rfl
 have L:wpAny (model prog w) A (spliced (backTo p (starEach [a] env))) (fun vs s'=>P s'.heap/\wpAny (model prog w) A (call f vs) Q E s') E s :=
  wpAny_items_cons (wpAny_mono h (fun v s' h'=>wpAny_items_nil h') fun _ _ x=>x) (cf hs [])
 rw[cf hs] at L plain ⊢;exact callWith_of (P:=P) plain hP (evalArgs_plain (wpAny_mono L (fun vs s' h'=>h') fun _ _ x=>x))
noncomputable def rn:List Nat:=[1,0,0,0,0,0,0,0]
noncomputable def rm:List Nat:=[1,0,0,1,0,0,0,0,0]
noncomputable def nF (k:Int):List AO:=[.ns [(⟨#[99,111,100,101,112,111,105,110,116]⟩,.sint k)],.tuple [.int 65534,.int 65535]]
theorem inv0 (k:Int):db tab bu fD 1 84 [.sint k] ⟨[],rn⟩=some (.bool false,⟨nF k,[]⟩,[bZ .LtE 1 k,¬ bZ .LtE k 8,¬ (k=11),¬ bZ .LtE 14 k,¬ bZ .LtE 127 k,¬ bZ .LtE 64976 k,¬ (Int.fmod k 65536∈[(65534:Int),65535]),¬ bZ .LtE 55296 k]):=by kernel_rfl
theorem G1 (k:Int):db tab bu fD 1 84 [.sint k] ⟨[],rm⟩=some (.bool false,⟨nF k,[]⟩,[bZ .LtE 1 k,¬ bZ .LtE k 8,¬ (k=11),bZ .LtE 14 k,¬ bZ .LtE k 31,¬ bZ .LtE 127 k,¬ bZ .LtE 64976 k,¬ (Int.fmod k 65536∈[(65534:Int),65535]),¬ bZ .LtE 55296 k]):=by kernel_rfl
theorem lO:kj prog w z5 bu:=fun _ _ _ _ _ _=>⟨fun _ _ _ _ _ _=>Tr.fail,fun _ _ _ _ _ _ _ _=>Tr.fail,fun _ _ _=>Tr.fail⟩
theorem jG:∀ f g,fD f=some g->jf prog w z5 f g:=fun _ _ e=>non e
theorem xG:∀ f g,fD f=some g->FnH z5 f:=fun _ _ e=>non e
theorem uK (B:Bt prog w z5 K tab) (hT:∀ f r,tab.fn f=some r->bP w z5 f r) (hA:A.handled=none) (hd:A.depth<=896) (hb:z5.objs.size<=s.heap.objs.size) (hk:∀ b o,z5.get? b=some o->s.heap.get? b=some o) {c:Nat} {t:Tok} (hc:cD c)
  {Q:Value->Shared->Prop} {E:Value->Shared->Prop} (h:∀ s',s'.gens=s.gens->s'.os=s.os->s'.drawn=s.drawn->s.heap.objs.size<=s'.heap.objs.size->(∀ b o,s.heap.get? b=some o->s'.heap.get? b=some o)->Q (.bool false) s') :
  wpAny (model prog w) A (call (.ref 84) [.int c t]) Q E s:=by
 have R:Rel w.params z5 (fun _=>0) [] s.heap:=⟨hb,hk,fun i o e=>by simp at e,fun i hi=>absurd hi (Nat.not_lt_zero _),fun i j hi=>absurd hi (Nat.not_lt_zero _)⟩;have C:=gE B lO jG hT 1 A ⟨hA,by simp[*]⟩
 have fin:∀ (dec:List Nat) (pc:List Prop),db tab bu fD 1 84 [.sint c] ⟨[],dec⟩=some (.bool false,⟨nF c,[]⟩,pc)->(∀ p∈pc,p)->wpAny (model prog w) A (call (.ref 84) [.int c t]) Q E s:=fun dec pc e hp=>by
  refine wpAny_mono ((C ⟨[],dec⟩ (fun _=>0) s 84 [.sint c] [.int c t] R ⟨⟨t,rfl⟩,trivial⟩).wp _ _ _ e hp) (fun v s' zz=>?_) fun _ _ x=>x.elim;obtain ⟨ρ',S,r⟩:=zz;rw[show v=.bool false from r];exact h s' S.gens S.os S.drawn S.size fun b o e=>S.other b o (fun i hi=>absurd hi (Nat.not_lt_zero _)) e
 rcases hc with rfl | ⟨h1,h2⟩
 ·refine fin rn _ (inv0 _) fun p hp=>?_;simp only[List.mem_cons,List.not_mem_nil,or_false] at hp;rcases hp with rfl | rfl | rfl | rfl | rfl | rfl | rfl | rfl<;>simp[bZ]<;>decide
 ·refine fin rm _ (G1 _) fun p hp=>?_;have e:Int.fmod (c:Int) 65536=c:=Int.fmod_eq_of_lt (by exact Int.natCast_nonneg c) (by lia);simp only[List.mem_cons,List.not_mem_nil,or_false] at hp;rcases hp with rfl | rfl | rfl | rfl | rfl | rfl | rfl | rfl | rfl<;>(try simp only[bZ,e,List.mem_cons,List.not_mem_nil,or_false])<;>lia
theorem Ak {α:Type} {l:List α} {i:Nat} {a:α} (h:l[i]?=some a):l.set i a=l:=by
 refine List.ext_getElem? fun j=>?_;rw[List.getElem?_set]
 split
 ·rename_i q;subst q;rw[h];simp[(Qy h).1]
 ·rfl
theorem uj {st:Stmt} {Q:Flow->Shared->Prop} {E:Value->Shared->Prop} (h:wpAny (model prog w) A (exec st env) (fun f s'=>match f with | .next=>Q .next s' | f=>Q f s') E s):wpAny (model prog w) A (execs [st] env) Q E s:=by
 rw[execs_cons];refine wpAny_bind (wpAny_mono h (fun f s' h'=>?_) fun _ _ x=>x)
 cases f<;>first | exact wpAny_execs_nil h' | exact wpAny_pure h'
noncomputable def jo:Str:=⟨#[100,97,116,97]⟩
noncomputable def gA:Str:=⟨#[95,105,115,95,105,110,118,97,108,105,100]⟩
inductive uh (z5:Heap) (L:Addr) (m:Str->Option Value) (s:Shared) (St:Nat->Heap->Prop) (N n:Nat) (s1:Shared):Prop
 | mk (i:Nat) (hi:i<=N) (hn:n=N+1 - i) (hst1:St i s1.heap) (g1:s1.gens=s.gens) (o1:s1.os=s.os) (d1:s1.drawn=s.drawn) (m1:Str->Option Value) (hns1:s1.heap.Ns L m1) (hm1:∀ y,y≠cC->m1 y=m y) (b1:z5.objs.size<=s1.heap.objs.size)
  (k1':∀ b o,b≠L->s.heap.get? b=some o->s1.heap.get? b=some o):uh z5 L m s St N n s1
inductive ug (L:Addr) (m:Str->Option Value) (s:Shared) (r:Result) (s':Shared):Prop
 | mk (e:r=.ok .next) (g:s'.gens=s.gens) (o1:s'.os=s.os) (d:s'.drawn=s.drawn) (m':Str->Option Value) (hn':s'.heap.Ns L m') (hm':∀ y,y≠cC->m' y=m y) (hk:∀ b o,b≠L->s.heap.get? b=some o->s'.heap.get? b=some o):ug L m s r s'
theorem Eu (B:Bt prog w z5 K tab) (hT:∀ f r,tab.fn f=some r->bP w z5 f r) (hA:A.handled=none) (hd:A.depth<=889) (hR:Rel w.params z5 ρ es.hp s.heap) (hE:EnvR es.hp.length ρ env fr scope []) {p1 p2 p3 p4 p5 p6 p7 p8 p9:Pos} {then_:List Stmt} {x:Str} {loc:List (Str×AV)}
  (hloc:es.hp[fr]?=some (.ns loc)) (hx:lk loc jo=some (.sstr x)) (hnc:lk loc cC=none) (hz:x.length<=aa) (ok:∀ c∈x.cps.toList,cD c)
  (k1:env.kindOf cC=some .local) (k2:env.kindOf gA=some .globalImplicit) (k3:env.kindOf ew=some .globalImplicit) (k4:env.kindOf jo=some .local) :
  wpAny (model prog w) A (exec (.For (.Name cC p1) (.Name jo p2) [.If (.Call (.Name gA p3) [.Call (.Name ew p4) [.Name cC p5] [] p6] [] p7) then_ [] p8] [] p9) env) (fun f s'=>f=.next/\Stp w.params z5 ρ es.hp s ρ es.hp s') (fun _ _=>False) s:=by
 have hkf:env.scope.kind=.function:=by rw[hE.hscope];exact hE.hkind
 have hbk:=oh hE;have dC:(cC==("__debug__" : Str))=false:=by decide +kernel
 have dD:(jo==("__debug__" : Str))=false:=by decide +kernel
 have dOrd:(ew==("__debug__" : Str))=false:=by decide +kernel
 have dInv:(gA==("__debug__" : Str))=false:=by decide +kernel
 refine ag fun G0 hG0=>?_;obtain ⟨m,hns,hm⟩:=hR.at hloc;obtain ⟨vx,mx,t,rfl⟩:=hm _ _ hx;refine hG0 ?_;rw[<- hE.hloc] at hns;have hL0:z5.objs.size<=env.locals:=by rw[hE.hloc];exact hR.high fr hE.hfr
 have Lne:∀ b o,z5.get? b=some o->b≠env.locals:=fun b o e=>Qh (Qd (Qg e) hL0);have hI:env.locals≠s.heap.objs.size:=Qh hns.lt;have sne:∀ b o,s.heap.get? b=some o->b≠s.heap.objs.size:=fun b o e=>Qh (Qg e)
 obtain ⟨Ki,Xi,fi⟩:FnH z5 84:=by
  have e:=(show ∃ r,tab.fn 84=some r from Option.isSome_iff_exists.mp (by kernel_rfl));refine ag fun G0 hG0=>?_;obtain ⟨r,e⟩:=e;obtain ⟨K',oc,od,osl,fd,X,k1,_⟩:=(hT 84 r e).ok;refine hG0 ?_;exact ⟨K',X,by unfold fnIn;rw[k1]⟩
 refine jD ?_;refine wpAny_For (cU dD hkf k4 hns mx (wpAny_pyIter_str fun o St W0 hst=>?_)) (fun _=>rfl);have W:=W0 A hA
 refine codeAny_mono (codeAny_forLoop_any (R:=ug env.locals m s) (uh z5 env.locals m s St x.cps.size)
  (fun n s1 hI1=>?_) (x.cps.size+1) ⟨0,Qu _,rfl,hst,rfl,rfl,rfl,m,hns.push _,fun _ _=>rfl,Qf hR.base (by rw[Qs];exact Nat.le_succ _),fun b o' _ e=>Qe _ e⟩) fun r s' z=>?_
 ·refine ag fun G0 hG0=>?_;obtain ⟨i,hi,rfl,hst1,g1,o1,d1,m1,hns1,hm1,b1,k1'⟩:=hI1;refine hG0 ?_
  by_cases hlt:i < x.cps.size
  ·refine jD (W.item i s1 _ _ hlt hst1 fun v h' tk hv hst2 hk2 hsz2=>?_);obtain ⟨c,u,hcx,rfl⟩:=hv
   have hokc:cD c:=ok c (by
    have:=Qq (xs:=x.cps) (i:=i);rw[hcx] at this;exact Ql this)
   have hns2:h'.Ns env.locals m1:=hns1.at fun o e=>hk2 _ o (by simpa using hI) e;refine wpAny_pure (wpAny_assign_Name (wpAny_storeName_local (s:={ s1 with heap:=h',toks:=tk }) k1 hns2 (fun h2 hn2 hs2=>?_) (by rw[hkf];rfl)))
   have st3:St (i+1) h2:=W.frame _ _ _ hst2 fun b hb o e=>hs2.2 b (by rw[List.mem_singleton.mp hb];exact hI.symm) |>.trans e
   have kk:∀ b o,z5.get? b=some o->h2.get? b=some o:=fun b o e=>by
    have e1:=hR.keep b o e;exact (hs2.2 b (Lne b o e)).trans (hk2 b o (by simpa using sne b o e1) (k1' b o (Lne b o e) e1))
   have hb2:z5.objs.size<=h2.objs.size:=Qf b1 (by rw[hs2.1];exact hsz2);refine uj (wpAny_If ?_)
   have arm:∀ e:Expr,isTrue (.Call (.Name gA p3) [e] [] p7) env (eval (.Call (.Name gA p3) [e] [] p7) env)=(do
    let v <- eval (.Call (.Name gA p3) [e] [] p7) env
    standAt p7
    holding [v] (truthy v)):=fun e=>rfl
   rw[arm];refine wpAny_bind (Bu (P:=fun h=>Ki.In h) rfl (fun h X=>keeps_K (rz fi) h X) (fun Q E hq=>f7 (s:={ s1 with heap:=h2,toks:=tk+1 }) (T:=tab) B.toBs kk (x:=gA) (v:=.ref 84) (.inl rfl) dInv hkf hbk k2 hE.hglob hE.hblt hq) ?_)
   refine hU rfl (fun Q E hq=>f7 (s:={ s1 with heap:=h2,toks:=tk+1 }) (T:=tab) B.toBs kk (x:=ew) (v:=.builtin "ord") (.inr ⟨BI.ord,rfl,rfl⟩) dOrd hkf hbk k3 hE.hglob hE.hblt hq) ?_
   refine cU (s:={ s1 with heap:=h2,toks:=tk+1 }) dC hkf k1 hn2 (if_pos rfl) (P.ord_of_char ⟨Xi.keeps kk,?_⟩)
   refine uK (s:={ s1 with heap:=h2,toks:=tk+1+1 }) B hT hA (by lia) hb2 kk hokc fun s3 g3 o3 d3 z3 k3'=>wpAny_bind (wpAny_standAt (wpAny_holding (wpAny_truthy_bool ?_)))
   show wpAny (model prog w) A (execs [] env) _ _ s3
   refine wpAny_execs_nil ⟨x.cps.size+1 - (i+1),by lia,i+1,hlt,rfl,W.frame _ _ _ st3 fun b _ o e=>k3' b o e,g3.trans g1,o3.trans o1,d3.trans d1,_,hn2.at fun o e=>k3' _ o e,fun y hy=>by
    show (if y=cC then _ else m1 y)=m y
    rw[if_neg hy];exact hm1 y hy,Qf hb2 z3,fun b o hb e=>k3' b o ((hs2.2 b hb).trans (hk2 b o (by simpa using sne b o e) (k1' b o hb e)))⟩
  ·have hin:i=x.cps.size:=by lia
   subst hin;refine W.done s1 _ _ hst1 fun h' tk hk2=>wpAny_execs_nil ⟨rfl,g1,o1,d1,m1,hns1.at fun o e=>hk2 _ o (by simpa using hI) e,hm1,fun b o hb e=>hk2 b o (by simpa using sne b o e) (k1' b o hb e)⟩
 ·refine ag fun G0 hG0=>?_;obtain ⟨rfl,g,o1,d,m',hn',hm',hk⟩:=z;refine hG0 ?_;intro hz';refine ⟨rfl,?_⟩;have:=Stp.frameOnly (o:=.ns loc) hR hE.hfr g o1 d hz' (fun b o hb e=>hk b o (by rw[hE.hloc];exact hb) e) ⟨m',by rw[<- hE.hloc];exact hn',fun y av hy=>?_⟩
  ·rw[Ak hloc] at this;exact this
  ·have ne:y≠cC:=fun z=>by subst z;rw[hnc] at hy;exact non hy
   replace hy:=hm y av hy;obtain ⟨v,e1,e2⟩:=hy;exact ⟨v,(hm' y ne).trans e1,e2⟩
end
end TE
namespace TE
set_option backward.match.sparseCases false
set_option tactic.hygienic false
section
variable {T:Tab} {call:Addr->List AV->EM AV} {hook:cy} {fr:Nat} {sc:Scope} {cells:List (Str×Nat)}
theorem bC {α β:Type} {m:EM α} {f:α->EM β} {es es1 es2:ES} {a:α} {b:β} {p1 p2:List Prop} (h1:m es=some (a,es1,p1)) (h2:f a es1=some (b,es2,p2)):(m>>=f) es=some (b,es2,p1++p2):=by
 show EM.bnd m f es=_;unfold EM.bnd;rw[h1];dsimp only;rw[h2]
theorem ig {es:ES} {i:Nat} {o:AO} (h:es.hp[i]?=some o):EM.obj i es=some (o,es,[]):=by unfold EM.obj;rw[h]
theorem i7 {n:Nat} {es:ES} {x:Str} {p:Pos} {loc:List (Str×AV)} {a:AV} (h:es.hp[fr]?=some (.ns loc)) (hd:seq x ("__debug__" : Str)=false) (hs:lk sc.names x=some .local) (hx:lk loc x=some a) :
  (ev T call hook fr sc cells (n+1)).e (.Name x p) es=some (a,es,[]):=by
 show EM.chk (!seq x ("__debug__" : Str)) (eI T fr sc cells x) es=_;rw[hd];show eI T fr sc cells x es=_;unfold eI;rw[hs];dsimp only;have e1:locals fr es=some (loc,es,[]):=bC (p1:=[]) (p2:=[]) (ig h) rfl;refine bC (p1:=[]) (p2:=[]) e1 ?_;rw[hx];rfl
theorem rO {n:Nat} {es:ES} {x nm:Str} {p q:Pos} {loc l:List (Str×AV)} {i d:Nat} {C:Addr} {a:AV} (h:es.hp[fr]?=some (.ns loc)) (hd:seq x ("__debug__" : Str)=false) (hs:lk sc.names x=some .local) (hx:lk loc x=some (.ptr i))
  (h1:es.hp[i]?=some (.inst C d)) (h2:es.hp[d]?=some (.dict l)) (h3:lk l nm=some a) (h4:lk (T.cls C) nm=some .absent) (h5:∀ es,iC a es=some (a,es,[])) :
  (ev T call hook fr sc cells (n+2)).e (.Attribute (.Name x p) nm q) es=some (a,es,[]):=by
 show EM.chk (gD (.Name x p)) _ es=_;have:gD (.Name x p)=true:=rfl;rw[this];show ((ev T call hook fr sc cells (n+1)).e (.Name x p)>>=fun ov=>jP T ov nm) es=_;refine bC (p1:=[]) (p2:=[]) (i7 h hd hs hx) ?_
 show (ij i>>=fun r=>match lk r.2.2 nm,lk (T.cls r.1) nm with
  | some a,some .absent=>iC a
  | none,some (.val a)=>EM.ret a
  | none,some (.fn f)=>EM.new (.meth f (.ptr i))>>=fun p=>EM.ret (.ptr p)
  | _,_=>EM.fail) es=_
 have e1:ij i es=some ((C,d,l),es,[]):=by
  refine bC (p1:=[]) (p2:=[]) (ig h1) ?_;exact bC (p1:=[]) (p2:=[]) (ig h2) rfl
 refine bC (p1:=[]) (p2:=[]) e1 ?_;dsimp only;rw[h3,h4];exact h5 es
noncomputable def dc:Str:=⟨#[115,101,108,102]⟩
noncomputable def cEnd:Str:=⟨#[101,110,100]⟩
noncomputable def gj:Str:=⟨#[99,104,117,110,107]⟩
noncomputable def kM:Str:=⟨#[99,104,117,110,107,83,105,122,101]⟩
noncomputable def ik:Str:=⟨#[99,104,97,114,97,99,116,101,114,115]⟩
noncomputable def lg:Str:=⟨#[111,112,112,111,115,105,116,101]⟩
noncomputable def isP (b:Bool) (p:Prop):Prop:=match b with | false=>¬ p | true=>p
noncomputable def nZ (b:Bool):Nat:=match b with | false=>0 | true=>1
noncomputable def km (p1 p2 p3 p4:Pos):Expr:=.Compare (.Name cEnd p1) [.NotEq] [.Attribute (.Name dc p2) kM p3] p4
noncomputable def jh (p5 p6 p7 p8 p9 p10 p11 p12:Pos):Expr:=.Compare (.Compare (.Subscript (.Attribute (.Name dc p5) gj p6) (.Name cEnd p7) p8) [.In] [.Name ik p9] p10) [.Eq] [.Name lg p11] p12
noncomputable def fJ (p1 p2 p3 p4 p5 p6 p7 p8 p9 p10 p11 p12 p13:Pos):Expr:=.BoolOp .And [km p1 p2 p3 p4,jh p5 p6 p7 p8 p9 p10 p11 p12] p13
noncomputable def iJ (p14 p15 p16:Pos):Stmt:=.AugAssign (.Name cEnd p14) .Add (.Constant (.int 1) 0 p15) p16
structure RunAt (hp:List AO) (fr:Nat) (sc:Scope) (loc:List (Str×AV)) (e n:Int) (x:Str) (l:List Str) (opp:Bool):Prop where
 here:hp[fr]?=some (.ns loc)
 s1:lk sc.names dc=some .local
 s2:lk sc.names ik=some .local
 s3:lk sc.names lg=some .local
 s4:lk sc.names cEnd=some .local
 end_:lk loc cEnd=some (.sint e)
 opp_:lk loc lg=some (.bool opp)
 self_:∃ i d sd nn q,lk loc dc=some (.ptr i)/\hp[i]?=some (.inst 166 d)/\hp[d]?=some (.dict sd)/\lk sd gj=some (.sstr x)/\lk sd kM=some nn/\aY nn=some (n,q)
 chars_:∃ ch xs,lk loc ik=some ch/\(∀ dec,cv tab ch ⟨hp,dec⟩=some (.tuple xs,⟨hp,dec⟩,[]))/\bQ xs=some l
theorem qb {k:Nat} {hp:List AO} {loc:List (Str×AV)} {e n:Int} {x:Str} {l:List Str} {opp:Bool} (R:RunAt hp fr sc loc e n x l opp) {b:Nat} {dec:List Nat} (p1 p2 p3 p4:Pos) :
  (ev tab call hook fr sc cells (k+3)).t (km p1 p2 p3 p4) ⟨hp,(match b with | 0=>0 | _+1=>1)::dec⟩=some ((match b with | 0=>false | _+1=>true),⟨hp,dec⟩,[(match b with | 0=>¬ (e≠n) | _+1=>e≠n)]):=by
 obtain ⟨i,d,sd,nn,q,r1,r2,r3,r4,r5,r6⟩:=R.self_;generalize hdd:(match b with | 0=>0 | _+1=>1)::dec=dd
 show ((ev tab call hook fr sc cells (k+2)).e (.Name cEnd p1)>>=fun a=>(ev tab call hook fr sc cells (k+2)).e (.Attribute (.Name dc p2) kM p3)>>=fun b=>fe tab .NotEq a b>>=fun v=>match v with
  | .bool c=>EM.ret c
  | _=>EM.fail) ⟨hp,dd⟩=_
 refine bC (p1:=[]) (i7 (n:=k+1) R.here rfl R.s4 R.end_) ?_
 have own:∀ es,iC nn es=some (nn,es,[]):=fun es=>by
  cases nn<;>first | rfl | exact non r6
 refine bC (p1:=[]) (rO (n:=k) R.here rfl R.s1 r1 r2 r3 r5 (by kernel_rfl) own) ?_
 show ((match aY (.sint e),aY nn with
  | some (x,_),some (y,_)=>EM.ask (x≠y)>>=fun c=>EM.ret (AV.bool c)
  | _,_=>EM.fail)>>=_) _=_
 rw[r6];subst hdd
 cases b with
 | zero=>rfl
 | succ _=>rfl
theorem zT {k:Nat} {hp:List AO} {loc:List (Str×AV)} {e n:Int} {x:Str} {l:List Str} {opp:Bool} (R:RunAt hp fr sc loc e n x l opp) {b:Bool} {dec:List Nat} (p5 p6 p7 p8 p9 p10 p11 p12:Pos) :
  (ev tab call hook fr sc cells (k+5)).t (jh p5 p6 p7 p8 p9 p10 p11 p12) ⟨hp,nZ b::dec⟩ =
   some (b==opp,⟨hp,dec⟩,[0<=e/\e < (x.length:Int)/\x.length<=aa,isP b ((⟨#[x.cps.getD e.toNat 0]⟩:Str)∈l)]):=by
 refine ag fun G0 hG0=>?_;obtain ⟨i,d,sd,nn,q,r1,r2,r3,r4,r5,r6⟩:=R.self_;obtain ⟨ch,xs,c1,c2,c3⟩:=R.chars_;refine hG0 ?_;generalize hdd:nZ b::dec=dd
 show ((ev tab call hook fr sc cells (k+4)).e (.Compare (.Subscript (.Attribute (.Name dc p5) gj p6) (.Name cEnd p7) p8) [.In] [.Name ik p9] p10)>>=fun a=>(ev tab call hook fr sc cells (k+4)).e (.Name lg p11)>>=fun b=>fe tab .Eq a b>>=fun v=>match v with
  | .bool c=>EM.ret c
  | _=>EM.fail) ⟨hp,dd⟩=_
 have inner:(ev tab call hook fr sc cells (k+4)).e (.Compare (.Subscript (.Attribute (.Name dc p5) gj p6) (.Name cEnd p7) p8) [.In] [.Name ik p9] p10) ⟨hp,dd⟩ =
   some (.bool b,⟨hp,dec⟩,[0<=e/\e < (x.length:Int)/\x.length<=aa,isP b ((⟨#[x.cps.getD e.toNat 0]⟩:Str)∈l)]):=by
  show ((ev tab call hook fr sc cells (k+3)).e (.Subscript (.Attribute (.Name dc p5) gj p6) (.Name cEnd p7) p8)>>=fun a=>(ev tab call hook fr sc cells (k+3)).e (.Name ik p9)>>=fun b=>fe tab .In a b) ⟨hp,dd⟩=_
  have sub:(ev tab call hook fr sc cells (k+3)).e (.Subscript (.Attribute (.Name dc p5) gj p6) (.Name cEnd p7) p8) ⟨hp,dd⟩=some (.sstr ⟨#[x.cps.getD e.toNat 0]⟩,⟨hp,dd⟩,[0<=e/\e < (x.length:Int)/\x.length<=aa]):=by
   show ((ev tab call hook fr sc cells (k+2)).e (.Attribute (.Name dc p5) gj p6)>>=fun ov=>(ev tab call hook fr sc cells (k+2)).e (.Name cEnd p7)>>=fun iv=>fu tab ov iv) ⟨hp,dd⟩=_;refine bC (p1:=[]) (rO (n:=k) R.here rfl R.s1 r1 r2 r3 r4 (by kernel_rfl) fun _=>rfl) ?_;refine bC (p1:=[]) (i7 (n:=k+1) R.here rfl R.s4 R.end_) ?_;rfl
  refine bC sub ?_;refine bC (p1:=[]) (i7 (n:=k+2) R.here rfl R.s2 c1) ?_
  show (cv tab ch>>=fun o=>match o with
   | .tuple xs=>gy (.sstr ⟨#[x.cps.getD e.toNat 0]⟩) xs>>=fun c=>EM.ret (AV.bool c)
   | _=>EM.fail) ⟨hp,dd⟩=_
  refine bC (p1:=[]) (c2 dd) ?_;show ((match bQ xs with | some l=>EM.ask ((⟨#[x.cps.getD e.toNat 0]⟩:Str)∈l) | none=>EM.fail)>>=fun c=>EM.ret (AV.bool c)) ⟨hp,dd⟩=_
  rw[c3];subst hdd
  cases b<;>rfl
 refine bC (p2:=[]) inner ?_;refine bC (p1:=[]) (i7 (n:=k+3) R.here rfl R.s3 R.opp_) ?_;rfl
theorem vj {k:Nat} {hp:List AO} {loc:List (Str×AV)} {e n:Int} {x:Str} {l:List Str} {opp:Bool} (R:RunAt hp fr sc loc e n x l opp) {dec:List Nat} (p1 p2 p3 p4 p5 p6 p7 p8 p9 p10 p11 p12 p13:Pos) :
  (ev tab call hook fr sc cells (k+6)).t (fJ p1 p2 p3 p4 p5 p6 p7 p8 p9 p10 p11 p12 p13) ⟨hp,0::dec⟩=some (false,⟨hp,dec⟩,[¬ (e≠n)]):=by
 show ((ev tab call hook fr sc cells (k+5)).t (km p1 p2 p3 p4)>>=fun b=>match BoolOp.And,b with
  | .And,false=>EM.ret false
  | .Or,true=>EM.ret true
  | _,_=>iM (ev tab call hook fr sc cells (k+5)).t .And [jh p5 p6 p7 p8 p9 p10 p11 p12]) ⟨hp,0::dec⟩=_
 exact bC (p2:=[]) (qb (k:=k+2) R (b:=0) p1 p2 p3 p4) rfl
theorem oV {k:Nat} {hp:List AO} {loc:List (Str×AV)} {e n:Int} {x:Str} {l:List Str} {opp:Bool} (R:RunAt hp fr sc loc e n x l opp) {b:Bool} {dec:List Nat} (p1 p2 p3 p4 p5 p6 p7 p8 p9 p10 p11 p12 p13:Pos) :
  (ev tab call hook fr sc cells (k+6)).t (fJ p1 p2 p3 p4 p5 p6 p7 p8 p9 p10 p11 p12 p13) ⟨hp,1::nZ b::dec⟩ =
   some (b==opp,⟨hp,dec⟩,[e≠n]++[0<=e/\e < (x.length:Int)/\x.length<=aa,isP b ((⟨#[x.cps.getD e.toNat 0]⟩:Str)∈l)]):=by
 show ((ev tab call hook fr sc cells (k+5)).t (km p1 p2 p3 p4)>>=fun b=>match BoolOp.And,b with
  | .And,false=>EM.ret false
  | .Or,true=>EM.ret true
  | _,_=>iM (ev tab call hook fr sc cells (k+5)).t .And [jh p5 p6 p7 p8 p9 p10 p11 p12]) ⟨hp,1::_⟩=_
 refine bC (qb (k:=k+2) R (b:=1) p1 p2 p3 p4) ?_
 show ((ev tab call hook fr sc cells (k+5)).t (jh p5 p6 p7 p8 p9 p10 p11 p12)>>=fun b=>match BoolOp.And,b with
  | .And,false=>EM.ret false
  | .Or,true=>EM.ret true
  | _,_=>iM (ev tab call hook fr sc cells (k+5)).t .And []) _=_
 refine bC (p2:=[]) (zT (k:=k) R (b:=b) p5 p6 p7 p8 p9 p10 p11 p12) ?_
 cases b==opp<;>rfl
theorem Er {k:Nat} {hp:List AO} {loc:List (Str×AV)} {e n:Int} {x:Str} {l:List Str} {opp:Bool} (R:RunAt hp fr sc loc e n x l opp) {dec:List Nat} (p14 p15 p16:Pos) :
  cH (ev tab call hook fr sc cells (k+2)).s [iJ p14 p15 p16] ⟨hp,dec⟩=some (.next,⟨hp.set fr (.ns (put loc cEnd (.sint (e+1)))),dec⟩,[]):=by
 have one:(ev tab call hook fr sc cells (k+2)).s (iJ p14 p15 p16) ⟨hp,dec⟩=some (.next,⟨hp.set fr (.ns (put loc cEnd (.sint (e+1)))),dec⟩,[]):=by
  show (eI tab fr sc cells cEnd>>=fun old=>(ev tab call hook fr sc cells (k+1)).e (.Constant (.int 1) 0 p15)>>=fun v=>g0 .Add old v>>=fun new=>putName fr sc cells cEnd new>>=fun _=>EM.ret AF.next) ⟨hp,dec⟩=_;have e1:locals fr ⟨hp,dec⟩=some (loc,⟨hp,dec⟩,[]):=bC (p1:=[]) (p2:=[]) (ig R.here) rfl
  have g:eI tab fr sc cells cEnd ⟨hp,dec⟩=some (.sint e,⟨hp,dec⟩,[]):=by
   unfold eI;rw[R.s4];refine bC (p1:=[]) (p2:=[]) e1 ?_;rw[R.end_];rfl
  refine bC (p1:=[]) (p2:=[]) g ?_;refine bC (p1:=[]) (p2:=[]) (a:=.int 1) (es1:=⟨hp,dec⟩) rfl ?_;refine bC (p1:=[]) (p2:=[]) (a:=.sint (e+1)) (es1:=⟨hp,dec⟩) rfl ?_
  have pn:putName fr sc cells cEnd (.sint (e+1)) ⟨hp,dec⟩=some ((),⟨hp.set fr (.ns (put loc cEnd (.sint (e+1)))),dec⟩,[]):=by
   unfold putName;rw[R.s4];exact bC (p1:=[]) (p2:=[]) e1 rfl
  exact bC (p1:=[]) (p2:=[]) pn rfl
 show ((ev tab call hook fr sc cells (k+2)).s (iJ p14 p15 p16)>>=fun fl=>match fl with
  | .next=>cH (ev tab call hook fr sc cells (k+2)).s []
  | fl=>EM.ret fl) ⟨hp,dec⟩=_
 exact bC (p1:=[]) (p2:=[]) one rfl
end
end TE
namespace TE
set_option tactic.hygienic false
theorem mu {α:Type} (x:Str) (u v:α):∀ l:List (Str×α),put (put l x u) x v=put l x v
 | []=>by
  show (match seq x x with | true=>_ | false=>_)=_
  have:seq x x=true:=(bt x x).mpr rfl;rw[this];rfl
 | (k,a)::r=>by
  have one:∀ (b:α) (l:List (Str×α)) (z:α),put ((k,b)::l) x z=(match seq k x with | true=>(k,z)::l | false=>(k,b)::put l x z):=fun _ _ _=>rfl
  cases q:seq k x with
  | true=>rw[one,one,q];dsimp only;rw[one,q]
  | false=>rw[one,one,q];dsimp only;rw[one,q,mu x u v r]
theorem qc {p:Nat->Bool}:∀ {cs:List Nat} {j:Nat},j < (cs.takeWhile p).length->∃ c,cs[j]?=some c/\p c=true
 | [],j,h=>absurd h (Nat.not_lt_zero _)
 | c::cs,j,h=>by
  rw[List.takeWhile_cons] at h
  cases q:p c with
  | false=>rw[q] at h;exact absurd h (Nat.not_lt_zero _)
  | true =>
   rw[q] at h
   cases j with
   | zero=>exact ⟨c,rfl,q⟩
   | succ j=>exact qc (cs:=cs) (Nat.lt_of_succ_lt_succ h)
theorem qd {p:Nat->Bool}:∀ {cs:List Nat} {c:Nat},cs[(cs.takeWhile p).length]?=some c->p c=false
 | [],c,h=>non h
 | a::cs,c,h=>by
  rw[List.takeWhile_cons] at h
  cases q:p a with
  | false =>
   rw[q] at h;obtain rfl:=Qb h;exact q
  | true =>
   rw[q] at h;exact qd (cs:=cs) h
theorem qJ {p:Nat->Bool}:∀ (cs:List Nat),(cs.takeWhile p).length<=cs.length
 | []=>Qa _
 | a::cs=>by
  refine List.takeWhile_cons▸?_
  cases p a with
  | false=>exact Qu _
  | true=>exact Nat.succ_le_succ (qJ cs)
section
variable {prog:Program} {w:World} {z5:Heap} {K:Frag} {A:Around} {es:ES} {ρ:Nat->Addr} {s:Shared} {env:Env} {fr:Nat} {sc:Scope} {cells:List (Str×Nat)}
theorem pR {ch:AV} {hp:List AO} {fr:Nat} {loc:List (Str×AV)} {o:AO} {xs:List AV} (h:hp[fr]?=some (.ns loc)) (e:∀ dec,cv tab ch ⟨hp,dec⟩=some (.tuple xs,⟨hp,dec⟩,[])) (dec:List Nat) :
  cv tab ch ⟨hp.set fr o,dec⟩=some (.tuple xs,⟨hp.set fr o,dec⟩,[]):=by
 cases ch with
 | ptr i =>
  have e1:=e [];obtain ⟨q,_,_⟩:=bG (show EM.obj i ⟨hp,[]⟩=_ from e1);have ne:fr≠i:=fun z=>by subst z;rw[h] at q;cases q
  exact ig (by show (hp.set fr o)[i]?=_;rw[List.getElem?_set_ne ne];exact q)
 | con c =>
  cases c with
  | ref a =>
   obtain ⟨q,_,_⟩:=dY (show EM.lift (tab.cobj a) ⟨hp,[]⟩=_ from e []);show EM.lift (tab.cobj a) _=_;rw[q];rfl
  | _=>have:=e [];exact non this
 | _=>have:=e [];exact non this
theorem RunAt.next {hp:List AO} {loc:List (Str×AV)} {e n:Int} {x:Str} {l:List Str} {opp:Bool} (R:RunAt hp fr sc loc e n x l opp) (e':Int) :
  RunAt (hp.set fr (.ns (put loc cEnd (.sint e')))) fr sc (put loc cEnd (.sint e')) e' n x l opp:=by
 have hl:=(Qy R.here).1;obtain ⟨i,d,sd,nn,q,r1,r2,r3,r4,r5,r6⟩:=R.self_;obtain ⟨ch,xs,c1,c2,c3⟩:=R.chars_;have ni:fr≠i:=fun z=>by subst z;rw[R.here] at r2;cases r2
 have nd:fr≠d:=fun z=>by subst z;rw[R.here] at r3;cases r3
 refine ⟨List.getElem?_set_self hl,R.s1,R.s2,R.s3,R.s4,?_,?_,⟨i,d,sd,nn,q,?_,?_,?_,r4,r5,r6⟩,⟨ch,xs,?_,pR R.here c2,c3⟩⟩
 ·rw[eJ,if_pos rfl]
 ·rw[eJ,if_neg (by decide)];exact R.opp_
 ·rw[eJ,if_neg (by decide)];exact r1
 ·rw[List.getElem?_set_ne ni];exact r2
 ·rw[List.getElem?_set_ne nd];exact r3
 ·rw[eJ,if_neg (by decide)];exact c1
theorem rQ {x:Str} {e:Int} {j c:Nat} (h0:0<=e) (h:(x.cps.toList.drop e.toNat)[j]?=some c):x.cps.getD (e+(j:Int)).toNat 0=c/\e+(j:Int) < (x.length:Int):=by
 rw[List.getElem?_drop] at h;obtain ⟨h1,h2⟩:=Qy h;have hl:x.cps.toList.length=x.length:=rfl;have e1:(e+(j:Int)).toNat=e.toNat+j:=by exact Int.toNat_add_nat h0 j
 refine ⟨?_,by omega⟩;rw[e1,Array.getD_eq_getD_getElem?,<- Qq,h];rfl
theorem Ek (n:Nat):fH prog w z5 n (fun _ _=>EM.fail):=fun _ _ _ _ _ _ _ _ _ _ _ _ _ e=>aL e
theorem AA:gm z5 (fun _ _=>EM.fail):=fun _ _ _ _ e=>non e
inductive OkS {α:Type} (P:Params) (z5:Heap) (ρ:Nat->Addr) (hp:List AO) (s:Shared) (hp':List AO) (v x:α) (s':Shared):Prop
 | mk (e:x=v) (ρ':Nat->Addr) (S:Stp P z5 ρ hp s ρ' hp' s'):OkS P z5 ρ hp s hp' v x s'
inductive uf (P:Params) (z5:Heap) (ρ:Nat->Addr) (hp:List AO) (s:Shared) (hpj:Nat->List AO) (Rn k:Nat) (s1:Shared):Prop
 | mk (j:Nat) (ρ1:Nat->Addr) (hj:j<=Rn) (hk:k=Rn+1 - j) (S1:Stp P z5 ρ hp s ρ1 (hpj j) s1):uf P z5 ρ hp s hpj Rn k s1
theorem Al (B:Bt prog w z5 K tab) (hA:A.handled=none) (hd:A.depth<=889) (hR:Rel w.params z5 ρ es.hp s.heap) (hE:EnvR es.hp.length ρ env fr sc []) {loc:List (Str×AV)} {e n:Int} {x:Str} {l:List Str} {opp:Bool}
  (R0:RunAt (es.hp.set fr (.ns (put loc cEnd (.sint e)))) fr sc (put loc cEnd (.sint e)) e n x l opp) (hR0:Rel w.params z5 ρ (es.hp.set fr (.ns (put loc cEnd (.sint e)))) s.heap)
  (S0:Stp w.params z5 ρ es.hp s ρ (es.hp.set fr (.ns (put loc cEnd (.sint e)))) s) (b1:0<=e) (b2:e<=n) (b3:n=(x.length:Int)) (b4:x.length<=aa) (p1 p2 p3 p4 p5 p6 p7 p8 p9 p10 p11 p12 p13 p14 p15 p16 p17:Pos) :
  wpAny (model prog w) A (exec (.While (fJ p1 p2 p3 p4 p5 p6 p7 p8 p9 p10 p11 p12 p13) [iJ p14 p15 p16] [] p17) env)
   (OkS w.params z5 ρ es.hp s (es.hp.set fr (.ns (put loc cEnd (.sint (e+((gM opp l (x.cps.toList.drop e.toNat):Nat):Int)))))) Flow.next) (fun _ _=>False) s:=by
 have hfr:fr < es.hp.length:=hE.hfr
 let hpj:Nat->List AO:=fun j=>es.hp.set fr (.ns (put loc cEnd (.sint (e+(j:Int)))))
 have RJ:∀ j,RunAt (hpj j) fr sc (put loc cEnd (.sint (e+(j:Int)))) (e+(j:Int)) n x l opp:=fun j=>by
  have:=R0.next (e+(j:Int));rw[List.set_set,mu] at this;exact this
 have EV:aR prog w z5 A env fr sc [] (ev tab (fun _ _=>EM.fail) bu fr sc [] 7):=gt B (n:=0) (Ek 0) AA (lO A env fr sc hA hd) ⟨hA,by lia⟩ 7;have hlen:∀ j,(hpj j).length=es.hp.length:=fun j=>by simp[hpj]
 obtain ⟨Rn,hRn⟩:∃ Rn,Rn=gM opp l (x.cps.toList.drop e.toNat):=⟨_,rfl⟩;refine (hRn).symm▸?_
 have hRle:e+(Rn:Int)<=n:=by
  have h1:=qJ (p:=fun c=>(aA ⟨#[c]⟩ l)==opp) (x.cps.toList.drop e.toNat);rw[List.length_drop] at h1;have:Rn<=x.cps.toList.length - e.toNat:=by rw[hRn];exact h1
  have hl:x.cps.toList.length=x.length:=rfl;lia
 refine wpAny_While (codeAny_mono (codeAny_whileLoop (R:=OkS w.params z5 ρ es.hp s (hpj Rn) (.ok .next))
  (uf w.params z5 ρ es.hp s hpj Rn) (fun k s1 hI=>?_) (Rn+1) ⟨0,ρ,Qu _,rfl,by
   have:hpj 0=es.hp.set fr (.ns (put loc cEnd (.sint e))):=by simp[hpj]
   rw[this];exact S0⟩) fun r s' z=>?_)
 ·obtain ⟨j,ρ1,hj,rfl,S1⟩:=hI;have hE1:EnvR (hpj j).length ρ1 env fr sc []:=S1.env hE
  by_cases hlt:j < Rn
  ·-- the next char is of the run
   rw[hRn] at hlt;obtain ⟨c,c1,c2⟩:=qc hlt;obtain ⟨c3,c4⟩:=rQ b1 c1;have hb:∃ b:Bool,b=aA ⟨#[c]⟩ l:=⟨_,rfl⟩;obtain ⟨b,hb⟩:=hb;have teq:=oV (call:=fun _ _=>EM.fail) (hook:=bu) (cells:=[]) (k:=1) (RJ j) (b:=b) (dec:=[]) p1 p2 p3 p4 p5 p6 p7 p8 p9 p10 p11 p12 p13;have go:b==opp:=by rw[hb];exact c2
   rw[go] at teq;refine wpAny_mono ((EV.t (es:=⟨hpj j,_⟩) S1.rel hE1 _).go teq (fun p hp=>?_) (Q:=OkS w.params z5 ρ1 (hpj j) s1 (hpj j) true) (E:=fun _ _=>False) fun c s2 ρ2 S2 r2=>⟨r2,ρ2,S2⟩) (fun b' s2 z=>?_) fun _ _ x=>x.elim
   ·simp only[List.cons_append,List.nil_append,List.mem_cons,List.not_mem_nil,or_false] at hp;rcases hp with rfl | rfl | rfl
    ·lia
    ·exact ⟨by lia,c4,b4⟩
    ·refine c3▸?_
     cases b with
     | false=>exact fun h=>by rw[(fh _ _).mpr h] at hb;exact noT hb
     | true=>exact (fh _ _).mp hb.symm
   ·obtain ⟨rfl,ρ2,S2⟩:=z;have S12:=S1.trans S2;have beq:=Er (call:=fun _ _=>EM.fail) (hook:=bu) (cells:=[]) (k:=5) (RJ j) (dec:=[]) p14 p15 p16;refine (fC EV [iJ p14 p15 p16] (es:=⟨hpj j,[]⟩) S2.rel (S12.env hE)).go beq (fun _ h=>noM h) fun c s3 ρ3 S3 r3=>?_;rw[show c=.next from r3];refine ⟨Rn+1 - (j+1),by lia,j+1,ρ3,by exact le_of_le_of_eq hlt (id (Eq.symm hRn)),rfl,?_⟩
    have:(hpj j).set fr (.ns (put (put loc cEnd (.sint (e+(j:Int)))) cEnd (.sint (e+(j:Int)+1))))=hpj (j+1):=by
     show (es.hp.set fr _).set fr _=_;rw[List.set_set,mu,show e+(j:Int)+1=e+((j+1:Nat):Int) by lia]
    have S3':=S12.trans S3;rw[this] at S3';exact S3'
  ·have hjR:j=Rn:=by lia
   subst hjR
   have fin:∀ dec pc,(ev tab (fun _ _=>EM.fail) bu fr sc [] 7).t (fJ p1 p2 p3 p4 p5 p6 p7 p8 p9 p10 p11 p12 p13) ⟨hpj j,dec⟩=some (false,⟨hpj j,[]⟩,pc)->(∀ p∈pc,p) ->
     wpAny (model prog w) A (isTrue (fJ p1 p2 p3 p4 p5 p6 p7 p8 p9 p10 p11 p12 p13) env (eval (fJ p1 p2 p3 p4 p5 p6 p7 p8 p9 p10 p11 p12 p13) env)) (OkS w.params z5 ρ es.hp s (hpj j) false) (fun _ _=>False) s1:=fun dec pc teq hp =>
    (EV.t (es:=⟨hpj j,dec⟩) S1.rel hE1 _).go teq hp fun c s2 ρ2 S2 r2=>⟨r2,ρ2,S1.trans S2⟩
   have T:wpAny (model prog w) A (isTrue (fJ p1 p2 p3 p4 p5 p6 p7 p8 p9 p10 p11 p12 p13) env (eval (fJ p1 p2 p3 p4 p5 p6 p7 p8 p9 p10 p11 p12 p13) env)) (OkS w.params z5 ρ es.hp s (hpj j) false) (fun _ _=>False) s1:=by
    by_cases hend:e+(j:Int)=n
    ·exact fin _ _ (vj (call:=fun _ _=>EM.fail) (hook:=bu) (cells:=[]) (k:=1) (RJ j) (dec:=[]) p1 p2 p3 p4 p5 p6 p7 p8 p9 p10 p11 p12 p13) fun p hp=>by
      rw[List.mem_singleton.mp hp];exact fun h=>h hend
    ·have hl:x.cps.toList.length=x.length:=rfl;have hlt2:j < (x.cps.toList.drop e.toNat).length:=by rw[List.length_drop];lia
     obtain ⟨c,c1⟩:∃ c,(x.cps.toList.drop e.toNat)[j]?=some c:=⟨_,Qo hlt2⟩
     have c2:((aA ⟨#[c]⟩ l)==opp)=false:=qd (by
      have:(List.takeWhile (fun c=>(aA ⟨#[c]⟩ l)==opp) (x.cps.toList.drop e.toNat)).length=j:=hRn.symm;rw[this];exact c1)
     replace c1:=rQ b1 c1;obtain ⟨c3,c4⟩:=c1;obtain ⟨b,hb⟩:∃ b:Bool,b=aA ⟨#[c]⟩ l:=⟨_,rfl⟩;have teq:=oV (call:=fun _ _=>EM.fail) (hook:=bu) (cells:=[]) (k:=1) (RJ j) (b:=b) (dec:=[]) p1 p2 p3 p4 p5 p6 p7 p8 p9 p10 p11 p12 p13;have stop:(b==opp)=false:=by rw[hb];exact c2
     rw[stop] at teq;refine fin _ _ teq fun p hp=>?_;simp only[List.cons_append,List.nil_append,List.mem_cons,List.not_mem_nil,or_false] at hp;rcases hp with rfl | rfl | rfl
     ·exact hend
     ·exact ⟨by lia,c4,b4⟩
     ·refine c3▸?_
      cases b with
      | false=>exact fun h=>by rw[(fh _ _).mpr h] at hb;exact noT hb
      | true=>exact (fh _ _).mp hb.symm
   refine wpAny_mono T (fun b s2 zz=>?_) fun _ _ x=>x.elim;obtain ⟨rfl,ρ2,S2⟩:=zz;exact wpAny_execs_nil ⟨rfl,ρ2,S2⟩
 ·obtain ⟨rfl,ρ',S⟩:=z;exact ⟨rfl,ρ',S⟩
end
end TE
namespace TE
set_option tactic.hygienic false
noncomputable def nJ:Str:=⟨#[116,101,120,116]⟩
noncomputable def kO:Str:=⟨#[110,97,109,101]⟩
noncomputable def sw:Str:=⟨#[97,115,99,105,105,76,111,119,101,114]⟩
noncomputable def m7:Str:=⟨#[95,108,97,119,95,115,109,97,108,108]⟩
noncomputable def nB (l:Nat) (tn:Str):Expr:=my tn ⟨l,11,l,13⟩ ⟨l,11,l,18⟩ ⟨l,67,l,68⟩ ⟨l,72,l,76⟩ ⟨l,19,l,77⟩ ⟨l,11,l,78⟩ ⟨l,40,l,43⟩ ⟨l,47,l,48⟩ ⟨l,52,l,55⟩ ⟨l,40,l,55⟩ ⟨l,20,l,23⟩ ⟨l,24,l,27⟩ ⟨l,28,l,29⟩ ⟨l,24,l,30⟩ ⟨l,33,l,35⟩ ⟨l,24,l,35⟩ ⟨l,20,l,36⟩ ⟨l,61,l,62⟩ ⟨l,20,l,62⟩
theorem xO:dR sw=nB 11 nJ:=by kernel_rfl
theorem pv:dR m7=nB 1199 kO:=by kernel_rfl
noncomputable def tL:Stmt:=.For (.Name cC ⟨102,12,102,13⟩) (.Name jo ⟨102,17,102,21⟩) [.If (.Call (.Name gA ⟨103,15,103,26⟩) [.Call (.Name ew ⟨103,27,103,30⟩) [.Name cC ⟨103,31,103,32⟩] [] ⟨103,27,103,33⟩] [] ⟨103,15,103,34⟩)
 [.Expr (.Call (.Attribute (.Attribute (.Name dc ⟨104,16,104,20⟩) ⟨#[101,114,114,111,114,115]⟩ ⟨104,16,104,27⟩) ⟨#[97,112,112,101,110,100]⟩ ⟨104,16,104,34⟩)
  [.Constant (.str ⟨#[105,110,118,97,108,105,100,45,99,111,100,101,112,111,105,110,116]⟩) 0 ⟨104,35,104,54⟩] [] ⟨104,16,104,55⟩) ⟨104,16,104,55⟩] [] ⟨103,12,104,55⟩] [] ⟨102,8,104,55⟩
theorem wD:i9=tL:=by kernel_rfl
noncomputable def tf:Stmt:=.While (fJ ⟨110,18,110,21⟩ ⟨110,25,110,29⟩ ⟨110,25,110,39⟩ ⟨110,18,110,39⟩ ⟨110,45,110,49⟩ ⟨110,45,110,55⟩ ⟨110,56,110,59⟩ ⟨110,45,110,60⟩ ⟨110,64,110,74⟩ ⟨110,45,110,74⟩ ⟨110,79,110,87⟩ ⟨110,44,110,87⟩ ⟨110,18,110,87⟩)
 [iJ ⟨111,16,111,19⟩ ⟨111,23,111,24⟩ ⟨111,16,111,24⟩] [] ⟨110,12,111,24⟩
theorem we:i6=tf:=by kernel_rfl
theorem gC {sc:Scope} {x:Str} (h:dS sc x=true):lk sc.names x=some .local:=by
 unfold dS at h
 split at h
 ·rename_i q;exact q
 ·exact noT h
theorem oS {sc:Scope} {x:Str} (h:kG sc x=true):lk sc.names x=some .globalImplicit:=by
 unfold kG at h
 split at h
 ·rename_i q;exact q
 ·exact noT h
section
variable {prog:Program} {w:World} {z5:Heap} {K:Frag} {A:Around} {es:ES} {ρ:Nat->Addr} {s:Shared} {env:Env} {fr:Nat} {sc:Scope} {cells:List (Str×Nat)}
theorem Em (B:Bt prog w z5 K tab) (hA:A.handled=none) (hR:Rel w.params z5 ρ es.hp s.heap) (hE:EnvR es.hp.length ρ env fr sc []) (e:Expr):Tr prog w z5 A (tu e fr sc) es (eval e env) ρ s RV:=by
 intro a es' pc eq z8;replace eq:=ak eq;obtain ⟨loc,es1,p1,p2,e1,e2,rfl⟩:=eq;replace e1:=iP e1;obtain ⟨hl,rfl,rfl⟩:=e1;replace hl:=hR.at hl;obtain ⟨m,hns,hm⟩:=hl;rw[<- hE.hloc] at hns;have hkf:env.scope.kind=.function:=by rw[hE.hscope];exact hE.hkind
 have fin:∀ (n tn:Str) (l:Nat) (x:Str) (v:Value),dR n=nB l tn->(tn==("__debug__" : Str))=false->dS sc tn=true->m tn=some v->(∃ t,v=.str x t) ->
   (EM.need (ea e (dR n))>>=fun _=>EM.need (x.length<=aa)>>=fun _=>EM.ret (AV.sstr (ac x))) es1=some (a,es',p2) ->
   wpAny (model prog w) A (eval e env) (Out w.params z5 ρ es1.hp s es'.hp (RV a)) (fun _ _=>False) s:=fun n tn l x v e3 e4 e5 e6 ⟨t,e7⟩ e8=>by
  refine ag fun G0 hG0=>?_;subst e7;replace e8:=ak e8;obtain ⟨_,es2,q1,q2,f1,f2,rfl⟩:=e8;replace f1:=dz f1;obtain ⟨rfl,rfl⟩:=f1;replace f2:=ak f2;obtain ⟨_,es3,q3,q4,f3,f4,rfl⟩:=f2;replace f3:=dz f3;obtain ⟨rfl,rfl⟩:=f3;refine hG0 ?_;refine au f4 ?_;have he:ea e (dR n):=z8 _ (by simp);have hz:x.length<=aa:=z8 _ (by simp);unfold ea at he;rw[he,e3];exact jD (AB B.toBs hA hR.keep hz (by simp) e4 hkf (f9 hE (gC e5)) hE.hglob hE.hblt hns e6 fun t h' k hk hsz=>⟨ρ,Stp.keeps hR hsz hk,t,rfl⟩)
 have dT:(nJ==("__debug__" : Str))=false:=by decide +kernel
 have dN:(kO==("__debug__" : Str))=false:=by decide +kernel
 generalize hq:lk loc ⟨#[116,101,120,116]⟩=r at e2
 cases r with
 | none =>
  generalize hq2:lk loc ⟨#[110,97,109,101]⟩=r at e2
  cases r with
  | none=>exact aL e2
  | some y =>
   replace hq2:=hm _ _ hq2;obtain ⟨v,h1,h2⟩:=hq2
   cases y with
   | str x =>
    refine ag fun G0 hG0=>?_;replace e2:=c8 (show EM.chk _ _ es1=_ from e2);obtain ⟨q,e2⟩:=e2;refine hG0 ?_;exact fin m7 kO 1199 x v pv dN q h1 h2 e2
   | sstr x =>
    refine ag fun G0 hG0=>?_;replace e2:=c8 (show EM.chk _ _ es1=_ from e2);obtain ⟨q,e2⟩:=e2;refine hG0 ?_;exact fin m7 kO 1199 x v pv dN q h1 h2 e2
   | _=>exact aL e2
 | some y =>
  refine ag fun G0 hG0=>?_;replace hq:=hm _ _ hq;obtain ⟨v,h1,h2⟩:=hq;refine hG0 ?_
  cases y with
  | sstr x =>
   refine ag fun G0 hG0=>?_;replace e2:=c8 (show EM.chk _ _ es1=_ from e2);obtain ⟨q,e2⟩:=e2;refine hG0 ?_;exact fin sw nJ 11 x v xO dT q h1 h2 e2
  | _=>exact aL e2
theorem vk {i:Nat} {x:Str} {n:Int} {es es':ES} {pc:List Prop} (h:jJ i es=some ((x,n),es',pc)) :
  ∃ d sd nn q,es.hp[i]?=some (.inst 166 d)/\es.hp[d]?=some (.dict sd)/\lk sd gj=some (.sstr x)/\lk sd kM=some nn/\aY nn=some (n,q)/\es'=es/\pc=[]:=by
 replace h:=ak h;obtain ⟨⟨C,d,sd⟩,es1,p1,p2,e1,e2,rfl⟩:=h;replace e1:=lx e1;obtain ⟨h1,h2,rfl,rfl⟩:=e1;dsimp only at h1 h2 e2;have hC:=Nat.eq_of_beq_eq_true (c8 e2).1;replace e2:=(c8 e2).2;subst hC;generalize h3:lk sd ⟨#[99,104,117,110,107]⟩=r1 at e2;generalize h4:lk sd ⟨#[99,104,117,110,107,83,105,122,101]⟩=r2 at e2
 cases r1 with
 | none=>exact aL e2
 | some y =>
  cases y with
  | sstr x' =>
   cases r2 with
   | none=>exact aL e2
   | some nn =>
    replace e2:(match aY nn with | some (n,_)=>EM.ret (x',n) | none=>EM.fail) es1=some ((x,n),es',p2):=e2
    generalize h5:aY nn=r3 at e2
    cases r3 with
    | none=>exact aL e2
    | some t =>
     refine ag fun G0 hG0=>?_;obtain ⟨n',b⟩:=t;replace e2:=eC (show EM.ret (x',n') es1=_ from e2);obtain ⟨e3,rfl,rfl⟩:=e2;refine hG0 ?_
     cases e3
     exact ⟨d,sd,nn,b,h1,h2,h3,h4,h5,rfl,rfl⟩
  | _=>exact aL e2
theorem wF {ch:AV} {es es':ES} {o:AO} {pc:List Prop} (h:cv tab ch es=some (o,es',pc)):es'=es/\pc=[]/\∀ dec,cv tab ch ⟨es.hp,dec⟩=some (o,⟨es.hp,dec⟩,[]):=by
 cases ch with
 | ptr i =>
  replace h:=bG (show EM.obj i es=_ from h);obtain ⟨q,rfl,rfl⟩:=h;exact ⟨rfl,rfl,fun dec=>ig q⟩
 | con c =>
  cases c with
  | ref a =>
   replace h:=dY (show EM.lift (tab.cobj a) es=_ from h);obtain ⟨q,rfl,rfl⟩:=h;exact ⟨rfl,rfl,fun dec=>by show EM.lift (tab.cobj a) _=_;rw[q];rfl⟩
  | _=>exact (dE (show EM.fail es=_ from h)).elim
 | _=>exact (dE (show EM.fail es=_ from h)).elim
theorem vZ {ch:AV} {l:List Str} {es es':ES} {pc:List Prop} (h:jT ch es=some (l,es',pc)):∃ xs,(∀ dec,cv tab ch ⟨es.hp,dec⟩=some (.tuple xs,⟨es.hp,dec⟩,[]))/\bQ xs=some l/\es'=es/\pc=[]:=by
 replace h:=ak h;obtain ⟨o,es1,p1,p2,e1,e2,rfl⟩:=h;replace e1:=wF e1;obtain ⟨rfl,rfl,d⟩:=e1
 cases o with
 | tuple xs =>
  replace e2:=dY (show EM.lift (bQ xs) es1=_ from e2);obtain ⟨q,rfl,rfl⟩:=e2;exact ⟨xs,d,q,rfl,rfl⟩
 | _=>exact aL e2
theorem Eb (B:Bt prog w z5 K tab) (hA:A.handled=none) (hd:A.depth<=889) (hR:Rel w.params z5 ρ es.hp s.heap) (hE:EnvR es.hp.length ρ env fr sc []):Tr prog w z5 A (nt fr sc) es (exec tf env) ρ s RF:=by
 refine Tr.chk fun q=>?_;replace q:=Qx q;obtain ⟨q,q4⟩:=q;replace q:=Qx q;obtain ⟨q,q3⟩:=q;replace q:=Qx q;obtain ⟨q1,q2⟩:=q;intro a es' pc eq z8;replace eq:=ak eq;obtain ⟨loc,es1,p1,p2,e1,e2,rfl⟩:=eq;replace e1:=iP e1;obtain ⟨hl,rfl,rfl⟩:=e1;generalize l1:lk loc ⟨#[115,101,108,102]⟩=r1 at e2;generalize l2:lk loc ⟨#[99,104,97,114,97,99,116,101,114,115]⟩=r2 at e2;generalize l3:lk loc ⟨#[111,112,112,111,115,105,116,101]⟩=r3 at e2;generalize l4:lk loc ⟨#[101,110,100]⟩=r4 at e2
 obtain ⟨i,ch,opp,en,rfl,rfl,rfl,rfl⟩:∃ i ch opp en,r1=some (.ptr i)/\r2=some ch/\r3=some (.bool opp)/\r4=some en:=by
  cases r1 with
  | none=>exact aL e2
  | some y1 =>
   cases y1 with
   | ptr i =>
    cases r2 with
    | none=>exact aL e2
    | some ch =>
     cases r3 with
     | none=>exact aL e2
     | some y3 =>
      cases y3 with
      | bool opp =>
       cases r4 with
       | none=>exact aL e2
       | some en=>exact ⟨i,ch,opp,en,rfl,rfl,rfl,rfl⟩
      | _=>exact aL e2
   | _=>exact aL e2
 replace e2:(match aY en with
  | some (e,_)=>(jJ i>>=fun r=>jT ch>>=fun l=>EM.need (0<=e/\e<=r.2/\r.2=(r.1.length:Int)/\r.1.length<=aa)>>=fun _=>EM.set fr (.ns (put loc cEnd (.sint (e+((gM opp l (r.1.cps.toList.drop e.toNat):Nat):Int)))))>>=fun _=>EM.ret AF.next)
  | none=>EM.fail) es1=some (a,es',p2):=e2
 generalize hn:aY en=r5 at e2
 cases r5 with
 | none=>exact aL e2
 | some t =>
   refine ag fun G0 hG0=>?_;obtain ⟨e,b⟩:=t;replace e2:(jJ i>>=fun r=>jT ch>>=fun l=>EM.need (0<=e/\e<=r.2/\r.2=(r.1.length:Int)/\r.1.length<=aa)>>=fun _=>EM.set fr (.ns (put loc cEnd (.sint (e+((gM opp l (r.1.cps.toList.drop e.toNat):Nat):Int)))))>>=fun _=>EM.ret AF.next) es1=some (a,es',p2):=e2;replace e2:=ak e2;obtain ⟨⟨x,n⟩,es2,p3,p4,e3,e4,rfl⟩:=e2;replace e3:=vk e3;obtain ⟨d,sd,nn,qq,s1,s2,s3,s4,s5,rfl,rfl⟩:=e3;replace e4:=ak e4;obtain ⟨l,es3,p5,p6,e5,e6,rfl⟩:=e4;replace e5:=vZ e5;obtain ⟨xs,t1,t2,rfl,rfl⟩:=e5;replace e6:=ak e6;obtain ⟨_,es4,p7,p8,e7,e8,rfl⟩:=e6;replace e7:=dz e7;obtain ⟨rfl,rfl⟩:=e7;replace e8:=ak e8;obtain ⟨_,es5,p9,p10,e9,e10,rfl⟩:=e8;replace e9:=cR e9;obtain ⟨rfl,rfl⟩:=e9;refine hG0 ?_;refine au e10 ?_;refine ag fun G0 hG0=>?_;obtain ⟨b1,b2,b3,b4⟩:0<=e/\e<=n/\n=(x.length:Int)/\x.length<=aa:=z8 _ (by simp);refine hG0 ?_;have hfr:=hE.hfr;obtain ⟨m,hns,hm⟩:=hR.at hl
   have ho:ORel w.params es4.hp.length ρ s.heap (ρ fr) (.ns (put loc cEnd (.sint e))):=⟨m,hns,fun y av hy=>by
    rw[eJ] at hy
    by_cases z:y=cEnd
    ·subst z;rw[if_pos rfl] at hy;obtain rfl:=Qb hy;obtain ⟨v,v1,v2⟩:=hm _ _ l4;exact ⟨v,v1,fw hn v2⟩
    ·rw[if_neg z] at hy;exact hm y av hy⟩
   have S0:Stp w.params z5 ρ es4.hp s ρ (es4.hp.set fr (.ns (put loc cEnd (.sint e)))) s:=Stp.frameOnly hR hfr rfl rfl rfl (Qa _) (fun b ob _ h=>h) ho;have ni:fr≠i:=fun z=>by subst z;rw[hl] at s1;cases s1
   have nd:fr≠d:=fun z=>by subst z;rw[hl] at s2;cases s2
   have R0:RunAt (es4.hp.set fr (.ns (put loc cEnd (.sint e)))) fr sc (put loc cEnd (.sint e)) e n x l opp:=by
    refine ⟨List.getElem?_set_self hfr,gC q1,gC q2,gC q3,gC q4,?_,?_,⟨i,d,sd,nn,qq,?_,?_,?_,s3,s4,s5⟩,⟨ch,xs,?_,pR hl t1,t2⟩⟩
    ·rw[eJ,if_pos rfl]
    ·rw[eJ,if_neg (by decide)];exact l3
    ·rw[eJ,if_neg (by decide)];exact l1
    ·rw[List.getElem?_set_ne ni];exact s1
    ·rw[List.getElem?_set_ne nd];exact s2
    ·rw[eJ,if_neg (by decide)];exact l2
   refine wpAny_mono (Al B hA hd hR hE R0 S0.rel S0 b1 b2 b3 b4 _ _ _ _ _ _ _ _ _ _ _ _ _ _ _ _ _) (fun f s' z=>?_) fun _ _ x=>x;obtain ⟨rfl,ρ',S⟩:=z;exact ⟨ρ',S,rfl⟩
theorem A0 (B:Bt prog w z5 K tab) (hT:∀ f r,tab.fn f=some r->bP w z5 f r) (hA:A.handled=none) (hd:A.depth<=889) (hR:Rel w.params z5 ρ es.hp s.heap) (hE:EnvR es.hp.length ρ env fr sc []):Tr prog w z5 A (nI fr sc) es (exec tL env) ρ s RF:=by
 refine Tr.chk fun q=>?_;replace q:=Qx q;obtain ⟨q,q4⟩:=q;replace q:=Qx q;obtain ⟨q,q3⟩:=q;replace q:=Qx q;obtain ⟨q1,q2⟩:=q;intro a es' pc eq z8;replace eq:=ak eq;obtain ⟨loc,es1,p1,p2,e1,e2,rfl⟩:=eq;replace e1:=iP e1;obtain ⟨hl,rfl,rfl⟩:=e1;generalize l1:lk loc ⟨#[100,97,116,97]⟩=r1 at e2;generalize l2:lk loc ⟨#[99]⟩=r2 at e2
 obtain ⟨x,rfl,rfl⟩:∃ x,r1=some (.sstr x)/\r2=none:=by
  cases r1 with
  | none=>exact aL e2
  | some y =>
   cases y with
   | sstr x =>
    cases r2 with
    | none=>exact ⟨x,rfl,rfl⟩
    | some _=>exact aL e2
   | _=>exact aL e2
 replace e2:(EM.need (∀ c∈x.cps.toList,cD c)>>=fun _=>EM.need (x.length<=aa)>>=fun _=>EM.ret AF.next) es1=some (a,es',p2):=e2;refine ag fun G0 hG0=>?_;replace e2:=ak e2;obtain ⟨_,es2,p3,p4,e3,e4,rfl⟩:=e2;replace e3:=dz e3;obtain ⟨rfl,rfl⟩:=e3;replace e4:=ak e4;obtain ⟨_,es3,p5,p6,e5,e6,rfl⟩:=e4;replace e5:=dz e5;obtain ⟨rfl,rfl⟩:=e5;refine hG0 ?_;refine au e6 ?_;have ok:∀ c∈x.cps.toList,cD c:=z8 _ (by simp);have hz:x.length<=aa:=z8 _ (by simp);refine wpAny_mono (Eu B hT hA hd hR hE hl l1 l2 hz ok (f9 hE (gC q2)) (f9 hE (oS q3)) (f9 hE (oS q4)) (f9 hE (gC q1))) (fun f s' z=>?_) fun _ _ x=>x;obtain ⟨rfl,S⟩:=z;exact ⟨ρ,S,rfl⟩
theorem i0 (B:Bt prog w z5 K tab) (hT:∀ f r,tab.fn f=some r->bP w z5 f r):kj prog w z5 gV:=fun A env fr sc hA hd=>by
 refine ⟨fun _ _ _ _ _ _=>Tr.fail,fun hR hE o name ap args p _=>Em B hA hR hE _,fun {es ρ s} hR hE st=>?_⟩
 cases st with
 | While a b c p =>
  show Tr prog w z5 A (EM.need (gv (.While a b c p) i6)>>=fun _=>nt fr sc) es _ ρ s RF;refine Tr.need fun h=>?_;unfold gv at h;rw[h,we];exact Eb B hA hd hR hE
 | For a b c d p =>
  show Tr prog w z5 A (EM.need (gv (.For a b c d p) i9)>>=fun _=>nI fr sc) es _ ρ s RF;refine Tr.need fun h=>?_;unfold gv at h;rw[h,wD];exact A0 B hT hA hd hR hE
 | _=>exact Tr.fail
end
end TE
namespace TE
set_option backward.match.sparseCases false
set_option tactic.hygienic false
noncomputable def vals:List Str:=[(⟨#[]⟩:Str),(⟨#[118]⟩:Str),(⟨#[116,119,111,32,119,111,114,100,115]⟩:Str),(⟨#[105,116,39,115]⟩:Str),(⟨#[49,60,50]⟩:Str),(⟨#[120,61,121]⟩:Str)]
noncomputable def bm (j w:Nat) (key:Str):Str×Str :=
 if w=0/\j≠3 then (key++(⟨#[61,39]⟩:Str)++vals.getD j ⟨#[]⟩++(⟨#[39]⟩:Str),vals.getD j ⟨#[]⟩)
 else if w=1/\j=1 then (key++(⟨#[61]⟩:Str)++vals.getD j ⟨#[]⟩,vals.getD j ⟨#[]⟩)
 else if w=2/\j=0 then (key,vals.getD j ⟨#[]⟩)
 else (key++(⟨#[32,61,32,34]⟩:Str)++vals.getD j ⟨#[]⟩++(⟨#[34]⟩:Str),vals.getD j ⟨#[]⟩)
noncomputable def af (n:Int) (key:Str):Str×Str:=bm (Int.fmod n 6).toNat (Int.fmod (Int.fdiv n 6) 3).toNat key
noncomputable def dL:AV->Option Str
 | .sstr a=>some a
 | .str a=>some a
 | _=>none
noncomputable def two {α:Type}:List α->Option (α×α)
 | [a,b]=>some (a,b)
 | _=>none
noncomputable def no:AO->Option (List AV)
 | .tuple l=>some l
 | _=>none
theorem pX {α:Type} {l:List α} {p:α×α} (h:two l=some p):l=[p.1,p.2]:=by
 match l,h with
 | [a,b],h=>obtain rfl:=Qb (show some (a,b)=some p from h);rfl
 | [],h=>exact non h
 | [_],h=>exact non h
 | _::_::_::_,h=>exact non h
theorem vV {o:AO} {l:List AV} (h:no o=some l):o=.tuple l:=by
 cases o with
 | tuple _=>rw[Qb h]
 | _=>exact non h
theorem v7 {a:AV} {s:Str} (h:dL a=some s):a=.sstr s\/a=.str s:=by
 cases a with
 | sstr _=>exact .inl (congrArg _ (Qb h))
 | str _=>exact .inr (congrArg _ (Qb h))
 | _=>exact non h
noncomputable def gN (o:AO):Option (Str×Str):=match no o with
 | none=>none
 | some l=>match two l with
  | none=>none
  | some p=>match dL p.1 with
   | none=>none
   | some x=>match dL p.2 with
    | none=>none
    | some y=>some (x,y)
theorem oo {o:AO} {p:Str×Str} (h:gN o=some p):∃ a b,o=.tuple [a,b]/\dL a=some p.1/\dL b=some p.2:=by
 dsimp only[gN] at h
 cases q1:no o with
 | none=>rw[q1] at h;exact non h
 | some l =>
  rw[q1] at h;dsimp only at h
  cases q2:two l with
  | none=>rw[q2] at h;exact non h
  | some q =>
   rw[q2] at h;dsimp only at h
   cases q3:dL q.1 with
   | none=>rw[q3] at h;exact non h
   | some x =>
    rw[q3] at h;dsimp only at h
    cases q4:dL q.2 with
    | none=>rw[q4] at h;exact non h
    | some y =>
     rw[q4] at h;obtain rfl:=Qb h;exact ⟨q.1,q.2,by rw[vV q1,pX q2],q3,q4⟩
noncomputable def nQ (r:Option (AV×ES×List Prop)):Option ((Str×Str)×List Nat×List Prop):=match r with
 | none=>none
 | some t=>match t.1 with
  | .ptr i=>(match Nat.blt i t.2.1.hp.length with
   | true=>(match gN (atD t.2.1.hp i) with
    | some p=>some (p,t.2.1.dec,t.2.2)
    | none=>none)
   | false=>none)
  | _=>none
noncomputable def ca (n:Int) (key:Str) (dec:List Nat):Option ((Str×Str)×List Nat×List Prop):=nQ (db tab gV fD 2 820 [.sint n,.sstr key] ⟨[],dec⟩)
theorem Fk (n:Int) (key:Str):ca n key [1,1]=some (bm 0 0 key,[],[Int.fmod n 6=(0:Int),Int.fmod (Int.fdiv n 6) 3=0,key.length+(⟨#[61,39]⟩:Str).length<=aa,(key++(⟨#[61,39]⟩:Str)).length+(⟨#[]⟩:Str).length<=aa,((key++(⟨#[61,39]⟩:Str))++(⟨#[]⟩:Str)).length+(⟨#[39]⟩:Str).length<=aa]):=by kernel_rfl
theorem Fj (n:Int) (key:Str):ca n key [1,0,1,0]=some (bm 0 1 key,[],[Int.fmod n 6=(0:Int),¬ (Int.fmod (Int.fdiv n 6) 3=0),Int.fmod (Int.fdiv n 6) 3=1,¬ (Int.fmod (Int.fdiv n 6) 3=2),key.length+(⟨#[32,61,32,34]⟩:Str).length<=aa,(key++(⟨#[32,61,32,34]⟩:Str)).length+(⟨#[]⟩:Str).length<=aa,((key++(⟨#[32,61,32,34]⟩:Str))++(⟨#[]⟩:Str)).length+(⟨#[34]⟩:Str).length<=aa]):=by kernel_rfl
theorem Fi (n:Int) (key:Str):ca n key [1,0,0,1]=some (bm 0 2 key,[],[Int.fmod n 6=(0:Int),¬ (Int.fmod (Int.fdiv n 6) 3=0),¬ (Int.fmod (Int.fdiv n 6) 3=1),Int.fmod (Int.fdiv n 6) 3=2]):=by kernel_rfl
theorem Fh (n:Int) (key:Str):ca n key [2,1]=some (bm 1 0 key,[],[Int.fmod n 6=(1:Int),Int.fmod (Int.fdiv n 6) 3=0,key.length+(⟨#[61,39]⟩:Str).length<=aa,(key++(⟨#[61,39]⟩:Str)).length+(⟨#[118]⟩:Str).length<=aa,((key++(⟨#[61,39]⟩:Str))++(⟨#[118]⟩:Str)).length+(⟨#[39]⟩:Str).length<=aa]):=by kernel_rfl
theorem Fg (n:Int) (key:Str):ca n key [2,0,1]=some (bm 1 1 key,[],[Int.fmod n 6=(1:Int),¬ (Int.fmod (Int.fdiv n 6) 3=0),Int.fmod (Int.fdiv n 6) 3=1,key.length+(⟨#[61]⟩:Str).length<=aa,(key++(⟨#[61]⟩:Str)).length+(⟨#[118]⟩:Str).length<=aa]):=by kernel_rfl
theorem Ff (n:Int) (key:Str):ca n key [2,0,0,1]=some (bm 1 2 key,[],[Int.fmod n 6=(1:Int),¬ (Int.fmod (Int.fdiv n 6) 3=0),¬ (Int.fmod (Int.fdiv n 6) 3=1),Int.fmod (Int.fdiv n 6) 3=2,key.length+(⟨#[32,61,32,34]⟩:Str).length<=aa,(key++(⟨#[32,61,32,34]⟩:Str)).length+(⟨#[118]⟩:Str).length<=aa,((key++(⟨#[32,61,32,34]⟩:Str))++(⟨#[118]⟩:Str)).length+(⟨#[34]⟩:Str).length<=aa]):=by kernel_rfl
theorem Fe (n:Int) (key:Str):ca n key [3,1]=some (bm 2 0 key,[],[Int.fmod n 6=(2:Int),Int.fmod (Int.fdiv n 6) 3=0,key.length+(⟨#[61,39]⟩:Str).length<=aa,(key++(⟨#[61,39]⟩:Str)).length+(⟨#[116,119,111,32,119,111,114,100,115]⟩:Str).length<=aa,((key++(⟨#[61,39]⟩:Str))++(⟨#[116,119,111,32,119,111,114,100,115]⟩:Str)).length+(⟨#[39]⟩:Str).length<=aa]):=by kernel_rfl
theorem Fd (n:Int) (key:Str):ca n key [3,0,1,0]=some (bm 2 1 key,[],[Int.fmod n 6=(2:Int),¬ (Int.fmod (Int.fdiv n 6) 3=0),Int.fmod (Int.fdiv n 6) 3=1,¬ (Int.fmod (Int.fdiv n 6) 3=2),key.length+(⟨#[32,61,32,34]⟩:Str).length<=aa,(key++(⟨#[32,61,32,34]⟩:Str)).length+(⟨#[116,119,111,32,119,111,114,100,115]⟩:Str).length<=aa,((key++(⟨#[32,61,32,34]⟩:Str))++(⟨#[116,119,111,32,119,111,114,100,115]⟩:Str)).length+(⟨#[34]⟩:Str).length<=aa]):=by kernel_rfl
theorem Fc (n:Int) (key:Str):ca n key [3,0,0,1]=some (bm 2 2 key,[],[Int.fmod n 6=(2:Int),¬ (Int.fmod (Int.fdiv n 6) 3=0),¬ (Int.fmod (Int.fdiv n 6) 3=1),Int.fmod (Int.fdiv n 6) 3=2,key.length+(⟨#[32,61,32,34]⟩:Str).length<=aa,(key++(⟨#[32,61,32,34]⟩:Str)).length+(⟨#[116,119,111,32,119,111,114,100,115]⟩:Str).length<=aa,((key++(⟨#[32,61,32,34]⟩:Str))++(⟨#[116,119,111,32,119,111,114,100,115]⟩:Str)).length+(⟨#[34]⟩:Str).length<=aa]):=by kernel_rfl
theorem Fb (n:Int) (key:Str):ca n key [4,1,0,0]=some (bm 3 0 key,[],[Int.fmod n 6=(3:Int),Int.fmod (Int.fdiv n 6) 3=0,¬ (Int.fmod (Int.fdiv n 6) 3=1),¬ (Int.fmod (Int.fdiv n 6) 3=2),key.length+(⟨#[32,61,32,34]⟩:Str).length<=aa,(key++(⟨#[32,61,32,34]⟩:Str)).length+(⟨#[105,116,39,115]⟩:Str).length<=aa,((key++(⟨#[32,61,32,34]⟩:Str))++(⟨#[105,116,39,115]⟩:Str)).length+(⟨#[34]⟩:Str).length<=aa]):=by kernel_rfl
theorem Fa (n:Int) (key:Str):ca n key [4,0,1,0]=some (bm 3 1 key,[],[Int.fmod n 6=(3:Int),¬ (Int.fmod (Int.fdiv n 6) 3=0),Int.fmod (Int.fdiv n 6) 3=1,¬ (Int.fmod (Int.fdiv n 6) 3=2),key.length+(⟨#[32,61,32,34]⟩:Str).length<=aa,(key++(⟨#[32,61,32,34]⟩:Str)).length+(⟨#[105,116,39,115]⟩:Str).length<=aa,((key++(⟨#[32,61,32,34]⟩:Str))++(⟨#[105,116,39,115]⟩:Str)).length+(⟨#[34]⟩:Str).length<=aa]):=by kernel_rfl
theorem E9 (n:Int) (key:Str):ca n key [4,0,0,1]=some (bm 3 2 key,[],[Int.fmod n 6=(3:Int),¬ (Int.fmod (Int.fdiv n 6) 3=0),¬ (Int.fmod (Int.fdiv n 6) 3=1),Int.fmod (Int.fdiv n 6) 3=2,key.length+(⟨#[32,61,32,34]⟩:Str).length<=aa,(key++(⟨#[32,61,32,34]⟩:Str)).length+(⟨#[105,116,39,115]⟩:Str).length<=aa,((key++(⟨#[32,61,32,34]⟩:Str))++(⟨#[105,116,39,115]⟩:Str)).length+(⟨#[34]⟩:Str).length<=aa]):=by kernel_rfl
theorem E8 (n:Int) (key:Str):ca n key [5,1]=some (bm 4 0 key,[],[Int.fmod n 6=(4:Int),Int.fmod (Int.fdiv n 6) 3=0,key.length+(⟨#[61,39]⟩:Str).length<=aa,(key++(⟨#[61,39]⟩:Str)).length+(⟨#[49,60,50]⟩:Str).length<=aa,((key++(⟨#[61,39]⟩:Str))++(⟨#[49,60,50]⟩:Str)).length+(⟨#[39]⟩:Str).length<=aa]):=by kernel_rfl
theorem E7 (n:Int) (key:Str):ca n key [5,0,1,0]=some (bm 4 1 key,[],[Int.fmod n 6=(4:Int),¬ (Int.fmod (Int.fdiv n 6) 3=0),Int.fmod (Int.fdiv n 6) 3=1,¬ (Int.fmod (Int.fdiv n 6) 3=2),key.length+(⟨#[32,61,32,34]⟩:Str).length<=aa,(key++(⟨#[32,61,32,34]⟩:Str)).length+(⟨#[49,60,50]⟩:Str).length<=aa,((key++(⟨#[32,61,32,34]⟩:Str))++(⟨#[49,60,50]⟩:Str)).length+(⟨#[34]⟩:Str).length<=aa]):=by kernel_rfl
theorem E6 (n:Int) (key:Str):ca n key [5,0,0,1]=some (bm 4 2 key,[],[Int.fmod n 6=(4:Int),¬ (Int.fmod (Int.fdiv n 6) 3=0),¬ (Int.fmod (Int.fdiv n 6) 3=1),Int.fmod (Int.fdiv n 6) 3=2,key.length+(⟨#[32,61,32,34]⟩:Str).length<=aa,(key++(⟨#[32,61,32,34]⟩:Str)).length+(⟨#[49,60,50]⟩:Str).length<=aa,((key++(⟨#[32,61,32,34]⟩:Str))++(⟨#[49,60,50]⟩:Str)).length+(⟨#[34]⟩:Str).length<=aa]):=by kernel_rfl
theorem E5 (n:Int) (key:Str):ca n key [6,1]=some (bm 5 0 key,[],[Int.fmod n 6=(5:Int),Int.fmod (Int.fdiv n 6) 3=0,key.length+(⟨#[61,39]⟩:Str).length<=aa,(key++(⟨#[61,39]⟩:Str)).length+(⟨#[120,61,121]⟩:Str).length<=aa,((key++(⟨#[61,39]⟩:Str))++(⟨#[120,61,121]⟩:Str)).length+(⟨#[39]⟩:Str).length<=aa]):=by kernel_rfl
theorem E4 (n:Int) (key:Str):ca n key [6,0,1,0]=some (bm 5 1 key,[],[Int.fmod n 6=(5:Int),¬ (Int.fmod (Int.fdiv n 6) 3=0),Int.fmod (Int.fdiv n 6) 3=1,¬ (Int.fmod (Int.fdiv n 6) 3=2),key.length+(⟨#[32,61,32,34]⟩:Str).length<=aa,(key++(⟨#[32,61,32,34]⟩:Str)).length+(⟨#[120,61,121]⟩:Str).length<=aa,((key++(⟨#[32,61,32,34]⟩:Str))++(⟨#[120,61,121]⟩:Str)).length+(⟨#[34]⟩:Str).length<=aa]):=by kernel_rfl
theorem E3 (n:Int) (key:Str):ca n key [6,0,0,1]=some (bm 5 2 key,[],[Int.fmod n 6=(5:Int),¬ (Int.fmod (Int.fdiv n 6) 3=0),¬ (Int.fmod (Int.fdiv n 6) 3=1),Int.fmod (Int.fdiv n 6) 3=2,key.length+(⟨#[32,61,32,34]⟩:Str).length<=aa,(key++(⟨#[32,61,32,34]⟩:Str)).length+(⟨#[120,61,121]⟩:Str).length<=aa,((key++(⟨#[32,61,32,34]⟩:Str))++(⟨#[120,61,121]⟩:Str)).length+(⟨#[34]⟩:Str).length<=aa]):=by kernel_rfl
end TE
namespace TE
noncomputable def kR:List AV->EM AV:=fun args=>match two args with
 | some (a,b)=>(match a with
  | .sint n=>(match b with
   | .str k=>do
    EM.need (k.length<=100)
    let p <- EM.new (.tuple [.sstr (af n k).1,.sstr (af n k).2])
    EM.ret (.ptr p)
   | _=>EM.fail)
  | _=>EM.fail)
 | none=>EM.fail
theorem vG {args:List AV} {es:ES} {x:AV×ES×List Prop} (h:kR args es=some x):∃ n k,args=[.sint n,.str k]:=by
 dsimp only[kR] at h
 cases q:two args with
 | none=>rw[q] at h;exact non h
 | some p =>
  obtain ⟨a,b⟩:=p;rw[q] at h
  cases a with
  | sint n =>
   cases b with
   | str k=>exact ⟨n,k,pX q⟩
   | _=>exact non h
  | _=>exact non h
noncomputable def one {α:Type}:List α->Option α
 | [a]=>some a
 | _=>none
theorem Ay {α:Type} {l:List α} {p:α} (h:one l=some p):l=[p]:=by
 match l,h with
 | [a],h=>obtain rfl:=Qb (show some a=some p from h);rfl
 | [],h=>exact non h
 | _::_::_,h=>exact non h
noncomputable def kA:List AV->EM AV:=fun args=>match one args with
 | some a=>(match a with
  | .ptr i=>do
   match <- EM.obj i with
   | .numl ns=>do
    EM.need (ns.length<=1000)
    EM.set i (.numl ns.tail)
    EM.ret (.sint (ns.headD 0))
   | _=>EM.fail
  | _=>EM.fail)
 | none=>EM.fail
theorem vz {args:List AV} {es:ES} {x:AV×ES×List Prop} (h:kA args es=some x):∃ i,args=[.ptr i]:=by
 dsimp only[kA] at h
 cases q:one args with
 | none=>rw[q] at h;exact non h
 | some a =>
  rw[q] at h
  cases a with
  | ptr i=>exact ⟨i,Ay q⟩
  | _=>exact non h
noncomputable def kr (f:Addr):Option (List AV->EM AV):=match f with
 | 808=>some kA
 | 820=>some kR
 | _=>none
theorem FY:db tab gV fD 2 808 [.ptr 0] ⟨[.numl []],[]⟩=some (.int 0,⟨[.numl [],.ns [(⟨#[116,97,112,101]⟩,.ptr 0)]],[]⟩,[([]:List Int).length < aa]):=by kernel_rfl
theorem FW (x:Int) (r:List Int):db tab gV fD 2 808 [.ptr 0] ⟨[.numl (x::r)],[]⟩=some (.sint x,⟨[.numl r,.ns [(⟨#[116,97,112,101]⟩,.ptr 0)]],[]⟩,[(x::r).length < aa,r.length < aa]):=by kernel_rfl
section
variable {prog:Program} {w:World} {z5:Heap} {K:Frag} {A:Around} {es:ES} {ρ:Nat->Addr} {s:Shared}
theorem sM (hT:∀ f r,tab.fn f=some r->bP w z5 f r) {f:Addr} (h:(tab.fn f).isSome=true):FnH z5 f:=by
 refine ag fun G0 hG0=>?_;obtain ⟨r,e⟩:=Option.isSome_iff_exists.mp h;obtain ⟨K',oc,od,osl,fd,X,k1,_⟩:=(hT f r e).ok;refine hG0 ?_;exact ⟨K',X,by unfold fnIn;rw[k1]⟩
theorem Cz (hb:z5.objs.size<=s.heap.objs.size) (hk:∀ b o,z5.get? b=some o->s.heap.get? b=some o):Rel w.params z5 (fun _=>0) [] s.heap :=
 ⟨hb,hk,fun i o e=>by simp at e,fun i hi=>absurd hi (Nat.not_lt_zero _),fun i j hi=>absurd hi (Nat.not_lt_zero _)⟩
theorem wa {s s':Shared} (g:s'.gens=s.gens) (o:s'.os=s.os) (d:s'.drawn=s.drawn):s'={ s with heap:=s'.heap,toks:=s'.toks }:=by
 obtain ⟨a,b,c,d',e⟩:=s';obtain ⟨a2,b2,c2,d2,e2⟩:=s;dsimp only at g o d;subst g o d;rfl
theorem BW {r:Option (AV×ES×List Prop)} {p:Str×Str} {pc:List Prop} (h:nQ r=some (p,[],pc)):∃ i es a b,r=some (.ptr i,es,pc)/\i < es.hp.length/\atD es.hp i=.tuple [a,b]/\dL a=some p.1/\dL b=some p.2:=by
 cases r with
 | none=>exact non h
 | some x =>
  obtain ⟨v,es,pc'⟩:=x
  cases v with
  | ptr i =>
   dsimp only[nQ] at h
   cases q1:Nat.blt i es.hp.length with
   | false=>rw[q1] at h;exact non h
   | true =>
    rw[q1] at h;dsimp only at h
    cases q2:gN (atD es.hp i) with
    | none=>rw[q2] at h;exact non h
    | some p' =>
     rw[q2] at h;obtain ⟨a,b,e,e1,e2⟩:=oo q2;have h:=Qb h;obtain rfl:p'=p:=congrArg (·.1) h;obtain rfl:pc'=pc:=congrArg (·.2.2) h;exact ⟨i,es,a,b,rfl,Qc q1,e,e1,e2⟩
  | _=>exact non h
theorem wj {P:Params} {n n':Nat} {ρ ρ':Nat->Addr} {h:Heap} {a:Addr} {x y:Str} (H:ORel P n ρ h a (.tuple [.sstr x,.sstr y])):ORel P n' ρ' h a (.tuple [.sstr x,.sstr y]):=by
 obtain ⟨its,ep,o1,o2⟩:=H;refine ⟨its,ep,o1,?_⟩
 match hl:its.toList,o2 with
 | [u,v],o2=>exact ⟨o2.1,o2.2.1,trivial⟩
 | [],o2=>exact o2.elim
 | [_],o2=>exact o2.2.elim
 | _::_::_::_,o2=>exact o2.2.2.elim
theorem jV {n:Nat} {ρ:Nat->Addr} {a:AV} {s:Str} {v:Value} (e:dL a=some s) (h:VRel n ρ a v):∃ t,v=.str s t:=by
 rcases v7 e with rfl | rfl
 ·exact h
 ·exact h
theorem xD {P:Params} {n:Nat} {ρ:Nat->Addr} {h:Heap} {a:Addr} {x y:AV} {u v:Str} (H:ORel P n ρ h a (.tuple [x,y])) (sx:dL x=some u) (sy:dL y=some v):ORel P n ρ h a (.tuple [.sstr u,.sstr v]):=by
 obtain ⟨its,ep,o1,o2⟩:=H;refine ⟨its,ep,o1,?_⟩
 match hl:its.toList,o2 with
 | [u,v],o2=>exact ⟨jV sx o2.1,jV sy o2.2.1,trivial⟩
 | [],o2=>exact o2.elim
 | [_],o2=>exact o2.2.elim
 | _::_::_::_,o2=>exact o2.2.2.elim
section
variable {a b c d e f g:Prop} {k x y z:Str}
theorem ir (ha:a) (hb:b) (hc:c) (hd:d) (he:e):∀ p∈[a,b,c,d,e],p:=fun p h=>by
 simp only[List.mem_cons,List.not_mem_nil,or_false] at h;rcases h with rfl | rfl | rfl | rfl | rfl<;>assumption
theorem F2 (ha:a) (hb:b) (hc:c) (hd:d):∀ p∈[a,b,c,d],p:=fun p h=>by
 simp only[List.mem_cons,List.not_mem_nil,or_false] at h;rcases h with rfl | rfl | rfl | rfl<;>assumption
theorem d9 (ha:a) (hb:b) (hc:c) (hd:d) (he:e) (hf:f) (hg:g):∀ p∈[a,b,c,d,e,f,g],p:=fun p h=>by
 simp only[List.mem_cons,List.not_mem_nil,or_false] at h;rcases h with rfl | rfl | rfl | rfl | rfl | rfl | rfl<;>assumption
theorem kl1 (h:k.length<=100) (q:Nat.ble x.length 50=true):k.length+x.length<=aa:=Qf (Nat.add_le_add h (Qc q)) (Qc rfl)
theorem kl2 (h:k.length<=100) (q:Nat.ble x.length 50=true) (q2:Nat.ble y.length 50=true):(k++x).length+y.length<=aa:=by
 rw[Str.length_append];exact Qf (Nat.add_le_add (Nat.add_le_add h (Qc q)) (Qc q2)) (Qc rfl)
theorem kl3 (h:k.length<=100) (q:Nat.ble x.length 50=true) (q2:Nat.ble y.length 50=true) (q3:Nat.ble z.length 50=true):((k++x)++y).length+z.length<=aa:=by
 rw[Str.length_append,Str.length_append];exact Qf (Nat.add_le_add (Nat.add_le_add (Nat.add_le_add h (Qc q)) (Qc q2)) (Qc q3)) (Qc rfl)
theorem fne {i j l:Int} (h:i=j) (q:j≠l):¬ (i=l):=fun e=>q (h.symm.trans e)
end
theorem yU (B:Bt prog w z5 K tab) (hT:∀ f r,tab.fn f=some r->bP w z5 f r):jf prog w z5 820 kR:=by
 refine ⟨sM hT (by kernel_rfl),fun A hA hd es ρ s args vs hR hv=>?_⟩;intro a es' pc e z8;obtain ⟨n,k,rfl⟩:=vG e
 ·skip
  obtain ⟨_,es1,p1,p2,e1,e2,rfl⟩:=ak e;obtain ⟨rfl,rfl⟩:=dz e1;obtain ⟨i,es2,p3,p4,e3,e4,rfl⟩:=ak e2;obtain ⟨rfl,rfl,rfl⟩:=dF e3;refine au e4 ?_;have hz:k.length<=100:=z8 _ (by simp)
  match vs,hv with
  | [v1,v2],hv =>
   obtain ⟨⟨t,rfl⟩,⟨u,rfl⟩,_⟩:=hv;have C:=gE B (i0 B hT) jG hT 2 A ⟨hA,by lia⟩
   have fin:∀ (dec:List Nat) (pc:List Prop),ca n k dec=some (af n k,[],pc)->(∀ p∈pc,p)->codeAny (model prog w) A (.call (.ref 820) ⟨[.int n t,.str k u],[]⟩)
     (fun r s'=>∃ v ρ',r=.ok (.ret v)/\Stp w.params z5 ρ es1.hp s ρ' (es1.hp++[AO.tuple [.sstr (af n k).1,.sstr (af n k).2]]) s'/\VRel (es1.hp++[AO.tuple [.sstr (af n k).1,.sstr (af n k).2]]).length ρ' (.ptr es1.hp.length) v) s:=fun dec pc e hp=>by
    refine ag fun G0 hG0=>?_;obtain ⟨i,es2,x,y,e1,hi,hat,sx,sy⟩:=BW e;refine hG0 ?_;refine codeAny_mono (C ⟨[],dec⟩ (fun _=>0) s 820 [.sint n,.sstr k] [.int n t,.str k u] (Cz hR.base hR.keep) ⟨⟨t,rfl⟩,⟨u,rfl⟩,trivial⟩ _ _ _ e1 hp) fun r s' z=>?_;obtain ⟨v,ρ',rfl,S,rv⟩:=z;have es':=wa S.gens S.os S.drawn
    have O:ORel w.params es2.hp.length ρ' s'.heap (ρ' i) (.tuple [.sstr (af n k).1,.sstr (af n k).2]):=by
     have O1:=S.rel.own i _ (gd hi);rw[hat] at O1;exact xD O1 sx sy
    refine ⟨_,ext1 ρ es1.hp.length (ρ' i),rfl,?_,?_⟩
    ·rw[es'];exact Stp.new hR (S.fresh i (Qu _) hi) S.size (fun b o e=>S.other b o (fun j hj=>absurd hj (Nat.not_lt_zero _)) e) (wj O)
    ·rw[rv.2];exact f8
   have h6:0<=Int.fmod n 6/\Int.fmod n 6 < 6:=⟨Int.fmod_nonneg_of_pos _ (by decide),Int.fmod_lt_of_pos _ (by decide)⟩;have h3:0<=Int.fmod (Int.fdiv n 6) 3/\Int.fmod (Int.fdiv n 6) 3 < 3:=⟨Int.fmod_nonneg_of_pos _ (by decide),Int.fmod_lt_of_pos _ (by decide)⟩;have hk:k.cps.size<=100:=hz;have hj:Int.fmod n 6=0\/Int.fmod n 6=1\/Int.fmod n 6=2\/Int.fmod n 6=3\/Int.fmod n 6=4\/Int.fmod n 6=5:=by lia
   have hw:Int.fmod (Int.fdiv n 6) 3=0\/Int.fmod (Int.fdiv n 6) 3=1\/Int.fmod (Int.fdiv n 6) 3=2:=by lia
   have good:∀ (j w:Nat) (dec:List Nat) (pc:List Prop),Int.fmod n 6=(j:Int)->Int.fmod (Int.fdiv n 6) 3=(w:Int)->ca n k dec=some (bm j w k,[],pc)->ca n k dec=some (af n k,[],pc):=fun j w dec pc h1 h2 h=>by
    unfold af;rw[h1,h2];exact h
   rcases hj with hj | hj | hj | hj | hj | hj<;>rcases hw with hw | hw | hw
   ·exact fin _ _ (good 0 0 _ _ hj hw (Fk n k)) (ir hj hw (kl1 hz (by decide)) (kl2 hz (by decide) (by decide)) (kl3 hz (by decide) (by decide) (by decide)))
   ·exact fin _ _ (good 0 1 _ _ hj hw (Fj n k)) (d9 hj (fne hw (by decide)) hw (fne hw (by decide)) (kl1 hz (by decide)) (kl2 hz (by decide) (by decide)) (kl3 hz (by decide) (by decide) (by decide)))
   ·exact fin _ _ (good 0 2 _ _ hj hw (Fi n k)) (F2 hj (fne hw (by decide)) (fne hw (by decide)) hw)
   ·exact fin _ _ (good 1 0 _ _ hj hw (Fh n k)) (ir hj hw (kl1 hz (by decide)) (kl2 hz (by decide) (by decide)) (kl3 hz (by decide) (by decide) (by decide)))
   ·exact fin _ _ (good 1 1 _ _ hj hw (Fg n k)) (ir hj (fne hw (by decide)) hw (kl1 hz (by decide)) (kl2 hz (by decide) (by decide)))
   ·exact fin _ _ (good 1 2 _ _ hj hw (Ff n k)) (d9 hj (fne hw (by decide)) (fne hw (by decide)) hw (kl1 hz (by decide)) (kl2 hz (by decide) (by decide)) (kl3 hz (by decide) (by decide) (by decide)))
   ·exact fin _ _ (good 2 0 _ _ hj hw (Fe n k)) (ir hj hw (kl1 hz (by decide)) (kl2 hz (by decide) (by decide)) (kl3 hz (by decide) (by decide) (by decide)))
   ·exact fin _ _ (good 2 1 _ _ hj hw (Fd n k)) (d9 hj (fne hw (by decide)) hw (fne hw (by decide)) (kl1 hz (by decide)) (kl2 hz (by decide) (by decide)) (kl3 hz (by decide) (by decide) (by decide)))
   ·exact fin _ _ (good 2 2 _ _ hj hw (Fc n k)) (d9 hj (fne hw (by decide)) (fne hw (by decide)) hw (kl1 hz (by decide)) (kl2 hz (by decide) (by decide)) (kl3 hz (by decide) (by decide) (by decide)))
   ·exact fin _ _ (good 3 0 _ _ hj hw (Fb n k)) (d9 hj hw (fne hw (by decide)) (fne hw (by decide)) (kl1 hz (by decide)) (kl2 hz (by decide) (by decide)) (kl3 hz (by decide) (by decide) (by decide)))
   ·exact fin _ _ (good 3 1 _ _ hj hw (Fa n k)) (d9 hj (fne hw (by decide)) hw (fne hw (by decide)) (kl1 hz (by decide)) (kl2 hz (by decide) (by decide)) (kl3 hz (by decide) (by decide) (by decide)))
   ·exact fin _ _ (good 3 2 _ _ hj hw (E9 n k)) (d9 hj (fne hw (by decide)) (fne hw (by decide)) hw (kl1 hz (by decide)) (kl2 hz (by decide) (by decide)) (kl3 hz (by decide) (by decide) (by decide)))
   ·exact fin _ _ (good 4 0 _ _ hj hw (E8 n k)) (ir hj hw (kl1 hz (by decide)) (kl2 hz (by decide) (by decide)) (kl3 hz (by decide) (by decide) (by decide)))
   ·exact fin _ _ (good 4 1 _ _ hj hw (E7 n k)) (d9 hj (fne hw (by decide)) hw (fne hw (by decide)) (kl1 hz (by decide)) (kl2 hz (by decide) (by decide)) (kl3 hz (by decide) (by decide) (by decide)))
   ·exact fin _ _ (good 4 2 _ _ hj hw (E6 n k)) (d9 hj (fne hw (by decide)) (fne hw (by decide)) hw (kl1 hz (by decide)) (kl2 hz (by decide) (by decide)) (kl3 hz (by decide) (by decide) (by decide)))
   ·exact fin _ _ (good 5 0 _ _ hj hw (E5 n k)) (ir hj hw (kl1 hz (by decide)) (kl2 hz (by decide) (by decide)) (kl3 hz (by decide) (by decide) (by decide)))
   ·exact fin _ _ (good 5 1 _ _ hj hw (E4 n k)) (d9 hj (fne hw (by decide)) hw (fne hw (by decide)) (kl1 hz (by decide)) (kl2 hz (by decide) (by decide)) (kl3 hz (by decide) (by decide) (by decide)))
   ·exact fin _ _ (good 5 2 _ _ hj hw (E3 n k)) (d9 hj (fne hw (by decide)) (fne hw (by decide)) hw (kl1 hz (by decide)) (kl2 hz (by decide) (by decide)) (kl3 hz (by decide) (by decide) (by decide)))
  | [],hv=>exact hv.elim
  | [_],hv=>exact hv.2.elim
  | _::_::_::_,hv=>exact hv.2.2.elim
end
section
variable {prog:Program} {w:World} {z5:Heap} {K:Frag} {A:Around} {es:ES} {ρ:Nat->Addr} {s:Shared}
theorem Cy {P:Params} {h:Heap} {σ:List AO} (hR:Rel P z5 ρ σ h) {i:Nat} {ns:List Int} (e:σ[i]?=some (.numl ns)):Rel P z5 (fun _=>ρ i) [.numl ns] h:=by
 have hi:=(Qy e).1;refine ⟨hR.base,hR.keep,fun j o h=>?_,fun j hj=>hR.high i hi,fun j k hj hk _=>?_⟩
 ·cases j with
  | zero=>obtain rfl:=Qb h;exact hR.own i _ e
  | succ j=>exact non h
 ·have hj:j < 1:=hj;have hk:k < 1:=hk;lia
theorem xH (B:Bt prog w z5 K tab) (hT:∀ f r,tab.fn f=some r->bP w z5 f r):jf prog w z5 808 kA:=by
 refine ⟨sM hT (by kernel_rfl),fun A hA hd es ρ s args vs hR hv=>?_⟩;intro a es' pc e z8;obtain ⟨i,rfl⟩:=vz e
 ·skip
  obtain ⟨o,es1,p1,p2,e1,e2,rfl⟩:=ak e;obtain ⟨ho,rfl,rfl⟩:=bG e1
  cases o with
  | numl ns =>
   dsimp only at e2;obtain ⟨_,es2,p3,p4,e3,e4,rfl⟩:=ak e2;obtain ⟨rfl,rfl⟩:=dz e3;obtain ⟨_,es3,p5,p6,e5,e6,rfl⟩:=ak e4;obtain ⟨rfl,rfl⟩:=cR e5;refine au e6 ?_;have hz:ns.length<=1000:=z8 _ (by simp);have hi:=(Qy ho).1
   match vs,hv with
   | [v1],hv =>
    obtain ⟨⟨_,rfl⟩,_⟩:=hv;have R1:=Cy hR ho;have C:=gE B (i0 B hT) jG hT 2 A ⟨hA,by omega⟩
    have back:∀ {ρ1:Nat->Addr} {s1:Shared} {r:List Int} {l:List AO},Stp w.params z5 (fun _=>ρ i) [.numl ns] s ρ1 (.numl r::l) s1->Stp w.params z5 ρ es2.hp s ρ (es2.hp.set i (.numl r)) s1:=fun {ρ1 s1 r l} S=>by
     have h0:ρ1 0=ρ i:=S.ext 0 (by simp);refine Stp.frameOnly hR hi S.gens S.os S.drawn S.size (fun b ob hb e=>S.other b ob (fun _ _=>hb.symm) e) ?_;have:=S.rel.own 0 _ rfl;rw[h0] at this;exact this
    cases ns with
    | nil =>
     refine codeAny_mono (C ⟨[.numl []],[]⟩ (fun _=>ρ i) s 808 [.ptr 0] [.ref (ρ i)] R1 ⟨⟨by simp,rfl⟩,trivial⟩ _ _ _ FY (fun p hp=>?_)) fun r s' z=>?_
     ·simp only[List.mem_singleton] at hp;subst hp;simp[aa]
     ·obtain ⟨v,ρ',rfl,S,rv⟩:=z;obtain ⟨t,rfl⟩:=rv;exact ⟨_,ρ,rfl,back S,⟨t,rfl⟩⟩
    | cons x r =>
     refine codeAny_mono (C ⟨[.numl (x::r)],[]⟩ (fun _=>ρ i) s 808 [.ptr 0] [.ref (ρ i)] R1 ⟨⟨by simp,rfl⟩,trivial⟩ _ _ _ (FW x r) (fun p hp=>?_)) fun r' s' z=>?_
     ·simp only[List.length_cons] at hz;simp only[List.mem_cons,List.not_mem_nil,or_false] at hp;rcases hp with rfl | rfl
      ·simp only[List.length_cons];unfold aa;omega
      ·unfold aa;omega
     ·obtain ⟨v,ρ',rfl,S,rv⟩:=z;obtain ⟨t,rfl⟩:=rv;exact ⟨_,ρ,rfl,back S,⟨t,rfl⟩⟩
   | [],hv=>exact hv.elim
   | _::_::_,hv=>exact hv.2.elim
  | _=>exact aL e2
theorem jK (B:Bt prog w z5 K tab) (hT:∀ f r,tab.fn f=some r->bP w z5 f r):∀ f g,kr f=some g->jf prog w z5 f g:=fun f g e=>by
 unfold kr at e
 split at e
 ·obtain rfl:=Qb e;exact xH B hT
 ·obtain rfl:=Qb e;exact yU B hT
 ·exact non e
end
end TE
namespace TE
set_option backward.match.sparseCases false
set_option tactic.hygienic false
noncomputable def frg (o:Nat->Obj) (as:List Addr):Frag:=as.map fun a=>(a,o a)
abbrev Chk:=List Addr×(Frag->Bool)
noncomputable def eQ (o:Nat->Obj) (l:List Chk):Bool:=l.all fun p=>p.2 (frg o p.1)
theorem lU {o o':Nat->Obj} {as:List Addr} (h:∀ a∈as,o a=o' a):frg o as=frg o' as:=List.map_congr_left fun a ha=>by rw[h a ha]
theorem vt {o o':Nat->Obj} {l:List Chk} (h:∀ p∈l,∀ a∈p.1,o a=o' a):eQ o l=eQ o' l:=by
 unfold eQ
 induction l with
 | nil=>rfl
 | cons p r ih =>
  rw[List.all_cons,List.all_cons,lU (h p (.head _)),ih fun q hq=>h q (.tail _ hq)]
theorem sK {o:Nat->Obj} {h:Heap} {as:List Addr} (H:∀ a∈as,h.get? a=some (o a)):(frg o as).In h:=fun a ob e=>by
 have:∀ {l:List Addr},(frg o l).lookup a=some ob->a∈l/\ob=o a:=fun {l}=>by
  induction l with
  | nil=>intro e;exact non e
  | cons b r ih =>
   intro e;have e:((b,o b)::frg o r).lookup a=some ob:=e;rw[List.lookup_cons] at e
   by_cases q:a=b
   ·subst q;rw[beq_self_eq_true] at e;obtain rfl:=Qb e;exact ⟨.head _,rfl⟩
   ·rw[beq_eq_false_iff_ne.mpr q] at e;obtain ⟨h1,h2⟩:=ih e;exact ⟨.tail _ h1,h2⟩
 obtain ⟨h1,rfl⟩:=this e;exact H a h1
noncomputable def iy (f:Addr):Chk:=([f,f - 1],fun K=>fnB K f)
noncomputable def iK (K:Frag) (f T:Addr) (v:Value):Bool:=match gS (K.lookup f) with
 | some x=>(match gY (K.lookup T) with
  | some y=>x.2.2.1.defaults==.ref T&&y.2.2.1.toList==[v]
  | none=>false)
 | none=>false
noncomputable def iz (f T:Addr) (v:Value):Chk:=([f,f - 1,T],fun K=>fnB K f&&iK K f T v)
noncomputable def gc (a:Addr) (x:AO):Chk:=([a],fun K=>jn K a x)
noncomputable def m8 (a:AV) (v:Value):Bool:=match a with
 | .bi b=>v==b.val
 | .con c=>v==c
 | a=>jc a v
noncomputable def nz (K:Frag) (p:Str×AV):Bool:=match gr (K.lookup 3) with
 | some x=>(match gr (K.lookup 0) with
  | some y=>(match nsFind x.2.2.1 p.1 with
   | some v=>m8 p.2 v
   | none=>(match nsFind y.2.2.1 p.1 with
    | some v=>m8 p.2 v
    | none=>false))
  | none=>false)
 | none=>false
noncomputable def kF:List (Str×AV):=[(⟨#[114,97,110,103,101]⟩,.con (.type "range")),(⟨#[109,105,110]⟩,.con (.builtin "min"))]
noncomputable def rd:Chk:=([3,0],fun K=>(jv++kF).all (nz K))
noncomputable def fnsA:List Addr:=[42,63,70,84,98,105,112,119,126,133,148]
noncomputable def fnsB:List Addr:=[297,304,353,360,367,535,542,549,556,563,570,577,584,591,605,612,619,626,633,640,773,780,787,794,801,808,813,820]
noncomputable def chkA:List Chk:=fnsA.map iy++[iz 141 134 .none,iz 156 149 (.bool false),([73,72,70,63],fun K=>gQ K 73 kL&&gU K 73 63),([166,165,98,105,112,119,126,133,141,148,156,163],fun K=>gQ K 166 lb&&gU K 166 98),
 gc 49 (.tuple [.int 3,.int 4,.int 5]),gc 22 (.tuple (fF ah)),gc 27 (.tuple (fF aC)),gc 48 (.dict ttab)]
noncomputable def chkB:List Chk:=fnsB.map iy++[iy 268,iz 261 254 .none,([762,761,261,297,304,311,353,360,367,535,542,549,556,563,570,577,584,591,598,605,612,619,626,633,640,647],fun K=>gQ K 762 la&&gU K 762 261),
 ([762,761,268],fun K=>findIn K (.ref 762) "__iter__" == some (some (.ref 268))&&typeIn K (.ref 268)==some (.type "function")),rd]
noncomputable def dm (o:Nat->Obj) (f:Addr):Option (Arguments×FuncBody×Scope):=c9 (frg o [f]) f
noncomputable def gh (f:Addr):Option (Arguments×FuncBody×Scope):=match dP f with
 | some r=>some (r.params,.stmts r.body,r.scope)
 | none=>none
noncomputable def fnsA':List Addr:=fnsA++[141,156]
noncomputable def fnsB':List Addr:=fnsB++[261]
noncomputable def kh (P:Params):List Int:=ttab.map fun p=>PyData.keyHash P p.1
noncomputable def cK (l:List Chk):List Addr:=l.flatMap (·.1)
structure Facts (P:Params) (h:Heap):Prop where
 all:∃ o:Nat->Obj,(∀ a∈cK chkA++cK chkB,h.get? a=some (o a))/\eQ o chkA=true/\eQ o chkB=true/\i3 (frg o [48]) 48=kh P /\
  fnsA'.map (dm o)=fnsA'.map gh/\fnsB'.map (dm o)=fnsB'.map gh/\dm o 268=some (bL.1,.stmts bL.2.1,bL.2.2)
theorem Facts.keeps {P:Params} {h h':Heap} (F:Facts P h) (k:∀ b o,h.get? b=some o->h'.get? b=some o):Facts P h' :=
 let ⟨o,h1,r⟩:=F.all;⟨o,fun a ha=>k _ _ (h1 a ha),r⟩
end TE
namespace TE
set_option backward.match.sparseCases false
set_option tactic.hygienic false
abbrev et:String := "special-get-raises"
noncomputable def im (T:BT) (a:Addr):Bool:=match T.get a with
 | some ⟨_,_,.freed,_⟩=>false
 | some _=>true
 | none=>false
noncomputable def mJ (l:List (Nat×Obj)) (r:Flow×SharedT×Code×Pos):=((je r.1,r.2.2.1,r.2.2.2,r.2.1.n,r.2.1.life,r.2.1.gens,r.2.1.drawn,r.2.1.toks,r.2.1.os,l.map fun p=>r.2.1.tree.get p.1),
 ((cK chkA).all (im r.2.1.tree),eQ (bR r.2.1.tree) chkA,i3 (frg (bR r.2.1.tree) [48]) 48,fnsA'.map (dm (bR r.2.1.tree))))
noncomputable def mK (w:World) (os:OsState) (l:List (Nat×Obj)) (p:Pos) (n toks:Nat):=((true,fR,p,n,(boot_heap w.params).life,(Array.mk []:Array GenState),boot_drawn,toks,os,l.map fun p=>some p.2),
 (true,true,kh w.params,fnsA'.map gh))
noncomputable def gq:Pos:=⟨181,0,181,12⟩
noncomputable def ue (w:World):Prop:=∀ os,(segRunT treeTable pw w 11 (some (.ref 6)) 1 6000 (lift (S0 w os)) (piecesOf (body.take 21) dW fR dg [topFrame dg])).map (mJ (dn w))=some (mK w os (dn w) gq 247 844)
noncomputable def qv:Program:=view pw [31]
noncomputable def loose:List Str:=["_wall","EOF","spaceCharacters","asciiLetters","digits","hexDigits","asciiLower","entities","replacementCharacters","tokenTypes","tagTokenTypes","Text","_is_invalid","HTMLUnicodeInputStream","bisect_left","Trie","entitiesTrie","HTMLTokenizer",
 "_law_NAMES","_law_KEYS","_law_VALUES","_law_TEXTS","_law_NOTES","_law_next","_law_small","_law_attribute"]
noncomputable def kS (w:World) (os:OsState) (o:Nat->Obj):SharedT:=⟨mO 247 (jl (dn w) o),247,(boot_heap w.params).life,Array.mk [],boot_drawn,844,os⟩
noncomputable def rE (w:World) (r:Flow×SharedT×Code×Pos):=((je r.1,r.2.1.n,staticsOk (importedModules pw.main.body) (boot_heap w.params) r.2.1.abs.heap&&namesBound pw r.2.1.abs.heap&&gensDone r.2.1.abs&&laidKept (boot_heap w.params) r.2.1.abs.heap,openSeen qv loose (importedModules pw.main.body) (fun _=>true) true r.2.1.abs),
 ((cK chkB).all (im r.2.1.tree),eQ (bR r.2.1.tree) chkB,fnsB'.map (dm (bR r.2.1.tree)),dm (bR r.2.1.tree) 268,(cK chkA).map r.2.1.tree.get))
noncomputable def ud (w:World):Prop:=∀ os o,(segRunT treeTable pw w 11 (some (.ref 6)) 1 4000 (kS w os o) (piecesOf (body.drop 21) dW fR gq [topFrame dg])).map (rE w)=some ((true,826,true,openGood qv loose),(true,true,fnsB'.map gh,some (bL.1,.stmts bL.2.1,bL.2.2),(cK chkA).map fun a=>some (o a)))
theorem q7 {f:Flow} (h:je f=true):f=.next:=by cases f<;>first | rfl | exact noT h
theorem qI {T:BT} {n:Nat} {life:Life} {a:Addr} (h:a < n) (e:im T a=true):(absHeap T n life).get? a=some (bR T a):=by
 unfold im at e;unfold bR
 cases q:T.get a with
 | none=>rw[q] at e;exact noT e
 | some o =>
  rw[abs_get h q];rw[q] at e;obtain ⟨c,d,x,sl⟩:=o
  cases x<;>first | rfl | exact noT e
theorem Bq:∀ a∈cK chkA,a < 247:=by decide +kernel
theorem Bp:∀ a∈cK chkB,a < 826:=by decide +kernel
theorem k8 (hA:∀ w,ue w) (hB:∀ w,ud w) (ok:∀ w o,(d7 ((List.range 247).map (jl (dn w) o)) 0 .nil).isSome=true) (w:World) (os:OsState) :
  ∃ TA TB:SharedT,(∀ p∈dn w,TA.tree.get p.1=some p.2)/\TA.n=247/\TA.life=(boot_heap w.params).life/\(∃ c p',segRunT treeTable pw w 11 (some (.ref 6)) 1 4000 (kS w os (bR TA.tree)) (piecesOf (body.drop 21) dW fR gq [topFrame dg])=some (.next,TB,c,p')) /\
   topRun treeTable pw w 11 (some (.ref 6)) (12+(1+(6000+(4000+4)))) ⟨boot_heap w.params,Array.mk [],boot_drawn,boot_toks,os⟩ (topStub pw)=some TB.abs /\
   (staticsOk (importedModules pw.main.body) (boot_heap w.params) TB.abs.heap&&namesBound pw TB.abs.heap&&gensDone TB.abs&&laidKept (boot_heap w.params) TB.abs.heap)=true /\
   openSeen qv loose (importedModules pw.main.body) (fun _=>true) true TB.abs=openGood qv loose/\Facts w.params TB.abs.heap:=by
 refine ag fun G0 hG0=>?_;obtain ⟨⟨fA,TA,cA,pA⟩,a1,a2⟩:=Option.map_eq_some_iff.mp (hA w os);obtain ⟨a2,a3⟩:_/\_:=Prod.mk.inj a2;obtain ⟨x1,x2,x3,x4⟩:_/\_/\_/\_:=by simpa only[Prod.mk.injEq] using a3
 refine hG0 ?_
 obtain ⟨b1,b2,b3,b4,b5,b6,b7,b8,b9,b10⟩:je fA=true/\cA=fR/\pA=gq/\TA.n=247/\TA.life=(boot_heap w.params).life/\TA.gens=Array.mk []/\TA.drawn=boot_drawn/\TA.toks=844/\TA.os=os/\(dn w).map (fun p=>TA.tree.get p.1)=(dn w).map fun p=>some p.2:=by
  simpa only[Prod.mk.injEq] using a2
 refine ag fun G0 hG0=>?_;obtain rfl:=q7 b1;subst b2 b3
 have hl:∀ p∈dn w,TA.tree.get p.1=some p.2:=fun p hp=>by
  have:=List.map_eq_map_iff.mp b10 p hp;exact this
 obtain ⟨⟨fB,TB,cB,pB⟩,c1,c2⟩:=Option.map_eq_some_iff.mp (hB w os (bR TA.tree));obtain ⟨c2,c3⟩:_/\_:=Prod.mk.inj c2;obtain ⟨y1,y2,y3,y4,y5⟩:_/\_/\_/\_/\_:=by simpa only[Prod.mk.injEq] using c3
 refine hG0 ?_
 obtain ⟨d1,d2,d3,d4⟩:je fB=true/\TB.n=826/\(staticsOk (importedModules pw.main.body) (boot_heap w.params) TB.abs.heap&&namesBound pw TB.abs.heap&&gensDone TB.abs&&laidKept (boot_heap w.params) TB.abs.heap)=true/\openSeen qv loose (importedModules pw.main.body) (fun _=>true) true TB.abs=openGood qv loose:=by
  simpa only[Prod.mk.injEq] using c2
 obtain rfl:=q7 d1;refine ⟨TA,TB,hl,b4,b5,⟨cB,pB,c1⟩,?_,d3,d4,?_⟩;have rA:=segRun_of a1;rw[AE (FG w os)] at rA;have rB:=segRun_of c1
 have same:(kS w os (bR TA.tree)).abs=TA.abs:=by
  obtain ⟨T,n,life,gens,drawn,toks,os'⟩:=TA;dsimp only at b4 b5 b6 b7 b8 b9;subst b4 b5 b6 b7 b8 b9;unfold kS SharedT.abs;dsimp only;rw[vX (ok w _),wi hl,BY]
 rw[same] at rB;refine go_top (pre w os) (piece_block (s':=S0 w os) (p':=dg) ?_ ?_)
 ·unfold blockOf;rw[blk];rfl
 ·have sp:body=body.take 21++body.drop 21:=(List.take_append_drop 21 body).symm
  have key:=piece_app (rest:=body.drop 21) (N:=4000+4) (r:=TB.abs) rA (by
   obtain ⟨a,ha,hN⟩:=seg_top (res:=id) (K':=fun f=>doneF f) (H':=leaveH dW) (B:=[topFrame dg]) rfl 4000 TA.abs (piecesOf (body.drop 21) dW fR gq [topFrame dg]) (restOf (body.drop 21) dW fR gq [topFrame dg]) _ _ _ _ ⟨rfl,rfl,.inl ⟨rfl,rfl,_,rfl,rfl⟩⟩ rB;obtain rfl:a=.next:=ha;exact hN 4 _ AJ)
  rw[<- sp] at key;exact key
 ·have yo:∀ a∈cK chkA,TB.tree.get a=some (bR TA.tree a):=fun a ha=>List.map_eq_map_iff.mp y5 a ha
  have so:∀ a∈cK chkA,bR TB.tree a=bR TA.tree a:=fun a ha=>by
   show (TB.tree.get a).getD default=_;rw[yo a ha];rfl
  have mem:∀ p∈chkA,∀ a∈p.1,a∈cK chkA:=fun p hp a ha=>List.mem_flatMap.mpr ⟨p,hp,ha⟩;have m48:∀ a∈[48],bR TB.tree a=bR TA.tree a:=fun a ha=>so a (by rcases List.mem_singleton.mp ha with rfl;decide +kernel)
  have mf:∀ f∈fnsA',f∈cK chkA:=by decide +kernel
  refine ⟨bR TB.tree,fun a ha=>?_,?_,y2,?_,?_,y3,y4⟩
  ·rcases QA ha with ha | ha
   ·have l:=Bq a ha;have al:=List.all_eq_true.mp x1 a ha;refine qI (T:=TB.tree) (n:=TB.n) (life:=TB.life) (by rw[d2];exact Qd l (by decide)) ?_;unfold im;rw[yo a ha];unfold im at al;unfold bR
    cases q:TA.tree.get a with
    | none=>rw[q] at al;exact noT al
    | some ob=>rw[q] at al;exact al
   ·exact qI (T:=TB.tree) (n:=TB.n) (life:=TB.life) (by rw[d2];exact Bp a ha) (List.all_eq_true.mp y1 a ha)
  ·rw[vt fun p hp a ha=>so a (mem p hp a ha)];exact x2
  ·rw[lU m48];exact x3
  ·rw[<- x4];refine List.map_congr_left fun f hf=>?_;unfold dm;rw[lU fun a ha=>so a (by rcases List.mem_singleton.mp ha with rfl;exact mf _ hf)]
end TE
namespace TE
theorem Eh (w:World) (o:Nat->Obj):(d7 ((List.range 247).map (jl (dn w) o)) 0 .nil).isSome=true:=by kernel_rfl
theorem wc (w:World) (os:OsState):(segRunT treeTable pw (w.withFollow et false) 11 (some (.ref 6)) 1 6000 (lift (S0 (w.withFollow et false) os)) (piecesOf (body.take 21) dW fR dg [topFrame dg])).map (mJ (dn (w.withFollow et false))) =
  some (mK (w.withFollow et false) os (dn (w.withFollow et false)) gq 247 844):=by
 rw[Fast.te10110043849684766642]
 kernel_rfl
theorem xq (w:World) (os:OsState):(segRunT treeTable pw (w.withFollow et true) 11 (some (.ref 6)) 1 6000 (lift (S0 (w.withFollow et true) os)) (piecesOf (body.take 21) dW fR dg [topFrame dg])).map (mJ (dn (w.withFollow et true))) =
  some (mK (w.withFollow et true) os (dn (w.withFollow et true)) gq 247 844):=by
 rw[Fast.te10110043849684766642]
 kernel_rfl
theorem GG:∀ w,ue w:=byRow2 et wc xq
theorem GF (w:World):ud w:=fun os o=>by
 unfold rE;rw[Fast.te10110043849684766642,Fast.te4187177175401517315]
 kernel_rfl
end TE
namespace TE
set_option tactic.hygienic false
theorem vD {p q:Program} {loose:List Str} {Xt:Shared->Bool} {α:Type} {Yf:Shared->α} {Ya:World->α} {m₀:Nat} {ann:Option Value} {M:Nat}
  (e:opening p=plainProg p.main.scope.names) (f:∀ s,fenceModules? p s=some s)
  (size:∀ w:World,((boot_heap w.params).isNs mainGlobals,(boot_heap w.params).objs.size,(boot_heap w.params).nsMap mainGlobals "__annotations__")=(true,m₀,ann))
  (top:∀ (w:World) (os:OsState),∃ s₁,topRun treeTable p w m₀ ann M ⟨boot_heap w.params,Array.mk [],boot_drawn,boot_toks,os⟩ (topStub p)=some s₁ /\
   (staticsOk (importedModules p.main.body) (boot_heap w.params) s₁.heap&&namesBound p s₁.heap&&gensDone s₁&&laidKept (boot_heap w.params) s₁.heap)=true /\
   openSeen q loose (importedModules p.main.body) Xt true s₁=openGood q loose/\Yf s₁=Ya w):LeftO p q loose Xt Yf Ya (M+600):=fun w=>by
 have o:=boot_open (p:=p) (N:=M+600) e (by rw[Nat.ble_eq];exact Nat.le_add_left 600 M) f w;refine ag fun G0 hG0=>?_;obtain ⟨⟨h,gs,d,k,os⟩,e1,e2⟩:=Option.map_eq_some_iff.mp o;obtain ⟨rfl,rfl,rfl,rfl⟩:h=boot_heap w.params/\gs=Array.mk []/\d=boot_drawn/\k=boot_toks:=by simpa using e2
 obtain ⟨z1,z2,z3⟩:_/\_/\_:=by simpa only[Prod.mk.injEq] using size w
 obtain ⟨s₁,r,l2,l3,l4⟩:=top w os;have top':=topRun_mono 600 _ _ _ _ r
 have t:topFrom treeTable p w (M+600) ⟨boot_heap w.params,Array.mk [],boot_drawn,boot_toks,os⟩=some s₁:=by
  unfold topFrom;dsimp only;rw[z1,z2,z3];rw[top'];show (match staticsOk (importedModules p.main.body) (boot_heap w.params) s₁.heap&&namesBound p s₁.heap&&gensDone s₁&&laidKept (boot_heap w.params) s₁.heap with | true=>_ | false=>_)=_
  rw[l2]
 refine hG0 ?_;unfold openEnds;rw[e1];show (topFrom treeTable p w _ _).map _=_;rw[t];exact congrArg some (Prod.ext l3 l4)
noncomputable def sW (h:Heap):Prop:=∃ o:Nat->Obj,(∀ a∈cK chkA++cK chkB,h.get? a=some (o a))/\eQ o chkA=true/\eQ o chkB=true /\
  fnsA'.map (dm o)=fnsA'.map gh/\fnsB'.map (dm o)=fnsB'.map gh/\dm o 268=some (bL.1,.stmts bL.2.1,bL.2.2)
noncomputable def j5 (h:Heap):List Int:=match h.get? 48 with
 | some o=>i3 [(48,o)] 48
 | none=>[]
theorem m48:48∈cK chkA++cK chkB:=by decide +kernel
theorem facts_iff {P:Params} {h:Heap}:Facts P h↔sW h/\j5 h=kh P:=by
 constructor
 ·rintro ⟨o,h1,h2,h3,h4,h5⟩
  refine ⟨⟨o,h1,h2,h3,h5⟩,?_⟩;unfold j5;rw[h1 48 m48];exact h4
 ·rintro ⟨⟨o,h1,h2,h3,h5⟩,h4⟩
  refine ⟨o,h1,h2,h3,?_,h5⟩;unfold j5 at h4;rw[h1 48 m48] at h4;exact h4
noncomputable def ji (s:Shared):Prop×List Int:=(sW s.heap,j5 s.heap)
noncomputable def jg (w:World):Prop×List Int:=(True,kh w.params)
theorem F5:LeftO pw qv loose (fun _=>true) ji jg (12+(1+(6000+(4000+4)))+600) :=
 vD FR Et FK fun w os=>by
  refine ag fun G0 hG0=>?_;obtain ⟨TA,TB,_,_,_,_,h1,h2,h3,h4⟩:=k8 GG GF Eh w os;obtain ⟨f1,f2⟩:=facts_iff.mp h4;refine hG0 ?_;exact ⟨TB.abs,h1,h2,h3,by unfold ji jg;rw[f2,eq_true f1]⟩
theorem AY {w:World} {s:Shared} (h:ji s=jg w):Facts w.params s.heap:=by
 unfold ji jg at h;obtain ⟨h1,h2⟩:=Prod.mk.inj h;exact facts_iff.mpr ⟨of_eq_true h1,h2⟩
end TE
namespace TE
theorem skel (said:PySem.Challenge.rw_te0022_01.row.wellSaid=true)
 (call:∀ d kwd,defOf qv PySem.Challenge.rw_te0022_01.row.name=some (d,kwd)->WalkO qv loose (fun _ _=>True) (fun w h=>Facts w.params h) PySem.Challenge.rw_te0022_01.row.toRowW d kwd fun f vs=>PySem.call f vs):PySem.Challenge.rw_te0022_01.row.Holds:=by
 refine PySem.W.holds_open (r:=PySem.Challenge.rw_te0022_01.row) (q:=qv) (loose:=loose) (Xt:=fun _=>true) (XP:=fun _ _=>True) (Yf:=ji) (Ya:=jg) (YP:=fun w h=>Facts w.params h) (N:=12+(1+(6000+(4000+4)))+600) F5 (fun _ _ h=>AY h) (fun _ _ _ F k=>F.keeps k) (fun _ _=>trivial) (fun _ _ _ _ _=>trivial)
  (by rfl) (by rfl) (by rfl) (fun s _=>recFacts_of (R:=[]) (s:=s) rfl) rfl said ?ok ⟨rfl,rfl,rfl,rfl,rfl,by decide +kernel⟩ ?hw ?call
 case ok=>decide +kernel
 case hw=>exact ⟨[.list [.int 3,.int 1]],by decide +kernel,by decide +kernel⟩
 case call=>exact call _ _ rfl
noncomputable def txL:List Str:=[⟨#[38]⟩,⟨#[60]⟩,⟨#[0]⟩]
noncomputable def dqL:List Str:=[⟨#[34]⟩,⟨#[38]⟩,⟨#[0]⟩]
noncomputable def sqL:List Str:=[⟨#[39]⟩,⟨#[38]⟩,⟨#[0]⟩]
noncomputable def coL:List Str:=[⟨#[45]⟩,⟨#[0]⟩]
noncomputable abbrev bI:Prop:=ea (dR ⟨#[97,115,99,105,105,76,111,119,101,114]⟩) (dR ⟨#[97,115,99,105,105,76,111,119,101,114]⟩)
noncomputable abbrev xS (x:Sx):Str:=chS x.Y x.k
noncomputable def iq (opp:Bool) (l:List Str) (Y:Str) (k:Int):Int:=k+((gM opp l (Y.cps.toList.drop k.toNat):Nat):Int)
noncomputable def pC (x:Sx):List Prop:=[¬ bZ .GtE x.k x.n,0<=x.k/\x.k < (x.Y.length:Int)/\x.Y.length<=aa]
noncomputable def pRun (x:Sx) (k:Int):List Prop:=[gv i6 i6,0<=k/\k<=x.n/\x.n=(x.Y.length:Int)/\x.Y.length<=aa]
noncomputable def aX (x:Sx) (X:Str):Str:=Txt.slice X (some x.p) (some (x.p+10240))
noncomputable def be (x:Sx) (X:Str) (b:Bool):List Prop:=[x.n=(x.Y.length:Int)/\x.Y.length<=aa,x.n=(x.Y.length:Int)/\x.Y.length<=aa,
 (match b with | true=>Txt.rfind x.Y ⟨#[10]⟩=-1 | false=>¬ (Txt.rfind x.Y ⟨#[10]⟩=-1)),X.length<=aa,(aX x X).length<=aa,(aX x X).length<=aa,¬ ((aX x X).length≠0)]
noncomputable def bf (x:Sx) (X:Str) (b:Bool):Sx:=⟨⟨#[]⟩,0,0,x.pl+Txt.count x.Y ⟨#[10]⟩,(match b with | true=>x.pc+x.n | false=>x.n - (Txt.rfind x.Y ⟨#[10]⟩+1)),x.p+((aX x X).length:Int)⟩
noncomputable def x0:Sx:=⟨⟨#[]⟩,0,0,0,0,0⟩
noncomputable def xI (X:Str):Sx:=⟨aX x0 X,((aX x0 X).length:Int),0,0+Txt.count ⟨#[]⟩ ⟨#[10]⟩,0+0,0+((aX x0 X).length:Int)⟩
noncomputable def kC (Y:Str):Str:=⟨#[Y.cps.getD (Y.length - 1) 0]⟩
noncomputable def ba (X:Str) (b:Bool):List Prop:=[bZ .GtE 0 0,(0:Int)=((⟨#[]⟩:Str).length:Int)/\(⟨#[]⟩:Str).length<=aa,(0:Int)=((⟨#[]⟩:Str).length:Int)/\(⟨#[]⟩:Str).length<=aa,
 Txt.rfind ⟨#[]⟩ ⟨#[10]⟩=-1,X.length<=aa,(aX x0 X).length<=aa,(aX x0 X).length<=aa,(aX x0 X).length≠0,(aX x0 X).length<=aa] ++
 (match b with
 | true=>[bZ .Gt ((aX x0 X).length:Int) 1,0 < (aX x0 X).length/\(aX x0 X).length<=aa,(kC (aX x0 X)).length=1,¬ ((((kC (aX x0 X)).cps.getD 0 0:Nat):Int)=13),¬ bZ .LtE 55296 (((kC (aX x0 X)).cps.getD 0 0:Nat):Int)]
 | false=>[¬ bZ .Gt ((aX x0 X).length:Int) 1]) ++
 [gv i9 i9,∀ c∈(aX x0 X).cps.toList,cD c,(aX x0 X).length<=aa,Builtin.Str.occurrences (aX x0 X) ⟨#[13,10]⟩ 0 (aX x0 X).length ((aX x0 X).length+1)=[],
  Builtin.Str.occurrences (aX x0 X) ⟨#[13]⟩ 0 (aX x0 X).length ((aX x0 X).length+1)=[],(aX x0 X).length<=aa,0 < (aX x0 X).length/\(aX x0 X).length<=aa]
noncomputable abbrev rT (x:Sx) (o:Bool) (l:List Str):Int:=iq o l x.Y (x.k+1)
noncomputable abbrev uS (x:Sx) (o:Bool) (l:List Str):Str:=Txt.slice x.Y (some (x.k+1)) (some (rT x o l))
noncomputable abbrev wS (x:Sx):Str:=Txt.slice x.Y (some (x.k+1)) none
section
variable {ρ:Nat->Addr} {f:Fx} {rc:Value} {X:Str} {x:Sx} {ct:Value} {nm:Str} {a1 b1:Str} {a2 b2:Str} {a3 b3:Str} {t:Str}
theorem d_lt:aj ρ (turn (base f (.con rc) X x 304 (.con ct) [] ([])) [0,0,1]) =
 some (true,base f (.con rc) X { x with k:=x.k+1 } 353 (.con ct) [] ([]),[],pC x++[¬ (xS x=⟨#[38]⟩),(xS x)=⟨#[60]⟩]):=by kernel_rfl
theorem Ey:aj ρ (turn (base f (.con rc) X x 304 (.con ct) [] ([])) [0,0,0,0,1,0,1]) =
 some (true,base f (.con rc) X { x with k:=(rT x true ah) } 304 (.con ct) [.ptr 10] ([aW 2 ((xS x)++(uS x true ah))]),[],pC x++[¬ (xS x=⟨#[38]⟩),¬ (xS x=⟨#[60]⟩),¬ (xS x=⟨#[0]⟩),(xS x)∈ah]++pRun x (x.k+1)++[¬ ((rT x true ah)=(x.k+1)),(rT x true ah)≠x.n,x.Y.length<=aa,(uS x true ah).length<=aa]++[(xS x).length+(uS x true ah).length<=aa]):=by kernel_rfl
theorem EA:aj ρ (turn (base f (.con rc) X x 304 (.con ct) [] ([])) [0,0,0,0,0,0,1]) =
 some (true,base f (.con rc) X { x with k:=(rT x false txL) } 304 (.con ct) [.ptr 10] ([aW 1 ((xS x)++(uS x false txL))]),[],pC x++[¬ (xS x=⟨#[38]⟩),¬ (xS x=⟨#[60]⟩),¬ (xS x=⟨#[0]⟩),¬ ((xS x)∈ah)]++pRun x (x.k+1)++[¬ ((rT x false txL)=(x.k+1)),(rT x false txL)≠x.n,x.Y.length<=aa,(uS x false txL).length<=aa]++[(xS x).length+(uS x false txL).length<=aa]):=by kernel_rfl
theorem Ex:aj ρ (turn (base f (.con rc) X x 304 (.con ct) [] ([])) [0,0,0,0,1,1,1]) =
 some (true,base f (.con rc) X { x with k:=(x.k+1) } 304 (.con ct) [.ptr 10] ([aW 2 ((xS x)++(⟨#[]⟩:Str))]),[],pC x++[¬ (xS x=⟨#[38]⟩),¬ (xS x=⟨#[60]⟩),¬ (xS x=⟨#[0]⟩),(xS x)∈ah]++pRun x (x.k+1)++[(rT x true ah)=(x.k+1),(x.k+1)≠x.n]++[(xS x).length+(⟨#[]⟩:Str).length<=aa]):=by kernel_rfl
theorem Ez:aj ρ (turn (base f (.con rc) X x 304 (.con ct) [] ([])) [0,0,0,0,0,1,1]) =
 some (true,base f (.con rc) X { x with k:=(x.k+1) } 304 (.con ct) [.ptr 10] ([aW 1 ((xS x)++(⟨#[]⟩:Str))]),[],pC x++[¬ (xS x=⟨#[38]⟩),¬ (xS x=⟨#[60]⟩),¬ (xS x=⟨#[0]⟩),¬ ((xS x)∈ah)]++pRun x (x.k+1)++[(rT x false txL)=(x.k+1),(x.k+1)≠x.n]++[(xS x).length+(⟨#[]⟩:Str).length<=aa]):=by kernel_rfl
theorem Bh:aj ρ (turn (base f (.con rc) X x 304 (.con ct) [] ([])) [0,0,0,0,1,0,0,1,0]) =
 some (true,base f (.con rc) X (bf x X true) 304 (.con ct) [.ptr 10] ([aW 2 ((xS x)++(wS x))]),[],pC x++[¬ (xS x=⟨#[38]⟩),¬ (xS x=⟨#[60]⟩),¬ (xS x=⟨#[0]⟩),(xS x)∈ah]++pRun x (x.k+1)++[¬ ((rT x true ah)=(x.k+1)),¬ ((rT x true ah)≠x.n),x.Y.length<=aa]++be x X true++[(wS x).length<=aa]++[(xS x).length+(wS x).length<=aa]):=by kernel_rfl
theorem Bl:aj ρ (turn (base f (.con rc) X x 304 (.con ct) [] ([])) [0,0,0,0,0,0,0,1,0]) =
 some (true,base f (.con rc) X (bf x X true) 304 (.con ct) [.ptr 10] ([aW 1 ((xS x)++(wS x))]),[],pC x++[¬ (xS x=⟨#[38]⟩),¬ (xS x=⟨#[60]⟩),¬ (xS x=⟨#[0]⟩),¬ ((xS x)∈ah)]++pRun x (x.k+1)++[¬ ((rT x false txL)=(x.k+1)),¬ ((rT x false txL)≠x.n),x.Y.length<=aa]++be x X true++[(wS x).length<=aa]++[(xS x).length+(wS x).length<=aa]):=by kernel_rfl
theorem Bg:aj ρ (turn (base f (.con rc) X x 304 (.con ct) [] ([])) [0,0,0,0,1,0,0,0,0]) =
 some (true,base f (.con rc) X (bf x X false) 304 (.con ct) [.ptr 10] ([aW 2 ((xS x)++(wS x))]),[],pC x++[¬ (xS x=⟨#[38]⟩),¬ (xS x=⟨#[60]⟩),¬ (xS x=⟨#[0]⟩),(xS x)∈ah]++pRun x (x.k+1)++[¬ ((rT x true ah)=(x.k+1)),¬ ((rT x true ah)≠x.n),x.Y.length<=aa]++be x X false++[(wS x).length<=aa]++[(xS x).length+(wS x).length<=aa]):=by kernel_rfl
theorem Bk:aj ρ (turn (base f (.con rc) X x 304 (.con ct) [] ([])) [0,0,0,0,0,0,0,0,0]) =
 some (true,base f (.con rc) X (bf x X false) 304 (.con ct) [.ptr 10] ([aW 1 ((xS x)++(wS x))]),[],pC x++[¬ (xS x=⟨#[38]⟩),¬ (xS x=⟨#[60]⟩),¬ (xS x=⟨#[0]⟩),¬ ((xS x)∈ah)]++pRun x (x.k+1)++[¬ ((rT x false txL)=(x.k+1)),¬ ((rT x false txL)≠x.n),x.Y.length<=aa]++be x X false++[(wS x).length<=aa]++[(xS x).length+(wS x).length<=aa]):=by kernel_rfl
theorem Bf:aj ρ (turn (base f (.con rc) X x 304 (.con ct) [] ([])) [0,0,0,0,1,1,0,1,0]) =
 some (true,base f (.con rc) X (bf x X true) 304 (.con ct) [.ptr 10] ([aW 2 ((xS x)++(wS x))]),[],pC x++[¬ (xS x=⟨#[38]⟩),¬ (xS x=⟨#[60]⟩),¬ (xS x=⟨#[0]⟩),(xS x)∈ah]++pRun x (x.k+1)++[(rT x true ah)=(x.k+1),¬ ((x.k+1)≠x.n),x.Y.length<=aa]++be x X true++[(wS x).length<=aa]++[(xS x).length+(wS x).length<=aa]):=by kernel_rfl
theorem Bj:aj ρ (turn (base f (.con rc) X x 304 (.con ct) [] ([])) [0,0,0,0,0,1,0,1,0]) =
 some (true,base f (.con rc) X (bf x X true) 304 (.con ct) [.ptr 10] ([aW 1 ((xS x)++(wS x))]),[],pC x++[¬ (xS x=⟨#[38]⟩),¬ (xS x=⟨#[60]⟩),¬ (xS x=⟨#[0]⟩),¬ ((xS x)∈ah)]++pRun x (x.k+1)++[(rT x false txL)=(x.k+1),¬ ((x.k+1)≠x.n),x.Y.length<=aa]++be x X true++[(wS x).length<=aa]++[(xS x).length+(wS x).length<=aa]):=by kernel_rfl
theorem Be:aj ρ (turn (base f (.con rc) X x 304 (.con ct) [] ([])) [0,0,0,0,1,1,0,0,0]) =
 some (true,base f (.con rc) X (bf x X false) 304 (.con ct) [.ptr 10] ([aW 2 ((xS x)++(wS x))]),[],pC x++[¬ (xS x=⟨#[38]⟩),¬ (xS x=⟨#[60]⟩),¬ (xS x=⟨#[0]⟩),(xS x)∈ah]++pRun x (x.k+1)++[(rT x true ah)=(x.k+1),¬ ((x.k+1)≠x.n),x.Y.length<=aa]++be x X false++[(wS x).length<=aa]++[(xS x).length+(wS x).length<=aa]):=by kernel_rfl
theorem Bi:aj ρ (turn (base f (.con rc) X x 304 (.con ct) [] ([])) [0,0,0,0,0,1,0,0,0]) =
 some (true,base f (.con rc) X (bf x X false) 304 (.con ct) [.ptr 10] ([aW 1 ((xS x)++(wS x))]),[],pC x++[¬ (xS x=⟨#[38]⟩),¬ (xS x=⟨#[60]⟩),¬ (xS x=⟨#[0]⟩),¬ ((xS x)∈ah)]++pRun x (x.k+1)++[(rT x false txL)=(x.k+1),¬ ((x.k+1)≠x.n),x.Y.length<=aa]++be x X false++[(wS x).length<=aa]++[(xS x).length+(wS x).length<=aa]):=by kernel_rfl
theorem Gg:aj ρ (turn (base f (.ptr 10) X x0 304 (.con ct) [] ([.meth 148 (.ptr 3)])) [1,1,1,1,0,0,0,1]) =
 some (true,base f (.con (.ref (ρ 10))) X { (xI X) with k:=(xI X).k+1 } 353 (.con ct) [] ([]),[],ba X true++[¬ ((xS (xI X))=⟨#[38]⟩),(xS (xI X))=⟨#[60]⟩]):=by kernel_rfl
theorem C0:aj ρ (turn (base f (.ptr 10) X x0 304 (.con ct) [] ([.meth 148 (.ptr 3)])) [1,1,1,1,0,0,0,0,0,1,0,1]) =
 some (true,base f (.con (.ref (ρ 10))) X { (xI X) with k:=(rT (xI X) true ah) } 304 (.con ct) [.ptr 10] ([aW 2 ((xS (xI X))++(uS (xI X) true ah))]),[],ba X true++[¬ ((xS (xI X))=⟨#[38]⟩),¬ ((xS (xI X))=⟨#[60]⟩),¬ ((xS (xI X))=⟨#[0]⟩),(xS (xI X))∈ah]++pRun (xI X) ((xI X).k+1)++[¬ ((rT (xI X) true ah)=((xI X).k+1)),(rT (xI X) true ah)≠(xI X).n,(xI X).Y.length<=aa,(uS (xI X) true ah).length<=aa]++[(xS (xI X)).length+(uS (xI X) true ah).length<=aa]):=by kernel_rfl
theorem C2:aj ρ (turn (base f (.ptr 10) X x0 304 (.con ct) [] ([.meth 148 (.ptr 3)])) [1,1,1,1,0,0,0,0,0,0,0,1]) =
 some (true,base f (.con (.ref (ρ 10))) X { (xI X) with k:=(rT (xI X) false txL) } 304 (.con ct) [.ptr 10] ([aW 1 ((xS (xI X))++(uS (xI X) false txL))]),[],ba X true++[¬ ((xS (xI X))=⟨#[38]⟩),¬ ((xS (xI X))=⟨#[60]⟩),¬ ((xS (xI X))=⟨#[0]⟩),¬ ((xS (xI X))∈ah)]++pRun (xI X) ((xI X).k+1)++[¬ ((rT (xI X) false txL)=((xI X).k+1)),(rT (xI X) false txL)≠(xI X).n,(xI X).Y.length<=aa,(uS (xI X) false txL).length<=aa]++[(xS (xI X)).length+(uS (xI X) false txL).length<=aa]):=by kernel_rfl
theorem CZ:aj ρ (turn (base f (.ptr 10) X x0 304 (.con ct) [] ([.meth 148 (.ptr 3)])) [1,1,1,1,0,0,0,0,0,1,1,1]) =
 some (true,base f (.con (.ref (ρ 10))) X { (xI X) with k:=((xI X).k+1) } 304 (.con ct) [.ptr 10] ([aW 2 ((xS (xI X))++(⟨#[]⟩:Str))]),[],ba X true++[¬ ((xS (xI X))=⟨#[38]⟩),¬ ((xS (xI X))=⟨#[60]⟩),¬ ((xS (xI X))=⟨#[0]⟩),(xS (xI X))∈ah]++pRun (xI X) ((xI X).k+1)++[(rT (xI X) true ah)=((xI X).k+1),((xI X).k+1)≠(xI X).n]++[(xS (xI X)).length+(⟨#[]⟩:Str).length<=aa]):=by kernel_rfl
theorem C1:aj ρ (turn (base f (.ptr 10) X x0 304 (.con ct) [] ([.meth 148 (.ptr 3)])) [1,1,1,1,0,0,0,0,0,0,1,1]) =
 some (true,base f (.con (.ref (ρ 10))) X { (xI X) with k:=((xI X).k+1) } 304 (.con ct) [.ptr 10] ([aW 1 ((xS (xI X))++(⟨#[]⟩:Str))]),[],ba X true++[¬ ((xS (xI X))=⟨#[38]⟩),¬ ((xS (xI X))=⟨#[60]⟩),¬ ((xS (xI X))=⟨#[0]⟩),¬ ((xS (xI X))∈ah)]++pRun (xI X) ((xI X).k+1)++[(rT (xI X) false txL)=((xI X).k+1),((xI X).k+1)≠(xI X).n]++[(xS (xI X)).length+(⟨#[]⟩:Str).length<=aa]):=by kernel_rfl
theorem xZ:aj ρ (turn (base f (.ptr 10) X x0 304 (.con ct) [] ([.meth 148 (.ptr 3)])) [1,1,1,1,0,0,0,0,0,1,0,0,1,0]) =
 some (true,base f (.con (.ref (ρ 10))) X (bf (xI X) X true) 304 (.con ct) [.ptr 10] ([aW 2 ((xS (xI X))++(wS (xI X)))]),[],ba X true++[¬ ((xS (xI X))=⟨#[38]⟩),¬ ((xS (xI X))=⟨#[60]⟩),¬ ((xS (xI X))=⟨#[0]⟩),(xS (xI X))∈ah]++pRun (xI X) ((xI X).k+1)++[¬ ((rT (xI X) true ah)=((xI X).k+1)),¬ ((rT (xI X) true ah)≠(xI X).n),(xI X).Y.length<=aa]++be (xI X) X true++[(wS (xI X)).length<=aa]++[(xS (xI X)).length+(wS (xI X)).length<=aa]):=by kernel_rfl
theorem x8:aj ρ (turn (base f (.ptr 10) X x0 304 (.con ct) [] ([.meth 148 (.ptr 3)])) [1,1,1,1,0,0,0,0,0,0,0,0,1,0]) =
 some (true,base f (.con (.ref (ρ 10))) X (bf (xI X) X true) 304 (.con ct) [.ptr 10] ([aW 1 ((xS (xI X))++(wS (xI X)))]),[],ba X true++[¬ ((xS (xI X))=⟨#[38]⟩),¬ ((xS (xI X))=⟨#[60]⟩),¬ ((xS (xI X))=⟨#[0]⟩),¬ ((xS (xI X))∈ah)]++pRun (xI X) ((xI X).k+1)++[¬ ((rT (xI X) false txL)=((xI X).k+1)),¬ ((rT (xI X) false txL)≠(xI X).n),(xI X).Y.length<=aa]++be (xI X) X true++[(wS (xI X)).length<=aa]++[(xS (xI X)).length+(wS (xI X)).length<=aa]):=by kernel_rfl
theorem xY:aj ρ (turn (base f (.ptr 10) X x0 304 (.con ct) [] ([.meth 148 (.ptr 3)])) [1,1,1,1,0,0,0,0,0,1,0,0,0,0]) =
 some (true,base f (.con (.ref (ρ 10))) X (bf (xI X) X false) 304 (.con ct) [.ptr 10] ([aW 2 ((xS (xI X))++(wS (xI X)))]),[],ba X true++[¬ ((xS (xI X))=⟨#[38]⟩),¬ ((xS (xI X))=⟨#[60]⟩),¬ ((xS (xI X))=⟨#[0]⟩),(xS (xI X))∈ah]++pRun (xI X) ((xI X).k+1)++[¬ ((rT (xI X) true ah)=((xI X).k+1)),¬ ((rT (xI X) true ah)≠(xI X).n),(xI X).Y.length<=aa]++be (xI X) X false++[(wS (xI X)).length<=aa]++[(xS (xI X)).length+(wS (xI X)).length<=aa]):=by kernel_rfl
theorem x7:aj ρ (turn (base f (.ptr 10) X x0 304 (.con ct) [] ([.meth 148 (.ptr 3)])) [1,1,1,1,0,0,0,0,0,0,0,0,0,0]) =
 some (true,base f (.con (.ref (ρ 10))) X (bf (xI X) X false) 304 (.con ct) [.ptr 10] ([aW 1 ((xS (xI X))++(wS (xI X)))]),[],ba X true++[¬ ((xS (xI X))=⟨#[38]⟩),¬ ((xS (xI X))=⟨#[60]⟩),¬ ((xS (xI X))=⟨#[0]⟩),¬ ((xS (xI X))∈ah)]++pRun (xI X) ((xI X).k+1)++[¬ ((rT (xI X) false txL)=((xI X).k+1)),¬ ((rT (xI X) false txL)≠(xI X).n),(xI X).Y.length<=aa]++be (xI X) X false++[(wS (xI X)).length<=aa]++[(xS (xI X)).length+(wS (xI X)).length<=aa]):=by kernel_rfl
theorem xX:aj ρ (turn (base f (.ptr 10) X x0 304 (.con ct) [] ([.meth 148 (.ptr 3)])) [1,1,1,1,0,0,0,0,0,1,1,0,1,0]) =
 some (true,base f (.con (.ref (ρ 10))) X (bf (xI X) X true) 304 (.con ct) [.ptr 10] ([aW 2 ((xS (xI X))++(wS (xI X)))]),[],ba X true++[¬ ((xS (xI X))=⟨#[38]⟩),¬ ((xS (xI X))=⟨#[60]⟩),¬ ((xS (xI X))=⟨#[0]⟩),(xS (xI X))∈ah]++pRun (xI X) ((xI X).k+1)++[(rT (xI X) true ah)=((xI X).k+1),¬ (((xI X).k+1)≠(xI X).n),(xI X).Y.length<=aa]++be (xI X) X true++[(wS (xI X)).length<=aa]++[(xS (xI X)).length+(wS (xI X)).length<=aa]):=by kernel_rfl
theorem x6:aj ρ (turn (base f (.ptr 10) X x0 304 (.con ct) [] ([.meth 148 (.ptr 3)])) [1,1,1,1,0,0,0,0,0,0,1,0,1,0]) =
 some (true,base f (.con (.ref (ρ 10))) X (bf (xI X) X true) 304 (.con ct) [.ptr 10] ([aW 1 ((xS (xI X))++(wS (xI X)))]),[],ba X true++[¬ ((xS (xI X))=⟨#[38]⟩),¬ ((xS (xI X))=⟨#[60]⟩),¬ ((xS (xI X))=⟨#[0]⟩),¬ ((xS (xI X))∈ah)]++pRun (xI X) ((xI X).k+1)++[(rT (xI X) false txL)=((xI X).k+1),¬ (((xI X).k+1)≠(xI X).n),(xI X).Y.length<=aa]++be (xI X) X true++[(wS (xI X)).length<=aa]++[(xS (xI X)).length+(wS (xI X)).length<=aa]):=by kernel_rfl
theorem xW:aj ρ (turn (base f (.ptr 10) X x0 304 (.con ct) [] ([.meth 148 (.ptr 3)])) [1,1,1,1,0,0,0,0,0,1,1,0,0,0]) =
 some (true,base f (.con (.ref (ρ 10))) X (bf (xI X) X false) 304 (.con ct) [.ptr 10] ([aW 2 ((xS (xI X))++(wS (xI X)))]),[],ba X true++[¬ ((xS (xI X))=⟨#[38]⟩),¬ ((xS (xI X))=⟨#[60]⟩),¬ ((xS (xI X))=⟨#[0]⟩),(xS (xI X))∈ah]++pRun (xI X) ((xI X).k+1)++[(rT (xI X) true ah)=((xI X).k+1),¬ (((xI X).k+1)≠(xI X).n),(xI X).Y.length<=aa]++be (xI X) X false++[(wS (xI X)).length<=aa]++[(xS (xI X)).length+(wS (xI X)).length<=aa]):=by kernel_rfl
theorem x5:aj ρ (turn (base f (.ptr 10) X x0 304 (.con ct) [] ([.meth 148 (.ptr 3)])) [1,1,1,1,0,0,0,0,0,0,1,0,0,0]) =
 some (true,base f (.con (.ref (ρ 10))) X (bf (xI X) X false) 304 (.con ct) [.ptr 10] ([aW 1 ((xS (xI X))++(wS (xI X)))]),[],ba X true++[¬ ((xS (xI X))=⟨#[38]⟩),¬ ((xS (xI X))=⟨#[60]⟩),¬ ((xS (xI X))=⟨#[0]⟩),¬ ((xS (xI X))∈ah)]++pRun (xI X) ((xI X).k+1)++[(rT (xI X) false txL)=((xI X).k+1),¬ (((xI X).k+1)≠(xI X).n),(xI X).Y.length<=aa]++be (xI X) X false++[(wS (xI X)).length<=aa]++[(xS (xI X)).length+(wS (xI X)).length<=aa]):=by kernel_rfl
theorem Gh:aj ρ (turn (base f (.ptr 10) X x0 304 (.con ct) [] ([.meth 148 (.ptr 3)])) [1,1,1,0,0,1]) =
 some (true,base f (.con (.ref (ρ 10))) X { (xI X) with k:=(xI X).k+1 } 353 (.con ct) [] ([]),[],ba X false++[¬ ((xS (xI X))=⟨#[38]⟩),(xS (xI X))=⟨#[60]⟩]):=by kernel_rfl
theorem C4:aj ρ (turn (base f (.ptr 10) X x0 304 (.con ct) [] ([.meth 148 (.ptr 3)])) [1,1,1,0,0,0,0,1,0,1]) =
 some (true,base f (.con (.ref (ρ 10))) X { (xI X) with k:=(rT (xI X) true ah) } 304 (.con ct) [.ptr 10] ([aW 2 ((xS (xI X))++(uS (xI X) true ah))]),[],ba X false++[¬ ((xS (xI X))=⟨#[38]⟩),¬ ((xS (xI X))=⟨#[60]⟩),¬ ((xS (xI X))=⟨#[0]⟩),(xS (xI X))∈ah]++pRun (xI X) ((xI X).k+1)++[¬ ((rT (xI X) true ah)=((xI X).k+1)),(rT (xI X) true ah)≠(xI X).n,(xI X).Y.length<=aa,(uS (xI X) true ah).length<=aa]++[(xS (xI X)).length+(uS (xI X) true ah).length<=aa]):=by kernel_rfl
theorem C6:aj ρ (turn (base f (.ptr 10) X x0 304 (.con ct) [] ([.meth 148 (.ptr 3)])) [1,1,1,0,0,0,0,0,0,1]) =
 some (true,base f (.con (.ref (ρ 10))) X { (xI X) with k:=(rT (xI X) false txL) } 304 (.con ct) [.ptr 10] ([aW 1 ((xS (xI X))++(uS (xI X) false txL))]),[],ba X false++[¬ ((xS (xI X))=⟨#[38]⟩),¬ ((xS (xI X))=⟨#[60]⟩),¬ ((xS (xI X))=⟨#[0]⟩),¬ ((xS (xI X))∈ah)]++pRun (xI X) ((xI X).k+1)++[¬ ((rT (xI X) false txL)=((xI X).k+1)),(rT (xI X) false txL)≠(xI X).n,(xI X).Y.length<=aa,(uS (xI X) false txL).length<=aa]++[(xS (xI X)).length+(uS (xI X) false txL).length<=aa]):=by kernel_rfl
theorem C3:aj ρ (turn (base f (.ptr 10) X x0 304 (.con ct) [] ([.meth 148 (.ptr 3)])) [1,1,1,0,0,0,0,1,1,1]) =
 some (true,base f (.con (.ref (ρ 10))) X { (xI X) with k:=((xI X).k+1) } 304 (.con ct) [.ptr 10] ([aW 2 ((xS (xI X))++(⟨#[]⟩:Str))]),[],ba X false++[¬ ((xS (xI X))=⟨#[38]⟩),¬ ((xS (xI X))=⟨#[60]⟩),¬ ((xS (xI X))=⟨#[0]⟩),(xS (xI X))∈ah]++pRun (xI X) ((xI X).k+1)++[(rT (xI X) true ah)=((xI X).k+1),((xI X).k+1)≠(xI X).n]++[(xS (xI X)).length+(⟨#[]⟩:Str).length<=aa]):=by kernel_rfl
theorem C5:aj ρ (turn (base f (.ptr 10) X x0 304 (.con ct) [] ([.meth 148 (.ptr 3)])) [1,1,1,0,0,0,0,0,1,1]) =
 some (true,base f (.con (.ref (ρ 10))) X { (xI X) with k:=((xI X).k+1) } 304 (.con ct) [.ptr 10] ([aW 1 ((xS (xI X))++(⟨#[]⟩:Str))]),[],ba X false++[¬ ((xS (xI X))=⟨#[38]⟩),¬ ((xS (xI X))=⟨#[60]⟩),¬ ((xS (xI X))=⟨#[0]⟩),¬ ((xS (xI X))∈ah)]++pRun (xI X) ((xI X).k+1)++[(rT (xI X) false txL)=((xI X).k+1),((xI X).k+1)≠(xI X).n]++[(xS (xI X)).length+(⟨#[]⟩:Str).length<=aa]):=by kernel_rfl
theorem yc:aj ρ (turn (base f (.ptr 10) X x0 304 (.con ct) [] ([.meth 148 (.ptr 3)])) [1,1,1,0,0,0,0,1,0,0,1,0]) =
 some (true,base f (.con (.ref (ρ 10))) X (bf (xI X) X true) 304 (.con ct) [.ptr 10] ([aW 2 ((xS (xI X))++(wS (xI X)))]),[],ba X false++[¬ ((xS (xI X))=⟨#[38]⟩),¬ ((xS (xI X))=⟨#[60]⟩),¬ ((xS (xI X))=⟨#[0]⟩),(xS (xI X))∈ah]++pRun (xI X) ((xI X).k+1)++[¬ ((rT (xI X) true ah)=((xI X).k+1)),¬ ((rT (xI X) true ah)≠(xI X).n),(xI X).Y.length<=aa]++be (xI X) X true++[(wS (xI X)).length<=aa]++[(xS (xI X)).length+(wS (xI X)).length<=aa]):=by kernel_rfl
theorem yg:aj ρ (turn (base f (.ptr 10) X x0 304 (.con ct) [] ([.meth 148 (.ptr 3)])) [1,1,1,0,0,0,0,0,0,0,1,0]) =
 some (true,base f (.con (.ref (ρ 10))) X (bf (xI X) X true) 304 (.con ct) [.ptr 10] ([aW 1 ((xS (xI X))++(wS (xI X)))]),[],ba X false++[¬ ((xS (xI X))=⟨#[38]⟩),¬ ((xS (xI X))=⟨#[60]⟩),¬ ((xS (xI X))=⟨#[0]⟩),¬ ((xS (xI X))∈ah)]++pRun (xI X) ((xI X).k+1)++[¬ ((rT (xI X) false txL)=((xI X).k+1)),¬ ((rT (xI X) false txL)≠(xI X).n),(xI X).Y.length<=aa]++be (xI X) X true++[(wS (xI X)).length<=aa]++[(xS (xI X)).length+(wS (xI X)).length<=aa]):=by kernel_rfl
theorem yb:aj ρ (turn (base f (.ptr 10) X x0 304 (.con ct) [] ([.meth 148 (.ptr 3)])) [1,1,1,0,0,0,0,1,0,0,0,0]) =
 some (true,base f (.con (.ref (ρ 10))) X (bf (xI X) X false) 304 (.con ct) [.ptr 10] ([aW 2 ((xS (xI X))++(wS (xI X)))]),[],ba X false++[¬ ((xS (xI X))=⟨#[38]⟩),¬ ((xS (xI X))=⟨#[60]⟩),¬ ((xS (xI X))=⟨#[0]⟩),(xS (xI X))∈ah]++pRun (xI X) ((xI X).k+1)++[¬ ((rT (xI X) true ah)=((xI X).k+1)),¬ ((rT (xI X) true ah)≠(xI X).n),(xI X).Y.length<=aa]++be (xI X) X false++[(wS (xI X)).length<=aa]++[(xS (xI X)).length+(wS (xI X)).length<=aa]):=by kernel_rfl
theorem yf:aj ρ (turn (base f (.ptr 10) X x0 304 (.con ct) [] ([.meth 148 (.ptr 3)])) [1,1,1,0,0,0,0,0,0,0,0,0]) =
 some (true,base f (.con (.ref (ρ 10))) X (bf (xI X) X false) 304 (.con ct) [.ptr 10] ([aW 1 ((xS (xI X))++(wS (xI X)))]),[],ba X false++[¬ ((xS (xI X))=⟨#[38]⟩),¬ ((xS (xI X))=⟨#[60]⟩),¬ ((xS (xI X))=⟨#[0]⟩),¬ ((xS (xI X))∈ah)]++pRun (xI X) ((xI X).k+1)++[¬ ((rT (xI X) false txL)=((xI X).k+1)),¬ ((rT (xI X) false txL)≠(xI X).n),(xI X).Y.length<=aa]++be (xI X) X false++[(wS (xI X)).length<=aa]++[(xS (xI X)).length+(wS (xI X)).length<=aa]):=by kernel_rfl
theorem ya:aj ρ (turn (base f (.ptr 10) X x0 304 (.con ct) [] ([.meth 148 (.ptr 3)])) [1,1,1,0,0,0,0,1,1,0,1,0]) =
 some (true,base f (.con (.ref (ρ 10))) X (bf (xI X) X true) 304 (.con ct) [.ptr 10] ([aW 2 ((xS (xI X))++(wS (xI X)))]),[],ba X false++[¬ ((xS (xI X))=⟨#[38]⟩),¬ ((xS (xI X))=⟨#[60]⟩),¬ ((xS (xI X))=⟨#[0]⟩),(xS (xI X))∈ah]++pRun (xI X) ((xI X).k+1)++[(rT (xI X) true ah)=((xI X).k+1),¬ (((xI X).k+1)≠(xI X).n),(xI X).Y.length<=aa]++be (xI X) X true++[(wS (xI X)).length<=aa]++[(xS (xI X)).length+(wS (xI X)).length<=aa]):=by kernel_rfl
theorem ye:aj ρ (turn (base f (.ptr 10) X x0 304 (.con ct) [] ([.meth 148 (.ptr 3)])) [1,1,1,0,0,0,0,0,1,0,1,0]) =
 some (true,base f (.con (.ref (ρ 10))) X (bf (xI X) X true) 304 (.con ct) [.ptr 10] ([aW 1 ((xS (xI X))++(wS (xI X)))]),[],ba X false++[¬ ((xS (xI X))=⟨#[38]⟩),¬ ((xS (xI X))=⟨#[60]⟩),¬ ((xS (xI X))=⟨#[0]⟩),¬ ((xS (xI X))∈ah)]++pRun (xI X) ((xI X).k+1)++[(rT (xI X) false txL)=((xI X).k+1),¬ (((xI X).k+1)≠(xI X).n),(xI X).Y.length<=aa]++be (xI X) X true++[(wS (xI X)).length<=aa]++[(xS (xI X)).length+(wS (xI X)).length<=aa]):=by kernel_rfl
theorem x9:aj ρ (turn (base f (.ptr 10) X x0 304 (.con ct) [] ([.meth 148 (.ptr 3)])) [1,1,1,0,0,0,0,1,1,0,0,0]) =
 some (true,base f (.con (.ref (ρ 10))) X (bf (xI X) X false) 304 (.con ct) [.ptr 10] ([aW 2 ((xS (xI X))++(wS (xI X)))]),[],ba X false++[¬ ((xS (xI X))=⟨#[38]⟩),¬ ((xS (xI X))=⟨#[60]⟩),¬ ((xS (xI X))=⟨#[0]⟩),(xS (xI X))∈ah]++pRun (xI X) ((xI X).k+1)++[(rT (xI X) true ah)=((xI X).k+1),¬ (((xI X).k+1)≠(xI X).n),(xI X).Y.length<=aa]++be (xI X) X false++[(wS (xI X)).length<=aa]++[(xS (xI X)).length+(wS (xI X)).length<=aa]):=by kernel_rfl
theorem yd:aj ρ (turn (base f (.ptr 10) X x0 304 (.con ct) [] ([.meth 148 (.ptr 3)])) [1,1,1,0,0,0,0,0,1,0,0,0]) =
 some (true,base f (.con (.ref (ρ 10))) X (bf (xI X) X false) 304 (.con ct) [.ptr 10] ([aW 1 ((xS (xI X))++(wS (xI X)))]),[],ba X false++[¬ ((xS (xI X))=⟨#[38]⟩),¬ ((xS (xI X))=⟨#[60]⟩),¬ ((xS (xI X))=⟨#[0]⟩),¬ ((xS (xI X))∈ah)]++pRun (xI X) ((xI X).k+1)++[(rT (xI X) false txL)=((xI X).k+1),¬ (((xI X).k+1)≠(xI X).n),(xI X).Y.length<=aa]++be (xI X) X false++[(wS (xI X)).length<=aa]++[(xS (xI X)).length+(wS (xI X)).length<=aa]):=by kernel_rfl
theorem Gf:aj ρ (turn (base f (.ptr 10) X x0 304 (.con ct) [] ([.meth 148 (.ptr 3)])) [1,1,0]) =
 some (false,base f (.con (.ref (ρ 10))) X (bf x0 X true) 304 (.con ct) [] ([]),[],[x0.k≥x0.n]++be x0 X true):=by kernel_rfl
theorem rM:aj ρ (turn (base f (.con rc) X x 304 (.con ct) [] ([])) [1,1,0]) =
 some (false,base f (.con rc) X (bf x X true) 304 (.con ct) [] ([]),[],[x.k≥x.n]++be x X true):=by kernel_rfl
theorem Dv:aj ρ (turn (base f (.con rc) X x 304 (.con ct) [] ([])) [1,0,0]) =
 some (false,base f (.con rc) X (bf x X false) 304 (.con ct) [] ([]),[],[x.k≥x.n]++be x X false):=by kernel_rfl
theorem to_bang:aj ρ (turn (base f (.con rc) X x 353 (.con ct) [] ([])) [0,1]) =
 some (true,base f (.con rc) X { x with k:=(x.k+1) } 605 (.con ct) [] ([]),[],pC x++[(xS x)=⟨#[33]⟩]):=by kernel_rfl
theorem to_slash:aj ρ (turn (base f (.con rc) X x 353 (.con ct) [] ([])) [0,0,1]) =
 some (true,base f (.con rc) X { x with k:=(x.k+1) } 360 (.con ct) [] ([]),[],pC x++[¬ (xS x=⟨#[33]⟩),(xS x)=⟨#[47]⟩]):=by kernel_rfl
theorem to_letter:aj ρ (turn (base f (.con rc) X x 353 (.con ct) [] ([])) [0,0,0,1]) =
 some (true,base f (.con rc) X { x with k:=(x.k+1) } 367 (.ptr 10) [] (ai (xS x) []),[],pC x++[¬ (xS x=⟨#[33]⟩),¬ (xS x=⟨#[47]⟩),(xS x)∈aC]):=by kernel_rfl
theorem cl_letter:aj ρ (turn (base f (.con rc) X x 360 (.con ct) [] ([])) [0,1]) =
 some (true,base f (.con rc) X { x with k:=(x.k+1) } 367 (.ptr 10) [] (dU (xS x)),[],pC x++[(xS x)∈aC]):=by kernel_rfl
theorem Ch:aj ρ (turn (base f (.con rc) X x 367 (.ptr 10) [] (ai nm [])) [0,1]) =
 some (true,base f (.con rc) X { x with k:=(x.k+1) } 535 (.ptr 10) [] (ai nm []),[],pC x++[(xS x)∈ah]):=by kernel_rfl
theorem Cj:aj ρ (turn (base f (.con rc) X x 367 (.ptr 10) [] (ai nm [])) [0,0,0,0,0]) =
 some (true,base f (.con rc) X { x with k:=(x.k+1) } 367 (.ptr 10) [] (ai (nm++(xS x)) []),[],pC x++[¬ ((xS x)∈ah),¬ (xS x=⟨#[62]⟩),¬ (xS x=⟨#[47]⟩),¬ (xS x=⟨#[0]⟩)]++[nm.length+(xS x).length<=aa]):=by kernel_rfl
theorem Ck:aj ρ (turn (base f (.con rc) X x 367 (.ptr 10) [] (dU nm)) [0,1]) =
 some (true,base f (.con rc) X { x with k:=(x.k+1) } 535 (.ptr 10) [] (dU nm),[],pC x++[(xS x)∈ah]):=by kernel_rfl
theorem Cm:aj ρ (turn (base f (.con rc) X x 367 (.ptr 10) [] (dU nm)) [0,0,0,0,0]) =
 some (true,base f (.con rc) X { x with k:=(x.k+1) } 367 (.ptr 10) [] (dU (nm++(xS x))),[],pC x++[¬ ((xS x)∈ah),¬ (xS x=⟨#[62]⟩),¬ (xS x=⟨#[47]⟩),¬ (xS x=⟨#[0]⟩)]++[nm.length+(xS x).length<=aa]):=by kernel_rfl
theorem Ci:aj ρ (turn (base f (.con rc) X x 367 (.ptr 10) [] (ai nm [])) [0,0,1]) =
 some (true,base f (.con rc) X { x with k:=(x.k+1) } 304 (.ptr 10) [.ptr 10] ([bV (ac nm) false 11,.dict (bH [])]),[],pC x++[¬ ((xS x)∈ah),(xS x)=⟨#[62]⟩]++[bI,nm.length<=aa]++[([]:List Str).Nodup]):=by kernel_rfl
theorem Cl:aj ρ (turn (base f (.con rc) X x 367 (.ptr 10) [] (dU nm)) [0,0,1]) =
 some (true,base f (.con rc) X { x with k:=(x.k+1) } 304 (.ptr 10) [.ptr 10] ([k9 (ac nm) 11,.list []]),[],pC x++[¬ ((xS x)∈ah),(xS x)=⟨#[62]⟩]++[bI,nm.length<=aa]):=by kernel_rfl
theorem DQ:aj ρ (turn (base f (.con rc) X x 535 (.ptr 10) [] (dU nm)) [0,0,0,1]) =
 some (true,base f (.con rc) X { x with k:=(x.k+1) } 304 (.ptr 10) [.ptr 10] ([k9 (ac nm) 11,.list []]),[],pC x++[¬ ((xS x)∈ah),¬ ((xS x)∈aC),(xS x)=⟨#[62]⟩]++[bI,nm.length<=aa]):=by kernel_rfl
theorem yT:aj ρ (turn (base f (.con rc) X x 535 (.ptr 10) [] (ai nm [])) [0,0,0,0,1]) =
 some (true,base f (.con rc) X { x with k:=(x.k+1) } 591 (.ptr 10) [] (ai nm []),[],pC x++[¬ ((xS x)∈ah),¬ ((xS x)∈aC),¬ (xS x=⟨#[62]⟩),(xS x)=⟨#[47]⟩]):=by kernel_rfl
theorem wN:aj ρ (turn (base f (.con rc) X x 535 (.ptr 10) [] (ai nm [])) [0,0,1]) =
 some (true,base f (.con rc) X { x with k:=(x.k+1) } 542 (.ptr 10) [] (ai nm [((xS x),⟨#[]⟩)]),[],pC x++[¬ ((xS x)∈ah),(xS x)∈aC]):=by kernel_rfl
theorem Ea:aj ρ (turn (base f (.con rc) X x 591 (.ptr 10) [] (ai nm [])) [0,1]) =
 some (true,base f (.con rc) X { x with k:=(x.k+1) } 304 (.ptr 10) [.ptr 10] ([bV (ac nm) true 11,.dict (bH [])]),[],pC x++[(xS x)=⟨#[62]⟩]++[bI,nm.length<=aa]++[([]:List Str).Nodup]):=by kernel_rfl
theorem yS:aj ρ (turn (base f (.con rc) X x 535 (.ptr 10) [] (ai nm [(a1,b1)])) [0,0,0,0,1]) =
 some (true,base f (.con rc) X { x with k:=(x.k+1) } 591 (.ptr 10) [] (ai nm [(a1,b1)]),[],pC x++[¬ ((xS x)∈ah),¬ ((xS x)∈aC),¬ (xS x=⟨#[62]⟩),(xS x)=⟨#[47]⟩]):=by kernel_rfl
theorem wM:aj ρ (turn (base f (.con rc) X x 535 (.ptr 10) [] (ai nm [(a1,b1)])) [0,0,1]) =
 some (true,base f (.con rc) X { x with k:=(x.k+1) } 542 (.ptr 10) [] (ai nm [(a1,b1),((xS x),⟨#[]⟩)]),[],pC x++[¬ ((xS x)∈ah),(xS x)∈aC]):=by kernel_rfl
theorem D9:aj ρ (turn (base f (.con rc) X x 591 (.ptr 10) [] (ai nm [(a1,b1)])) [0,1]) =
 some (true,base f (.con rc) X { x with k:=(x.k+1) } 304 (.ptr 10) [.ptr 10] ([bV (ac nm) true 11,.dict (bH [(a1,b1)])]),[],pC x++[(xS x)=⟨#[62]⟩]++[bI,nm.length<=aa]++[([a1]:List Str).Nodup]):=by kernel_rfl
theorem Ft:aj ρ (turn (base f (.con rc) X x 542 (.ptr 10) [] (ai nm [(a1,b1)])) [0,1]) =
 some (true,base f (.con rc) X { x with k:=(x.k+1) } 556 (.ptr 10) [] (ai nm [((ac a1),b1)]),[],pC x++[(xS x)=⟨#[61]⟩]++[bI,a1.length<=aa]++[]):=by kernel_rfl
theorem uX:aj ρ (turn (base f (.con rc) X x 542 (.ptr 10) [] (ai nm [(a1,b1)])) [0,0,1,0,1]) =
 some (true,base f (.con rc) X { x with k:=(rT x true aC) } 542 (.ptr 10) [] (ai nm [(a1++((xS x)++(uS x true aC)),b1)]),[],pC x++[¬ (xS x=⟨#[61]⟩),(xS x)∈aC]++pRun x (x.k+1)++[¬ ((rT x true aC)=(x.k+1)),(rT x true aC)≠x.n,x.Y.length<=aa,(uS x true aC).length<=aa]++[(xS x).length+(uS x true aC).length<=aa]++[a1.length+((xS x)++(uS x true aC)).length<=aa]):=by kernel_rfl
theorem uW:aj ρ (turn (base f (.con rc) X x 542 (.ptr 10) [] (ai nm [(a1,b1)])) [0,0,1,1,1]) =
 some (true,base f (.con rc) X { x with k:=(x.k+1) } 542 (.ptr 10) [] (ai nm [(a1++((xS x)++(⟨#[]⟩:Str)),b1)]),[],pC x++[¬ (xS x=⟨#[61]⟩),(xS x)∈aC]++pRun x (x.k+1)++[(rT x true aC)=(x.k+1),(x.k+1)≠x.n]++[(xS x).length+(⟨#[]⟩:Str).length<=aa]++[a1.length+((xS x)++(⟨#[]⟩:Str)).length<=aa]):=by kernel_rfl
theorem Fq:aj ρ (turn (base f (.con rc) X x 542 (.ptr 10) [] (ai nm [(a1,b1)])) [0,0,0,1]) =
 some (true,base f (.con rc) X { x with k:=(x.k+1) } 304 (.ptr 10) [.ptr 10] ([bV (ac nm) false 11,.dict (bH [((ac a1),b1)])]),[],pC x++[¬ (xS x=⟨#[61]⟩),¬ ((xS x)∈aC),(xS x)=⟨#[62]⟩]++[bI,a1.length<=aa]++[]++[bI,nm.length<=aa]++[([(ac a1)]:List Str).Nodup]):=by kernel_rfl
theorem Fn:aj ρ (turn (base f (.con rc) X x 542 (.ptr 10) [] (ai nm [(a1,b1)])) [0,0,0,0,1]) =
 some (true,base f (.con rc) X { x with k:=(x.k+1) } 549 (.ptr 10) [] (ai nm [((ac a1),b1)]),[],pC x++[¬ (xS x=⟨#[61]⟩),¬ ((xS x)∈aC),¬ (xS x=⟨#[62]⟩),(xS x)∈ah]++[bI,a1.length<=aa]++[]):=by kernel_rfl
theorem Fw:aj ρ (turn (base f (.con rc) X x 542 (.ptr 10) [] (ai nm [(a1,b1)])) [0,0,0,0,0,0,0,0]) =
 some (true,base f (.con rc) X { x with k:=(x.k+1) } 542 (.ptr 10) [] (ai nm [(a1++(xS x),b1)]),[],pC x++[¬ (xS x=⟨#[61]⟩),¬ ((xS x)∈aC),¬ (xS x=⟨#[62]⟩),¬ ((xS x)∈ah),¬ (xS x=⟨#[47]⟩),¬ (xS x=⟨#[0]⟩),¬ ((xS x)∈[(⟨#[39]⟩:Str),(⟨#[34]⟩:Str),(⟨#[60]⟩:Str)])]++[a1.length+(xS x).length<=aa]):=by kernel_rfl
theorem FA:aj ρ (turn (base f (.con rc) X x 549 (.ptr 10) [] (ai nm [(a1,b1)])) [0,0,1]) =
 some (true,base f (.con rc) X { x with k:=(x.k+1) } 556 (.ptr 10) [] (ai nm [(a1,b1)]),[],pC x++[¬ ((xS x)∈ah),(xS x)=⟨#[61]⟩]):=by kernel_rfl
theorem wQ:aj ρ (turn (base f (.con rc) X x 549 (.ptr 10) [] (ai nm [(a1,b1)])) [0,0,0,0,1]) =
 some (true,base f (.con rc) X { x with k:=(x.k+1) } 542 (.ptr 10) [] (ai nm [(a1,b1),((xS x),⟨#[]⟩)]),[],pC x++[¬ ((xS x)∈ah),¬ (xS x=⟨#[61]⟩),¬ (xS x=⟨#[62]⟩),(xS x)∈aC]):=by kernel_rfl
theorem yY:aj ρ (turn (base f (.con rc) X x 549 (.ptr 10) [] (ai nm [(a1,b1)])) [0,0,0,0,0,1]) =
 some (true,base f (.con rc) X { x with k:=(x.k+1) } 591 (.ptr 10) [] (ai nm [(a1,b1)]),[],pC x++[¬ ((xS x)∈ah),¬ (xS x=⟨#[61]⟩),¬ (xS x=⟨#[62]⟩),¬ ((xS x)∈aC),(xS x)=⟨#[47]⟩]):=by kernel_rfl
theorem EI:aj ρ (turn (base f (.con rc) X x 556 (.ptr 10) [] (ai nm [(a1,b1)])) [0,1,1,1]) =
 some (true,base f (.con rc) X { x with k:=(x.k+1) } 556 (.ptr 10) [] (ai nm [(a1,b1)]),[],pC x++[(xS x)∈ah]++pRun x (x.k+1)++[(rT x true ah)=(x.k+1),(x.k+1)≠x.n]):=by kernel_rfl
theorem EL:aj ρ (turn (base f (.con rc) X x 556 (.ptr 10) [] (ai nm [(a1,b1)])) [0,0,1]) =
 some (true,base f (.con rc) X { x with k:=(x.k+1) } 563 (.ptr 10) [] (ai nm [(a1,b1)]),[],pC x++[¬ ((xS x)∈ah),(xS x)=⟨#[34]⟩]):=by kernel_rfl
theorem EE:aj ρ (turn (base f (.con rc) X x 556 (.ptr 10) [] (ai nm [(a1,b1)])) [0,0,0,0,1]) =
 some (true,base f (.con rc) X { x with k:=(x.k+1) } 570 (.ptr 10) [] (ai nm [(a1,b1)]),[],pC x++[¬ ((xS x)∈ah),¬ (xS x=⟨#[34]⟩),¬ (xS x=⟨#[38]⟩),(xS x)=⟨#[39]⟩]):=by kernel_rfl
theorem EQ:aj ρ (turn (base f (.con rc) X x 556 (.ptr 10) [] (ai nm [(a1,b1)])) [0,0,0,0,0,0,0,0]) =
 some (true,base f (.con rc) X { x with k:=(x.k+1) } 577 (.ptr 10) [] (ai nm [(a1,b1++(xS x))]),[],pC x++[¬ ((xS x)∈ah),¬ (xS x=⟨#[34]⟩),¬ (xS x=⟨#[38]⟩),¬ (xS x=⟨#[39]⟩),¬ (xS x=⟨#[62]⟩),¬ (xS x=⟨#[0]⟩),¬ ((xS x)∈[(⟨#[61]⟩:Str),(⟨#[60]⟩:Str),(⟨#[96]⟩:Str)])]++[b1.length+(xS x).length<=aa]):=by kernel_rfl
theorem Dt:aj ρ (turn (base f (.con rc) X x 563 (.ptr 10) [] (ai nm [(a1,b1)])) [0,1]) =
 some (true,base f (.con rc) X { x with k:=(x.k+1) } 584 (.ptr 10) [] (ai nm [(a1,b1)]),[],pC x++[(xS x)=⟨#[34]⟩]):=by kernel_rfl
theorem Bb:aj ρ (turn (base f (.con rc) X x 563 (.ptr 10) [] (ai nm [(a1,b1)])) [0,0,0,0,0,1]) =
 some (true,base f (.con rc) X { x with k:=(rT x false dqL) } 563 (.ptr 10) [] (ai nm [(a1,b1++((xS x)++(uS x false dqL)))]),[],pC x++[¬ (xS x=⟨#[34]⟩),¬ (xS x=⟨#[38]⟩),¬ (xS x=⟨#[0]⟩)]++pRun x (x.k+1)++[¬ ((rT x false dqL)=(x.k+1)),(rT x false dqL)≠x.n,x.Y.length<=aa,(uS x false dqL).length<=aa]++[(xS x).length+(uS x false dqL).length<=aa]++[b1.length+((xS x)++(uS x false dqL)).length<=aa]):=by kernel_rfl
theorem Ba:aj ρ (turn (base f (.con rc) X x 563 (.ptr 10) [] (ai nm [(a1,b1)])) [0,0,0,0,1,1]) =
 some (true,base f (.con rc) X { x with k:=(x.k+1) } 563 (.ptr 10) [] (ai nm [(a1,b1++((xS x)++(⟨#[]⟩:Str)))]),[],pC x++[¬ (xS x=⟨#[34]⟩),¬ (xS x=⟨#[38]⟩),¬ (xS x=⟨#[0]⟩)]++pRun x (x.k+1)++[(rT x false dqL)=(x.k+1),(x.k+1)≠x.n]++[(xS x).length+(⟨#[]⟩:Str).length<=aa]++[b1.length+((xS x)++(⟨#[]⟩:Str)).length<=aa]):=by kernel_rfl
theorem Cs:aj ρ (turn (base f (.con rc) X x 570 (.ptr 10) [] (ai nm [(a1,b1)])) [0,1]) =
 some (true,base f (.con rc) X { x with k:=(x.k+1) } 584 (.ptr 10) [] (ai nm [(a1,b1)]),[],pC x++[(xS x)=⟨#[39]⟩]):=by kernel_rfl
theorem Ae:aj ρ (turn (base f (.con rc) X x 570 (.ptr 10) [] (ai nm [(a1,b1)])) [0,0,0,0,0,1]) =
 some (true,base f (.con rc) X { x with k:=(rT x false sqL) } 570 (.ptr 10) [] (ai nm [(a1,b1++((xS x)++(uS x false sqL)))]),[],pC x++[¬ (xS x=⟨#[39]⟩),¬ (xS x=⟨#[38]⟩),¬ (xS x=⟨#[0]⟩)]++pRun x (x.k+1)++[¬ ((rT x false sqL)=(x.k+1)),(rT x false sqL)≠x.n,x.Y.length<=aa,(uS x false sqL).length<=aa]++[(xS x).length+(uS x false sqL).length<=aa]++[b1.length+((xS x)++(uS x false sqL)).length<=aa]):=by kernel_rfl
theorem Ad:aj ρ (turn (base f (.con rc) X x 570 (.ptr 10) [] (ai nm [(a1,b1)])) [0,0,0,0,1,1]) =
 some (true,base f (.con rc) X { x with k:=(x.k+1) } 570 (.ptr 10) [] (ai nm [(a1,b1++((xS x)++(⟨#[]⟩:Str)))]),[],pC x++[¬ (xS x=⟨#[39]⟩),¬ (xS x=⟨#[38]⟩),¬ (xS x=⟨#[0]⟩)]++pRun x (x.k+1)++[(rT x false sqL)=(x.k+1),(x.k+1)≠x.n]++[(xS x).length+(⟨#[]⟩:Str).length<=aa]++[b1.length+((xS x)++(⟨#[]⟩:Str)).length<=aa]):=by kernel_rfl
theorem D0:aj ρ (turn (base f (.con rc) X x 577 (.ptr 10) [] (ai nm [(a1,b1)])) [0,1]) =
 some (true,base f (.con rc) X { x with k:=(x.k+1) } 535 (.ptr 10) [] (ai nm [(a1,b1)]),[],pC x++[(xS x)∈ah]):=by kernel_rfl
theorem D5:aj ρ (turn (base f (.con rc) X x 577 (.ptr 10) [] (ai nm [(a1,b1)])) [0,0,0,1]) =
 some (true,base f (.con rc) X { x with k:=(x.k+1) } 304 (.ptr 10) [.ptr 10] ([bV (ac nm) false 11,.dict (bH [(a1,b1)])]),[],pC x++[¬ ((xS x)∈ah),¬ (xS x=⟨#[38]⟩),(xS x)=⟨#[62]⟩]++[bI,nm.length<=aa]++[([a1]:List Str).Nodup]):=by kernel_rfl
theorem EZ:aj ρ (turn (base f (.con rc) X x 584 (.ptr 10) [] (ai nm [(a1,b1)])) [0,1]) =
 some (true,base f (.con rc) X { x with k:=(x.k+1) } 535 (.ptr 10) [] (ai nm [(a1,b1)]),[],pC x++[(xS x)∈ah]):=by kernel_rfl
theorem E2:aj ρ (turn (base f (.con rc) X x 584 (.ptr 10) [] (ai nm [(a1,b1)])) [0,0,1]) =
 some (true,base f (.con rc) X { x with k:=(x.k+1) } 304 (.ptr 10) [.ptr 10] ([bV (ac nm) false 11,.dict (bH [(a1,b1)])]),[],pC x++[¬ ((xS x)∈ah),(xS x)=⟨#[62]⟩]++[bI,nm.length<=aa]++[([a1]:List Str).Nodup]):=by kernel_rfl
theorem yR:aj ρ (turn (base f (.con rc) X x 535 (.ptr 10) [] (ai nm [(a1,b1),(a2,b2)])) [0,0,0,0,1]) =
 some (true,base f (.con rc) X { x with k:=(x.k+1) } 591 (.ptr 10) [] (ai nm [(a1,b1),(a2,b2)]),[],pC x++[¬ ((xS x)∈ah),¬ ((xS x)∈aC),¬ (xS x=⟨#[62]⟩),(xS x)=⟨#[47]⟩]):=by kernel_rfl
theorem wL:aj ρ (turn (base f (.con rc) X x 535 (.ptr 10) [] (ai nm [(a1,b1),(a2,b2)])) [0,0,1]) =
 some (true,base f (.con rc) X { x with k:=(x.k+1) } 542 (.ptr 10) [] (ai nm [(a1,b1),(a2,b2),((xS x),⟨#[]⟩)]),[],pC x++[¬ ((xS x)∈ah),(xS x)∈aC]):=by kernel_rfl
theorem D8:aj ρ (turn (base f (.con rc) X x 591 (.ptr 10) [] (ai nm [(a1,b1),(a2,b2)])) [0,1]) =
 some (true,base f (.con rc) X { x with k:=(x.k+1) } 304 (.ptr 10) [.ptr 10] ([bV (ac nm) true 11,.dict (bH [(a1,b1),(a2,b2)])]),[],pC x++[(xS x)=⟨#[62]⟩]++[bI,nm.length<=aa]++[([a1,a2]:List Str).Nodup]):=by kernel_rfl
theorem Fs:aj ρ (turn (base f (.con rc) X x 542 (.ptr 10) [] (ai nm [(a1,b1),(a2,b2)])) [0,1,0]) =
 some (true,base f (.con rc) X { x with k:=(x.k+1) } 556 (.ptr 10) [] (ai nm [(a1,b1),((ac a2),b2)]),[],pC x++[(xS x)=⟨#[61]⟩]++[bI,a2.length<=aa]++[¬ ((ac a2)=a1)]):=by kernel_rfl
theorem uV:aj ρ (turn (base f (.con rc) X x 542 (.ptr 10) [] (ai nm [(a1,b1),(a2,b2)])) [0,0,1,0,1]) =
 some (true,base f (.con rc) X { x with k:=(rT x true aC) } 542 (.ptr 10) [] (ai nm [(a1,b1),(a2++((xS x)++(uS x true aC)),b2)]),[],pC x++[¬ (xS x=⟨#[61]⟩),(xS x)∈aC]++pRun x (x.k+1)++[¬ ((rT x true aC)=(x.k+1)),(rT x true aC)≠x.n,x.Y.length<=aa,(uS x true aC).length<=aa]++[(xS x).length+(uS x true aC).length<=aa]++[a2.length+((xS x)++(uS x true aC)).length<=aa]):=by kernel_rfl
theorem uU:aj ρ (turn (base f (.con rc) X x 542 (.ptr 10) [] (ai nm [(a1,b1),(a2,b2)])) [0,0,1,1,1]) =
 some (true,base f (.con rc) X { x with k:=(x.k+1) } 542 (.ptr 10) [] (ai nm [(a1,b1),(a2++((xS x)++(⟨#[]⟩:Str)),b2)]),[],pC x++[¬ (xS x=⟨#[61]⟩),(xS x)∈aC]++pRun x (x.k+1)++[(rT x true aC)=(x.k+1),(x.k+1)≠x.n]++[(xS x).length+(⟨#[]⟩:Str).length<=aa]++[a2.length+((xS x)++(⟨#[]⟩:Str)).length<=aa]):=by kernel_rfl
theorem Fp:aj ρ (turn (base f (.con rc) X x 542 (.ptr 10) [] (ai nm [(a1,b1),(a2,b2)])) [0,0,0,1,0]) =
 some (true,base f (.con rc) X { x with k:=(x.k+1) } 304 (.ptr 10) [.ptr 10] ([bV (ac nm) false 11,.dict (bH [(a1,b1),((ac a2),b2)])]),[],pC x++[¬ (xS x=⟨#[61]⟩),¬ ((xS x)∈aC),(xS x)=⟨#[62]⟩]++[bI,a2.length<=aa]++[¬ ((ac a2)=a1)]++[bI,nm.length<=aa]++[([a1,(ac a2)]:List Str).Nodup]):=by kernel_rfl
theorem Fm:aj ρ (turn (base f (.con rc) X x 542 (.ptr 10) [] (ai nm [(a1,b1),(a2,b2)])) [0,0,0,0,1,0]) =
 some (true,base f (.con rc) X { x with k:=(x.k+1) } 549 (.ptr 10) [] (ai nm [(a1,b1),((ac a2),b2)]),[],pC x++[¬ (xS x=⟨#[61]⟩),¬ ((xS x)∈aC),¬ (xS x=⟨#[62]⟩),(xS x)∈ah]++[bI,a2.length<=aa]++[¬ ((ac a2)=a1)]):=by kernel_rfl
theorem Fv:aj ρ (turn (base f (.con rc) X x 542 (.ptr 10) [] (ai nm [(a1,b1),(a2,b2)])) [0,0,0,0,0,0,0,0]) =
 some (true,base f (.con rc) X { x with k:=(x.k+1) } 542 (.ptr 10) [] (ai nm [(a1,b1),(a2++(xS x),b2)]),[],pC x++[¬ (xS x=⟨#[61]⟩),¬ ((xS x)∈aC),¬ (xS x=⟨#[62]⟩),¬ ((xS x)∈ah),¬ (xS x=⟨#[47]⟩),¬ (xS x=⟨#[0]⟩),¬ ((xS x)∈[(⟨#[39]⟩:Str),(⟨#[34]⟩:Str),(⟨#[60]⟩:Str)])]++[a2.length+(xS x).length<=aa]):=by kernel_rfl
theorem Fz:aj ρ (turn (base f (.con rc) X x 549 (.ptr 10) [] (ai nm [(a1,b1),(a2,b2)])) [0,0,1]) =
 some (true,base f (.con rc) X { x with k:=(x.k+1) } 556 (.ptr 10) [] (ai nm [(a1,b1),(a2,b2)]),[],pC x++[¬ ((xS x)∈ah),(xS x)=⟨#[61]⟩]):=by kernel_rfl
theorem wP:aj ρ (turn (base f (.con rc) X x 549 (.ptr 10) [] (ai nm [(a1,b1),(a2,b2)])) [0,0,0,0,1]) =
 some (true,base f (.con rc) X { x with k:=(x.k+1) } 542 (.ptr 10) [] (ai nm [(a1,b1),(a2,b2),((xS x),⟨#[]⟩)]),[],pC x++[¬ ((xS x)∈ah),¬ (xS x=⟨#[61]⟩),¬ (xS x=⟨#[62]⟩),(xS x)∈aC]):=by kernel_rfl
theorem yX:aj ρ (turn (base f (.con rc) X x 549 (.ptr 10) [] (ai nm [(a1,b1),(a2,b2)])) [0,0,0,0,0,1]) =
 some (true,base f (.con rc) X { x with k:=(x.k+1) } 591 (.ptr 10) [] (ai nm [(a1,b1),(a2,b2)]),[],pC x++[¬ ((xS x)∈ah),¬ (xS x=⟨#[61]⟩),¬ (xS x=⟨#[62]⟩),¬ ((xS x)∈aC),(xS x)=⟨#[47]⟩]):=by kernel_rfl
theorem EH:aj ρ (turn (base f (.con rc) X x 556 (.ptr 10) [] (ai nm [(a1,b1),(a2,b2)])) [0,1,1,1]) =
 some (true,base f (.con rc) X { x with k:=(x.k+1) } 556 (.ptr 10) [] (ai nm [(a1,b1),(a2,b2)]),[],pC x++[(xS x)∈ah]++pRun x (x.k+1)++[(rT x true ah)=(x.k+1),(x.k+1)≠x.n]):=by kernel_rfl
theorem EK:aj ρ (turn (base f (.con rc) X x 556 (.ptr 10) [] (ai nm [(a1,b1),(a2,b2)])) [0,0,1]) =
 some (true,base f (.con rc) X { x with k:=(x.k+1) } 563 (.ptr 10) [] (ai nm [(a1,b1),(a2,b2)]),[],pC x++[¬ ((xS x)∈ah),(xS x)=⟨#[34]⟩]):=by kernel_rfl
theorem ED:aj ρ (turn (base f (.con rc) X x 556 (.ptr 10) [] (ai nm [(a1,b1),(a2,b2)])) [0,0,0,0,1]) =
 some (true,base f (.con rc) X { x with k:=(x.k+1) } 570 (.ptr 10) [] (ai nm [(a1,b1),(a2,b2)]),[],pC x++[¬ ((xS x)∈ah),¬ (xS x=⟨#[34]⟩),¬ (xS x=⟨#[38]⟩),(xS x)=⟨#[39]⟩]):=by kernel_rfl
theorem EO:aj ρ (turn (base f (.con rc) X x 556 (.ptr 10) [] (ai nm [(a1,b1),(a2,b2)])) [0,0,0,0,0,0,0,0]) =
 some (true,base f (.con rc) X { x with k:=(x.k+1) } 577 (.ptr 10) [] (ai nm [(a1,b1),(a2,b2++(xS x))]),[],pC x++[¬ ((xS x)∈ah),¬ (xS x=⟨#[34]⟩),¬ (xS x=⟨#[38]⟩),¬ (xS x=⟨#[39]⟩),¬ (xS x=⟨#[62]⟩),¬ (xS x=⟨#[0]⟩),¬ ((xS x)∈[(⟨#[61]⟩:Str),(⟨#[60]⟩:Str),(⟨#[96]⟩:Str)])]++[b2.length+(xS x).length<=aa]):=by kernel_rfl
theorem Ds:aj ρ (turn (base f (.con rc) X x 563 (.ptr 10) [] (ai nm [(a1,b1),(a2,b2)])) [0,1]) =
 some (true,base f (.con rc) X { x with k:=(x.k+1) } 584 (.ptr 10) [] (ai nm [(a1,b1),(a2,b2)]),[],pC x++[(xS x)=⟨#[34]⟩]):=by kernel_rfl
theorem A9:aj ρ (turn (base f (.con rc) X x 563 (.ptr 10) [] (ai nm [(a1,b1),(a2,b2)])) [0,0,0,0,0,1]) =
 some (true,base f (.con rc) X { x with k:=(rT x false dqL) } 563 (.ptr 10) [] (ai nm [(a1,b1),(a2,b2++((xS x)++(uS x false dqL)))]),[],pC x++[¬ (xS x=⟨#[34]⟩),¬ (xS x=⟨#[38]⟩),¬ (xS x=⟨#[0]⟩)]++pRun x (x.k+1)++[¬ ((rT x false dqL)=(x.k+1)),(rT x false dqL)≠x.n,x.Y.length<=aa,(uS x false dqL).length<=aa]++[(xS x).length+(uS x false dqL).length<=aa]++[b2.length+((xS x)++(uS x false dqL)).length<=aa]):=by kernel_rfl
theorem A8:aj ρ (turn (base f (.con rc) X x 563 (.ptr 10) [] (ai nm [(a1,b1),(a2,b2)])) [0,0,0,0,1,1]) =
 some (true,base f (.con rc) X { x with k:=(x.k+1) } 563 (.ptr 10) [] (ai nm [(a1,b1),(a2,b2++((xS x)++(⟨#[]⟩:Str)))]),[],pC x++[¬ (xS x=⟨#[34]⟩),¬ (xS x=⟨#[38]⟩),¬ (xS x=⟨#[0]⟩)]++pRun x (x.k+1)++[(rT x false dqL)=(x.k+1),(x.k+1)≠x.n]++[(xS x).length+(⟨#[]⟩:Str).length<=aa]++[b2.length+((xS x)++(⟨#[]⟩:Str)).length<=aa]):=by kernel_rfl
theorem Cr:aj ρ (turn (base f (.con rc) X x 570 (.ptr 10) [] (ai nm [(a1,b1),(a2,b2)])) [0,1]) =
 some (true,base f (.con rc) X { x with k:=(x.k+1) } 584 (.ptr 10) [] (ai nm [(a1,b1),(a2,b2)]),[],pC x++[(xS x)=⟨#[39]⟩]):=by kernel_rfl
theorem Ac:aj ρ (turn (base f (.con rc) X x 570 (.ptr 10) [] (ai nm [(a1,b1),(a2,b2)])) [0,0,0,0,0,1]) =
 some (true,base f (.con rc) X { x with k:=(rT x false sqL) } 570 (.ptr 10) [] (ai nm [(a1,b1),(a2,b2++((xS x)++(uS x false sqL)))]),[],pC x++[¬ (xS x=⟨#[39]⟩),¬ (xS x=⟨#[38]⟩),¬ (xS x=⟨#[0]⟩)]++pRun x (x.k+1)++[¬ ((rT x false sqL)=(x.k+1)),(rT x false sqL)≠x.n,x.Y.length<=aa,(uS x false sqL).length<=aa]++[(xS x).length+(uS x false sqL).length<=aa]++[b2.length+((xS x)++(uS x false sqL)).length<=aa]):=by kernel_rfl
theorem Ab:aj ρ (turn (base f (.con rc) X x 570 (.ptr 10) [] (ai nm [(a1,b1),(a2,b2)])) [0,0,0,0,1,1]) =
 some (true,base f (.con rc) X { x with k:=(x.k+1) } 570 (.ptr 10) [] (ai nm [(a1,b1),(a2,b2++((xS x)++(⟨#[]⟩:Str)))]),[],pC x++[¬ (xS x=⟨#[39]⟩),¬ (xS x=⟨#[38]⟩),¬ (xS x=⟨#[0]⟩)]++pRun x (x.k+1)++[(rT x false sqL)=(x.k+1),(x.k+1)≠x.n]++[(xS x).length+(⟨#[]⟩:Str).length<=aa]++[b2.length+((xS x)++(⟨#[]⟩:Str)).length<=aa]):=by kernel_rfl
theorem DZ:aj ρ (turn (base f (.con rc) X x 577 (.ptr 10) [] (ai nm [(a1,b1),(a2,b2)])) [0,1]) =
 some (true,base f (.con rc) X { x with k:=(x.k+1) } 535 (.ptr 10) [] (ai nm [(a1,b1),(a2,b2)]),[],pC x++[(xS x)∈ah]):=by kernel_rfl
theorem D4:aj ρ (turn (base f (.con rc) X x 577 (.ptr 10) [] (ai nm [(a1,b1),(a2,b2)])) [0,0,0,1]) =
 some (true,base f (.con rc) X { x with k:=(x.k+1) } 304 (.ptr 10) [.ptr 10] ([bV (ac nm) false 11,.dict (bH [(a1,b1),(a2,b2)])]),[],pC x++[¬ ((xS x)∈ah),¬ (xS x=⟨#[38]⟩),(xS x)=⟨#[62]⟩]++[bI,nm.length<=aa]++[([a1,a2]:List Str).Nodup]):=by kernel_rfl
theorem EY:aj ρ (turn (base f (.con rc) X x 584 (.ptr 10) [] (ai nm [(a1,b1),(a2,b2)])) [0,1]) =
 some (true,base f (.con rc) X { x with k:=(x.k+1) } 535 (.ptr 10) [] (ai nm [(a1,b1),(a2,b2)]),[],pC x++[(xS x)∈ah]):=by kernel_rfl
theorem E1:aj ρ (turn (base f (.con rc) X x 584 (.ptr 10) [] (ai nm [(a1,b1),(a2,b2)])) [0,0,1]) =
 some (true,base f (.con rc) X { x with k:=(x.k+1) } 304 (.ptr 10) [.ptr 10] ([bV (ac nm) false 11,.dict (bH [(a1,b1),(a2,b2)])]),[],pC x++[¬ ((xS x)∈ah),(xS x)=⟨#[62]⟩]++[bI,nm.length<=aa]++[([a1,a2]:List Str).Nodup]):=by kernel_rfl
theorem yQ:aj ρ (turn (base f (.con rc) X x 535 (.ptr 10) [] (ai nm [(a1,b1),(a2,b2),(a3,b3)])) [0,0,0,0,1]) =
 some (true,base f (.con rc) X { x with k:=(x.k+1) } 591 (.ptr 10) [] (ai nm [(a1,b1),(a2,b2),(a3,b3)]),[],pC x++[¬ ((xS x)∈ah),¬ ((xS x)∈aC),¬ (xS x=⟨#[62]⟩),(xS x)=⟨#[47]⟩]):=by kernel_rfl
theorem D7:aj ρ (turn (base f (.con rc) X x 591 (.ptr 10) [] (ai nm [(a1,b1),(a2,b2),(a3,b3)])) [0,1]) =
 some (true,base f (.con rc) X { x with k:=(x.k+1) } 304 (.ptr 10) [.ptr 10] ([bV (ac nm) true 11,.dict (bH [(a1,b1),(a2,b2),(a3,b3)])]),[],pC x++[(xS x)=⟨#[62]⟩]++[bI,nm.length<=aa]++[([a1,a2,a3]:List Str).Nodup]):=by kernel_rfl
theorem Fr:aj ρ (turn (base f (.con rc) X x 542 (.ptr 10) [] (ai nm [(a1,b1),(a2,b2),(a3,b3)])) [0,1,0,0]) =
 some (true,base f (.con rc) X { x with k:=(x.k+1) } 556 (.ptr 10) [] (ai nm [(a1,b1),(a2,b2),((ac a3),b3)]),[],pC x++[(xS x)=⟨#[61]⟩]++[bI,a3.length<=aa]++[¬ ((ac a3)=a1),¬ ((ac a3)=a2)]):=by kernel_rfl
theorem uT:aj ρ (turn (base f (.con rc) X x 542 (.ptr 10) [] (ai nm [(a1,b1),(a2,b2),(a3,b3)])) [0,0,1,0,1]) =
 some (true,base f (.con rc) X { x with k:=(rT x true aC) } 542 (.ptr 10) [] (ai nm [(a1,b1),(a2,b2),(a3++((xS x)++(uS x true aC)),b3)]),[],pC x++[¬ (xS x=⟨#[61]⟩),(xS x)∈aC]++pRun x (x.k+1)++[¬ ((rT x true aC)=(x.k+1)),(rT x true aC)≠x.n,x.Y.length<=aa,(uS x true aC).length<=aa]++[(xS x).length+(uS x true aC).length<=aa]++[a3.length+((xS x)++(uS x true aC)).length<=aa]):=by kernel_rfl
theorem uR:aj ρ (turn (base f (.con rc) X x 542 (.ptr 10) [] (ai nm [(a1,b1),(a2,b2),(a3,b3)])) [0,0,1,1,1]) =
 some (true,base f (.con rc) X { x with k:=(x.k+1) } 542 (.ptr 10) [] (ai nm [(a1,b1),(a2,b2),(a3++((xS x)++(⟨#[]⟩:Str)),b3)]),[],pC x++[¬ (xS x=⟨#[61]⟩),(xS x)∈aC]++pRun x (x.k+1)++[(rT x true aC)=(x.k+1),(x.k+1)≠x.n]++[(xS x).length+(⟨#[]⟩:Str).length<=aa]++[a3.length+((xS x)++(⟨#[]⟩:Str)).length<=aa]):=by kernel_rfl
theorem Fo:aj ρ (turn (base f (.con rc) X x 542 (.ptr 10) [] (ai nm [(a1,b1),(a2,b2),(a3,b3)])) [0,0,0,1,0,0]) =
 some (true,base f (.con rc) X { x with k:=(x.k+1) } 304 (.ptr 10) [.ptr 10] ([bV (ac nm) false 11,.dict (bH [(a1,b1),(a2,b2),((ac a3),b3)])]),[],pC x++[¬ (xS x=⟨#[61]⟩),¬ ((xS x)∈aC),(xS x)=⟨#[62]⟩]++[bI,a3.length<=aa]++[¬ ((ac a3)=a1),¬ ((ac a3)=a2)]++[bI,nm.length<=aa]++[([a1,a2,(ac a3)]:List Str).Nodup]):=by kernel_rfl
theorem Fl:aj ρ (turn (base f (.con rc) X x 542 (.ptr 10) [] (ai nm [(a1,b1),(a2,b2),(a3,b3)])) [0,0,0,0,1,0,0]) =
 some (true,base f (.con rc) X { x with k:=(x.k+1) } 549 (.ptr 10) [] (ai nm [(a1,b1),(a2,b2),((ac a3),b3)]),[],pC x++[¬ (xS x=⟨#[61]⟩),¬ ((xS x)∈aC),¬ (xS x=⟨#[62]⟩),(xS x)∈ah]++[bI,a3.length<=aa]++[¬ ((ac a3)=a1),¬ ((ac a3)=a2)]):=by kernel_rfl
theorem Fu:aj ρ (turn (base f (.con rc) X x 542 (.ptr 10) [] (ai nm [(a1,b1),(a2,b2),(a3,b3)])) [0,0,0,0,0,0,0,0]) =
 some (true,base f (.con rc) X { x with k:=(x.k+1) } 542 (.ptr 10) [] (ai nm [(a1,b1),(a2,b2),(a3++(xS x),b3)]),[],pC x++[¬ (xS x=⟨#[61]⟩),¬ ((xS x)∈aC),¬ (xS x=⟨#[62]⟩),¬ ((xS x)∈ah),¬ (xS x=⟨#[47]⟩),¬ (xS x=⟨#[0]⟩),¬ ((xS x)∈[(⟨#[39]⟩:Str),(⟨#[34]⟩:Str),(⟨#[60]⟩:Str)])]++[a3.length+(xS x).length<=aa]):=by kernel_rfl
theorem Fy:aj ρ (turn (base f (.con rc) X x 549 (.ptr 10) [] (ai nm [(a1,b1),(a2,b2),(a3,b3)])) [0,0,1]) =
 some (true,base f (.con rc) X { x with k:=(x.k+1) } 556 (.ptr 10) [] (ai nm [(a1,b1),(a2,b2),(a3,b3)]),[],pC x++[¬ ((xS x)∈ah),(xS x)=⟨#[61]⟩]):=by kernel_rfl
theorem yW:aj ρ (turn (base f (.con rc) X x 549 (.ptr 10) [] (ai nm [(a1,b1),(a2,b2),(a3,b3)])) [0,0,0,0,0,1]) =
 some (true,base f (.con rc) X { x with k:=(x.k+1) } 591 (.ptr 10) [] (ai nm [(a1,b1),(a2,b2),(a3,b3)]),[],pC x++[¬ ((xS x)∈ah),¬ (xS x=⟨#[61]⟩),¬ (xS x=⟨#[62]⟩),¬ ((xS x)∈aC),(xS x)=⟨#[47]⟩]):=by kernel_rfl
theorem EG:aj ρ (turn (base f (.con rc) X x 556 (.ptr 10) [] (ai nm [(a1,b1),(a2,b2),(a3,b3)])) [0,1,1,1]) =
 some (true,base f (.con rc) X { x with k:=(x.k+1) } 556 (.ptr 10) [] (ai nm [(a1,b1),(a2,b2),(a3,b3)]),[],pC x++[(xS x)∈ah]++pRun x (x.k+1)++[(rT x true ah)=(x.k+1),(x.k+1)≠x.n]):=by kernel_rfl
theorem EJ:aj ρ (turn (base f (.con rc) X x 556 (.ptr 10) [] (ai nm [(a1,b1),(a2,b2),(a3,b3)])) [0,0,1]) =
 some (true,base f (.con rc) X { x with k:=(x.k+1) } 563 (.ptr 10) [] (ai nm [(a1,b1),(a2,b2),(a3,b3)]),[],pC x++[¬ ((xS x)∈ah),(xS x)=⟨#[34]⟩]):=by kernel_rfl
theorem EC:aj ρ (turn (base f (.con rc) X x 556 (.ptr 10) [] (ai nm [(a1,b1),(a2,b2),(a3,b3)])) [0,0,0,0,1]) =
 some (true,base f (.con rc) X { x with k:=(x.k+1) } 570 (.ptr 10) [] (ai nm [(a1,b1),(a2,b2),(a3,b3)]),[],pC x++[¬ ((xS x)∈ah),¬ (xS x=⟨#[34]⟩),¬ (xS x=⟨#[38]⟩),(xS x)=⟨#[39]⟩]):=by kernel_rfl
theorem EN:aj ρ (turn (base f (.con rc) X x 556 (.ptr 10) [] (ai nm [(a1,b1),(a2,b2),(a3,b3)])) [0,0,0,0,0,0,0,0]) =
 some (true,base f (.con rc) X { x with k:=(x.k+1) } 577 (.ptr 10) [] (ai nm [(a1,b1),(a2,b2),(a3,b3++(xS x))]),[],pC x++[¬ ((xS x)∈ah),¬ (xS x=⟨#[34]⟩),¬ (xS x=⟨#[38]⟩),¬ (xS x=⟨#[39]⟩),¬ (xS x=⟨#[62]⟩),¬ (xS x=⟨#[0]⟩),¬ ((xS x)∈[(⟨#[61]⟩:Str),(⟨#[60]⟩:Str),(⟨#[96]⟩:Str)])]++[b3.length+(xS x).length<=aa]):=by kernel_rfl
theorem Dq:aj ρ (turn (base f (.con rc) X x 563 (.ptr 10) [] (ai nm [(a1,b1),(a2,b2),(a3,b3)])) [0,1]) =
 some (true,base f (.con rc) X { x with k:=(x.k+1) } 584 (.ptr 10) [] (ai nm [(a1,b1),(a2,b2),(a3,b3)]),[],pC x++[(xS x)=⟨#[34]⟩]):=by kernel_rfl
theorem A7:aj ρ (turn (base f (.con rc) X x 563 (.ptr 10) [] (ai nm [(a1,b1),(a2,b2),(a3,b3)])) [0,0,0,0,0,1]) =
 some (true,base f (.con rc) X { x with k:=(rT x false dqL) } 563 (.ptr 10) [] (ai nm [(a1,b1),(a2,b2),(a3,b3++((xS x)++(uS x false dqL)))]),[],pC x++[¬ (xS x=⟨#[34]⟩),¬ (xS x=⟨#[38]⟩),¬ (xS x=⟨#[0]⟩)]++pRun x (x.k+1)++[¬ ((rT x false dqL)=(x.k+1)),(rT x false dqL)≠x.n,x.Y.length<=aa,(uS x false dqL).length<=aa]++[(xS x).length+(uS x false dqL).length<=aa]++[b3.length+((xS x)++(uS x false dqL)).length<=aa]):=by kernel_rfl
theorem A6:aj ρ (turn (base f (.con rc) X x 563 (.ptr 10) [] (ai nm [(a1,b1),(a2,b2),(a3,b3)])) [0,0,0,0,1,1]) =
 some (true,base f (.con rc) X { x with k:=(x.k+1) } 563 (.ptr 10) [] (ai nm [(a1,b1),(a2,b2),(a3,b3++((xS x)++(⟨#[]⟩:Str)))]),[],pC x++[¬ (xS x=⟨#[34]⟩),¬ (xS x=⟨#[38]⟩),¬ (xS x=⟨#[0]⟩)]++pRun x (x.k+1)++[(rT x false dqL)=(x.k+1),(x.k+1)≠x.n]++[(xS x).length+(⟨#[]⟩:Str).length<=aa]++[b3.length+((xS x)++(⟨#[]⟩:Str)).length<=aa]):=by kernel_rfl
theorem Cq:aj ρ (turn (base f (.con rc) X x 570 (.ptr 10) [] (ai nm [(a1,b1),(a2,b2),(a3,b3)])) [0,1]) =
 some (true,base f (.con rc) X { x with k:=(x.k+1) } 584 (.ptr 10) [] (ai nm [(a1,b1),(a2,b2),(a3,b3)]),[],pC x++[(xS x)=⟨#[39]⟩]):=by kernel_rfl
theorem Aa:aj ρ (turn (base f (.con rc) X x 570 (.ptr 10) [] (ai nm [(a1,b1),(a2,b2),(a3,b3)])) [0,0,0,0,0,1]) =
 some (true,base f (.con rc) X { x with k:=(rT x false sqL) } 570 (.ptr 10) [] (ai nm [(a1,b1),(a2,b2),(a3,b3++((xS x)++(uS x false sqL)))]),[],pC x++[¬ (xS x=⟨#[39]⟩),¬ (xS x=⟨#[38]⟩),¬ (xS x=⟨#[0]⟩)]++pRun x (x.k+1)++[¬ ((rT x false sqL)=(x.k+1)),(rT x false sqL)≠x.n,x.Y.length<=aa,(uS x false sqL).length<=aa]++[(xS x).length+(uS x false sqL).length<=aa]++[b3.length+((xS x)++(uS x false sqL)).length<=aa]):=by kernel_rfl
theorem zZ:aj ρ (turn (base f (.con rc) X x 570 (.ptr 10) [] (ai nm [(a1,b1),(a2,b2),(a3,b3)])) [0,0,0,0,1,1]) =
 some (true,base f (.con rc) X { x with k:=(x.k+1) } 570 (.ptr 10) [] (ai nm [(a1,b1),(a2,b2),(a3,b3++((xS x)++(⟨#[]⟩:Str)))]),[],pC x++[¬ (xS x=⟨#[39]⟩),¬ (xS x=⟨#[38]⟩),¬ (xS x=⟨#[0]⟩)]++pRun x (x.k+1)++[(rT x false sqL)=(x.k+1),(x.k+1)≠x.n]++[(xS x).length+(⟨#[]⟩:Str).length<=aa]++[b3.length+((xS x)++(⟨#[]⟩:Str)).length<=aa]):=by kernel_rfl
theorem DY:aj ρ (turn (base f (.con rc) X x 577 (.ptr 10) [] (ai nm [(a1,b1),(a2,b2),(a3,b3)])) [0,1]) =
 some (true,base f (.con rc) X { x with k:=(x.k+1) } 535 (.ptr 10) [] (ai nm [(a1,b1),(a2,b2),(a3,b3)]),[],pC x++[(xS x)∈ah]):=by kernel_rfl
theorem D1:aj ρ (turn (base f (.con rc) X x 577 (.ptr 10) [] (ai nm [(a1,b1),(a2,b2),(a3,b3)])) [0,0,0,1]) =
 some (true,base f (.con rc) X { x with k:=(x.k+1) } 304 (.ptr 10) [.ptr 10] ([bV (ac nm) false 11,.dict (bH [(a1,b1),(a2,b2),(a3,b3)])]),[],pC x++[¬ ((xS x)∈ah),¬ (xS x=⟨#[38]⟩),(xS x)=⟨#[62]⟩]++[bI,nm.length<=aa]++[([a1,a2,a3]:List Str).Nodup]):=by kernel_rfl
theorem EX:aj ρ (turn (base f (.con rc) X x 584 (.ptr 10) [] (ai nm [(a1,b1),(a2,b2),(a3,b3)])) [0,1]) =
 some (true,base f (.con rc) X { x with k:=(x.k+1) } 535 (.ptr 10) [] (ai nm [(a1,b1),(a2,b2),(a3,b3)]),[],pC x++[(xS x)∈ah]):=by kernel_rfl
theorem E0:aj ρ (turn (base f (.con rc) X x 584 (.ptr 10) [] (ai nm [(a1,b1),(a2,b2),(a3,b3)])) [0,0,1]) =
 some (true,base f (.con rc) X { x with k:=(x.k+1) } 304 (.ptr 10) [.ptr 10] ([bV (ac nm) false 11,.dict (bH [(a1,b1),(a2,b2),(a3,b3)])]),[],pC x++[¬ ((xS x)∈ah),(xS x)=⟨#[62]⟩]++[bI,nm.length<=aa]++[([a1,a2,a3]:List Str).Nodup]):=by kernel_rfl
theorem CJ:aj ρ (turn (base f (.con rc) X x 605 (.con ct) [] ([])) [0,1,0,1]) =
 some (true,base f (.con rc) X { x with k:=x.k+1+1 } 612 (.ptr 10) [] (aZ ⟨#[]⟩),[],pC x++[(xS x)=⟨#[45]⟩]++pC { x with k:=x.k+1 }++[(chS x.Y (x.k+1))=⟨#[45]⟩]):=by kernel_rfl
theorem cs_dash:aj ρ (turn (base f (.con rc) X x 612 (.ptr 10) [] (aZ t)) [0,1]) =
 some (true,base f (.con rc) X { x with k:=(x.k+1) } 619 (.ptr 10) [] (aZ t),[],pC x++[(xS x)=⟨#[45]⟩]):=by kernel_rfl
theorem cs_ch:aj ρ (turn (base f (.con rc) X x 612 (.ptr 10) [] (aZ t)) [0,0,0,0]) =
 some (true,base f (.con rc) X { x with k:=(x.k+1) } 626 (.ptr 10) [] (aZ (t++(xS x))),[],pC x++[¬ (xS x=⟨#[45]⟩),¬ (xS x=⟨#[0]⟩),¬ (xS x=⟨#[62]⟩)]++[t.length+(xS x).length<=aa]):=by kernel_rfl
theorem cd_dash:aj ρ (turn (base f (.con rc) X x 619 (.ptr 10) [] (aZ t)) [0,1]) =
 some (true,base f (.con rc) X { x with k:=(x.k+1) } 640 (.ptr 10) [] (aZ t),[],pC x++[(xS x)=⟨#[45]⟩]):=by kernel_rfl
theorem co_dash:aj ρ (turn (base f (.con rc) X x 626 (.ptr 10) [] (aZ t)) [0,1]) =
 some (true,base f (.con rc) X { x with k:=(x.k+1) } 633 (.ptr 10) [] (aZ t),[],pC x++[(xS x)=⟨#[45]⟩]):=by kernel_rfl
theorem Dy:aj ρ (turn (base f (.con rc) X x 626 (.ptr 10) [] (aZ t)) [0,0,0,0,1]) =
 some (true,base f (.con rc) X { x with k:=(rT x false coL) } 626 (.ptr 10) [] (aZ (t++((xS x)++(uS x false coL)))),[],pC x++[¬ (xS x=⟨#[45]⟩),¬ (xS x=⟨#[0]⟩)]++pRun x (x.k+1)++[¬ ((rT x false coL)=(x.k+1)),(rT x false coL)≠x.n,x.Y.length<=aa,(uS x false coL).length<=aa]++[(xS x).length+(uS x false coL).length<=aa]++[t.length+((xS x)++(uS x false coL)).length<=aa]):=by kernel_rfl
theorem Dx:aj ρ (turn (base f (.con rc) X x 626 (.ptr 10) [] (aZ t)) [0,0,0,1,1]) =
 some (true,base f (.con rc) X { x with k:=(x.k+1) } 626 (.ptr 10) [] (aZ (t++((xS x)++(⟨#[]⟩:Str)))),[],pC x++[¬ (xS x=⟨#[45]⟩),¬ (xS x=⟨#[0]⟩)]++pRun x (x.k+1)++[(rT x false coL)=(x.k+1),(x.k+1)≠x.n]++[(xS x).length+(⟨#[]⟩:Str).length<=aa]++[t.length+((xS x)++(⟨#[]⟩:Str)).length<=aa]):=by kernel_rfl
theorem ce_dash:aj ρ (turn (base f (.con rc) X x 633 (.ptr 10) [] (aZ t)) [0,1]) =
 some (true,base f (.con rc) X { x with k:=(x.k+1) } 640 (.ptr 10) [] (aZ t),[],pC x++[(xS x)=⟨#[45]⟩]):=by kernel_rfl
theorem ce_ch:aj ρ (turn (base f (.con rc) X x 633 (.ptr 10) [] (aZ t)) [0,0,0]) =
 some (true,base f (.con rc) X { x with k:=(x.k+1) } 626 (.ptr 10) [] (aZ (t++((⟨#[45]⟩:Str)++(xS x)))),[],pC x++[¬ (xS x=⟨#[45]⟩),¬ (xS x=⟨#[0]⟩)]++[(⟨#[45]⟩:Str).length+(xS x).length<=aa]++[t.length+((⟨#[45]⟩:Str)++(xS x)).length<=aa]):=by kernel_rfl
theorem en_gt:aj ρ (turn (base f (.con rc) X x 640 (.ptr 10) [] (aZ t)) [0,1]) =
 some (true,base f (.con rc) X { x with k:=(x.k+1) } 304 (.ptr 10) [.ptr 10] (aZ t),[],pC x++[(xS x)=⟨#[62]⟩]):=by kernel_rfl
theorem en_ch:aj ρ (turn (base f (.con rc) X x 640 (.ptr 10) [] (aZ t)) [0,0,0,0,0]) =
 some (true,base f (.con rc) X { x with k:=(x.k+1) } 626 (.ptr 10) [.ptr 11] ([nx (t++((⟨#[45,45]⟩:Str)++(xS x))),.dict [(⟨#[116,121,112,101]⟩,.int 7),(⟨#[100,97,116,97]⟩,.sstr ⟨#[117,110,101,120,112,101,99,116,101,100,45,99,104,97,114,45,105,110,45,99,111,109,109,101,110,116]⟩)]]),[],pC x++[¬ (xS x=⟨#[62]⟩),¬ (xS x=⟨#[0]⟩),¬ (xS x=⟨#[33]⟩),¬ (xS x=⟨#[45]⟩)]++[(⟨#[45,45]⟩:Str).length+(xS x).length<=aa]++[t.length+((⟨#[45,45]⟩:Str)++(xS x)).length<=aa]):=by kernel_rfl
end
end TE
namespace TE
set_option genSizeOf false
set_option genInjectivity false
set_option backward.match.sparseCases false
set_option tactic.hygienic false
inductive St where
 | data | tagOpen | close | tagName | befAN | attrN | aftAN | befAV | dq | sq | uq | aftAV | selfC | markup | cStart | cStartDash | comment | cEndDash | cEnd
noncomputable def St.addr:St->Addr
 | .data=>304 | .tagOpen=>353 | .close=>360 | .tagName=>367 | .befAN=>535 | .attrN=>542 | .aftAN=>549 | .befAV=>556 | .dq=>563 | .sq=>570 | .uq=>577 | .aftAV=>584 | .selfC=>591
 | .markup=>605 | .cStart=>612 | .cStartDash=>619 | .comment=>626 | .cEndDash=>633 | .cEnd=>640
inductive Cur where
 | none
 | start (nm:Str) (l:List (Str×Str))
 | endt (nm:Str)
 | note (t:Str)
inductive Tok where
 | start (nm:Str) (l:List (Str×Str)) (sc:Bool)
 | endt (nm:Str)
 | note (t:Str)
 | text (ty:Int) (t:Str)
 | err
structure MS where
 st:St
 cur:Cur
 rest:List Nat
abbrev aO (c:Nat):Prop:=c=9\/c=10\/c=12\/c=32\/c=13
abbrev aS (c:Nat):Prop:=(97<=c/\c<=122)\/(65<=c/\c<=90)
noncomputable def mkS (l:List Nat):Str:=⟨l.toArray⟩
noncomputable def ao (c:Nat):Str:=⟨#[c]⟩
noncomputable def bT (f:Str×Str->Str×Str):List (Str×Str)->List (Str×Str)
 | []=>[]
 | [p]=>[f p]
 | p::q::r=>p::bT f (q::r)
noncomputable def cq (l:List (Str×Str)):List (Str×Str):=bT (fun p=>(ac p.1,p.2)) l
noncomputable def fresh:List (Str×Str)->Bool
 | []=>true
 | [a]=>true
 | [a,b]=>!seq (ac b.1) a.1
 | [a,b,c]=>!seq (ac c.1) a.1&&!seq (ac c.1) b.1
 | _=>false
noncomputable def ci (l:List (Str×Str)):Bool:=match l with
 | []=>true
 | [a]=>true
 | [a,b]=>!seq a.1 b.1
 | [a,b,c]=>!seq a.1 b.1&&!seq a.1 c.1&&!seq b.1 c.1
 | _=>false
noncomputable def aN (r:List Nat):List Nat×List Nat:=(r.takeWhile fun c=>aA ⟨#[c]⟩ ah==true,r.dropWhile fun c=>aA ⟨#[c]⟩ ah==true)
noncomputable def iu (r:List Nat):List Nat×List Nat:=(r.takeWhile fun c=>aA ⟨#[c]⟩ aC==true,r.dropWhile fun c=>aA ⟨#[c]⟩ aC==true)
noncomputable def aQ (l:List Str) (r:List Nat):List Nat×List Nat:=(r.takeWhile fun c=>aA ⟨#[c]⟩ l==false,r.dropWhile fun c=>aA ⟨#[c]⟩ l==false)
noncomputable def ie (t:List Nat×List Nat) (k:List Nat->List Nat->Option (MS×Option Tok)):Option (MS×Option Tok):=match t.2 with
 | []=>none
 | _::_=>k t.1 t.2
noncomputable def bj (st:St) (cur:Cur) (c:Nat) (r:List Nat):Option (MS×Option Tok):=match st with
 | .data=>(match cur with
  | .none =>
   if c=60 then some (⟨.tagOpen,.none,r⟩,none)
   else if c=38\/c=0 then none
   else if aO c then some (⟨.data,.none,(aN r).2⟩,some (.text 2 (ao c++mkS (aN r).1)))
   else some (⟨.data,.none,(aQ txL r).2⟩,some (.text 1 (ao c++mkS (aQ txL r).1)))
  | _=>none)
 | .tagOpen=>(match cur with
  | .none =>
   if c=33 then some (⟨.markup,.none,r⟩,none)
   else if c=47 then some (⟨.close,.none,r⟩,none)
   else if aS c then some (⟨.tagName,.start (ao c) [],r⟩,none)
   else none
  | _=>none)
 | .close=>(match cur with
  | .none=>if aS c then some (⟨.tagName,.endt (ao c),r⟩,none) else none
  | _=>none)
 | .tagName=>(match cur with
  | .start nm [] =>
   if aO c then some (⟨.befAN,cur,r⟩,none)
   else if c=62 then some (⟨.data,.none,r⟩,some (.start (ac nm) [] false))
   else if c=47\/c=0 then none
   else some (⟨.tagName,.start (nm++ao c) [],r⟩,none)
  | .endt nm =>
   if aO c then some (⟨.befAN,cur,r⟩,none)
   else if c=62 then some (⟨.data,.none,r⟩,some (.endt (ac nm)))
   else if c=47\/c=0 then none
   else some (⟨.tagName,.endt (nm++ao c),r⟩,none)
  | _=>none)
 | .befAN=>(match cur with
  | .endt nm=>if c=62 then some (⟨.data,.none,r⟩,some (.endt (ac nm))) else none
  | .start nm l =>
   if c=47 then (if l.length<=3 then some (⟨.selfC,cur,r⟩,none) else none)
   else if aS c then (if l.length<=2 then some (⟨.attrN,.start nm (l++[(ao c,⟨#[]⟩)]),r⟩,none) else none)
   else none
  | _=>none)
 | .selfC=>(match cur with
  | .start nm l=>if c=62/\ci l=true then some (⟨.data,.none,r⟩,some (.start (ac nm) l true)) else none
  | _=>none)
 | .attrN=>(match cur with
  | .start nm (p::l) =>
   if 3<=l.length then none
   else if c=61 then (if fresh (p::l)=true then some (⟨.befAV,.start nm (cq (p::l)),r⟩,none) else none)
   else if aS c then ie (iu r) fun t r'=>some (⟨.attrN,.start nm (bT (fun q=>(q.1++(ao c++mkS t),q.2)) (p::l)),r'⟩,none)
   else if c=62 then (if fresh (p::l)=true/\ci (cq (p::l))=true then some (⟨.data,.none,r⟩,some (.start (ac nm) (cq (p::l)) false)) else none)
   else if aO c then (if fresh (p::l)=true then some (⟨.aftAN,.start nm (cq (p::l)),r⟩,none) else none)
   else if c=45 then some (⟨.attrN,.start nm (bT (fun q=>(q.1++ao c,q.2)) (p::l)),r⟩,none)
   else none
  | _=>none)
 | .aftAN=>(match cur with
  | .start nm (p::l) =>
   if 3<=l.length then none
   else if c=61 then some (⟨.befAV,cur,r⟩,none)
   else if c=47 then some (⟨.selfC,cur,r⟩,none)
   else if aS c then (if l.length<=1 then some (⟨.attrN,.start nm (p::l++[(ao c,⟨#[]⟩)]),r⟩,none) else none)
   else none
  | _=>none)
 | .befAV=>(match cur with
  | .start nm (p::l) =>
   if 3<=l.length then none
   else if aO c then ie (aN r) fun t r'=>(match t with
    | []=>some (⟨.befAV,cur,r'⟩,none)
    | _::_=>none)
   else if c=34 then some (⟨.dq,cur,r⟩,none)
   else if c=39 then some (⟨.sq,cur,r⟩,none)
   else if aS c then some (⟨.uq,.start nm (bT (fun q=>(q.1,q.2++ao c)) (p::l)),r⟩,none)
   else none
  | _=>none)
 | .dq=>(match cur with
  | .start nm (p::l) =>
   if 3<=l.length then none
   else if c=34 then some (⟨.aftAV,cur,r⟩,none)
   else if c=38\/c=0 then none
   else ie (aQ dqL r) fun t r'=>some (⟨.dq,.start nm (bT (fun q=>(q.1,q.2++(ao c++mkS t))) (p::l)),r'⟩,none)
  | _=>none)
 | .sq=>(match cur with
  | .start nm (p::l) =>
   if 3<=l.length then none
   else if c=39 then some (⟨.aftAV,cur,r⟩,none)
   else if c=38\/c=0 then none
   else ie (aQ sqL r) fun t r'=>some (⟨.sq,.start nm (bT (fun q=>(q.1,q.2++(ao c++mkS t))) (p::l)),r'⟩,none)
  | _=>none)
 | .uq=>(match cur with
  | .start nm (p::l) =>
   if 3<=l.length then none
   else if aO c then some (⟨.befAN,cur,r⟩,none)
   else if c=62/\ci (p::l)=true then some (⟨.data,.none,r⟩,some (.start (ac nm) (p::l) false))
   else none
  | _=>none)
 | .aftAV=>(match cur with
  | .start nm (p::l) =>
   if 3<=l.length then none
   else if aO c then some (⟨.befAN,cur,r⟩,none)
   else if c=62/\ci (p::l)=true then some (⟨.data,.none,r⟩,some (.start (ac nm) (p::l) false))
   else none
  | _=>none)
 | .markup=>(match cur with
  | .none=>(match r with
   | d::r'=>if c=45/\d=45 then some (⟨.cStart,.note ⟨#[]⟩,r'⟩,none) else none
   | []=>none)
  | _=>none)
 | .cStart=>(match cur with
  | .note t =>
   if c=45 then some (⟨.cStartDash,cur,r⟩,none)
   else if c=0\/c=62 then none
   else some (⟨.comment,.note (t++ao c),r⟩,none)
  | _=>none)
 | .cStartDash=>(match cur with
  | .note t=>if c=45 then some (⟨.cEnd,cur,r⟩,none) else none
  | _=>none)
 | .comment=>(match cur with
  | .note t =>
   if c=45 then some (⟨.cEndDash,cur,r⟩,none)
   else if c=0 then none
   else ie (aQ coL r) fun u r'=>some (⟨.comment,.note (t++(ao c++mkS u)),r'⟩,none)
  | _=>none)
 | .cEndDash=>(match cur with
  | .note t =>
   if c=45 then some (⟨.cEnd,cur,r⟩,none)
   else if c=0 then none
   else some (⟨.comment,.note (t++(⟨#[45]⟩++ao c)),r⟩,none)
  | _=>none)
 | .cEnd=>(match cur with
  | .note t =>
   if c=62 then some (⟨.data,.none,r⟩,some (.note t))
   else if c=0\/c=33\/c=45 then none
   else some (⟨.comment,.note (t++(⟨#[45,45]⟩++ao c)),r⟩,some .err)
  | _=>none)
end TE
namespace TE
set_option tactic.hygienic false
theorem jE (x:Str) {a b:Nat} (hab:a<=b) (hb:b<=x.length):Txt.slice x (some (a:Int)) (some (b:Int))=mkS ((x.cps.toList.drop a).take (b - a)):=StrLaws.sliceText_nat x hab hb
theorem oG (x:Str) (a:Int) {b:Int} (hb:(x.length:Int)<=b):Txt.slice x (some a) (some b)=Txt.slice x (some a) (some (x.length:Int)):=by
 unfold Txt.slice;have h1:¬ (b < 0):=by lia
 have h2:¬ ((x.length:Int) < 0):=by exact Int.not_ofNat_neg x.length
 have e1:min b (x.length:Int)=x.length:=by exact Int.min_eq_right hb
 have e:Builtin.Str.strSliceIndices (some a) (some b) 1 x.length=Builtin.Str.strSliceIndices (some a) (some (x.length:Int)) 1 x.length:=by
  simp[Builtin.Str.strSliceIndices,h1,h2,e1]
 rw[e]
theorem xp (x:Str) {a:Nat} (ha:a<=x.length):Txt.slice x (some (a:Int)) none=mkS (x.cps.toList.drop a):=by
 have e:Txt.slice x (some (a:Int)) none=Txt.slice x (some (a:Int)) (some (x.length:Int)):=by
  unfold Txt.slice;rw[StrLaws.sliceIdx_none_hi]
 rw[e,jE x ha (Qa _)];have:x.cps.toList.length=x.length:=rfl;rw[List.take_of_length_le (by rw[List.length_drop];exact Qa (x.cps.toList.length - a))]
theorem CK (x:Str):mkS x.cps.toList=x:=rfl
theorem eH (l:List Nat):(mkS l).length=l.length:=rfl
theorem Hd (c:Nat):(ao c).length=1:=rfl
theorem bM (a b:Str):(a++b).length=a.length+b.length:=Str.length_append a b
noncomputable def NL:Str:=⟨#[10]⟩
structure Mid (X:Str) (x:Sx) (rest:List Nat):Prop where
 Y:x.Y=X
 n:x.n=(X.length:Int)
 k:∃ pre,X.cps.toList=pre++rest/\x.k=(pre.length:Int)
 pl:x.pl=0
 pc:x.pc=0
 p:x.p=(X.length:Int)
noncomputable def dx (X:Str):Int:=if Txt.rfind X NL=-1 then (X.length:Int) else (X.length:Int) - (Txt.rfind X NL+1)
noncomputable def br (X:Str):Sx:=⟨⟨#[]⟩,0,0,Txt.count X NL,dx X,(X.length:Int)⟩
noncomputable def bc:List Prop->Prop
 | []=>True
 | p::r=>p/\bc r
theorem d0:∀ {l:List Prop},bc l->∀ p∈l,p
 | [],_,_,h=>nomatch h
 | a::r,h,p,hp=>by
  rcases Qz hp with rfl | hp
  ·exact h.1
  ·exact d0 h.2 p hp
theorem ab:∀ {l r:List Prop},bc l->bc r->bc (l++r)
 | [],_,_,h=>h
 | _::_,_,h,h'=>⟨h.1,ab h.2 h'⟩
theorem ka (c d:Nat):((⟨#[c]⟩:Str)=⟨#[d]⟩)↔c=d:=by
 constructor
 ·intro h;have:=congrArg (fun s:Str=>s.cps.toList) h;simpa using this
 ·rintro rfl;rfl
theorem mU (c:Nat):(⟨#[c]⟩:Str)∈ah↔aO c:=by
 unfold ah;simp only[List.mem_cons,List.not_mem_nil,or_false,ka]
noncomputable def leNs:List Nat:=(List.range' 97 26)++(List.range' 65 26)
theorem sH (c:Nat):(⟨#[c]⟩:Str)∈aC↔aS c:=by
 have e:aC=leNs.map fun c=>(⟨#[c]⟩:Str):=by kernel_rfl
 have b:∀ c,c < 123->(c∈leNs↔aS c):=by decide +kernel
 have u:∀ c∈leNs,c < 123:=by decide +kernel
 rw[e,List.mem_map];refine Iff.trans ⟨fun ⟨a,h,q⟩=>(ka a c).mp q▸h,fun h=>⟨c,h,rfl⟩⟩ ?_
 by_cases q:c < 123
 ·exact b c q
 ·exact ⟨fun h=>(q (u c h)).elim,fun h=>(q (h.elim (fun h=>Nat.lt_succ_of_le h.2) fun h=>Nat.lt_of_le_of_lt h.2 (by decide))).elim⟩
section
variable {X:Str} {x:Sx} {c:Nat} {r:List Nat}
theorem Mid.lt (h:Mid X x (c::r)):0<=x.k/\x.k < (X.length:Int):=by
 obtain ⟨pre,e,hk⟩:=h.k;have:X.cps.toList.length=X.length:=rfl;rw[e] at this;simp only[List.length_append,List.length_cons] at this;rw[hk];lia
theorem Mid.pC (h:Mid X x (c::r)) (hz:X.length<=aa):bc (pC x):=by
 obtain ⟨h1,h2⟩:=h.lt;refine ⟨?_,⟨h1,by rw[h.Y];exact h2,by rw[h.Y];exact hz⟩,trivial⟩;show ¬ (x.k≥x.n);rw[h.n];exact (fun {a b}=>Int.not_le.mpr) h2
theorem Mid.ch (h:Mid X x (c::r)):chS x.Y x.k=⟨#[c]⟩:=by
 obtain ⟨pre,e,hk⟩:=h.k;unfold chS;rw[h.Y,hk,Int.toNat_natCast,Array.getD_eq_getD_getElem?,<- Qq,e,Qr (Qa _),Nat.sub_self];rfl
theorem Mid.next (h:Mid X x (c::r)):Mid X { x with k:=x.k+1 } r:=by
 obtain ⟨pre,e,hk⟩:=h.k;refine ⟨h.Y,h.n,⟨pre++[c],?_,?_⟩,h.pl,h.pc,h.p⟩
 ·rw[e];simp
 ·show x.k+1=_;rw[hk];simp
theorem ey (p:Nat->Bool) (l:List Nat):l.takeWhile p++l.dropWhile p=l:=List.takeWhile_append_dropWhile
theorem Mid.drop (h:Mid X x r):X.cps.toList.drop x.k.toNat=r:=by
 obtain ⟨pre,e,hk⟩:=h.k;rw[hk,e,Int.toNat_natCast,List.drop_left]
theorem Mid.run (h:Mid X x r) (opp:Bool) (l:List Str):iq opp l x.Y x.k=x.k+((r.takeWhile fun c=>aA ⟨#[c]⟩ l==opp).length:Int):=by
 unfold iq gM;rw[h.Y,h.drop]
theorem Mid.bounds (h:Mid X x r):0<=x.k/\x.k<=x.n/\x.n=(X.length:Int)/\x.k+(r.length:Int)=(X.length:Int):=by
 obtain ⟨pre,e,hk⟩:=h.k;have:X.cps.toList.length=X.length:=rfl;rw[e,List.length_append] at this;rw[hk,h.n];lia
theorem Mid.pRun (h:Mid X x r) (hz:X.length<=aa) {x0:Sx} (hY:x0.Y=x.Y) (hn:x0.n=x.n):bc (pRun x0 x.k):=by
 obtain ⟨h1,h2,h3,_⟩:=h.bounds;exact ⟨rfl,⟨h1,by rw[hn];exact h2,by rw[hn,hY,h.Y];exact h3,by rw[hY,h.Y];exact hz⟩,trivial⟩
theorem Mid.part (h:Mid X x r) {t r':List Nat} (e:r=t++r'):Txt.slice x.Y (some x.k) (some (x.k+(t.length:Int)))=mkS t/\Mid X { x with k:=x.k+(t.length:Int) } r':=by
 obtain ⟨pre,ep,hk⟩:=h.k;have hl:X.cps.toList.length=X.length:=rfl;constructor
 ·have b:=h.bounds;rw[h.Y,hk];have e1:(pre.length:Int)+(t.length:Int)=((pre.length+t.length:Nat):Int):=by rfl
  rw[e1,jE X (by exact Nat.le_add_right pre.length t.length) (by rw[<- hl,ep,e];simp only[List.length_append];simp),ep,e,List.drop_left,Nat.add_sub_cancel_left,List.take_left]
 ·refine ⟨h.Y,h.n,⟨pre++t,?_,?_⟩,h.pl,h.pc,h.p⟩
  ·rw[ep,e,Qv]
  ·show x.k+(t.length:Int)=_;rw[hk,List.length_append];rfl
theorem Mid.tail (h:Mid X x r):Txt.slice x.Y (some x.k) none=mkS r:=by
 obtain ⟨pre,ep,hk⟩:=h.k;have hl:X.cps.toList.length=X.length:=rfl;rw[h.Y,hk,xp X (by rw[<- hl,ep];simp only[List.length_append];exact Nat.le_add_right pre.length r.length),ep,List.drop_left]
theorem oO {p:Int} (hp:p=(X.length:Int)) (hx:x.p=p):aX x X=⟨#[]⟩:=by
 unfold aX;rw[oG X _ (by rw[hx,hp];exact Int.le.intro 10240 rfl),hx,hp,jE X (Qa _) (Qa _)];simp[mkS]
end
end TE
namespace TE
set_option tactic.hygienic false
theorem qX {x y:Str} (h:∀ i,¬ StrLaws.At x y x.length i):Builtin.Str.occurrences x y 0 x.length (x.length+1)=[]:=by
 rcases StrLaws.occ_head_from x y 0 (x.length+1) (by exact Nat.le_add_left 1 x.length) with ⟨e,_⟩ | ⟨i,r,_,_,hi,_⟩
 ·exact e
 ·exact (h i hi).elim
theorem Ej {x:Str} {c:Nat} (h:c ∉ x.cps.toList) (i:Nat):¬ StrLaws.At x ⟨#[c]⟩ x.length i:=fun hi =>
 h (Ql ((StrLaws.subAt_one x c i).mp hi))
theorem Ei {x:Str} {c d:Nat} (h:c ∉ x.cps.toList) (i:Nat):¬ StrLaws.At x ⟨#[c,d]⟩ x.length i:=fun hi=>by
 obtain ⟨h1,h2⟩:=hi;have h1:i+2<=x.cps.size:=h1;have h2:(x.cps.extract i (i+2)==#[c,d])=true:=h2;have e:=beq_iff_eq.mp h2;have e1:(x.cps.extract i (i+2))[0]?=some c:=by rw[e];rfl
 rw[Array.getElem?_extract] at e1;refine h (Ql (i:=i) ?_);rw[Qq]
 split at e1
 ·simpa using e1
 ·exact non e1
theorem qU {x:Str} (h:∀ c∈x.cps.toList,cD c):13 ∉ x.cps.toList:=fun hm=>by
 rcases h 13 hm with h | h<;>omega
section
variable {X:Str} {x:Sx}
theorem md (hz:X.length<=10240) (h0:x.p=0):aX x X=X:=by
 dsimp only[aX];rw[h0,oG X 0 (by exact Nat.ToInt.of_le rfl rfl hz)];have:=jE X (a:=0) (b:=X.length) (Qu _) (Qa _);have e:((0:Nat):Int)=0:=rfl;rw[e] at this;rw[this,List.drop_zero,Nat.sub_zero];have hl:X.cps.toList.length=X.length:=rfl;rw[<- hl,List.take_length];exact CK X
theorem ly:Txt.count ⟨#[]⟩ NL=0:=by decide +kernel
theorem jz:Txt.rfind ⟨#[]⟩ NL=-1:=by decide +kernel
theorem CW (hz:X.length<=10240):Mid X (xI X) X.cps.toList:=by
 have e:aX x0 X=X:=md hz rfl;dsimp only[xI];rw[e];refine ⟨rfl,rfl,⟨[],rfl,rfl⟩,?_,rfl,by simp⟩;show 0+Txt.count ⟨#[]⟩ ⟨#[10]⟩=0;have:=ly;dsimp only[NL] at this;rw[this];rfl
theorem CV (hz:X.length<=10240) (h0:X.length≠0) (ok:∀ c∈X.cps.toList,cD c):bc (ba X (decide (1 < X.length))):=by
 have e:aX x0 X=X:=md hz rfl;have hr:X.length<=aa:=by unfold aa;lia
 have hr0:(⟨#[]⟩:Str).length<=aa:=Qu _;have hl:X.cps.toList.length=X.length:=rfl;dsimp only[ba];rw[e]
 refine ab (ab ⟨(show (0:Int)≥0 from Int.le_refl _),⟨rfl,hr0⟩,⟨rfl,hr0⟩,jz,hr,hr,hr,h0,hr,trivial⟩ ?_)
  ⟨rfl,ok,hr,qX (Ei (qU ok)),qX (Ej (qU ok)),hr,⟨Nat.pos_of_ne_zero h0,hr⟩,trivial⟩
 by_cases q:1 < X.length
 ·rw[decide_eq_true q]
  have hc:cD (X.cps.getD (X.length - 1) 0):=by
   refine ok _ (Ql (i:=X.length - 1) ?_);rw[Array.getD_eq_getD_getElem?,<- Qq,Qo (by exact Nat.sub_one_lt_of_lt q)];rfl
  have hl:((kC X).cps.getD 0 0:Nat)=X.cps.getD (X.length - 1) 0:=rfl;refine ⟨?_,⟨Nat.pos_of_ne_zero h0,hr⟩,rfl,?_,?_,trivial⟩
  ·show ((X.length:Int) > 1);exact Int.lt_of_toNat_lt q
  ·rw[hl];rcases hc with h | h<;>omega
  ·rw[hl];show ¬ ((55296:Int)<=_);rcases hc with h | h<;>omega
 ·rw[decide_eq_false q];refine ⟨?_,trivial⟩;show ¬ ((X.length:Int) > 1);lia
theorem gH {r:List Nat} (h:Mid X x r) (hr:X.length<=aa):bc (be x X (decide (Txt.rfind X NL=-1)))/\bf x X (decide (Txt.rfind X NL=-1))=br X:=by
 have ne:=oO (X:=X) (x:=x) rfl h.p;constructor
 ·dsimp only[be];rw[ne,h.Y,h.n];refine ⟨⟨rfl,hr⟩,⟨rfl,hr⟩,?_,hr,Qu _,Qu _,fun h=>h rfl,trivial⟩
  by_cases q:Txt.rfind X NL=-1
  ·rw[decide_eq_true q];exact q
  ·rw[decide_eq_false q];exact q
 ·dsimp only[bf,br,dx];rw[ne,h.Y,h.n,h.pl,h.pc,h.p]
  by_cases q:Txt.rfind X NL=-1
  ·rw[decide_eq_true q,if_pos q];simp[NL];rfl
  ·rw[decide_eq_false q,if_neg q];simp[NL];rfl
theorem C8 (hr:X.length<=aa):bc (be (br X) X true)/\bf (br X) X true=br X:=by
 have ne:=oO (X:=X) (x:=br X) rfl rfl;have hr0:(⟨#[]⟩:Str).length<=aa:=Qu _;constructor
 ·dsimp only[be];rw[ne];exact ⟨⟨rfl,hr0⟩,⟨rfl,hr0⟩,jz,hr,Qu _,Qu _,fun h=>h rfl,trivial⟩
 ·dsimp only[bf];rw[ne];have:=ly;dsimp only[NL] at this;show (⟨⟨#[]⟩,0,0,Txt.count X NL+Txt.count ⟨#[]⟩ ⟨#[10]⟩,dx X+0,(X.length:Int)+((⟨#[]⟩:Str).length:Int)⟩:Sx)=br X;rw[this];dsimp only[br];simp;rfl
theorem CX (h0:X.length=0):bc ([x0.k≥x0.n]++be x0 X true)/\bf x0 X true=br X:=by
 have hX:X=⟨#[]⟩:=by
  obtain ⟨⟨l⟩⟩:=X
  cases l with
  | nil=>rfl
  | cons _ _=>exact nomatch h0
 subst hX;have ne:aX x0 ⟨#[]⟩=⟨#[]⟩:=md (by decide) rfl;have hr0:(⟨#[]⟩:Str).length<=aa:=Qu _;constructor
 ·refine ab ⟨(show (0:Int)≥0 from Int.le_refl _),trivial⟩ ?_;dsimp only[be];rw[ne];exact ⟨⟨rfl,hr0⟩,⟨rfl,hr0⟩,jz,hr0,hr0,hr0,fun h=>h rfl,trivial⟩
 ·dsimp only[bf];rw[ne];have h1:=ly;have h2:=jz;dsimp only[br,dx];rw[if_pos h2,h1];dsimp only[NL] at h1;show (⟨⟨#[]⟩,0,0,0+Txt.count ⟨#[]⟩ ⟨#[10]⟩,0+0,0+0⟩:Sx)=_;rw[h1];rfl
end
theorem cE {s:Str} {c k:Nat} (h:s=⟨#[c]⟩) (q:c=k):s=⟨#[k]⟩:=q▸h
theorem cN {s:Str} {c k:Nat} (h:s=⟨#[c]⟩) (q:¬ c=k):¬ (s=⟨#[k]⟩):=fun z=>q ((ka c k).mp (h.symm.trans z))
theorem cS {s:Str} {c:Nat} (h:s=⟨#[c]⟩) (q:aO c):s∈ah:=h▸(mU c).mpr q
theorem cNS {s:Str} {c:Nat} (h:s=⟨#[c]⟩) (q:¬ aO c):¬ (s∈ah):=fun z=>q ((mU c).mp (h▸z))
theorem cL {s:Str} {c:Nat} (h:s=⟨#[c]⟩) (q:aS c):s∈aC:=h▸(sH c).mpr q
theorem cNL {s:Str} {c:Nat} (h:s=⟨#[c]⟩) (q:¬ aS c):¬ (s∈aC):=fun z=>q ((sH c).mp (h▸z))
theorem nE {c a k:Nat} (h:c=a) (q:Nat.beq a k=false):¬ c=k:=fun z=>by rw[<- h,z,Nat.beq_refl] at q;exact noF q
theorem nS {c k:Nat} (h:aO c) (q:decide (aO k)=false):¬ c=k:=fun z=>of_decide_eq_false q (z▸h)
theorem nL {c k:Nat} (h:aS c) (q:decide (aS k)=false):¬ c=k:=fun z=>of_decide_eq_false q (z▸h)
theorem nO1 {p q:Prop} (h:¬ (p\/q)):¬ p:=fun z=>h (.inl z)
theorem nO2 {p q:Prop} (h:¬ (p\/q)):¬ q:=fun z=>h (.inr z)
theorem sE {c a:Nat} (h:c=a) (q:decide (aO a)=false):¬ aO c:=h▸of_decide_eq_false q
theorem sL {c:Nat} (h:aS c):¬ aO c:=fun z=>by unfold aO at z;unfold aS at h;lia
theorem lE {c a:Nat} (h:c=a) (q:decide (aS a)=false):¬ aS c:=h▸of_decide_eq_false q
theorem lS {c:Nat} (h:aO c):¬ aS c:=fun z=>sL z h
theorem cM {s:Str} {c i j k:Nat} (h:s=⟨#[c]⟩) (q1:¬ c=i) (q2:¬ c=j) (q3:¬ c=k):¬ (s∈[(⟨#[i]⟩:Str),(⟨#[j]⟩:Str),(⟨#[k]⟩:Str)]):=fun z=>by
 simp only[List.mem_cons,List.not_mem_nil,or_false] at z;rcases z with z | z | z
 ·exact cN h q1 z
 ·exact cN h q2 z
 ·exact cN h q3 z
end TE
namespace TE
set_option tactic.hygienic false
structure Move (P:Params) (z5:Heap) (ρ:Nat->Addr) (σ:List AO) (s:Shared) (ρ':Nat->Addr) (σ':List AO) (s':Shared):Prop where
 gens:s'.gens=s.gens
 os:s'.os=s.os
 drawn:s'.drawn=s.drawn
 rel:Rel P z5 ρ' σ' s'.heap
 size:s.heap.objs.size<=s'.heap.objs.size
 src:∀ j,j < σ'.length->(∃ i,i < σ.length/\ρ' j=ρ i)\/s.heap.objs.size<=ρ' j
 other:∀ b o,(∀ i,i < σ.length->ρ i≠b)->s.heap.get? b=some o->s'.heap.get? b=some o
section
variable {P:Params} {z5:Heap} {ρ ρ' ρ'' ρ₁:Nat->Addr} {σ σ' σ'' σ₁:List AO} {s s' s'':Shared} {m m' ks ks':List Nat} {F:List (Addr×Obj)} {n:Nat}
theorem Rel.low (R:Rel P z5 ρ σ s.heap) {i:Nat} (hi:i < σ.length):ρ i < s.heap.objs.size:=(R.own i _ (Qo hi)).lt
theorem Stp.move (S:Stp P z5 ρ σ s ρ' σ' s'):Move P z5 ρ σ s ρ' σ' s' :=
 ⟨S.gens,S.os,S.drawn,S.rel,S.size,fun j hj=>by
  by_cases q:j < σ.length
  ·exact .inl ⟨j,q,S.ext j q⟩
  ·exact .inr (S.fresh j (Nat.not_lt.mp q) hj),S.other⟩
theorem Move.trans (x:Move P z5 ρ σ s ρ' σ' s') (y:Move P z5 ρ' σ' s' ρ'' σ'' s''):Move P z5 ρ σ s ρ'' σ'' s'' where
 gens:=y.gens.trans x.gens
 os:=y.os.trans x.os
 drawn:=y.drawn.trans x.drawn
 rel:=y.rel
 size:=Qf x.size y.size
 src:=fun j hj=>by
  rcases y.src j hj with ⟨i,hi,e⟩ | h
  ·rcases x.src i hi with ⟨k,hk,e'⟩ | h
   ·exact .inl ⟨k,hk,e.trans e'⟩
   ·exact .inr (by rw[e];exact h)
  ·exact .inr (Qf x.size h)
 other:=fun b o hb e=>by
  refine y.other b o (fun i hi z=>?_) (x.other b o hb e);rcases x.src i hi with ⟨k,hk,e'⟩ | h
  ·exact hb k hk (e'.symm.trans z)
  ·rw[z] at h;exact absurd (Qg e) (Nat.not_lt.mpr h)
theorem Move.pick (R:Rel P z5 ρ σ s.heap) (hf:bB m σ.length=true) (hn:m.Nodup):Move P z5 ρ σ s (bh ρ m) (TE.pick ρ m ks σ) s :=
 ⟨rfl,rfl,rfl,R.pick hf hn,Qa _,fun j hj=>by
  replace hj:=dX (ρ:=ρ) hf hj;obtain ⟨i,i1,_,i2⟩:=hj;exact .inl ⟨i,i1,i2⟩,fun _ _ _ e=>e⟩
theorem Rel.besideM (R:Rel P z5 ρ σ s.heap) (S:Move P z5 ρ₁ σ₁ s ρ' σ' s') (D:Disj σ.length ρ σ₁.length ρ₁):Rel P z5 ρ σ s'.heap/\Disj σ.length ρ σ'.length ρ':=by
 refine ⟨⟨Qf R.base S.size,S.rel.keep,fun i o e=>?_,R.high,R.inj⟩,fun i j hi hj e=>?_⟩
 ·have hi:=(Qy e).1;exact (R.own i o e).mono (Qa _) (fun _ _=>rfl) S.size fun ob h=>S.other _ _ (fun j hj z=>D i j hi hj z.symm) h
 ·have low:ρ i < s.heap.objs.size:=R.low hi;rcases S.src j hj with ⟨k,hk,e'⟩ | h
  ·exact D i k hi hk (e.trans e')
  ·rw[<- e] at h;exact absurd low (Nat.not_lt.mpr h)
theorem Kept.move (K:Kept F σ.length ρ s.heap) (S:Move P z5 ρ σ s ρ' σ' s'):Kept F σ'.length ρ' s'.heap :=
 ⟨fun p hp=>S.other _ _ (K.apart p hp) (K.here p hp),fun p hp i hi e=>by
  rcases S.src i hi with ⟨k,hk,e'⟩ | h
  ·exact K.apart p hp k hk (e'.symm.trans e)
  ·have h2:=Qg (K.here p hp);rw[e] at h;exact absurd h2 (Nat.not_lt.mpr h)⟩
theorem Kept.besideM (K:Kept F σ.length ρ s.heap) (K₁:Kept F σ₁.length ρ₁ s.heap) (S:Move P z5 ρ₁ σ₁ s ρ' σ' s'):Kept F σ.length ρ s'.heap:=⟨(K₁.move S).here,K.apart⟩
theorem jO:∀ {l:List Nat},fN l=true->l.Nodup
 | [],_=>List.nodup_nil
 | a::r,h=>by
  dsimp only[fN] at h
  cases q:inL a r with
  | true=>rw[q] at h;exact noT h
  | false =>
   rw[q] at h;refine List.nodup_cons.mpr ⟨fun hm=>?_,jO h⟩
   have:∀ {r:List Nat},a∈r->∃ j,cP a r=some j:=fun {r}=>by
    induction r with
    | nil=>intro h;exact noM h
    | cons b r ih =>
     intro h;dsimp only[cP]
     cases q:Nat.beq b a with
     | true=>exact ⟨0,rfl⟩
     | false =>
      have ne:b≠a:=fun e=>by subst e;rw[Nat.beq_refl] at q;exact noF q
      obtain ⟨j,e⟩:=ih ((Qz h).resolve_left fun e=>ne e.symm);exact ⟨j+1,by dsimp only;rw[e]⟩
   replace hm:=this hm;obtain ⟨j,e⟩:=hm;dsimp only[inL] at q;rw[e] at q;exact noF q
theorem wG {hp:List AO} (h:dH hp≠[]):(dH hp)[0]?=some 0/\(dH hp)[1]?=some 1:=by
 unfold dH at h ⊢
 cases q:jk (atD hp 2) ⟨#[115,116,97,116,101]⟩ with
 | none=>rw[q] at h;exact absurd rfl h
 | some st=>exact ⟨rfl,rfl⟩
end
section
variable {prog:Program} {w:World} {z5:Heap} {K:Frag} {A:Around} {ρ:Nat->Addr} {s:Shared} {env:Env}
theorem mn (EV:aR prog w z5 A env 0 gscope [] gev) {hp:List AO} {dec:List Nat} {b:Bool} {hp':(Nat->Addr)->List AO} {pc:List Prop} (hR:Rel w.params z5 ρ hp s.heap) (hE:EnvR hp.length ρ env 0 gscope [])
  (e:∀ ρ',aj ρ' (turn hp dec)=some (b,hp' ρ',[],pc)) (z8:∀ p∈pc,p) (hne:∀ ρ',hp' ρ'≠[]) (h2:2<=hp.length) :
  wpAny (model prog w) A (isTrue dO env (eval dO env)) (fun b' s'=>b'=b/\∃ ρ1 ρ',Move w.params z5 ρ hp s ρ' (hp' ρ1) s'/\ρ' 0=ρ 0/\ρ' 1=ρ 1) (fun _ _=>False) s:=by
 have e0:=e (fun _=>0);dsimp only[aj] at e0
 cases q:turn hp dec with
 | none=>rw[q] at e0;exact non e0
 | some r =>
  obtain ⟨b1,es1,y0⟩:=r;rw[q] at e0;dsimp only at e0
  cases f:bB (dH es1.hp) es1.hp.length&&fN (dH es1.hp) with
  | false=>rw[f] at e0;exact non e0
  | true =>
   rw[f] at e0;obtain ⟨f1,f2⟩:=Qx f
   have hb:b1=b/\y0=pc:=by
    simp only[Option.some.injEq,Prod.mk.injEq] at e0;exact ⟨e0.1,e0.2.2.2⟩
   obtain ⟨rfl,rfl⟩:=hb;refine wpAny_mono ((EV.t (es:=⟨hp,dec⟩) hR hE dO).go q z8 (Q:=fun b' s'=>b'=b1/\∃ ρ1,Stp w.params z5 ρ hp s ρ1 es1.hp s') (E:=fun _ _=>False) fun c s' ρ1 S r=>⟨r,ρ1,S⟩) (fun b' s' zz=>?_) fun _ _ x=>x;refine ag fun G0 hG0=>?_;obtain ⟨hb,ρ1,S⟩:=zz;have e1:=e ρ1;dsimp only[aj] at e1;rw[q] at e1;dsimp only at e1;rw[f] at e1
   have hh:TE.pick ρ1 (dH es1.hp) [4,9] es1.hp=hp' ρ1:=by
    simp only[Option.some.injEq,Prod.mk.injEq] at e1;exact e1.2.1
   have M:=S.move.trans (Move.pick (ks:=[4,9]) S.rel f1 (jO f2));rw[hh] at M
   have ne:dH es1.hp≠[]:=fun z=>by
    have:=mc (ρ:=ρ1) (m:=dH es1.hp) (ks:=[4,9]) (hp:=es1.hp);rw[hh,z] at this;exact hne ρ1 (List.length_eq_zero_iff.mp this)
   replace ne:=wG ne;obtain ⟨c0,c1⟩:=ne;refine hG0 ?_;refine ⟨hb,ρ1,_,M,?_,?_⟩
   ·rw[cp c0];exact S.ext 0 (by exact Nat.zero_lt_of_lt h2)
   ·rw[cp c1];exact S.ext 1 (by exact h2)
end
end TE
namespace TE
set_option backward.match.sparseCases false
set_option tactic.hygienic false
noncomputable def aK:Cur->List AO
 | .none=>[]
 | .start nm l=>ai nm l
 | .endt nm=>dU nm
 | .note t=>aZ t
noncomputable def G2:AO:=.dict [(⟨#[116,121,112,101]⟩,.int 7),(⟨#[100,97,116,97]⟩,.sstr ⟨#[117,110,101,120,112,101,99,116,101,100,45,99,104,97,114,45,105,110,45,99,111,109,109,101,110,116]⟩)]
noncomputable def aM (i:Nat):Tok->List AO
 | .start nm l sc=>[bV nm sc (i+1),.dict (bH l)]
 | .endt nm=>[k9 nm (i+1),.list []]
 | .note t=>[nx t]
 | .text ty t=>[aW ty t]
 | .err=>[G2]
noncomputable def qOf (cur:Cur):Option Tok->List AV
 | none=>[]
 | some _=>[.ptr (10+(aK cur).length)]
noncomputable def GQ (cur:Cur):Option Tok->List AO
 | none=>[]
 | some t=>aM (10+(aK cur).length) t
noncomputable def ctR:Cur->Option Tok->AV->Prop
 | .none,some (.start _ _ _),ct=>ct=.ptr 10
 | .none,some (.endt _),ct=>ct=.ptr 10
 | .none,some (.note _),ct=>ct=.ptr 10
 | .none,_,ct=>∃ v,ct=.con v
 | _,_,ct=>ct=.ptr 10
noncomputable def After (f:Fx) (X:Str) (ms:MS) (out:Option Tok) (σ:List AO):Prop :=
 ∃ (rc:Value) (x:Sx) (ct:AV),(Mid X x ms.rest\/(ms.rest=[]/\x=br X))/\ctR ms.cur out ct/\σ=base f (.con rc) X x ms.st.addr ct (qOf ms.cur out) (aK ms.cur++GQ ms.cur out)
noncomputable def Turn (hp:List AO) (b:Bool) (f:Fx) (X:Str) (ms:MS) (out:Option Tok):Prop :=
 ∃ (dec:List Nat) (σ':(Nat->Addr)->List AO) (pc:List Prop),(∀ ρ,aj ρ (turn hp dec)=some (b,σ' ρ,[],pc))/\bc pc/\∀ ρ,After f X ms out (σ' ρ)
theorem Turn.mk' {hp:List AO} {b:Bool} {f:Fx} {X:Str} {ms:MS} {out:Option Tok} {dec:List Nat} {σ':(Nat->Addr)->List AO} {pc:List Prop} (h1:∀ ρ,aj ρ (turn hp dec)=some (b,σ' ρ,[],pc)) (h2:bc pc) (h3:∀ ρ,After f X ms out (σ' ρ)) :
  Turn hp b f X ms out:=⟨dec,σ',pc,h1,h2,h3⟩
section
variable {n k t:Nat} {a s u y:Str} {c:Nat} {l:List Nat}
theorem rmX (h:n<=10240):n<=aa:=Qf h (Qc rfl)
theorem rm0 (h:n<=1000):n<=aa:=Qf h (Qc rfl)
theorem rmS (e:s=⟨#[c]⟩) (h:n<=1000):n+s.length<=aa:=by rw[e];exact Qf (Nat.add_le_add_right h 1) (Qc rfl)
theorem rmC (e:s=⟨#[c]⟩) (h:a.length<=1000) (q:Nat.ble y.length 10=true):a.length+(y++s).length<=aa:=by
 rw[e,bM];exact Qf (Nat.add_le_add h (Nat.add_le_add (Qc q) (Qa 1))) (Qc rfl)
theorem cO (e:s=⟨#[c]⟩) (e2:u=mkS l) (h:l.length<=10240):s.length+u.length<=aa:=by rw[e,e2];exact Qf (Nat.add_le_add_left h 1) (Qc rfl)
theorem eP (e:s=⟨#[c]⟩) (e2:u=mkS l) (h:n<=1000) (h2:l.length<=10240):n+(s++u).length<=aa:=by rw[e,e2,bM];exact Qf (Nat.add_le_add h (Nat.add_le_add_left h2 1)) (Qc rfl)
theorem bO {m:Nat} (e:s=⟨#[c]⟩) (e2:u=mkS l) (le:1+l.length<=m) (h:m<=aa):s.length+u.length<=aa:=by rw[e,e2];exact Qf le h
theorem rmZ (e:s=⟨#[c]⟩):s.length+(⟨#[]⟩:Str).length<=aa:=by rw[e];exact Qc rfl
theorem eW (e:s=⟨#[c]⟩) (h:n<=1000):n+(s++(⟨#[]⟩:Str)).length<=aa:=by rw[e];exact Qf (Nat.add_le_add_right h 1) (Qc rfl)
end
noncomputable def TZ (f:Fx) (rc:Value) (X:Str) (x:Sx) (a:Addr) (nm:Str) (l:List (Str×Str)) (ms:MS) (o:Option Tok):Prop:=Turn (base f (.con rc) X x a (.ptr 10) [] (ai nm l)) true f X ms o
section
variable {X:Str} {x:Sx} {c:Nat} {r:List Nat} {f:Fx} {rc:Value}
theorem gi (hm:Mid X x (c::r)):1+r.length<=X.length:=by
 have b:=hm.bounds;simp only[List.length_cons] at b;omega
theorem Ag (p:Nat->Bool) (r:List Nat):r=r.takeWhile p++r.dropWhile p:=(ey p r).symm
theorem cI (hm:Mid X x (c::r)) (hz:X.length<=10240) (opp:Bool) (l:List Str) {t r':List Nat} (ht:t=r.takeWhile fun c=>aA ⟨#[c]⟩ l==opp) (hr:r'=r.dropWhile fun c=>aA ⟨#[c]⟩ l==opp) (h1:t≠[]) (h2:r'≠[]) :
  uS x opp l=mkS t/\Mid X { x with k:=rT x opp l } r'/\bc (pRun x (x.k+1))/\bc [¬ (rT x opp l=x.k+1),rT x opp l≠x.n,x.Y.length<=aa,(uS x opp l).length<=aa]/\t.length<=10240:=by
 have hn:=hm.next;have e:r=t++r':=by rw[ht,hr];exact Ag _ r
 have hrun:iq opp l x.Y (x.k+1)=x.k+1+(t.length:Int):=by
  have:=hn.run opp l;rw[ht];exact this
 obtain ⟨p1,p2⟩:=hn.part e;have b:=hn.bounds;have lt:0 < t.length:=List.length_pos_iff.mpr h1;have lr:0 < r'.length:=List.length_pos_iff.mpr h2;have le:=gi hm;have er:r.length=t.length+r'.length:=by rw[e,List.length_append]
 have bn:x.n=(X.length:Int):=hm.n;have b4:x.k+1+(r.length:Int)=(X.length:Int):=b.2.2.2;have ht':t.length<=10240:=by lia
 have hrun:rT x opp l=x.k+1+(t.length:Int):=hrun;have p1:uS x opp l=mkS t:=(congrArg (fun i=>Txt.slice x.Y (some (x.k+1)) (some i)) hrun).trans p1;rw[p1,hrun];exact ⟨rfl,p2,hn.pRun (x0:=x) (rmX hz) rfl rfl,⟨by lia,by lia,by rw[hm.Y];exact rmX hz,rmX ht',trivial⟩,ht'⟩
theorem cn (hm:Mid X x (c::r)) (hz:X.length<=10240) (opp:Bool) (l:List Str) (ht:[]=r.takeWhile fun c=>aA ⟨#[c]⟩ l==opp) (h2:r≠[]) :
  bc (pRun x (x.k+1))/\bc [iq opp l x.Y (x.k+1)=x.k+1,x.k+1≠x.n]:=by
 have hn:=hm.next;have hrun:=hn.run opp l;rw[<- ht] at hrun;have hrun:iq opp l x.Y (x.k+1)=x.k+1:=by simpa using hrun
 have b:=hn.bounds;have lr:0 < r.length:=List.length_pos_iff.mpr h2;have b4:x.k+1+(r.length:Int)=(X.length:Int):=b.2.2.2;have bn:x.n=(X.length:Int):=hm.n;have hr':X.length<=aa:=rmX hz;exact ⟨hn.pRun (x0:=x) hr' rfl rfl,hrun,by lia,trivial⟩
theorem ip (hm:Mid X x (c::r)) (hz:X.length<=10240) (opp:Bool) (l:List Str) (ht:r=r.takeWhile fun c=>aA ⟨#[c]⟩ l==opp) :
  rT x opp l=x.n/\wS x=mkS r/\bc (pRun x (x.k+1))/\x.Y.length<=aa/\(mkS r).length<=aa/\(x.k+1=x.n↔r=[]):=by
 have hn:=hm.next;have hrun:=hn.run opp l;rw[<- ht] at hrun;have b:=hn.bounds;have b4:x.k+1+(r.length:Int)=(X.length:Int):=b.2.2.2;have bn:x.n=(X.length:Int):=hm.n;have hr':X.length<=aa:=rmX hz;have le:=gi hm;refine ⟨?_,hn.tail,hn.pRun (x0:=x) hr' rfl rfl,by rw[hm.Y];exact hr',rmX (show r.length<=10240 by lia),?_⟩
 ·have:rT x opp l=x.k+1+(r.length:Int):=hrun;lia
 ·rw[bn];constructor
  ·intro h;exact List.length_eq_zero_iff.mp (by lia)
  ·rintro rfl
   simp at b4;omega
variable {ct:Value} {nm a1 b1 a2 b2 a3 b3 t:Str}
theorem w7 {d:Nat} {r':List Nat} (hm:Mid X x (c::d::r')) (hz:X.length<=10240) (hc:c=45) (hd:d=45):Turn (base f (.con rc) X x 605 (.con ct) [] ([])) true f X ⟨.cStart,.note ⟨#[]⟩,r'⟩ none:=by
 have hr:X.length<=aa:=rmX hz;have hn:=hm.next;have h1:=hm.ch;have h2:chS x.Y (x.k+1)=⟨#[d]⟩:=hn.ch;subst hc hd;exact Turn.mk' (fun _=>CJ) (ab (ab (ab (hm.pC hr) ⟨h1,trivial⟩) (hn.pC hr)) ⟨h2,trivial⟩) fun ρ=>⟨rc,_,_,.inl hn.next,rfl,rfl⟩
section
variable (hm:Mid X x (c::r)) (hz:X.length<=10240)
include hm hz
theorem DU (hc:c=60):Turn (base f (.con rc) X x 304 (.con ct) [] ([])) true f X ⟨.tagOpen,.none,r⟩ none:=by
 refine Turn.mk' (fun _=>d_lt) (ab (hm.pC (rmX hz)) ⟨cN hm.ch (nE hc (by decide)),cE hm.ch hc,trivial⟩) fun ρ=>⟨rc,_,_,.inl hm.next,⟨ct,rfl⟩,rfl⟩
theorem wR (hc:c=33):Turn (base f (.con rc) X x 353 (.con ct) [] ([])) true f X ⟨.markup,.none,r⟩ none:=by
 refine Turn.mk' (fun _=>to_bang) (ab (hm.pC (rmX hz)) ⟨cE hm.ch hc,trivial⟩) fun ρ=>⟨rc,_,_,.inl hm.next,⟨ct,rfl⟩,rfl⟩
theorem vH (hc:c=47):Turn (base f (.con rc) X x 353 (.con ct) [] ([])) true f X ⟨.close,.none,r⟩ none:=by
 refine Turn.mk' (fun _=>to_slash) (ab (hm.pC (rmX hz)) ⟨cN hm.ch (nE hc (by decide)),cE hm.ch hc,trivial⟩) fun ρ=>⟨rc,_,_,.inl hm.next,⟨ct,rfl⟩,rfl⟩
theorem uY (hc:aS c):Turn (base f (.con rc) X x 353 (.con ct) [] ([])) true f X ⟨.tagName,.start (ao c) [],r⟩ none:=by
 have hch:xS x=⟨#[c]⟩:=hm.ch;refine Turn.mk' (fun _=>to_letter) (ab (hm.pC (rmX hz)) ⟨cN hch (nL hc (by decide)),cN hch (nL hc (by decide)),cL hch hc,trivial⟩) fun ρ=>⟨rc,_,_,.inl hm.next,rfl,by rw[hch];rfl⟩
theorem uZ (hc:aS c):Turn (base f (.con rc) X x 360 (.con ct) [] ([])) true f X ⟨.tagName,.endt (ao c),r⟩ none:=by
 have hch:xS x=⟨#[c]⟩:=hm.ch;refine Turn.mk' (fun _=>cl_letter) (ab (hm.pC (rmX hz)) ⟨cL hch hc,trivial⟩) fun ρ=>⟨rc,_,_,.inl hm.next,rfl,by rw[hch];rfl⟩
theorem wT (hc:aO c):TZ f rc X x 367 nm [] ⟨.befAN,.start (nm) [],r⟩ none:=by
 refine Turn.mk' (fun _=>Ch) (ab (hm.pC (rmX hz)) ⟨cS hm.ch hc,trivial⟩) fun ρ=>⟨rc,_,_,.inl hm.next,rfl,rfl⟩
theorem wV (hs:nm.length<=1000) (h1:¬ aO c) (h2:¬ c=62) (h3:¬ (c=47\/c=0)):TZ f rc X x 367 nm [] ⟨.tagName,.start (nm++ao c) [],r⟩ none:=by
 have hch:xS x=⟨#[c]⟩:=hm.ch;refine Turn.mk' (fun _=>Cj) (ab (ab (hm.pC (rmX hz)) ⟨cNS hch h1,cN hch h2,cN hch (nO1 h3),cN hch (nO2 h3),trivial⟩) ⟨rmS hch (by assumption),trivial⟩) fun ρ=>⟨rc,_,_,.inl hm.next,rfl,by rw[hch];rfl⟩
theorem wW (hc:aO c):Turn (base f (.con rc) X x 367 (.ptr 10) [] (dU nm)) true f X ⟨.befAN,.endt (nm),r⟩ none:=by
 refine Turn.mk' (fun _=>Ck) (ab (hm.pC (rmX hz)) ⟨cS hm.ch hc,trivial⟩) fun ρ=>⟨rc,_,_,.inl hm.next,rfl,rfl⟩
theorem wY (hs:nm.length<=1000) (h1:¬ aO c) (h2:¬ c=62) (h3:¬ (c=47\/c=0)):Turn (base f (.con rc) X x 367 (.ptr 10) [] (dU nm)) true f X ⟨.tagName,.endt (nm++ao c),r⟩ none:=by
 have hch:xS x=⟨#[c]⟩:=hm.ch;refine Turn.mk' (fun _=>Cm) (ab (ab (hm.pC (rmX hz)) ⟨cNS hch h1,cN hch h2,cN hch (nO1 h3),cN hch (nO2 h3),trivial⟩) ⟨rmS hch (by assumption),trivial⟩) fun ρ=>⟨rc,_,_,.inl hm.next,rfl,by rw[hch];rfl⟩
theorem wU (hs:nm.length<=1000) (hc:c=62):TZ f rc X x 367 nm [] ⟨.data,.none,r⟩ (some (.start (ac nm) [] false)):=by
 refine Turn.mk' (fun _=>Ci) (ab (ab (ab (hm.pC (rmX hz)) ⟨cNS hm.ch (sE hc (by decide)),cE hm.ch hc,trivial⟩) ⟨rfl,rm0 (by assumption),trivial⟩) ⟨List.nodup_nil,trivial⟩) fun ρ=>⟨rc,_,_,.inl hm.next,rfl,rfl⟩
theorem wX (hs:nm.length<=1000) (hc:c=62):Turn (base f (.con rc) X x 367 (.ptr 10) [] (dU nm)) true f X ⟨.data,.none,r⟩ (some (.endt (ac nm))):=by
 refine Turn.mk' (fun _=>Cl) (ab (ab (hm.pC (rmX hz)) ⟨cNS hm.ch (sE hc (by decide)),cE hm.ch hc,trivial⟩) ⟨rfl,rm0 (by assumption),trivial⟩) fun ρ=>⟨rc,_,_,.inl hm.next,rfl,rfl⟩
theorem xi (hs:nm.length<=1000) (hc:c=62):Turn (base f (.con rc) X x 535 (.ptr 10) [] (dU nm)) true f X ⟨.data,.none,r⟩ (some (.endt (ac nm))):=by
 refine Turn.mk' (fun _=>DQ) (ab (ab (hm.pC (rmX hz)) ⟨cNS hm.ch (sE hc (by decide)),cNL hm.ch (lE hc (by decide)),cE hm.ch hc,trivial⟩) ⟨rfl,rm0 (by assumption),trivial⟩) fun ρ=>⟨rc,_,_,.inl hm.next,rfl,rfl⟩
theorem u9 (hc:c=47):TZ f rc X x 535 nm [] ⟨.selfC,.start nm [],r⟩ none:=by
 refine Turn.mk' (fun _=>yT) (ab (hm.pC (rmX hz)) ⟨cNS hm.ch (sE hc (by decide)),cNL hm.ch (lE hc (by decide)),cN hm.ch (nE hc (by decide)),cE hm.ch hc,trivial⟩) fun ρ=>⟨rc,_,_,.inl hm.next,rfl,rfl⟩
theorem uz (hc:aS c):TZ f rc X x 535 nm [] ⟨.attrN,.start nm [(ao c,⟨#[]⟩)],r⟩ none:=by
 have hch:xS x=⟨#[c]⟩:=hm.ch;refine Turn.mk' (fun _=>wN) (ab (hm.pC (rmX hz)) ⟨cNS hch (sL hc),cL hch hc,trivial⟩) fun ρ=>⟨rc,_,_,.inl hm.next,rfl,by rw[hch];rfl⟩
theorem ze (hs:nm.length<=1000) (hc:c=62) (hd:([]:List Str).Nodup):TZ f rc X x 591 nm [] ⟨.data,.none,r⟩ (some (.start (ac nm) [] true)):=by
 refine Turn.mk' (fun _=>Ea) (ab (ab (ab (hm.pC (rmX hz)) ⟨cE hm.ch hc,trivial⟩) ⟨rfl,rm0 (by assumption),trivial⟩) ⟨hd,trivial⟩) fun ρ=>⟨rc,_,_,.inl hm.next,rfl,rfl⟩
theorem u8 (hc:c=47):TZ f rc X x 535 nm [(a1,b1)] ⟨.selfC,.start nm [(a1,b1)],r⟩ none:=by
 refine Turn.mk' (fun _=>yS) (ab (hm.pC (rmX hz)) ⟨cNS hm.ch (sE hc (by decide)),cNL hm.ch (lE hc (by decide)),cN hm.ch (nE hc (by decide)),cE hm.ch hc,trivial⟩) fun ρ=>⟨rc,_,_,.inl hm.next,rfl,rfl⟩
theorem uy (hc:aS c):TZ f rc X x 535 nm [(a1,b1)] ⟨.attrN,.start nm [(a1,b1),(ao c,⟨#[]⟩)],r⟩ none:=by
 have hch:xS x=⟨#[c]⟩:=hm.ch;refine Turn.mk' (fun _=>wM) (ab (hm.pC (rmX hz)) ⟨cNS hch (sL hc),cL hch hc,trivial⟩) fun ρ=>⟨rc,_,_,.inl hm.next,rfl,by rw[hch];rfl⟩
theorem zd (hs:nm.length<=1000) (hc:c=62) (hd:([a1]:List Str).Nodup):TZ f rc X x 591 nm [(a1,b1)] ⟨.data,.none,r⟩ (some (.start (ac nm) [(a1,b1)] true)):=by
 refine Turn.mk' (fun _=>D9) (ab (ab (ab (hm.pC (rmX hz)) ⟨cE hm.ch hc,trivial⟩) ⟨rfl,rm0 (by assumption),trivial⟩) ⟨hd,trivial⟩) fun ρ=>⟨rc,_,_,.inl hm.next,rfl,rfl⟩
theorem zH (hs:nm.length<=1000) (ha:a1.length<=1000) (hb:b1.length<=1000) (hc:c=61):TZ f rc X x 542 nm [(a1,b1)] ⟨.befAV,.start nm [((ac a1),b1)],r⟩ none:=by
 refine Turn.mk' (fun _=>Ft) (ab (ab (ab (hm.pC (rmX hz)) ⟨cE hm.ch hc,trivial⟩) ⟨rfl,rm0 (by assumption),trivial⟩) trivial) fun ρ=>⟨rc,_,_,.inl hm.next,rfl,rfl⟩
theorem zE (hs:nm.length<=1000) (ha:a1.length<=1000) (hb:b1.length<=1000) (hc:c=62) (hd:([(ac a1)]:List Str).Nodup):TZ f rc X x 542 nm [(a1,b1)] ⟨.data,.none,r⟩ (some (.start (ac nm) [((ac a1),b1)] false)):=by
 refine Turn.mk' (fun _=>Fq) (ab (ab (ab (ab (ab (hm.pC (rmX hz)) ⟨cN hm.ch (nE hc (by decide)),cNL hm.ch (lE hc (by decide)),cE hm.ch hc,trivial⟩) ⟨rfl,rm0 (by assumption),trivial⟩) trivial) ⟨rfl,rm0 (by assumption),trivial⟩) ⟨hd,trivial⟩) fun ρ=>⟨rc,_,_,.inl hm.next,rfl,rfl⟩
theorem zB (hs:nm.length<=1000) (ha:a1.length<=1000) (hb:b1.length<=1000) (hc:aO c):TZ f rc X x 542 nm [(a1,b1)] ⟨.aftAN,.start nm [((ac a1),b1)],r⟩ none:=by
 refine Turn.mk' (fun _=>Fn) (ab (ab (ab (hm.pC (rmX hz)) ⟨cN hm.ch (nS hc (by decide)),cNL hm.ch (lS hc),cN hm.ch (nS hc (by decide)),cS hm.ch hc,trivial⟩) ⟨rfl,rm0 (by assumption),trivial⟩) trivial) fun ρ=>⟨rc,_,_,.inl hm.next,rfl,rfl⟩
theorem zK (hs:nm.length<=1000) (ha:a1.length<=1000) (hb:b1.length<=1000) (hc:c=45):TZ f rc X x 542 nm [(a1,b1)] ⟨.attrN,.start nm [(a1++ao c,b1)],r⟩ none:=by
 have hch:xS x=⟨#[c]⟩:=hm.ch;refine Turn.mk' (fun _=>Fw) (ab (ab (hm.pC (rmX hz)) ⟨cN hch (nE hc (by decide)),cNL hch (lE hc (by decide)),cN hch (nE hc (by decide)),cNS hch (sE hc (by decide)),cN hch (nE hc (by decide)),cN hch (nE hc (by decide)),cM hch (nE hc (by decide)) (nE hc (by decide)) (nE hc (by decide)),trivial⟩) ⟨rmS hch (by assumption),trivial⟩) fun ρ=>⟨rc,_,_,.inl hm.next,rfl,by rw[hch];rfl⟩
theorem ut {t r':List Nat} (hs:nm.length<=1000) (ha:a1.length<=1000) (hb:b1.length<=1000) (hc:aS c) (ht:t=r.takeWhile fun c=>aA ⟨#[c]⟩ aC==true) (hr':r'=r.dropWhile fun c=>aA ⟨#[c]⟩ aC==true) (h1':t≠[]) (h2':r'≠[]):TZ f rc X x 542 nm [(a1,b1)] ⟨.attrN,.start nm [(a1++(ao c++mkS t),b1)],r'⟩ none:=by
 have hch:xS x=⟨#[c]⟩:=hm.ch;obtain ⟨e2,e3,e4,e5,e6⟩:=cI hm hz true aC ht hr' h1' h2';refine Turn.mk' (fun _=>uX) (ab (ab (ab (ab (ab (hm.pC (rmX hz)) ⟨cN hch (nL hc (by decide)),cL hch hc,trivial⟩) e4) e5) ⟨cO hch e2 e6,trivial⟩) ⟨eP hch e2 (by assumption) e6,trivial⟩) fun ρ=>⟨rc,_,_,.inl e3,rfl,by rw[hch,e2];rfl⟩
theorem ur (hs:nm.length<=1000) (ha:a1.length<=1000) (hb:b1.length<=1000) (hc:aS c) (ht:[]=r.takeWhile fun c=>aA ⟨#[c]⟩ aC==true) (h2':r≠[]):TZ f rc X x 542 nm [(a1,b1)] ⟨.attrN,.start nm [(a1++(ao c++mkS []),b1)],r⟩ none:=by
 have hch:xS x=⟨#[c]⟩:=hm.ch;obtain ⟨e4,e5⟩:=cn hm hz true aC ht h2';refine Turn.mk' (fun _=>uW) (ab (ab (ab (ab (ab (hm.pC (rmX hz)) ⟨cN hch (nL hc (by decide)),cL hch hc,trivial⟩) e4) e5) ⟨rmZ hch,trivial⟩) ⟨eW hch (by assumption),trivial⟩) fun ρ=>⟨rc,_,_,.inl hm.next,rfl,by rw[hch];rfl⟩
theorem zN (hc:c=61):TZ f rc X x 549 nm [(a1,b1)] ⟨.befAV,.start nm [(a1,b1)],r⟩ none:=by
 refine Turn.mk' (fun _=>FA) (ab (hm.pC (rmX hz)) ⟨cNS hm.ch (sE hc (by decide)),cE hm.ch hc,trivial⟩) fun ρ=>⟨rc,_,_,.inl hm.next,rfl,rfl⟩
theorem uB (hc:aS c):TZ f rc X x 549 nm [(a1,b1)] ⟨.attrN,.start nm [(a1,b1),(ao c,⟨#[]⟩)],r⟩ none:=by
 have hch:xS x=⟨#[c]⟩:=hm.ch;refine Turn.mk' (fun _=>wQ) (ab (hm.pC (rmX hz)) ⟨cNS hch (sL hc),cN hch (nL hc (by decide)),cN hch (nL hc (by decide)),cL hch hc,trivial⟩) fun ρ=>⟨rc,_,_,.inl hm.next,rfl,by rw[hch];rfl⟩
theorem ve (hc:c=47):TZ f rc X x 549 nm [(a1,b1)] ⟨.selfC,.start nm [(a1,b1)],r⟩ none:=by
 refine Turn.mk' (fun _=>yY) (ab (hm.pC (rmX hz)) ⟨cNS hm.ch (sE hc (by decide)),cN hm.ch (nE hc (by decide)),cN hm.ch (nE hc (by decide)),cNL hm.ch (lE hc (by decide)),cE hm.ch hc,trivial⟩) fun ρ=>⟨rc,_,_,.inl hm.next,rfl,rfl⟩
theorem zk (hc:aO c) (ht:[]=r.takeWhile fun c=>aA ⟨#[c]⟩ ah==true) (h2':r≠[]):TZ f rc X x 556 nm [(a1,b1)] ⟨.befAV,.start nm [(a1,b1)],r⟩ none:=by
 obtain ⟨e4,e5⟩:=cn hm hz true ah ht h2';refine Turn.mk' (fun _=>EI) (ab (ab (ab (hm.pC (rmX hz)) ⟨cS hm.ch hc,trivial⟩) e4) e5) fun ρ=>⟨rc,_,_,.inl hm.next,rfl,rfl⟩
theorem zn (hc:c=34):TZ f rc X x 556 nm [(a1,b1)] ⟨.dq,.start nm [(a1,b1)],r⟩ none:=by
 refine Turn.mk' (fun _=>EL) (ab (hm.pC (rmX hz)) ⟨cNS hm.ch (sE hc (by decide)),cE hm.ch hc,trivial⟩) fun ρ=>⟨rc,_,_,.inl hm.next,rfl,rfl⟩
theorem zh (hc:c=39):TZ f rc X x 556 nm [(a1,b1)] ⟨.sq,.start nm [(a1,b1)],r⟩ none:=by
 refine Turn.mk' (fun _=>EE) (ab (hm.pC (rmX hz)) ⟨cNS hm.ch (sE hc (by decide)),cN hm.ch (nE hc (by decide)),cN hm.ch (nE hc (by decide)),cE hm.ch hc,trivial⟩) fun ρ=>⟨rc,_,_,.inl hm.next,rfl,rfl⟩
theorem zq (hs:nm.length<=1000) (ha:a1.length<=1000) (hb:b1.length<=1000) (hc:aS c):TZ f rc X x 556 nm [(a1,b1)] ⟨.uq,.start nm [(a1,b1++ao c)],r⟩ none:=by
 have hch:xS x=⟨#[c]⟩:=hm.ch;refine Turn.mk' (fun _=>EQ) (ab (ab (hm.pC (rmX hz)) ⟨cNS hch (sL hc),cN hch (nL hc (by decide)),cN hch (nL hc (by decide)),cN hch (nL hc (by decide)),cN hch (nL hc (by decide)),cN hch (nL hc (by decide)),cM hch (nL hc (by decide)) (nL hc (by decide)) (nL hc (by decide)),trivial⟩) ⟨rmS hch (by assumption),trivial⟩) fun ρ=>⟨rc,_,_,.inl hm.next,rfl,by rw[hch];rfl⟩
theorem xb (hc:c=34):TZ f rc X x 563 nm [(a1,b1)] ⟨.aftAV,.start nm [(a1,b1)],r⟩ none:=by
 refine Turn.mk' (fun _=>Dt) (ab (hm.pC (rmX hz)) ⟨cE hm.ch hc,trivial⟩) fun ρ=>⟨rc,_,_,.inl hm.next,rfl,rfl⟩
theorem vT {t r':List Nat} (hs:nm.length<=1000) (ha:a1.length<=1000) (hb:b1.length<=1000) (hq:¬ c=34) (hc:¬ (c=38\/c=0)) (ht:t=r.takeWhile fun c=>aA ⟨#[c]⟩ dqL==false) (hr':r'=r.dropWhile fun c=>aA ⟨#[c]⟩ dqL==false) (h1':t≠[]) (h2':r'≠[]):TZ f rc X x 563 nm [(a1,b1)] ⟨.dq,.start nm [(a1,b1++(ao c++mkS t))],r'⟩ none:=by
 have hch:xS x=⟨#[c]⟩:=hm.ch;obtain ⟨e2,e3,e4,e5,e6⟩:=cI hm hz false dqL ht hr' h1' h2';refine Turn.mk' (fun _=>Bb) (ab (ab (ab (ab (ab (hm.pC (rmX hz)) ⟨cN hch hq,cN hch (nO1 hc),cN hch (nO2 hc),trivial⟩) e4) e5) ⟨cO hch e2 e6,trivial⟩) ⟨eP hch e2 (by assumption) e6,trivial⟩) fun ρ=>⟨rc,_,_,.inl e3,rfl,by rw[hch,e2];rfl⟩
theorem vS (hs:nm.length<=1000) (ha:a1.length<=1000) (hb:b1.length<=1000) (hq:¬ c=34) (hc:¬ (c=38\/c=0)) (ht:[]=r.takeWhile fun c=>aA ⟨#[c]⟩ dqL==false) (h2':r≠[]):TZ f rc X x 563 nm [(a1,b1)] ⟨.dq,.start nm [(a1,b1++(ao c++mkS []))],r⟩ none:=by
 have hch:xS x=⟨#[c]⟩:=hm.ch;obtain ⟨e4,e5⟩:=cn hm hz false dqL ht h2';refine Turn.mk' (fun _=>Ba) (ab (ab (ab (ab (ab (hm.pC (rmX hz)) ⟨cN hch hq,cN hch (nO1 hc),cN hch (nO2 hc),trivial⟩) e4) e5) ⟨rmZ hch,trivial⟩) ⟨eW hch (by assumption),trivial⟩) fun ρ=>⟨rc,_,_,.inl hm.next,rfl,by rw[hch];rfl⟩
theorem w6 (hc:c=39):TZ f rc X x 570 nm [(a1,b1)] ⟨.aftAV,.start nm [(a1,b1)],r⟩ none:=by
 refine Turn.mk' (fun _=>Cs) (ab (hm.pC (rmX hz)) ⟨cE hm.ch hc,trivial⟩) fun ρ=>⟨rc,_,_,.inl hm.next,rfl,rfl⟩
theorem vN {t r':List Nat} (hs:nm.length<=1000) (ha:a1.length<=1000) (hb:b1.length<=1000) (hq:¬ c=39) (hc:¬ (c=38\/c=0)) (ht:t=r.takeWhile fun c=>aA ⟨#[c]⟩ sqL==false) (hr':r'=r.dropWhile fun c=>aA ⟨#[c]⟩ sqL==false) (h1':t≠[]) (h2':r'≠[]):TZ f rc X x 570 nm [(a1,b1)] ⟨.sq,.start nm [(a1,b1++(ao c++mkS t))],r'⟩ none:=by
 have hch:xS x=⟨#[c]⟩:=hm.ch;obtain ⟨e2,e3,e4,e5,e6⟩:=cI hm hz false sqL ht hr' h1' h2';refine Turn.mk' (fun _=>Ae) (ab (ab (ab (ab (ab (hm.pC (rmX hz)) ⟨cN hch hq,cN hch (nO1 hc),cN hch (nO2 hc),trivial⟩) e4) e5) ⟨cO hch e2 e6,trivial⟩) ⟨eP hch e2 (by assumption) e6,trivial⟩) fun ρ=>⟨rc,_,_,.inl e3,rfl,by rw[hch,e2];rfl⟩
theorem vM (hs:nm.length<=1000) (ha:a1.length<=1000) (hb:b1.length<=1000) (hq:¬ c=39) (hc:¬ (c=38\/c=0)) (ht:[]=r.takeWhile fun c=>aA ⟨#[c]⟩ sqL==false) (h2':r≠[]):TZ f rc X x 570 nm [(a1,b1)] ⟨.sq,.start nm [(a1,b1++(ao c++mkS []))],r⟩ none:=by
 have hch:xS x=⟨#[c]⟩:=hm.ch;obtain ⟨e4,e5⟩:=cn hm hz false sqL ht h2';refine Turn.mk' (fun _=>Ad) (ab (ab (ab (ab (ab (hm.pC (rmX hz)) ⟨cN hch hq,cN hch (nO1 hc),cN hch (nO2 hc),trivial⟩) e4) e5) ⟨rmZ hch,trivial⟩) ⟨eW hch (by assumption),trivial⟩) fun ρ=>⟨rc,_,_,.inl hm.next,rfl,by rw[hch];rfl⟩
theorem y7 (hc:aO c):TZ f rc X x 577 nm [(a1,b1)] ⟨.befAN,.start nm [(a1,b1)],r⟩ none:=by
 refine Turn.mk' (fun _=>D0) (ab (hm.pC (rmX hz)) ⟨cS hm.ch hc,trivial⟩) fun ρ=>⟨rc,_,_,.inl hm.next,rfl,rfl⟩
theorem za (hs:nm.length<=1000) (hc:c=62) (hd:([a1]:List Str).Nodup):TZ f rc X x 577 nm [(a1,b1)] ⟨.data,.none,r⟩ (some (.start (ac nm) [(a1,b1)] false)):=by
 refine Turn.mk' (fun _=>D5) (ab (ab (ab (hm.pC (rmX hz)) ⟨cNS hm.ch (sE hc (by decide)),cN hm.ch (nE hc (by decide)),cE hm.ch hc,trivial⟩) ⟨rfl,rm0 (by assumption),trivial⟩) ⟨hd,trivial⟩) fun ρ=>⟨rc,_,_,.inl hm.next,rfl,rfl⟩
theorem zu (hc:aO c):TZ f rc X x 584 nm [(a1,b1)] ⟨.befAN,.start nm [(a1,b1)],r⟩ none:=by
 refine Turn.mk' (fun _=>EZ) (ab (hm.pC (rmX hz)) ⟨cS hm.ch hc,trivial⟩) fun ρ=>⟨rc,_,_,.inl hm.next,rfl,rfl⟩
theorem zx (hs:nm.length<=1000) (hc:c=62) (hd:([a1]:List Str).Nodup):TZ f rc X x 584 nm [(a1,b1)] ⟨.data,.none,r⟩ (some (.start (ac nm) [(a1,b1)] false)):=by
 refine Turn.mk' (fun _=>E2) (ab (ab (ab (hm.pC (rmX hz)) ⟨cNS hm.ch (sE hc (by decide)),cE hm.ch hc,trivial⟩) ⟨rfl,rm0 (by assumption),trivial⟩) ⟨hd,trivial⟩) fun ρ=>⟨rc,_,_,.inl hm.next,rfl,rfl⟩
theorem u7 (hc:c=47):TZ f rc X x 535 nm [(a1,b1),(a2,b2)] ⟨.selfC,.start nm [(a1,b1),(a2,b2)],r⟩ none:=by
 refine Turn.mk' (fun _=>yR) (ab (hm.pC (rmX hz)) ⟨cNS hm.ch (sE hc (by decide)),cNL hm.ch (lE hc (by decide)),cN hm.ch (nE hc (by decide)),cE hm.ch hc,trivial⟩) fun ρ=>⟨rc,_,_,.inl hm.next,rfl,rfl⟩
theorem ux (hc:aS c):TZ f rc X x 535 nm [(a1,b1),(a2,b2)] ⟨.attrN,.start nm [(a1,b1),(a2,b2),(ao c,⟨#[]⟩)],r⟩ none:=by
 have hch:xS x=⟨#[c]⟩:=hm.ch;refine Turn.mk' (fun _=>wL) (ab (hm.pC (rmX hz)) ⟨cNS hch (sL hc),cL hch hc,trivial⟩) fun ρ=>⟨rc,_,_,.inl hm.next,rfl,by rw[hch];rfl⟩
theorem zc (hs:nm.length<=1000) (hc:c=62) (hd:([a1,a2]:List Str).Nodup):TZ f rc X x 591 nm [(a1,b1),(a2,b2)] ⟨.data,.none,r⟩ (some (.start (ac nm) [(a1,b1),(a2,b2)] true)):=by
 refine Turn.mk' (fun _=>D8) (ab (ab (ab (hm.pC (rmX hz)) ⟨cE hm.ch hc,trivial⟩) ⟨rfl,rm0 (by assumption),trivial⟩) ⟨hd,trivial⟩) fun ρ=>⟨rc,_,_,.inl hm.next,rfl,rfl⟩
theorem zG (hs:nm.length<=1000) (ha:a2.length<=1000) (hb:b2.length<=1000) (hc:c=61) (hf1:¬ ((ac a2)=a1)):TZ f rc X x 542 nm [(a1,b1),(a2,b2)] ⟨.befAV,.start nm [(a1,b1),((ac a2),b2)],r⟩ none:=by
 refine Turn.mk' (fun _=>Fs) (ab (ab (ab (hm.pC (rmX hz)) ⟨cE hm.ch hc,trivial⟩) ⟨rfl,rm0 (by assumption),trivial⟩) ⟨hf1,trivial⟩) fun ρ=>⟨rc,_,_,.inl hm.next,rfl,rfl⟩
theorem zD (hs:nm.length<=1000) (ha:a2.length<=1000) (hb:b2.length<=1000) (hc:c=62) (hf1:¬ ((ac a2)=a1)) (hd:([a1,(ac a2)]:List Str).Nodup):TZ f rc X x 542 nm [(a1,b1),(a2,b2)] ⟨.data,.none,r⟩ (some (.start (ac nm) [(a1,b1),((ac a2),b2)] false)):=by
 refine Turn.mk' (fun _=>Fp) (ab (ab (ab (ab (ab (hm.pC (rmX hz)) ⟨cN hm.ch (nE hc (by decide)),cNL hm.ch (lE hc (by decide)),cE hm.ch hc,trivial⟩) ⟨rfl,rm0 (by assumption),trivial⟩) ⟨hf1,trivial⟩) ⟨rfl,rm0 (by assumption),trivial⟩) ⟨hd,trivial⟩) fun ρ=>⟨rc,_,_,.inl hm.next,rfl,rfl⟩
theorem zA (hs:nm.length<=1000) (ha:a2.length<=1000) (hb:b2.length<=1000) (hc:aO c) (hf1:¬ ((ac a2)=a1)):TZ f rc X x 542 nm [(a1,b1),(a2,b2)] ⟨.aftAN,.start nm [(a1,b1),((ac a2),b2)],r⟩ none:=by
 refine Turn.mk' (fun _=>Fm) (ab (ab (ab (hm.pC (rmX hz)) ⟨cN hm.ch (nS hc (by decide)),cNL hm.ch (lS hc),cN hm.ch (nS hc (by decide)),cS hm.ch hc,trivial⟩) ⟨rfl,rm0 (by assumption),trivial⟩) ⟨hf1,trivial⟩) fun ρ=>⟨rc,_,_,.inl hm.next,rfl,rfl⟩
theorem zJ (hs:nm.length<=1000) (ha:a2.length<=1000) (hb:b2.length<=1000) (hc:c=45):TZ f rc X x 542 nm [(a1,b1),(a2,b2)] ⟨.attrN,.start nm [(a1,b1),(a2++ao c,b2)],r⟩ none:=by
 have hch:xS x=⟨#[c]⟩:=hm.ch;refine Turn.mk' (fun _=>Fv) (ab (ab (hm.pC (rmX hz)) ⟨cN hch (nE hc (by decide)),cNL hch (lE hc (by decide)),cN hch (nE hc (by decide)),cNS hch (sE hc (by decide)),cN hch (nE hc (by decide)),cN hch (nE hc (by decide)),cM hch (nE hc (by decide)) (nE hc (by decide)) (nE hc (by decide)),trivial⟩) ⟨rmS hch (by assumption),trivial⟩) fun ρ=>⟨rc,_,_,.inl hm.next,rfl,by rw[hch];rfl⟩
theorem uo {t r':List Nat} (hs:nm.length<=1000) (ha:a2.length<=1000) (hb:b2.length<=1000) (hc:aS c) (ht:t=r.takeWhile fun c=>aA ⟨#[c]⟩ aC==true) (hr':r'=r.dropWhile fun c=>aA ⟨#[c]⟩ aC==true) (h1':t≠[]) (h2':r'≠[]):TZ f rc X x 542 nm [(a1,b1),(a2,b2)] ⟨.attrN,.start nm [(a1,b1),(a2++(ao c++mkS t),b2)],r'⟩ none:=by
 have hch:xS x=⟨#[c]⟩:=hm.ch;obtain ⟨e2,e3,e4,e5,e6⟩:=cI hm hz true aC ht hr' h1' h2';refine Turn.mk' (fun _=>uV) (ab (ab (ab (ab (ab (hm.pC (rmX hz)) ⟨cN hch (nL hc (by decide)),cL hch hc,trivial⟩) e4) e5) ⟨cO hch e2 e6,trivial⟩) ⟨eP hch e2 (by assumption) e6,trivial⟩) fun ρ=>⟨rc,_,_,.inl e3,rfl,by rw[hch,e2];rfl⟩
theorem un (hs:nm.length<=1000) (ha:a2.length<=1000) (hb:b2.length<=1000) (hc:aS c) (ht:[]=r.takeWhile fun c=>aA ⟨#[c]⟩ aC==true) (h2':r≠[]):TZ f rc X x 542 nm [(a1,b1),(a2,b2)] ⟨.attrN,.start nm [(a1,b1),(a2++(ao c++mkS []),b2)],r⟩ none:=by
 have hch:xS x=⟨#[c]⟩:=hm.ch;obtain ⟨e4,e5⟩:=cn hm hz true aC ht h2';refine Turn.mk' (fun _=>uU) (ab (ab (ab (ab (ab (hm.pC (rmX hz)) ⟨cN hch (nL hc (by decide)),cL hch hc,trivial⟩) e4) e5) ⟨rmZ hch,trivial⟩) ⟨eW hch (by assumption),trivial⟩) fun ρ=>⟨rc,_,_,.inl hm.next,rfl,by rw[hch];rfl⟩
theorem zM (hc:c=61):TZ f rc X x 549 nm [(a1,b1),(a2,b2)] ⟨.befAV,.start nm [(a1,b1),(a2,b2)],r⟩ none:=by
 refine Turn.mk' (fun _=>Fz) (ab (hm.pC (rmX hz)) ⟨cNS hm.ch (sE hc (by decide)),cE hm.ch hc,trivial⟩) fun ρ=>⟨rc,_,_,.inl hm.next,rfl,rfl⟩
theorem uA (hc:aS c):TZ f rc X x 549 nm [(a1,b1),(a2,b2)] ⟨.attrN,.start nm [(a1,b1),(a2,b2),(ao c,⟨#[]⟩)],r⟩ none:=by
 have hch:xS x=⟨#[c]⟩:=hm.ch;refine Turn.mk' (fun _=>wP) (ab (hm.pC (rmX hz)) ⟨cNS hch (sL hc),cN hch (nL hc (by decide)),cN hch (nL hc (by decide)),cL hch hc,trivial⟩) fun ρ=>⟨rc,_,_,.inl hm.next,rfl,by rw[hch];rfl⟩
theorem vc (hc:c=47):TZ f rc X x 549 nm [(a1,b1),(a2,b2)] ⟨.selfC,.start nm [(a1,b1),(a2,b2)],r⟩ none:=by
 refine Turn.mk' (fun _=>yX) (ab (hm.pC (rmX hz)) ⟨cNS hm.ch (sE hc (by decide)),cN hm.ch (nE hc (by decide)),cN hm.ch (nE hc (by decide)),cNL hm.ch (lE hc (by decide)),cE hm.ch hc,trivial⟩) fun ρ=>⟨rc,_,_,.inl hm.next,rfl,rfl⟩
theorem zj (hc:aO c) (ht:[]=r.takeWhile fun c=>aA ⟨#[c]⟩ ah==true) (h2':r≠[]):TZ f rc X x 556 nm [(a1,b1),(a2,b2)] ⟨.befAV,.start nm [(a1,b1),(a2,b2)],r⟩ none:=by
 obtain ⟨e4,e5⟩:=cn hm hz true ah ht h2';refine Turn.mk' (fun _=>EH) (ab (ab (ab (hm.pC (rmX hz)) ⟨cS hm.ch hc,trivial⟩) e4) e5) fun ρ=>⟨rc,_,_,.inl hm.next,rfl,rfl⟩
theorem zm (hc:c=34):TZ f rc X x 556 nm [(a1,b1),(a2,b2)] ⟨.dq,.start nm [(a1,b1),(a2,b2)],r⟩ none:=by
 refine Turn.mk' (fun _=>EK) (ab (hm.pC (rmX hz)) ⟨cNS hm.ch (sE hc (by decide)),cE hm.ch hc,trivial⟩) fun ρ=>⟨rc,_,_,.inl hm.next,rfl,rfl⟩
theorem zg (hc:c=39):TZ f rc X x 556 nm [(a1,b1),(a2,b2)] ⟨.sq,.start nm [(a1,b1),(a2,b2)],r⟩ none:=by
 refine Turn.mk' (fun _=>ED) (ab (hm.pC (rmX hz)) ⟨cNS hm.ch (sE hc (by decide)),cN hm.ch (nE hc (by decide)),cN hm.ch (nE hc (by decide)),cE hm.ch hc,trivial⟩) fun ρ=>⟨rc,_,_,.inl hm.next,rfl,rfl⟩
theorem zp (hs:nm.length<=1000) (ha:a2.length<=1000) (hb:b2.length<=1000) (hc:aS c):TZ f rc X x 556 nm [(a1,b1),(a2,b2)] ⟨.uq,.start nm [(a1,b1),(a2,b2++ao c)],r⟩ none:=by
 have hch:xS x=⟨#[c]⟩:=hm.ch;refine Turn.mk' (fun _=>EO) (ab (ab (hm.pC (rmX hz)) ⟨cNS hch (sL hc),cN hch (nL hc (by decide)),cN hch (nL hc (by decide)),cN hch (nL hc (by decide)),cN hch (nL hc (by decide)),cN hch (nL hc (by decide)),cM hch (nL hc (by decide)) (nL hc (by decide)) (nL hc (by decide)),trivial⟩) ⟨rmS hch (by assumption),trivial⟩) fun ρ=>⟨rc,_,_,.inl hm.next,rfl,by rw[hch];rfl⟩
theorem xa (hc:c=34):TZ f rc X x 563 nm [(a1,b1),(a2,b2)] ⟨.aftAV,.start nm [(a1,b1),(a2,b2)],r⟩ none:=by
 refine Turn.mk' (fun _=>Ds) (ab (hm.pC (rmX hz)) ⟨cE hm.ch hc,trivial⟩) fun ρ=>⟨rc,_,_,.inl hm.next,rfl,rfl⟩
theorem vR {t r':List Nat} (hs:nm.length<=1000) (ha:a2.length<=1000) (hb:b2.length<=1000) (hq:¬ c=34) (hc:¬ (c=38\/c=0)) (ht:t=r.takeWhile fun c=>aA ⟨#[c]⟩ dqL==false) (hr':r'=r.dropWhile fun c=>aA ⟨#[c]⟩ dqL==false) (h1':t≠[]) (h2':r'≠[]):TZ f rc X x 563 nm [(a1,b1),(a2,b2)] ⟨.dq,.start nm [(a1,b1),(a2,b2++(ao c++mkS t))],r'⟩ none:=by
 have hch:xS x=⟨#[c]⟩:=hm.ch;obtain ⟨e2,e3,e4,e5,e6⟩:=cI hm hz false dqL ht hr' h1' h2';refine Turn.mk' (fun _=>A9) (ab (ab (ab (ab (ab (hm.pC (rmX hz)) ⟨cN hch hq,cN hch (nO1 hc),cN hch (nO2 hc),trivial⟩) e4) e5) ⟨cO hch e2 e6,trivial⟩) ⟨eP hch e2 (by assumption) e6,trivial⟩) fun ρ=>⟨rc,_,_,.inl e3,rfl,by rw[hch,e2];rfl⟩
theorem vQ (hs:nm.length<=1000) (ha:a2.length<=1000) (hb:b2.length<=1000) (hq:¬ c=34) (hc:¬ (c=38\/c=0)) (ht:[]=r.takeWhile fun c=>aA ⟨#[c]⟩ dqL==false) (h2':r≠[]):TZ f rc X x 563 nm [(a1,b1),(a2,b2)] ⟨.dq,.start nm [(a1,b1),(a2,b2++(ao c++mkS []))],r⟩ none:=by
 have hch:xS x=⟨#[c]⟩:=hm.ch;obtain ⟨e4,e5⟩:=cn hm hz false dqL ht h2';refine Turn.mk' (fun _=>A8) (ab (ab (ab (ab (ab (hm.pC (rmX hz)) ⟨cN hch hq,cN hch (nO1 hc),cN hch (nO2 hc),trivial⟩) e4) e5) ⟨rmZ hch,trivial⟩) ⟨eW hch (by assumption),trivial⟩) fun ρ=>⟨rc,_,_,.inl hm.next,rfl,by rw[hch];rfl⟩
theorem w0 (hc:c=39):TZ f rc X x 570 nm [(a1,b1),(a2,b2)] ⟨.aftAV,.start nm [(a1,b1),(a2,b2)],r⟩ none:=by
 refine Turn.mk' (fun _=>Cr) (ab (hm.pC (rmX hz)) ⟨cE hm.ch hc,trivial⟩) fun ρ=>⟨rc,_,_,.inl hm.next,rfl,rfl⟩
theorem vL {t r':List Nat} (hs:nm.length<=1000) (ha:a2.length<=1000) (hb:b2.length<=1000) (hq:¬ c=39) (hc:¬ (c=38\/c=0)) (ht:t=r.takeWhile fun c=>aA ⟨#[c]⟩ sqL==false) (hr':r'=r.dropWhile fun c=>aA ⟨#[c]⟩ sqL==false) (h1':t≠[]) (h2':r'≠[]):TZ f rc X x 570 nm [(a1,b1),(a2,b2)] ⟨.sq,.start nm [(a1,b1),(a2,b2++(ao c++mkS t))],r'⟩ none:=by
 have hch:xS x=⟨#[c]⟩:=hm.ch;obtain ⟨e2,e3,e4,e5,e6⟩:=cI hm hz false sqL ht hr' h1' h2';refine Turn.mk' (fun _=>Ac) (ab (ab (ab (ab (ab (hm.pC (rmX hz)) ⟨cN hch hq,cN hch (nO1 hc),cN hch (nO2 hc),trivial⟩) e4) e5) ⟨cO hch e2 e6,trivial⟩) ⟨eP hch e2 (by assumption) e6,trivial⟩) fun ρ=>⟨rc,_,_,.inl e3,rfl,by rw[hch,e2];rfl⟩
theorem vK (hs:nm.length<=1000) (ha:a2.length<=1000) (hb:b2.length<=1000) (hq:¬ c=39) (hc:¬ (c=38\/c=0)) (ht:[]=r.takeWhile fun c=>aA ⟨#[c]⟩ sqL==false) (h2':r≠[]):TZ f rc X x 570 nm [(a1,b1),(a2,b2)] ⟨.sq,.start nm [(a1,b1),(a2,b2++(ao c++mkS []))],r⟩ none:=by
 have hch:xS x=⟨#[c]⟩:=hm.ch;obtain ⟨e4,e5⟩:=cn hm hz false sqL ht h2';refine Turn.mk' (fun _=>Ab) (ab (ab (ab (ab (ab (hm.pC (rmX hz)) ⟨cN hch hq,cN hch (nO1 hc),cN hch (nO2 hc),trivial⟩) e4) e5) ⟨rmZ hch,trivial⟩) ⟨eW hch (by assumption),trivial⟩) fun ρ=>⟨rc,_,_,.inl hm.next,rfl,by rw[hch];rfl⟩
theorem y6 (hc:aO c):TZ f rc X x 577 nm [(a1,b1),(a2,b2)] ⟨.befAN,.start nm [(a1,b1),(a2,b2)],r⟩ none:=by
 refine Turn.mk' (fun _=>DZ) (ab (hm.pC (rmX hz)) ⟨cS hm.ch hc,trivial⟩) fun ρ=>⟨rc,_,_,.inl hm.next,rfl,rfl⟩
theorem y9 (hs:nm.length<=1000) (hc:c=62) (hd:([a1,a2]:List Str).Nodup):TZ f rc X x 577 nm [(a1,b1),(a2,b2)] ⟨.data,.none,r⟩ (some (.start (ac nm) [(a1,b1),(a2,b2)] false)):=by
 refine Turn.mk' (fun _=>D4) (ab (ab (ab (hm.pC (rmX hz)) ⟨cNS hm.ch (sE hc (by decide)),cN hm.ch (nE hc (by decide)),cE hm.ch hc,trivial⟩) ⟨rfl,rm0 (by assumption),trivial⟩) ⟨hd,trivial⟩) fun ρ=>⟨rc,_,_,.inl hm.next,rfl,rfl⟩
theorem zt (hc:aO c):TZ f rc X x 584 nm [(a1,b1),(a2,b2)] ⟨.befAN,.start nm [(a1,b1),(a2,b2)],r⟩ none:=by
 refine Turn.mk' (fun _=>EY) (ab (hm.pC (rmX hz)) ⟨cS hm.ch hc,trivial⟩) fun ρ=>⟨rc,_,_,.inl hm.next,rfl,rfl⟩
theorem zw (hs:nm.length<=1000) (hc:c=62) (hd:([a1,a2]:List Str).Nodup):TZ f rc X x 584 nm [(a1,b1),(a2,b2)] ⟨.data,.none,r⟩ (some (.start (ac nm) [(a1,b1),(a2,b2)] false)):=by
 refine Turn.mk' (fun _=>E1) (ab (ab (ab (hm.pC (rmX hz)) ⟨cNS hm.ch (sE hc (by decide)),cE hm.ch hc,trivial⟩) ⟨rfl,rm0 (by assumption),trivial⟩) ⟨hd,trivial⟩) fun ρ=>⟨rc,_,_,.inl hm.next,rfl,rfl⟩
theorem u0 (hc:c=47):TZ f rc X x 535 nm [(a1,b1),(a2,b2),(a3,b3)] ⟨.selfC,.start nm [(a1,b1),(a2,b2),(a3,b3)],r⟩ none:=by
 refine Turn.mk' (fun _=>yQ) (ab (hm.pC (rmX hz)) ⟨cNS hm.ch (sE hc (by decide)),cNL hm.ch (lE hc (by decide)),cN hm.ch (nE hc (by decide)),cE hm.ch hc,trivial⟩) fun ρ=>⟨rc,_,_,.inl hm.next,rfl,rfl⟩
theorem zb (hs:nm.length<=1000) (hc:c=62) (hd:([a1,a2,a3]:List Str).Nodup):TZ f rc X x 591 nm [(a1,b1),(a2,b2),(a3,b3)] ⟨.data,.none,r⟩ (some (.start (ac nm) [(a1,b1),(a2,b2),(a3,b3)] true)):=by
 refine Turn.mk' (fun _=>D7) (ab (ab (ab (hm.pC (rmX hz)) ⟨cE hm.ch hc,trivial⟩) ⟨rfl,rm0 (by assumption),trivial⟩) ⟨hd,trivial⟩) fun ρ=>⟨rc,_,_,.inl hm.next,rfl,rfl⟩
theorem zF (hs:nm.length<=1000) (ha:a3.length<=1000) (hb:b3.length<=1000) (hc:c=61) (hf1:¬ ((ac a3)=a1)) (hf2:¬ ((ac a3)=a2)):TZ f rc X x 542 nm [(a1,b1),(a2,b2),(a3,b3)] ⟨.befAV,.start nm [(a1,b1),(a2,b2),((ac a3),b3)],r⟩ none:=by
 refine Turn.mk' (fun _=>Fr) (ab (ab (ab (hm.pC (rmX hz)) ⟨cE hm.ch hc,trivial⟩) ⟨rfl,rm0 (by assumption),trivial⟩) ⟨hf1,hf2,trivial⟩) fun ρ=>⟨rc,_,_,.inl hm.next,rfl,rfl⟩
theorem zC (hs:nm.length<=1000) (ha:a3.length<=1000) (hb:b3.length<=1000) (hc:c=62) (hf1:¬ ((ac a3)=a1)) (hf2:¬ ((ac a3)=a2)) (hd:([a1,a2,(ac a3)]:List Str).Nodup):TZ f rc X x 542 nm [(a1,b1),(a2,b2),(a3,b3)] ⟨.data,.none,r⟩ (some (.start (ac nm) [(a1,b1),(a2,b2),((ac a3),b3)] false)):=by
 refine Turn.mk' (fun _=>Fo) (ab (ab (ab (ab (ab (hm.pC (rmX hz)) ⟨cN hm.ch (nE hc (by decide)),cNL hm.ch (lE hc (by decide)),cE hm.ch hc,trivial⟩) ⟨rfl,rm0 (by assumption),trivial⟩) ⟨hf1,hf2,trivial⟩) ⟨rfl,rm0 (by assumption),trivial⟩) ⟨hd,trivial⟩) fun ρ=>⟨rc,_,_,.inl hm.next,rfl,rfl⟩
theorem zy (hs:nm.length<=1000) (ha:a3.length<=1000) (hb:b3.length<=1000) (hc:aO c) (hf1:¬ ((ac a3)=a1)) (hf2:¬ ((ac a3)=a2)):TZ f rc X x 542 nm [(a1,b1),(a2,b2),(a3,b3)] ⟨.aftAN,.start nm [(a1,b1),(a2,b2),((ac a3),b3)],r⟩ none:=by
 refine Turn.mk' (fun _=>Fl) (ab (ab (ab (hm.pC (rmX hz)) ⟨cN hm.ch (nS hc (by decide)),cNL hm.ch (lS hc),cN hm.ch (nS hc (by decide)),cS hm.ch hc,trivial⟩) ⟨rfl,rm0 (by assumption),trivial⟩) ⟨hf1,hf2,trivial⟩) fun ρ=>⟨rc,_,_,.inl hm.next,rfl,rfl⟩
theorem zI (hs:nm.length<=1000) (ha:a3.length<=1000) (hb:b3.length<=1000) (hc:c=45):TZ f rc X x 542 nm [(a1,b1),(a2,b2),(a3,b3)] ⟨.attrN,.start nm [(a1,b1),(a2,b2),(a3++ao c,b3)],r⟩ none:=by
 have hch:xS x=⟨#[c]⟩:=hm.ch;refine Turn.mk' (fun _=>Fu) (ab (ab (hm.pC (rmX hz)) ⟨cN hch (nE hc (by decide)),cNL hch (lE hc (by decide)),cN hch (nE hc (by decide)),cNS hch (sE hc (by decide)),cN hch (nE hc (by decide)),cN hch (nE hc (by decide)),cM hch (nE hc (by decide)) (nE hc (by decide)) (nE hc (by decide)),trivial⟩) ⟨rmS hch (by assumption),trivial⟩) fun ρ=>⟨rc,_,_,.inl hm.next,rfl,by rw[hch];rfl⟩
theorem um {t r':List Nat} (hs:nm.length<=1000) (ha:a3.length<=1000) (hb:b3.length<=1000) (hc:aS c) (ht:t=r.takeWhile fun c=>aA ⟨#[c]⟩ aC==true) (hr':r'=r.dropWhile fun c=>aA ⟨#[c]⟩ aC==true) (h1':t≠[]) (h2':r'≠[]):TZ f rc X x 542 nm [(a1,b1),(a2,b2),(a3,b3)] ⟨.attrN,.start nm [(a1,b1),(a2,b2),(a3++(ao c++mkS t),b3)],r'⟩ none:=by
 have hch:xS x=⟨#[c]⟩:=hm.ch;obtain ⟨e2,e3,e4,e5,e6⟩:=cI hm hz true aC ht hr' h1' h2';refine Turn.mk' (fun _=>uT) (ab (ab (ab (ab (ab (hm.pC (rmX hz)) ⟨cN hch (nL hc (by decide)),cL hch hc,trivial⟩) e4) e5) ⟨cO hch e2 e6,trivial⟩) ⟨eP hch e2 (by assumption) e6,trivial⟩) fun ρ=>⟨rc,_,_,.inl e3,rfl,by rw[hch,e2];rfl⟩
theorem ul (hs:nm.length<=1000) (ha:a3.length<=1000) (hb:b3.length<=1000) (hc:aS c) (ht:[]=r.takeWhile fun c=>aA ⟨#[c]⟩ aC==true) (h2':r≠[]):TZ f rc X x 542 nm [(a1,b1),(a2,b2),(a3,b3)] ⟨.attrN,.start nm [(a1,b1),(a2,b2),(a3++(ao c++mkS []),b3)],r⟩ none:=by
 have hch:xS x=⟨#[c]⟩:=hm.ch;obtain ⟨e4,e5⟩:=cn hm hz true aC ht h2';refine Turn.mk' (fun _=>uR) (ab (ab (ab (ab (ab (hm.pC (rmX hz)) ⟨cN hch (nL hc (by decide)),cL hch hc,trivial⟩) e4) e5) ⟨rmZ hch,trivial⟩) ⟨eW hch (by assumption),trivial⟩) fun ρ=>⟨rc,_,_,.inl hm.next,rfl,by rw[hch];rfl⟩
theorem zL (hc:c=61):TZ f rc X x 549 nm [(a1,b1),(a2,b2),(a3,b3)] ⟨.befAV,.start nm [(a1,b1),(a2,b2),(a3,b3)],r⟩ none:=by
 refine Turn.mk' (fun _=>Fy) (ab (hm.pC (rmX hz)) ⟨cNS hm.ch (sE hc (by decide)),cE hm.ch hc,trivial⟩) fun ρ=>⟨rc,_,_,.inl hm.next,rfl,rfl⟩
theorem vb (hc:c=47):TZ f rc X x 549 nm [(a1,b1),(a2,b2),(a3,b3)] ⟨.selfC,.start nm [(a1,b1),(a2,b2),(a3,b3)],r⟩ none:=by
 refine Turn.mk' (fun _=>yW) (ab (hm.pC (rmX hz)) ⟨cNS hm.ch (sE hc (by decide)),cN hm.ch (nE hc (by decide)),cN hm.ch (nE hc (by decide)),cNL hm.ch (lE hc (by decide)),cE hm.ch hc,trivial⟩) fun ρ=>⟨rc,_,_,.inl hm.next,rfl,rfl⟩
theorem zi (hc:aO c) (ht:[]=r.takeWhile fun c=>aA ⟨#[c]⟩ ah==true) (h2':r≠[]):TZ f rc X x 556 nm [(a1,b1),(a2,b2),(a3,b3)] ⟨.befAV,.start nm [(a1,b1),(a2,b2),(a3,b3)],r⟩ none:=by
 obtain ⟨e4,e5⟩:=cn hm hz true ah ht h2';refine Turn.mk' (fun _=>EG) (ab (ab (ab (hm.pC (rmX hz)) ⟨cS hm.ch hc,trivial⟩) e4) e5) fun ρ=>⟨rc,_,_,.inl hm.next,rfl,rfl⟩
theorem zl (hc:c=34):TZ f rc X x 556 nm [(a1,b1),(a2,b2),(a3,b3)] ⟨.dq,.start nm [(a1,b1),(a2,b2),(a3,b3)],r⟩ none:=by
 refine Turn.mk' (fun _=>EJ) (ab (hm.pC (rmX hz)) ⟨cNS hm.ch (sE hc (by decide)),cE hm.ch hc,trivial⟩) fun ρ=>⟨rc,_,_,.inl hm.next,rfl,rfl⟩
theorem zf (hc:c=39):TZ f rc X x 556 nm [(a1,b1),(a2,b2),(a3,b3)] ⟨.sq,.start nm [(a1,b1),(a2,b2),(a3,b3)],r⟩ none:=by
 refine Turn.mk' (fun _=>EC) (ab (hm.pC (rmX hz)) ⟨cNS hm.ch (sE hc (by decide)),cN hm.ch (nE hc (by decide)),cN hm.ch (nE hc (by decide)),cE hm.ch hc,trivial⟩) fun ρ=>⟨rc,_,_,.inl hm.next,rfl,rfl⟩
theorem zo (hs:nm.length<=1000) (ha:a3.length<=1000) (hb:b3.length<=1000) (hc:aS c):TZ f rc X x 556 nm [(a1,b1),(a2,b2),(a3,b3)] ⟨.uq,.start nm [(a1,b1),(a2,b2),(a3,b3++ao c)],r⟩ none:=by
 have hch:xS x=⟨#[c]⟩:=hm.ch;refine Turn.mk' (fun _=>EN) (ab (ab (hm.pC (rmX hz)) ⟨cNS hch (sL hc),cN hch (nL hc (by decide)),cN hch (nL hc (by decide)),cN hch (nL hc (by decide)),cN hch (nL hc (by decide)),cN hch (nL hc (by decide)),cM hch (nL hc (by decide)) (nL hc (by decide)) (nL hc (by decide)),trivial⟩) ⟨rmS hch (by assumption),trivial⟩) fun ρ=>⟨rc,_,_,.inl hm.next,rfl,by rw[hch];rfl⟩
theorem w9 (hc:c=34):TZ f rc X x 563 nm [(a1,b1),(a2,b2),(a3,b3)] ⟨.aftAV,.start nm [(a1,b1),(a2,b2),(a3,b3)],r⟩ none:=by
 refine Turn.mk' (fun _=>Dq) (ab (hm.pC (rmX hz)) ⟨cE hm.ch hc,trivial⟩) fun ρ=>⟨rc,_,_,.inl hm.next,rfl,rfl⟩
theorem vP {t r':List Nat} (hs:nm.length<=1000) (ha:a3.length<=1000) (hb:b3.length<=1000) (hq:¬ c=34) (hc:¬ (c=38\/c=0)) (ht:t=r.takeWhile fun c=>aA ⟨#[c]⟩ dqL==false) (hr':r'=r.dropWhile fun c=>aA ⟨#[c]⟩ dqL==false) (h1':t≠[]) (h2':r'≠[]):TZ f rc X x 563 nm [(a1,b1),(a2,b2),(a3,b3)] ⟨.dq,.start nm [(a1,b1),(a2,b2),(a3,b3++(ao c++mkS t))],r'⟩ none:=by
 have hch:xS x=⟨#[c]⟩:=hm.ch;obtain ⟨e2,e3,e4,e5,e6⟩:=cI hm hz false dqL ht hr' h1' h2';refine Turn.mk' (fun _=>A7) (ab (ab (ab (ab (ab (hm.pC (rmX hz)) ⟨cN hch hq,cN hch (nO1 hc),cN hch (nO2 hc),trivial⟩) e4) e5) ⟨cO hch e2 e6,trivial⟩) ⟨eP hch e2 (by assumption) e6,trivial⟩) fun ρ=>⟨rc,_,_,.inl e3,rfl,by rw[hch,e2];rfl⟩
theorem vO (hs:nm.length<=1000) (ha:a3.length<=1000) (hb:b3.length<=1000) (hq:¬ c=34) (hc:¬ (c=38\/c=0)) (ht:[]=r.takeWhile fun c=>aA ⟨#[c]⟩ dqL==false) (h2':r≠[]):TZ f rc X x 563 nm [(a1,b1),(a2,b2),(a3,b3)] ⟨.dq,.start nm [(a1,b1),(a2,b2),(a3,b3++(ao c++mkS []))],r⟩ none:=by
 have hch:xS x=⟨#[c]⟩:=hm.ch;obtain ⟨e4,e5⟩:=cn hm hz false dqL ht h2';refine Turn.mk' (fun _=>A6) (ab (ab (ab (ab (ab (hm.pC (rmX hz)) ⟨cN hch hq,cN hch (nO1 hc),cN hch (nO2 hc),trivial⟩) e4) e5) ⟨rmZ hch,trivial⟩) ⟨eW hch (by assumption),trivial⟩) fun ρ=>⟨rc,_,_,.inl hm.next,rfl,by rw[hch];rfl⟩
theorem wZ (hc:c=39):TZ f rc X x 570 nm [(a1,b1),(a2,b2),(a3,b3)] ⟨.aftAV,.start nm [(a1,b1),(a2,b2),(a3,b3)],r⟩ none:=by
 refine Turn.mk' (fun _=>Cq) (ab (hm.pC (rmX hz)) ⟨cE hm.ch hc,trivial⟩) fun ρ=>⟨rc,_,_,.inl hm.next,rfl,rfl⟩
theorem vJ {t r':List Nat} (hs:nm.length<=1000) (ha:a3.length<=1000) (hb:b3.length<=1000) (hq:¬ c=39) (hc:¬ (c=38\/c=0)) (ht:t=r.takeWhile fun c=>aA ⟨#[c]⟩ sqL==false) (hr':r'=r.dropWhile fun c=>aA ⟨#[c]⟩ sqL==false) (h1':t≠[]) (h2':r'≠[]):TZ f rc X x 570 nm [(a1,b1),(a2,b2),(a3,b3)] ⟨.sq,.start nm [(a1,b1),(a2,b2),(a3,b3++(ao c++mkS t))],r'⟩ none:=by
 have hch:xS x=⟨#[c]⟩:=hm.ch;obtain ⟨e2,e3,e4,e5,e6⟩:=cI hm hz false sqL ht hr' h1' h2';refine Turn.mk' (fun _=>Aa) (ab (ab (ab (ab (ab (hm.pC (rmX hz)) ⟨cN hch hq,cN hch (nO1 hc),cN hch (nO2 hc),trivial⟩) e4) e5) ⟨cO hch e2 e6,trivial⟩) ⟨eP hch e2 (by assumption) e6,trivial⟩) fun ρ=>⟨rc,_,_,.inl e3,rfl,by rw[hch,e2];rfl⟩
theorem vI (hs:nm.length<=1000) (ha:a3.length<=1000) (hb:b3.length<=1000) (hq:¬ c=39) (hc:¬ (c=38\/c=0)) (ht:[]=r.takeWhile fun c=>aA ⟨#[c]⟩ sqL==false) (h2':r≠[]):TZ f rc X x 570 nm [(a1,b1),(a2,b2),(a3,b3)] ⟨.sq,.start nm [(a1,b1),(a2,b2),(a3,b3++(ao c++mkS []))],r⟩ none:=by
 have hch:xS x=⟨#[c]⟩:=hm.ch;obtain ⟨e4,e5⟩:=cn hm hz false sqL ht h2';refine Turn.mk' (fun _=>zZ) (ab (ab (ab (ab (ab (hm.pC (rmX hz)) ⟨cN hch hq,cN hch (nO1 hc),cN hch (nO2 hc),trivial⟩) e4) e5) ⟨rmZ hch,trivial⟩) ⟨eW hch (by assumption),trivial⟩) fun ρ=>⟨rc,_,_,.inl hm.next,rfl,by rw[hch];rfl⟩
theorem yZ (hc:aO c):TZ f rc X x 577 nm [(a1,b1),(a2,b2),(a3,b3)] ⟨.befAN,.start nm [(a1,b1),(a2,b2),(a3,b3)],r⟩ none:=by
 refine Turn.mk' (fun _=>DY) (ab (hm.pC (rmX hz)) ⟨cS hm.ch hc,trivial⟩) fun ρ=>⟨rc,_,_,.inl hm.next,rfl,rfl⟩
theorem y8 (hs:nm.length<=1000) (hc:c=62) (hd:([a1,a2,a3]:List Str).Nodup):TZ f rc X x 577 nm [(a1,b1),(a2,b2),(a3,b3)] ⟨.data,.none,r⟩ (some (.start (ac nm) [(a1,b1),(a2,b2),(a3,b3)] false)):=by
 refine Turn.mk' (fun _=>D1) (ab (ab (ab (hm.pC (rmX hz)) ⟨cNS hm.ch (sE hc (by decide)),cN hm.ch (nE hc (by decide)),cE hm.ch hc,trivial⟩) ⟨rfl,rm0 (by assumption),trivial⟩) ⟨hd,trivial⟩) fun ρ=>⟨rc,_,_,.inl hm.next,rfl,rfl⟩
theorem zr (hc:aO c):TZ f rc X x 584 nm [(a1,b1),(a2,b2),(a3,b3)] ⟨.befAN,.start nm [(a1,b1),(a2,b2),(a3,b3)],r⟩ none:=by
 refine Turn.mk' (fun _=>EX) (ab (hm.pC (rmX hz)) ⟨cS hm.ch hc,trivial⟩) fun ρ=>⟨rc,_,_,.inl hm.next,rfl,rfl⟩
theorem zv (hs:nm.length<=1000) (hc:c=62) (hd:([a1,a2,a3]:List Str).Nodup):TZ f rc X x 584 nm [(a1,b1),(a2,b2),(a3,b3)] ⟨.data,.none,r⟩ (some (.start (ac nm) [(a1,b1),(a2,b2),(a3,b3)] false)):=by
 refine Turn.mk' (fun _=>E0) (ab (ab (ab (hm.pC (rmX hz)) ⟨cNS hm.ch (sE hc (by decide)),cE hm.ch hc,trivial⟩) ⟨rfl,rm0 (by assumption),trivial⟩) ⟨hd,trivial⟩) fun ρ=>⟨rc,_,_,.inl hm.next,rfl,rfl⟩
theorem xc (hc:c=45):Turn (base f (.con rc) X x 612 (.ptr 10) [] (aZ t)) true f X ⟨.cStartDash,.note t,r⟩ none:=by
 refine Turn.mk' (fun _=>cs_dash) (ab (hm.pC (rmX hz)) ⟨cE hm.ch hc,trivial⟩) fun ρ=>⟨rc,_,_,.inl hm.next,rfl,rfl⟩
theorem B9 (hs:t.length<=1000) (h1:¬ c=45) (hc:¬ (c=0\/c=62)):Turn (base f (.con rc) X x 612 (.ptr 10) [] (aZ t)) true f X ⟨.comment,.note (t++ao c),r⟩ none:=by
 have hch:xS x=⟨#[c]⟩:=hm.ch;refine Turn.mk' (fun _=>cs_ch) (ab (ab (hm.pC (rmX hz)) ⟨cN hch h1,cN hch (nO1 hc),cN hch (nO2 hc),trivial⟩) ⟨rmS hch (by assumption),trivial⟩) fun ρ=>⟨rc,_,_,.inl hm.next,rfl,by rw[hch];rfl⟩
theorem xh (hc:c=45):Turn (base f (.con rc) X x 619 (.ptr 10) [] (aZ t)) true f X ⟨.cEnd,.note t,r⟩ none:=by
 refine Turn.mk' (fun _=>cd_dash) (ab (hm.pC (rmX hz)) ⟨cE hm.ch hc,trivial⟩) fun ρ=>⟨rc,_,_,.inl hm.next,rfl,rfl⟩
theorem xd (hc:c=45):Turn (base f (.con rc) X x 626 (.ptr 10) [] (aZ t)) true f X ⟨.cEndDash,.note t,r⟩ none:=by
 refine Turn.mk' (fun _=>co_dash) (ab (hm.pC (rmX hz)) ⟨cE hm.ch hc,trivial⟩) fun ρ=>⟨rc,_,_,.inl hm.next,rfl,rfl⟩
theorem xf {u r':List Nat} (hs:t.length<=1000) (h1:¬ c=45) (hc:¬ c=0) (ht:u=r.takeWhile fun c=>aA ⟨#[c]⟩ coL==false) (hr':r'=r.dropWhile fun c=>aA ⟨#[c]⟩ coL==false) (h1':u≠[]) (h2':r'≠[]):Turn (base f (.con rc) X x 626 (.ptr 10) [] (aZ t)) true f X ⟨.comment,.note (t++(ao c++mkS u)),r'⟩ none:=by
 have hch:xS x=⟨#[c]⟩:=hm.ch;obtain ⟨e2,e3,e4,e5,e6⟩:=cI hm hz false coL ht hr' h1' h2';refine Turn.mk' (fun _=>Dy) (ab (ab (ab (ab (ab (hm.pC (rmX hz)) ⟨cN hch h1,cN hch hc,trivial⟩) e4) e5) ⟨cO hch e2 e6,trivial⟩) ⟨eP hch e2 (by assumption) e6,trivial⟩) fun ρ=>⟨rc,_,_,.inl e3,rfl,by rw[hch,e2];rfl⟩
theorem xe (hs:t.length<=1000) (h1:¬ c=45) (hc:¬ c=0) (ht:[]=r.takeWhile fun c=>aA ⟨#[c]⟩ coL==false) (h2':r≠[]):Turn (base f (.con rc) X x 626 (.ptr 10) [] (aZ t)) true f X ⟨.comment,.note (t++(ao c++mkS [])),r⟩ none:=by
 have hch:xS x=⟨#[c]⟩:=hm.ch;obtain ⟨e4,e5⟩:=cn hm hz false coL ht h2';refine Turn.mk' (fun _=>Dx) (ab (ab (ab (ab (ab (hm.pC (rmX hz)) ⟨cN hch h1,cN hch hc,trivial⟩) e4) e5) ⟨rmZ hch,trivial⟩) ⟨eW hch (by assumption),trivial⟩) fun ρ=>⟨rc,_,_,.inl hm.next,rfl,by rw[hch];rfl⟩
theorem xg (hc:c=45):Turn (base f (.con rc) X x 633 (.ptr 10) [] (aZ t)) true f X ⟨.cEnd,.note t,r⟩ none:=by
 refine Turn.mk' (fun _=>ce_dash) (ab (hm.pC (rmX hz)) ⟨cE hm.ch hc,trivial⟩) fun ρ=>⟨rc,_,_,.inl hm.next,rfl,rfl⟩
theorem Ca (hs:t.length<=1000) (h1:¬ c=45) (hc:¬ c=0):Turn (base f (.con rc) X x 633 (.ptr 10) [] (aZ t)) true f X ⟨.comment,.note (t++(⟨#[45]⟩++ao c)),r⟩ none:=by
 have hch:xS x=⟨#[c]⟩:=hm.ch;refine Turn.mk' (fun _=>ce_ch) (ab (ab (ab (hm.pC (rmX hz)) ⟨cN hch h1,cN hch hc,trivial⟩) ⟨by rw[hch];show 1+1<=aa;unfold aa;exact Qc rfl,trivial⟩) ⟨rmC hch (by assumption) rfl,trivial⟩) fun ρ=>⟨rc,_,_,.inl hm.next,rfl,by rw[hch];rfl⟩
theorem B7 (hc:c=62):Turn (base f (.con rc) X x 640 (.ptr 10) [] (aZ t)) true f X ⟨.data,.none,r⟩ (some (.note t)):=by
 refine Turn.mk' (fun _=>en_gt) (ab (hm.pC (rmX hz)) ⟨cE hm.ch hc,trivial⟩) fun ρ=>⟨rc,_,_,.inl hm.next,rfl,rfl⟩
theorem B8 (hs:t.length<=1000) (h1:¬ c=62) (hc:¬ (c=0\/c=33\/c=45)):Turn (base f (.con rc) X x 640 (.ptr 10) [] (aZ t)) true f X ⟨.comment,.note (t++(⟨#[45,45]⟩++ao c)),r⟩ (some .err):=by
 have hch:xS x=⟨#[c]⟩:=hm.ch;refine Turn.mk' (fun _=>en_ch) (ab (ab (ab (hm.pC (rmX hz)) ⟨cN hch h1,cN hch (nO1 hc),cN hch (nO1 (nO2 hc)),cN hch (nO2 (nO2 hc)),trivial⟩) ⟨by rw[hch];show 2+1<=aa;unfold aa;exact Qc rfl,trivial⟩) ⟨rmC hch (by assumption) rfl,trivial⟩) fun ρ=>⟨rc,_,_,.inl hm.next,rfl,by rw[hch];rfl⟩
end
end
end TE
namespace TE
set_option tactic.hygienic false
theorem hM (p:Nat->Bool) (r:List Nat) (h:r.dropWhile p=[]):r=r.takeWhile p:=by
 have:=ey p r;rw[h,List.append_nil] at this;exact this.symm
noncomputable def TurnE (hp:List AO) (f:Fx) (X:Str):Prop :=
 ∃ (dec:List Nat) (σ':(Nat->Addr)->List AO) (pc:List Prop),(∀ ρ,aj ρ (turn hp dec)=some (false,σ' ρ,[],pc))/\bc pc/\∀ ρ,∃ rc ct:Value,σ' ρ=base f (.con rc) X (br X) 304 (.con ct) [] []
theorem TurnE.mk' {hp:List AO} {f:Fx} {X:Str} {dec:List Nat} {σ':(Nat->Addr)->List AO} {pc:List Prop} (h1:∀ ρ,aj ρ (turn hp dec)=some (false,σ' ρ,[],pc)) (h2:bc pc) (h3:∀ ρ,∃ rc ct:Value,σ' ρ=base f (.con rc) X (br X) 304 (.con ct) [] []) :
  TurnE hp f X:=⟨dec,σ',pc,h1,h2,h3⟩
section
variable {X:Str} {x:Sx} {c:Nat} {r:List Nat} {f:Fx} {rc ct:Value}
theorem DT (hm:Mid X x (c::r)) (hz:X.length<=10240) (hc:aO c):Turn (base f (.con rc) X x 304 (.con ct) [] []) true f X ⟨.data,.none,(aN r).2⟩ (some (.text 2 (ao c++mkS (aN r).1))):=by
 have hch:xS _=⟨#[c]⟩:=hm.ch;have hr:X.length<=aa:=rmX hz;have le:=gi hm
 by_cases hd:(aN r).2=[]
 ·refine ag fun G0 hG0=>?_;obtain ⟨pe,ee⟩:=gH hm hr;have ht:r=r.takeWhile fun c=>aA ⟨#[c]⟩ ah==true:=hM _ r hd;have htt:(aN r).1=r:=ht.symm;obtain ⟨e1,e2,e4,e5,e6,e7⟩:=ip hm hz true ah ht;refine hG0 ?_;rw[hd,htt];have fin:∀ (y:Sx),y=br X->∀ ρ:Nat->Addr,After f X ⟨.data,.none,[]⟩ (some (.text 2 (ao c++mkS r))) (base f (.con rc) X y 304 (.con ct) [.ptr 10] [aW 2 (ao c++mkS r)]):=fun y hy ρ=>⟨rc,y,_,.inr ⟨rfl,hy⟩,⟨ct,rfl⟩,rfl⟩
  by_cases hn:r=[]
  ·have k0:=e7.mpr hn
   by_cases q:Txt.rfind X NL=-1
   ·rw[decide_eq_true q] at pe ee;refine Turn.mk' (fun _=>Bf) (ab (ab (ab (ab (ab (ab (hm.pC hr) ⟨cN hch (nS hc (by decide)),cN hch (nS hc (by decide)),cN hch (nS hc (by decide)),cS hch hc,trivial⟩) e4) ⟨e1.trans k0.symm,(fun h=>h k0),e5,trivial⟩) pe) ⟨by rw[e2];exact e6,trivial⟩) ⟨bO hch e2 le hr,trivial⟩) fun ρ=>?_;rw[hch,e2];exact fin _ ee ρ
   ·rw[decide_eq_false q] at pe ee;refine Turn.mk' (fun _=>Be) (ab (ab (ab (ab (ab (ab (hm.pC hr) ⟨cN hch (nS hc (by decide)),cN hch (nS hc (by decide)),cN hch (nS hc (by decide)),cS hch hc,trivial⟩) e4) ⟨e1.trans k0.symm,(fun h=>h k0),e5,trivial⟩) pe) ⟨by rw[e2];exact e6,trivial⟩) ⟨bO hch e2 le hr,trivial⟩) fun ρ=>?_;rw[hch,e2];exact fin _ ee ρ
  ·have k0:=fun h=>hn (e7.mp h)
   by_cases q:Txt.rfind X NL=-1
   ·rw[decide_eq_true q] at pe ee;refine Turn.mk' (fun _=>Bh) (ab (ab (ab (ab (ab (ab (hm.pC hr) ⟨cN hch (nS hc (by decide)),cN hch (nS hc (by decide)),cN hch (nS hc (by decide)),cS hch hc,trivial⟩) e4) ⟨(fun h=>k0 (h.symm.trans e1)),(fun h=>h e1),e5,trivial⟩) pe) ⟨by rw[e2];exact e6,trivial⟩) ⟨bO hch e2 le hr,trivial⟩) fun ρ=>?_;rw[hch,e2];exact fin _ ee ρ
   ·rw[decide_eq_false q] at pe ee;refine Turn.mk' (fun _=>Bg) (ab (ab (ab (ab (ab (ab (hm.pC hr) ⟨cN hch (nS hc (by decide)),cN hch (nS hc (by decide)),cN hch (nS hc (by decide)),cS hch hc,trivial⟩) e4) ⟨(fun h=>k0 (h.symm.trans e1)),(fun h=>h e1),e5,trivial⟩) pe) ⟨by rw[e2];exact e6,trivial⟩) ⟨bO hch e2 le hr,trivial⟩) fun ρ=>?_;rw[hch,e2];exact fin _ ee ρ
 ·by_cases hn:(aN r).1=[]
  ·have ht:[]=r.takeWhile fun c=>aA ⟨#[c]⟩ ah==true:=hn.symm;have hr2:r≠[]:=fun h=>hd (by rw[h];rfl)
   have hr3:(aN r).2=r:=by
    have h3:=ey (fun c=>aA ⟨#[c]⟩ ah==true) r;rw[<- ht] at h3;exact h3
   refine ag fun G0 hG0=>?_;obtain ⟨e4,e5⟩:=cn hm hz true ah ht hr2;refine hG0 ?_;rw[hn,hr3];exact Turn.mk' (fun _=>Ex) (ab (ab (ab (ab (hm.pC hr) ⟨cN hch (nS hc (by decide)),cN hch (nS hc (by decide)),cN hch (nS hc (by decide)),cS hch hc,trivial⟩) e4) e5) ⟨rmZ hch,trivial⟩) fun ρ=>⟨rc,_,_,.inl hm.next,⟨ct,rfl⟩,by rw[hch];rfl⟩
  ·refine ag fun G0 hG0=>?_;obtain ⟨e2,e3,e4,e5,e6⟩:=cI hm hz true ah (t:=(aN r).1) (r':=(aN r).2) rfl rfl hn hd;refine hG0 ?_;generalize (aN r).1=t at *;generalize (aN r).2=r' at *;exact Turn.mk' (fun _=>Ey) (ab (ab (ab (ab (hm.pC hr) ⟨cN hch (nS hc (by decide)),cN hch (nS hc (by decide)),cN hch (nS hc (by decide)),cS hch hc,trivial⟩) e4) e5) ⟨cO hch e2 e6,trivial⟩) fun ρ=>⟨rc,_,_,.inl e3,⟨ct,rfl⟩,by rw[hch,e2];rfl⟩
theorem DV (hm:Mid X x (c::r)) (hz:X.length<=10240) (h1:¬ c=60) (hc:¬ (c=38\/c=0)) (h2:¬ aO c):Turn (base f (.con rc) X x 304 (.con ct) [] []) true f X ⟨.data,.none,(aQ txL r).2⟩ (some (.text 1 (ao c++mkS (aQ txL r).1))):=by
 have hch:xS _=⟨#[c]⟩:=hm.ch;have hr:X.length<=aa:=rmX hz;have le:=gi hm
 by_cases hd:(aQ txL r).2=[]
 ·obtain ⟨pe,ee⟩:=gH hm hr;have ht:r=r.takeWhile fun c=>aA ⟨#[c]⟩ txL==false:=hM _ r hd;have htt:(aQ txL r).1=r:=ht.symm;obtain ⟨e1,e2,e4,e5,e6,e7⟩:=ip hm hz false txL ht;rw[hd,htt];have fin:∀ (y:Sx),y=br X->∀ ρ:Nat->Addr,After f X ⟨.data,.none,[]⟩ (some (.text 1 (ao c++mkS r))) (base f (.con rc) X y 304 (.con ct) [.ptr 10] [aW 1 (ao c++mkS r)]):=fun y hy ρ=>⟨rc,y,_,.inr ⟨rfl,hy⟩,⟨ct,rfl⟩,rfl⟩
  by_cases hn:r=[]
  ·have k0:=e7.mpr hn
   by_cases q:Txt.rfind X NL=-1
   ·rw[decide_eq_true q] at pe ee;refine Turn.mk' (fun _=>Bj) (ab (ab (ab (ab (ab (ab (hm.pC hr) ⟨cN hch (nO1 hc),cN hch h1,cN hch (nO2 hc),cNS hch h2,trivial⟩) e4) ⟨e1.trans k0.symm,(fun h=>h k0),e5,trivial⟩) pe) ⟨by rw[e2];exact e6,trivial⟩) ⟨bO hch e2 le hr,trivial⟩) fun ρ=>?_;rw[hch,e2];exact fin _ ee ρ
   ·rw[decide_eq_false q] at pe ee;refine Turn.mk' (fun _=>Bi) (ab (ab (ab (ab (ab (ab (hm.pC hr) ⟨cN hch (nO1 hc),cN hch h1,cN hch (nO2 hc),cNS hch h2,trivial⟩) e4) ⟨e1.trans k0.symm,(fun h=>h k0),e5,trivial⟩) pe) ⟨by rw[e2];exact e6,trivial⟩) ⟨bO hch e2 le hr,trivial⟩) fun ρ=>?_;rw[hch,e2];exact fin _ ee ρ
  ·have k0:=fun h=>hn (e7.mp h)
   by_cases q:Txt.rfind X NL=-1
   ·rw[decide_eq_true q] at pe ee;refine Turn.mk' (fun _=>Bl) (ab (ab (ab (ab (ab (ab (hm.pC hr) ⟨cN hch (nO1 hc),cN hch h1,cN hch (nO2 hc),cNS hch h2,trivial⟩) e4) ⟨(fun h=>k0 (h.symm.trans e1)),(fun h=>h e1),e5,trivial⟩) pe) ⟨by rw[e2];exact e6,trivial⟩) ⟨bO hch e2 le hr,trivial⟩) fun ρ=>?_;rw[hch,e2];exact fin _ ee ρ
   ·rw[decide_eq_false q] at pe ee;refine Turn.mk' (fun _=>Bk) (ab (ab (ab (ab (ab (ab (hm.pC hr) ⟨cN hch (nO1 hc),cN hch h1,cN hch (nO2 hc),cNS hch h2,trivial⟩) e4) ⟨(fun h=>k0 (h.symm.trans e1)),(fun h=>h e1),e5,trivial⟩) pe) ⟨by rw[e2];exact e6,trivial⟩) ⟨bO hch e2 le hr,trivial⟩) fun ρ=>?_;rw[hch,e2];exact fin _ ee ρ
 ·by_cases hn:(aQ txL r).1=[]
  ·have ht:[]=r.takeWhile fun c=>aA ⟨#[c]⟩ txL==false:=hn.symm;have hr2:r≠[]:=fun h=>hd (by rw[h];rfl)
   have hr3:(aQ txL r).2=r:=by
    have h3:=ey (fun c=>aA ⟨#[c]⟩ txL==false) r;rw[<- ht] at h3;exact h3
   obtain ⟨e4,e5⟩:=cn hm hz false txL ht hr2;rw[hn,hr3];exact Turn.mk' (fun _=>Ez) (ab (ab (ab (ab (hm.pC hr) ⟨cN hch (nO1 hc),cN hch h1,cN hch (nO2 hc),cNS hch h2,trivial⟩) e4) e5) ⟨rmZ hch,trivial⟩) fun ρ=>⟨rc,_,_,.inl hm.next,⟨ct,rfl⟩,by rw[hch];rfl⟩
  ·obtain ⟨e2,e3,e4,e5,e6⟩:=cI hm hz false txL (t:=(aQ txL r).1) (r':=(aQ txL r).2) rfl rfl hn hd;generalize (aQ txL r).1=t at *;generalize (aQ txL r).2=r' at *;exact Turn.mk' (fun _=>EA) (ab (ab (ab (ab (hm.pC hr) ⟨cN hch (nO1 hc),cN hch h1,cN hch (nO2 hc),cNS hch h2,trivial⟩) e4) e5) ⟨cO hch e2 e6,trivial⟩) fun ρ=>⟨rc,_,_,.inl e3,⟨ct,rfl⟩,by rw[hch,e2];rfl⟩
theorem B1 (hm:Mid X (xI X) (c::r)) (hz:X.length<=10240) (hI:bc (ba X true)) (hc:c=60):Turn (base f (.ptr 10) X x0 304 (.con ct) [] [.meth 148 (.ptr 3)]) true f X ⟨.tagOpen,.none,r⟩ none:=by
 have hch:xS _=⟨#[c]⟩:=hm.ch;have hr:X.length<=aa:=rmX hz;exact Turn.mk' (fun _=>Gg) (ab hI ⟨cN hch (nE hc (by decide)),cE hch hc,trivial⟩) fun ρ=>⟨(.ref (ρ 10)),_,_,.inl hm.next,⟨ct,rfl⟩,rfl⟩
theorem BZ (hm:Mid X (xI X) (c::r)) (hz:X.length<=10240) (hI:bc (ba X true)) (hc:aO c):Turn (base f (.ptr 10) X x0 304 (.con ct) [] [.meth 148 (.ptr 3)]) true f X ⟨.data,.none,(aN r).2⟩ (some (.text 2 (ao c++mkS (aN r).1))):=by
 have hch:xS _=⟨#[c]⟩:=hm.ch;have hr:X.length<=aa:=rmX hz;have le:=gi hm
 by_cases hd:(aN r).2=[]
 ·refine ag fun G0 hG0=>?_;obtain ⟨pe,ee⟩:=gH hm hr;have ht:r=r.takeWhile fun c=>aA ⟨#[c]⟩ ah==true:=hM _ r hd;have htt:(aN r).1=r:=ht.symm;obtain ⟨e1,e2,e4,e5,e6,e7⟩:=ip hm hz true ah ht;refine hG0 ?_;rw[hd,htt];have fin:∀ (y:Sx),y=br X->∀ ρ:Nat->Addr,After f X ⟨.data,.none,[]⟩ (some (.text 2 (ao c++mkS r))) (base f (.con (.ref (ρ 10))) X y 304 (.con ct) [.ptr 10] [aW 2 (ao c++mkS r)]):=fun y hy ρ=>⟨(.ref (ρ 10)),y,_,.inr ⟨rfl,hy⟩,⟨ct,rfl⟩,rfl⟩
  by_cases hn:r=[]
  ·have k0:=e7.mpr hn
   by_cases q:Txt.rfind X NL=-1
   ·rw[decide_eq_true q] at pe ee;refine Turn.mk' (fun _=>xX) (ab (ab (ab (ab (ab (ab hI ⟨cN hch (nS hc (by decide)),cN hch (nS hc (by decide)),cN hch (nS hc (by decide)),cS hch hc,trivial⟩) e4) ⟨e1.trans k0.symm,(fun h=>h k0),e5,trivial⟩) pe) ⟨by rw[e2];exact e6,trivial⟩) ⟨bO hch e2 le hr,trivial⟩) fun ρ=>?_;rw[hch,e2];exact fin _ ee ρ
   ·rw[decide_eq_false q] at pe ee;refine Turn.mk' (fun _=>xW) (ab (ab (ab (ab (ab (ab hI ⟨cN hch (nS hc (by decide)),cN hch (nS hc (by decide)),cN hch (nS hc (by decide)),cS hch hc,trivial⟩) e4) ⟨e1.trans k0.symm,(fun h=>h k0),e5,trivial⟩) pe) ⟨by rw[e2];exact e6,trivial⟩) ⟨bO hch e2 le hr,trivial⟩) fun ρ=>?_;rw[hch,e2];exact fin _ ee ρ
  ·have k0:=fun h=>hn (e7.mp h)
   by_cases q:Txt.rfind X NL=-1
   ·rw[decide_eq_true q] at pe ee;refine Turn.mk' (fun _=>xZ) (ab (ab (ab (ab (ab (ab hI ⟨cN hch (nS hc (by decide)),cN hch (nS hc (by decide)),cN hch (nS hc (by decide)),cS hch hc,trivial⟩) e4) ⟨(fun h=>k0 (h.symm.trans e1)),(fun h=>h e1),e5,trivial⟩) pe) ⟨by rw[e2];exact e6,trivial⟩) ⟨bO hch e2 le hr,trivial⟩) fun ρ=>?_;rw[hch,e2];exact fin _ ee ρ
   ·rw[decide_eq_false q] at pe ee;refine Turn.mk' (fun _=>xY) (ab (ab (ab (ab (ab (ab hI ⟨cN hch (nS hc (by decide)),cN hch (nS hc (by decide)),cN hch (nS hc (by decide)),cS hch hc,trivial⟩) e4) ⟨(fun h=>k0 (h.symm.trans e1)),(fun h=>h e1),e5,trivial⟩) pe) ⟨by rw[e2];exact e6,trivial⟩) ⟨bO hch e2 le hr,trivial⟩) fun ρ=>?_;rw[hch,e2];exact fin _ ee ρ
 ·by_cases hn:(aN r).1=[]
  ·have ht:[]=r.takeWhile fun c=>aA ⟨#[c]⟩ ah==true:=hn.symm;have hr2:r≠[]:=fun h=>hd (by rw[h];rfl)
   have hr3:(aN r).2=r:=by
    have h3:=ey (fun c=>aA ⟨#[c]⟩ ah==true) r;rw[<- ht] at h3;exact h3
   refine ag fun G0 hG0=>?_;obtain ⟨e4,e5⟩:=cn hm hz true ah ht hr2;refine hG0 ?_;rw[hn,hr3];exact Turn.mk' (fun _=>CZ) (ab (ab (ab (ab hI ⟨cN hch (nS hc (by decide)),cN hch (nS hc (by decide)),cN hch (nS hc (by decide)),cS hch hc,trivial⟩) e4) e5) ⟨rmZ hch,trivial⟩) fun ρ=>⟨(.ref (ρ 10)),_,_,.inl hm.next,⟨ct,rfl⟩,by rw[hch];rfl⟩
  ·refine ag fun G0 hG0=>?_;obtain ⟨e2,e3,e4,e5,e6⟩:=cI hm hz true ah (t:=(aN r).1) (r':=(aN r).2) rfl rfl hn hd;refine hG0 ?_;generalize (aN r).1=t at *;generalize (aN r).2=r' at *;exact Turn.mk' (fun _=>C0) (ab (ab (ab (ab hI ⟨cN hch (nS hc (by decide)),cN hch (nS hc (by decide)),cN hch (nS hc (by decide)),cS hch hc,trivial⟩) e4) e5) ⟨cO hch e2 e6,trivial⟩) fun ρ=>⟨(.ref (ρ 10)),_,_,.inl e3,⟨ct,rfl⟩,by rw[hch,e2];rfl⟩
theorem B3 (hm:Mid X (xI X) (c::r)) (hz:X.length<=10240) (hI:bc (ba X true)) (h1:¬ c=60) (hc:¬ (c=38\/c=0)) (h2:¬ aO c):Turn (base f (.ptr 10) X x0 304 (.con ct) [] [.meth 148 (.ptr 3)]) true f X ⟨.data,.none,(aQ txL r).2⟩ (some (.text 1 (ao c++mkS (aQ txL r).1))):=by
 have hch:xS _=⟨#[c]⟩:=hm.ch;have hr:X.length<=aa:=rmX hz;have le:=gi hm
 by_cases hd:(aQ txL r).2=[]
 ·refine ag fun G0 hG0=>?_;obtain ⟨pe,ee⟩:=gH hm hr;have ht:r=r.takeWhile fun c=>aA ⟨#[c]⟩ txL==false:=hM _ r hd;have htt:(aQ txL r).1=r:=ht.symm;obtain ⟨e1,e2,e4,e5,e6,e7⟩:=ip hm hz false txL ht;refine hG0 ?_;rw[hd,htt];have fin:∀ (y:Sx),y=br X->∀ ρ:Nat->Addr,After f X ⟨.data,.none,[]⟩ (some (.text 1 (ao c++mkS r))) (base f (.con (.ref (ρ 10))) X y 304 (.con ct) [.ptr 10] [aW 1 (ao c++mkS r)]):=fun y hy ρ=>⟨(.ref (ρ 10)),y,_,.inr ⟨rfl,hy⟩,⟨ct,rfl⟩,rfl⟩
  by_cases hn:r=[]
  ·have k0:=e7.mpr hn
   by_cases q:Txt.rfind X NL=-1
   ·rw[decide_eq_true q] at pe ee;refine Turn.mk' (fun _=>x6) (ab (ab (ab (ab (ab (ab hI ⟨cN hch (nO1 hc),cN hch h1,cN hch (nO2 hc),cNS hch h2,trivial⟩) e4) ⟨e1.trans k0.symm,(fun h=>h k0),e5,trivial⟩) pe) ⟨by rw[e2];exact e6,trivial⟩) ⟨bO hch e2 le hr,trivial⟩) fun ρ=>?_;rw[hch,e2];exact fin _ ee ρ
   ·rw[decide_eq_false q] at pe ee;refine Turn.mk' (fun _=>x5) (ab (ab (ab (ab (ab (ab hI ⟨cN hch (nO1 hc),cN hch h1,cN hch (nO2 hc),cNS hch h2,trivial⟩) e4) ⟨e1.trans k0.symm,(fun h=>h k0),e5,trivial⟩) pe) ⟨by rw[e2];exact e6,trivial⟩) ⟨bO hch e2 le hr,trivial⟩) fun ρ=>?_;rw[hch,e2];exact fin _ ee ρ
  ·have k0:=fun h=>hn (e7.mp h)
   by_cases q:Txt.rfind X NL=-1
   ·rw[decide_eq_true q] at pe ee;refine Turn.mk' (fun _=>x8) (ab (ab (ab (ab (ab (ab hI ⟨cN hch (nO1 hc),cN hch h1,cN hch (nO2 hc),cNS hch h2,trivial⟩) e4) ⟨(fun h=>k0 (h.symm.trans e1)),(fun h=>h e1),e5,trivial⟩) pe) ⟨by rw[e2];exact e6,trivial⟩) ⟨bO hch e2 le hr,trivial⟩) fun ρ=>?_;rw[hch,e2];exact fin _ ee ρ
   ·rw[decide_eq_false q] at pe ee;refine Turn.mk' (fun _=>x7) (ab (ab (ab (ab (ab (ab hI ⟨cN hch (nO1 hc),cN hch h1,cN hch (nO2 hc),cNS hch h2,trivial⟩) e4) ⟨(fun h=>k0 (h.symm.trans e1)),(fun h=>h e1),e5,trivial⟩) pe) ⟨by rw[e2];exact e6,trivial⟩) ⟨bO hch e2 le hr,trivial⟩) fun ρ=>?_;rw[hch,e2];exact fin _ ee ρ
 ·by_cases hn:(aQ txL r).1=[]
  ·have ht:[]=r.takeWhile fun c=>aA ⟨#[c]⟩ txL==false:=hn.symm;have hr2:r≠[]:=fun h=>hd (by rw[h];rfl)
   have hr3:(aQ txL r).2=r:=by
    have h3:=ey (fun c=>aA ⟨#[c]⟩ txL==false) r;rw[<- ht] at h3;exact h3
   refine ag fun G0 hG0=>?_;obtain ⟨e4,e5⟩:=cn hm hz false txL ht hr2;refine hG0 ?_;rw[hn,hr3];exact Turn.mk' (fun _=>C1) (ab (ab (ab (ab hI ⟨cN hch (nO1 hc),cN hch h1,cN hch (nO2 hc),cNS hch h2,trivial⟩) e4) e5) ⟨rmZ hch,trivial⟩) fun ρ=>⟨(.ref (ρ 10)),_,_,.inl hm.next,⟨ct,rfl⟩,by rw[hch];rfl⟩
  ·refine ag fun G0 hG0=>?_;obtain ⟨e2,e3,e4,e5,e6⟩:=cI hm hz false txL (t:=(aQ txL r).1) (r':=(aQ txL r).2) rfl rfl hn hd;refine hG0 ?_;generalize (aQ txL r).1=t at *;generalize (aQ txL r).2=r' at *;exact Turn.mk' (fun _=>C2) (ab (ab (ab (ab hI ⟨cN hch (nO1 hc),cN hch h1,cN hch (nO2 hc),cNS hch h2,trivial⟩) e4) e5) ⟨cO hch e2 e6,trivial⟩) fun ρ=>⟨(.ref (ρ 10)),_,_,.inl e3,⟨ct,rfl⟩,by rw[hch,e2];rfl⟩
theorem B5 (hm:Mid X (xI X) (c::r)) (hz:X.length<=10240) (hI:bc (ba X false)) (hc:c=60):Turn (base f (.ptr 10) X x0 304 (.con ct) [] [.meth 148 (.ptr 3)]) true f X ⟨.tagOpen,.none,r⟩ none:=by
 have hch:xS _=⟨#[c]⟩:=hm.ch;have hr:X.length<=aa:=rmX hz;exact Turn.mk' (fun _=>Gh) (ab hI ⟨cN hch (nE hc (by decide)),cE hch hc,trivial⟩) fun ρ=>⟨(.ref (ρ 10)),_,_,.inl hm.next,⟨ct,rfl⟩,rfl⟩
theorem B4 (hm:Mid X (xI X) (c::r)) (hz:X.length<=10240) (hI:bc (ba X false)) (hc:aO c):Turn (base f (.ptr 10) X x0 304 (.con ct) [] [.meth 148 (.ptr 3)]) true f X ⟨.data,.none,(aN r).2⟩ (some (.text 2 (ao c++mkS (aN r).1))):=by
 have hch:xS _=⟨#[c]⟩:=hm.ch;have hr:X.length<=aa:=rmX hz;have le:=gi hm
 by_cases hd:(aN r).2=[]
 ·refine ag fun G0 hG0=>?_;obtain ⟨pe,ee⟩:=gH hm hr;have ht:r=r.takeWhile fun c=>aA ⟨#[c]⟩ ah==true:=hM _ r hd;have htt:(aN r).1=r:=ht.symm;obtain ⟨e1,e2,e4,e5,e6,e7⟩:=ip hm hz true ah ht;refine hG0 ?_;rw[hd,htt];have fin:∀ (y:Sx),y=br X->∀ ρ:Nat->Addr,After f X ⟨.data,.none,[]⟩ (some (.text 2 (ao c++mkS r))) (base f (.con (.ref (ρ 10))) X y 304 (.con ct) [.ptr 10] [aW 2 (ao c++mkS r)]):=fun y hy ρ=>⟨(.ref (ρ 10)),y,_,.inr ⟨rfl,hy⟩,⟨ct,rfl⟩,rfl⟩
  by_cases hn:r=[]
  ·have k0:=e7.mpr hn
   by_cases q:Txt.rfind X NL=-1
   ·rw[decide_eq_true q] at pe ee;refine Turn.mk' (fun _=>ya) (ab (ab (ab (ab (ab (ab hI ⟨cN hch (nS hc (by decide)),cN hch (nS hc (by decide)),cN hch (nS hc (by decide)),cS hch hc,trivial⟩) e4) ⟨e1.trans k0.symm,(fun h=>h k0),e5,trivial⟩) pe) ⟨by rw[e2];exact e6,trivial⟩) ⟨bO hch e2 le hr,trivial⟩) fun ρ=>?_;rw[hch,e2];exact fin _ ee ρ
   ·rw[decide_eq_false q] at pe ee;refine Turn.mk' (fun _=>x9) (ab (ab (ab (ab (ab (ab hI ⟨cN hch (nS hc (by decide)),cN hch (nS hc (by decide)),cN hch (nS hc (by decide)),cS hch hc,trivial⟩) e4) ⟨e1.trans k0.symm,(fun h=>h k0),e5,trivial⟩) pe) ⟨by rw[e2];exact e6,trivial⟩) ⟨bO hch e2 le hr,trivial⟩) fun ρ=>?_;rw[hch,e2];exact fin _ ee ρ
  ·have k0:=fun h=>hn (e7.mp h)
   by_cases q:Txt.rfind X NL=-1
   ·rw[decide_eq_true q] at pe ee;refine Turn.mk' (fun _=>yc) (ab (ab (ab (ab (ab (ab hI ⟨cN hch (nS hc (by decide)),cN hch (nS hc (by decide)),cN hch (nS hc (by decide)),cS hch hc,trivial⟩) e4) ⟨(fun h=>k0 (h.symm.trans e1)),(fun h=>h e1),e5,trivial⟩) pe) ⟨by rw[e2];exact e6,trivial⟩) ⟨bO hch e2 le hr,trivial⟩) fun ρ=>?_;rw[hch,e2];exact fin _ ee ρ
   ·rw[decide_eq_false q] at pe ee;refine Turn.mk' (fun _=>yb) (ab (ab (ab (ab (ab (ab hI ⟨cN hch (nS hc (by decide)),cN hch (nS hc (by decide)),cN hch (nS hc (by decide)),cS hch hc,trivial⟩) e4) ⟨(fun h=>k0 (h.symm.trans e1)),(fun h=>h e1),e5,trivial⟩) pe) ⟨by rw[e2];exact e6,trivial⟩) ⟨bO hch e2 le hr,trivial⟩) fun ρ=>?_;rw[hch,e2];exact fin _ ee ρ
 ·by_cases hn:(aN r).1=[]
  ·have ht:[]=r.takeWhile fun c=>aA ⟨#[c]⟩ ah==true:=hn.symm;have hr2:r≠[]:=fun h=>hd (by rw[h];rfl)
   have hr3:(aN r).2=r:=by
    have h3:=ey (fun c=>aA ⟨#[c]⟩ ah==true) r;rw[<- ht] at h3;exact h3
   refine ag fun G0 hG0=>?_;obtain ⟨e4,e5⟩:=cn hm hz true ah ht hr2;refine hG0 ?_;rw[hn,hr3];exact Turn.mk' (fun _=>C3) (ab (ab (ab (ab hI ⟨cN hch (nS hc (by decide)),cN hch (nS hc (by decide)),cN hch (nS hc (by decide)),cS hch hc,trivial⟩) e4) e5) ⟨rmZ hch,trivial⟩) fun ρ=>⟨(.ref (ρ 10)),_,_,.inl hm.next,⟨ct,rfl⟩,by rw[hch];rfl⟩
  ·refine ag fun G0 hG0=>?_;obtain ⟨e2,e3,e4,e5,e6⟩:=cI hm hz true ah (t:=(aN r).1) (r':=(aN r).2) rfl rfl hn hd;refine hG0 ?_;generalize (aN r).1=t at *;generalize (aN r).2=r' at *;exact Turn.mk' (fun _=>C4) (ab (ab (ab (ab hI ⟨cN hch (nS hc (by decide)),cN hch (nS hc (by decide)),cN hch (nS hc (by decide)),cS hch hc,trivial⟩) e4) e5) ⟨cO hch e2 e6,trivial⟩) fun ρ=>⟨(.ref (ρ 10)),_,_,.inl e3,⟨ct,rfl⟩,by rw[hch,e2];rfl⟩
theorem B6 (hm:Mid X (xI X) (c::r)) (hz:X.length<=10240) (hI:bc (ba X false)) (h1:¬ c=60) (hc:¬ (c=38\/c=0)) (h2:¬ aO c):Turn (base f (.ptr 10) X x0 304 (.con ct) [] [.meth 148 (.ptr 3)]) true f X ⟨.data,.none,(aQ txL r).2⟩ (some (.text 1 (ao c++mkS (aQ txL r).1))):=by
 have hch:xS _=⟨#[c]⟩:=hm.ch;have hr:X.length<=aa:=rmX hz;have le:=gi hm
 by_cases hd:(aQ txL r).2=[]
 ·refine ag fun G0 hG0=>?_;obtain ⟨pe,ee⟩:=gH hm hr;have ht:r=r.takeWhile fun c=>aA ⟨#[c]⟩ txL==false:=hM _ r hd;have htt:(aQ txL r).1=r:=ht.symm;obtain ⟨e1,e2,e4,e5,e6,e7⟩:=ip hm hz false txL ht;refine hG0 ?_;rw[hd,htt];have fin:∀ (y:Sx),y=br X->∀ ρ:Nat->Addr,After f X ⟨.data,.none,[]⟩ (some (.text 1 (ao c++mkS r))) (base f (.con (.ref (ρ 10))) X y 304 (.con ct) [.ptr 10] [aW 1 (ao c++mkS r)]):=fun y hy ρ=>⟨(.ref (ρ 10)),y,_,.inr ⟨rfl,hy⟩,⟨ct,rfl⟩,rfl⟩
  by_cases hn:r=[]
  ·have k0:=e7.mpr hn
   by_cases q:Txt.rfind X NL=-1
   ·rw[decide_eq_true q] at pe ee;refine Turn.mk' (fun _=>ye) (ab (ab (ab (ab (ab (ab hI ⟨cN hch (nO1 hc),cN hch h1,cN hch (nO2 hc),cNS hch h2,trivial⟩) e4) ⟨e1.trans k0.symm,(fun h=>h k0),e5,trivial⟩) pe) ⟨by rw[e2];exact e6,trivial⟩) ⟨bO hch e2 le hr,trivial⟩) fun ρ=>?_;rw[hch,e2];exact fin _ ee ρ
   ·rw[decide_eq_false q] at pe ee;refine Turn.mk' (fun _=>yd) (ab (ab (ab (ab (ab (ab hI ⟨cN hch (nO1 hc),cN hch h1,cN hch (nO2 hc),cNS hch h2,trivial⟩) e4) ⟨e1.trans k0.symm,(fun h=>h k0),e5,trivial⟩) pe) ⟨by rw[e2];exact e6,trivial⟩) ⟨bO hch e2 le hr,trivial⟩) fun ρ=>?_;rw[hch,e2];exact fin _ ee ρ
  ·have k0:=fun h=>hn (e7.mp h)
   by_cases q:Txt.rfind X NL=-1
   ·rw[decide_eq_true q] at pe ee;refine Turn.mk' (fun _=>yg) (ab (ab (ab (ab (ab (ab hI ⟨cN hch (nO1 hc),cN hch h1,cN hch (nO2 hc),cNS hch h2,trivial⟩) e4) ⟨(fun h=>k0 (h.symm.trans e1)),(fun h=>h e1),e5,trivial⟩) pe) ⟨by rw[e2];exact e6,trivial⟩) ⟨bO hch e2 le hr,trivial⟩) fun ρ=>?_;rw[hch,e2];exact fin _ ee ρ
   ·rw[decide_eq_false q] at pe ee;refine Turn.mk' (fun _=>yf) (ab (ab (ab (ab (ab (ab hI ⟨cN hch (nO1 hc),cN hch h1,cN hch (nO2 hc),cNS hch h2,trivial⟩) e4) ⟨(fun h=>k0 (h.symm.trans e1)),(fun h=>h e1),e5,trivial⟩) pe) ⟨by rw[e2];exact e6,trivial⟩) ⟨bO hch e2 le hr,trivial⟩) fun ρ=>?_;rw[hch,e2];exact fin _ ee ρ
 ·by_cases hn:(aQ txL r).1=[]
  ·have ht:[]=r.takeWhile fun c=>aA ⟨#[c]⟩ txL==false:=hn.symm;have hr2:r≠[]:=fun h=>hd (by rw[h];rfl)
   have hr3:(aQ txL r).2=r:=by
    have h3:=ey (fun c=>aA ⟨#[c]⟩ txL==false) r;rw[<- ht] at h3;exact h3
   refine ag fun G0 hG0=>?_;obtain ⟨e4,e5⟩:=cn hm hz false txL ht hr2;refine hG0 ?_;rw[hn,hr3];exact Turn.mk' (fun _=>C5) (ab (ab (ab (ab hI ⟨cN hch (nO1 hc),cN hch h1,cN hch (nO2 hc),cNS hch h2,trivial⟩) e4) e5) ⟨rmZ hch,trivial⟩) fun ρ=>⟨(.ref (ρ 10)),_,_,.inl hm.next,⟨ct,rfl⟩,by rw[hch];rfl⟩
  ·refine ag fun G0 hG0=>?_;obtain ⟨e2,e3,e4,e5,e6⟩:=cI hm hz false txL (t:=(aQ txL r).1) (r':=(aQ txL r).2) rfl rfl hn hd;refine hG0 ?_;generalize (aQ txL r).1=t at *;generalize (aQ txL r).2=r' at *;exact Turn.mk' (fun _=>C6) (ab (ab (ab (ab hI ⟨cN hch (nO1 hc),cN hch h1,cN hch (nO2 hc),cNS hch h2,trivial⟩) e4) e5) ⟨cO hch e2 e6,trivial⟩) fun ρ=>⟨(.ref (ρ 10)),_,_,.inl e3,⟨ct,rfl⟩,by rw[hch,e2];rfl⟩
theorem FC (hm:Mid X x []) (hz:X.length<=10240):TurnE (base f (.con rc) X x 304 (.con ct) [] []) f X:=by
 have hr:X.length<=aa:=rmX hz;refine ag fun G0 hG0=>?_;obtain ⟨pe,ee⟩:=gH hm hr;have b:=hm.bounds
 have hk:x.k≥x.n:=by
  have b4:=b.2.2.2;have b3:=b.2.2.1;simp only[List.length_nil] at b4;omega
 refine hG0 ?_
 by_cases q:Txt.rfind X NL=-1
 ·rw[decide_eq_true q] at pe ee;refine TurnE.mk' (fun _=>rM) (ab ⟨hk,trivial⟩ pe) fun ρ=>⟨rc,ct,by rw[ee]⟩
 ·rw[decide_eq_false q] at pe ee;refine TurnE.mk' (fun _=>Dv) (ab ⟨hk,trivial⟩ pe) fun ρ=>⟨rc,ct,by rw[ee]⟩
theorem FB (hz:X.length<=10240):TurnE (base f (.con rc) X (br X) 304 (.con ct) [] []) f X:=by
 have hr:X.length<=aa:=rmX hz;obtain ⟨pe,ee⟩:=C8 (X:=X) hr;exact TurnE.mk' (fun _=>rM (x:=br X)) (ab ⟨(show (0:Int)≥0 from Int.le_refl _),trivial⟩ pe) fun ρ=>⟨rc,ct,by rw[ee]⟩
theorem w8 (h0:X.length=0):TurnE (base f (.ptr 10) X x0 304 (.con ct) [] [.meth 148 (.ptr 3)]) f X:=by
 obtain ⟨pe,ee⟩:=CX (X:=X) h0;exact TurnE.mk' (fun _=>Gf) pe fun ρ=>⟨.ref (ρ 10),ct,by rw[ee]⟩
end
end TE
namespace TE
set_option genSizeOf false
set_option genInjectivity false
set_option backward.match.sparseCases false
set_option tactic.hygienic false
noncomputable def lsz:List (Str×Str)->Nat
 | []=>0
 | p::r=>p.1.length+p.2.length+lsz r
noncomputable def csz:Cur->Nat
 | .none=>0
 | .start nm l=>nm.length+lsz l
 | .endt nm=>nm.length
 | .note t=>t.length
noncomputable def stw:St->Nat
 | .cEndDash=>1
 | .cStartDash=>1
 | .cEnd=>2
 | _=>0
theorem re:∀ {l r:List (Str×Str)},lsz (l++r)=lsz l+lsz r
 | [],r=>(Nat.zero_add _).symm
 | p::l,r=>by rw[List.cons_append,lsz,lsz,re];exact (Nat.add_assoc _ _ _).symm
theorem jZ {f:Str×Str->Str×Str} {k:Nat} (h:∀ p,(f p).1.length+(f p).2.length<=p.1.length+p.2.length+k):∀ {l:List (Str×Str)},lsz (bT f l)<=lsz l+k
 | []=>Qu _
 | [p]=>h p
 | p::q::r=>Qf (Nat.add_le_add_left (jZ h (l:=q::r)) _) (Nat.le_of_eq (Nat.add_assoc _ _ _).symm)
theorem gG (p:Nat->Bool) (r:List Nat):(mkS (r.takeWhile p)).length+(r.dropWhile p).length=r.length:=by
 rw[eH,<- List.length_append,List.takeWhile_append_dropWhile]
theorem AC (x:Str):(ac x).length=x.length:=by
 show (x.cps.toList.map bS).toArray.size=x.cps.size;simp
noncomputable def gk:Cur->Tok->Prop
 | .none,_=>True
 | .note _,.err=>True
 | _,_=>False
noncomputable def ctC (cur:Cur) (ct:AV):Prop:=match cur with
 | .none=>∃ v,ct=.con v
 | _=>ct=.ptr 10
structure Cx (c:Nat) (r:List Nat) where
 X:Str
 x:Sx
 f:Fx
 rc:Value
 hm:Mid X x (c::r)
 hz:X.length<=10240
noncomputable def Pt (cur:Cur) (Q:AV->Prop):Prop:=match cur with
 | .none=>∀ v,Q (.con v)
 | _=>Q (.ptr 10)
theorem Pt.at {cur:Cur} {Q:AV->Prop} {ct:AV} (h:Pt cur Q) (hc:ctC cur ct):Q ct:=by
 cases cur with
 | none=>obtain ⟨v,rfl⟩:=hc;exact h v
 | _=>exact (show ct=.ptr 10 from hc)▸h
noncomputable def G9 (cur:Cur) (o:Option Tok):Prop:=match o with
 | some t=>gk cur t
 | none=>True
structure Step (c:Nat) (r:List Nat) (st:St) (cur:Cur) (ms':MS) (out:Option Tok):Prop where
 size:csz ms'.cur+ms'.rest.length+stw ms'.st<=csz cur+(r.length+1)+stw st
 tok:G9 ms'.cur out
 turn:∀ G:Cx c r,csz cur<=1000->Pt cur fun ct=>Turn (base G.f (.con G.rc) G.X G.x st.addr ct [] (aK cur)) true G.f G.X ms' out
theorem nU {α:Type} {a b c d:α} {l:List α}:¬ ((a::b::c::d::l).length<=3):=by simp only[List.length_cons];simp
noncomputable def TS {c:Nat} {r:List Nat} (G:Cx c r) (st:St) (nm:Str) (l:List (Str×Str)) (ms':MS) (out:Option Tok):Prop:=Turn (base G.f (.con G.rc) G.X G.x st.addr (.ptr 10) [] (ai nm l)) true G.f G.X ms' out
section
variable {C:List (Str×Str)->Prop} {p:Str×Str} {l:List (Str×Str)}
theorem kH (hl:l.length<=3) (h0:C []) (h1:∀ a b,C [(a,b)]) (h2:∀ a b c d,C [(a,b),(c,d)]) (h3:∀ a b c d e g,C [(a,b),(c,d),(e,g)]):C l :=
 match l,hl with
 | [],_=>h0
 | [_],_=>h1 _ _
 | [_,_],_=>h2 _ _ _ _
 | [_,_,_],_=>h3 _ _ _ _ _ _
 | _::_::_::_::l,h=>absurd h nU
theorem t0 (hl:l.length<=2) (h0:C []) (h1:∀ a b,C [(a,b)]) (h2:∀ a b c d,C [(a,b),(c,d)]):C l :=
 kH (C:=fun l=>l.length<=2->C l) (Nat.le_succ_of_le hl) (fun _=>h0) (fun a b _=>h1 a b) (fun a b c d _=>h2 a b c d) (fun _ _ _ _ _ _ h=>absurd h (Nat.not_succ_le_self 2)) hl
theorem cb (hl:¬ 3<=l.length) (h1:∀ a b,C [(a,b)]) (h2:∀ a b c d,C [(a,b),(c,d)]) (h3:∀ a b c d e g,C [(a,b),(c,d),(e,g)]):C (p::l) :=
 kH (C:=fun l=>l≠[]->C l) (Nat.not_le.mp hl) (fun h=>absurd rfl h) (fun a b _=>h1 a b) (fun a b c d _=>h2 a b c d) (fun a b c d e g _=>h3 a b c d e g) (List.cons_ne_nil _ _)
theorem GC (hl:l.length<=1) (h1:∀ a b,C [(a,b)]) (h2:∀ a b c d,C [(a,b),(c,d)]):C (p::l) :=
 t0 (C:=fun l=>l≠[]->C l) (Nat.succ_le_succ hl) (fun h=>absurd rfl h) (fun a b _=>h1 a b) (fun a b c d _=>h2 a b c d) (List.cons_ne_nil _ _)
end
theorem eB {p:Nat->Bool} {r:List Nat} {C:List Nat->List Nat->Prop} (hd:r.dropWhile p≠[]) (hA:r.takeWhile p≠[]->C (r.takeWhile p) (r.dropWhile p)) (hZ:[]=r.takeWhile p->r≠[]->C [] r):C (r.takeWhile p) (r.dropWhile p):=by
 by_cases q:r.takeWhile p=[]
 ·have e:=ey p r;rw[q] at e;have e:r.dropWhile p=r:=e;rw[q,e];exact hZ q.symm (e▸hd)
 ·exact hA q
theorem ja {r:List Nat} (q:(aN r).1=[]):([]=r.takeWhile fun c=>aA ⟨#[c]⟩ ah==true)/\(aN r).2=r:=by
 have e:(aN r).1++(aN r).2=r:=ey _ r;rw[q] at e;exact ⟨q.symm,e⟩
theorem gT {b:Bool} (h:(!b)=true):b=false:=by cases b<;>first | rfl | exact nomatch h
theorem fr2 {a1 b1 a2 b2:Str} (h:fresh [(a1,b1),(a2,b2)]=true):¬ (ac a2=a1):=(ck _ _).mp (gT h)
theorem fr3 {a1 b1 a2 b2 a3 b3:Str} (h:fresh [(a1,b1),(a2,b2),(a3,b3)]=true):¬ (ac a3=a1)/\¬ (ac a3=a2):=by
 obtain ⟨h1,h2⟩:=Qx (show (!seq (ac a3) a1&&!seq (ac a3) a2)=true from h);exact ⟨(ck _ _).mp (gT h1),(ck _ _).mp (gT h2)⟩
theorem nd1 {a1 b1:Str} (h:ci [(a1,b1)]=true):[a1].Nodup:=by simp
theorem nd2 {a1 b1 a2 b2:Str} (h:ci [(a1,b1),(a2,b2)]=true):[a1,a2].Nodup:=by
 have:=(ck _ _).mp (gT (show (!seq a1 a2)=true from h));simp[this]
theorem nd3 {a1 b1 a2 b2 a3 b3:Str} (h:ci [(a1,b1),(a2,b2),(a3,b3)]=true):[a1,a2,a3].Nodup:=by
 obtain ⟨h,h3⟩:=Qx (show (!seq a1 a2&&!seq a1 a3&&!seq a2 a3)=true from h);obtain ⟨h1,h2⟩:=Qx h;have g1:=(ck _ _).mp (gT h1);have g2:=(ck _ _).mp (gT h2);have g3:=(ck _ _).mp (gT h3);simp[g1,g2,g3]
theorem Bc {l:List (Str×Str)} (h:ci l=true):l.length<=3:=by
 match l,h with
 | [],_=>exact Qu _
 | [_],_=>exact Nat.le_add_left 1 2
 | [_,_],_=>exact Nat.le_succ 2
 | [_,_,_],_=>exact Qa _
 | _::_::_::_::_,h=>cases h
section
variable {nm a b c d e g:Str} {l:List (Str×Str)}
theorem szN (h:csz (.start nm l)<=1000):nm.length<=1000:=Qf (Nat.le_add_right _ _) h
theorem szL (h:csz (.start nm l)<=1000):lsz l<=1000:=Qf (Nat.le_add_left _ _) h
theorem szP {p:Str×Str} (h:lsz (p::l)<=1000):p.1.length<=1000/\p.2.length<=1000/\lsz l<=1000:=by
 have h:p.1.length+p.2.length+lsz l<=1000:=h;lia
theorem em (h:csz (.start nm [(a,b)])<=1000):a.length<=1000:=(szP (szL h)).1
theorem eg (h:csz (.start nm [(a,b)])<=1000):b.length<=1000:=(szP (szL h)).2.1
theorem el (h:csz (.start nm [(a,b),(c,d)])<=1000):c.length<=1000:=(szP (szP (szL h)).2.2).1
theorem ef (h:csz (.start nm [(a,b),(c,d)])<=1000):d.length<=1000:=(szP (szP (szL h)).2.2).2.1
theorem eh (h:csz (.start nm [(a,b),(c,d),(e,g)])<=1000):e.length<=1000:=(szP (szP (szP (szL h)).2.2).2.2).1
theorem ed (h:csz (.start nm [(a,b),(c,d),(e,g)])<=1000):g.length<=1000:=(szP (szP (szP (szL h)).2.2).2.2).2.1
end
section
variable {a a' n n' t k:Nat}
theorem GN:0+n+0<=0+((n+1)+1)+0:=by exact Qk (Qk (Qd (Qt (0+n+0).succ) (Qt (0+n+1))))
theorem df:a+n+0<=a+(n+1)+k:=by lia
theorem eu (h:a'<=a+1):a'+n+0<=a+(n+1)+k:=by lia
theorem gX (h:a'<=a+(1+t)) (e:t+n'=n):a'+n'+0<=a+(n+1)+k:=by lia
theorem gw:0+n+0<=a+(n+1)+k:=by lia
theorem fV {m:Nat} (h:a'<=a+k):m+a'<=m+a+k:=Qf (Nat.add_le_add_left h m) (Nat.le_of_eq (Nat.add_assoc _ _ _).symm)
theorem GP (e:a'=a+2):a'+n+0<=a+(n+1)+1:=by lia
theorem GO (e:a'=a+3):a'+n+0<=a+(n+1)+2:=by lia
end
theorem tZ (x:Str) (l:List (Str×Str)):lsz (bT (fun q=>(q.1++x,q.2)) l)<=lsz l+x.length:=jZ fun p=>by show (p.1++x).length+p.2.length<=_;rw[bM];lia
theorem tY (x:Str) (l:List (Str×Str)):lsz (bT (fun q=>(q.1,q.2++x)) l)<=lsz l+x.length:=jZ fun p=>by show p.1.length+(p.2++x).length<=_;rw[bM];lia
theorem mM (c:Nat) (x:Str):(ao c++x).length=1+x.length:=bM _ _
theorem sA (l:List (Str×Str)):lsz (cq l)<=lsz l+1:=jZ fun p=>by show (ac p.1).length+p.2.length<=_;rw[AC];exact Nat.le_succ _
theorem sV (c:Nat) (l:List (Str×Str)):lsz (l++[(ao c,⟨#[]⟩)])<=lsz l+1:=Nat.le_of_eq re
theorem FE (c:Nat) (x:Str) (l:List (Str×Str)):lsz (bT (fun q=>(q.1++(ao c++x),q.2)) l)<=lsz l+(1+x.length):=mM c x▸tZ _ _
theorem sZ (c:Nat) (x:Str) (l:List (Str×Str)):lsz (bT (fun q=>(q.1,q.2++(ao c++x))) l)<=lsz l+(1+x.length):=mM c x▸tY _ _
theorem GH (c:Nat) (x y:Str):(y++(ao c++x)).length<=y.length+(1+x.length):=Nat.le_of_eq ((bM _ _).trans (congrArg _ (mM _ _)))
section
variable {k:Nat} {r:List Nat} {nm t:Str} {p:Str×Str} {l:List (Str×Str)}
theorem Step.d_lt (q1:k=60):Step k r .data .none ⟨.tagOpen,.none,r⟩ none:=⟨df,trivial,fun G hs _=>DU G.hm G.hz q1⟩
theorem Step.d_sp (q1:aO k):Step k r .data .none ⟨.data,.none,(aN r).2⟩ (some (.text 2 (ao k++mkS (aN r).1))):=⟨gX (Qu _) (gG _ r),trivial,fun G hs _=>DT G.hm G.hz q1⟩
theorem Step.d_ch (q1:¬ k=60) (q2:¬ (k=38\/k=0)) (q3:¬ aO k):Step k r .data .none ⟨.data,.none,(aQ txL r).2⟩ (some (.text 1 (ao k++mkS (aQ txL r).1))):=⟨gX (Qu _) (gG _ r),trivial,fun G hs _=>DV G.hm G.hz q1 q2 q3⟩
theorem Step.to_bang (q1:k=33):Step k r .tagOpen .none ⟨.markup,.none,r⟩ none:=⟨df,trivial,fun G hs _=>wR G.hm G.hz q1⟩
theorem Step.to_slash (q1:k=47):Step k r .tagOpen .none ⟨.close,.none,r⟩ none:=⟨df,trivial,fun G hs _=>vH G.hm G.hz q1⟩
theorem Step.to_letter (q1:aS k):Step k r .tagOpen .none ⟨.tagName,.start (ao k) [],r⟩ none:=⟨eu (Qa 1),trivial,fun G hs _=>uY G.hm G.hz q1⟩
theorem Step.cl_letter (q1:aS k):Step k r .close .none ⟨.tagName,.endt (ao k),r⟩ none:=⟨eu (Qa 1),trivial,fun G hs _=>uZ G.hm G.hz q1⟩
theorem Step.ts_sp (q1:aO k):Step k r .tagName (.start nm []) ⟨.befAN,.start nm [],r⟩ none:=⟨df,trivial,fun G hs=>wT G.hm G.hz q1⟩
theorem Step.ts_gt (q1:k=62):Step k r .tagName (.start nm []) ⟨.data,.none,r⟩ (some (.start (ac nm) [] false)):=⟨gw,trivial,fun G hs=>wU G.hm G.hz (szN hs) q1⟩
theorem Step.ts_ch (q1:¬ aO k) (q2:¬ k=62) (q3:¬ (k=47\/k=0)):Step k r .tagName (.start nm []) ⟨.tagName,.start (nm++ao k) [],r⟩ none:=⟨eu (Nat.le_of_eq (bM _ _)),trivial,fun G hs=>wV G.hm G.hz (szN hs) q1 q2 q3⟩
theorem Step.te_sp (q1:aO k):Step k r .tagName (.endt nm) ⟨.befAN,.endt nm,r⟩ none:=⟨df,trivial,fun G hs=>wW G.hm G.hz q1⟩
theorem Step.te_gt (q1:k=62):Step k r .tagName (.endt nm) ⟨.data,.none,r⟩ (some (.endt (ac nm))):=⟨gw,trivial,fun G hs=>wX G.hm G.hz hs q1⟩
theorem Step.te_ch (q1:¬ aO k) (q2:¬ k=62) (q3:¬ (k=47\/k=0)):Step k r .tagName (.endt nm) ⟨.tagName,.endt (nm++ao k),r⟩ none:=⟨eu (Nat.le_of_eq (bM _ _)),trivial,fun G hs=>wY G.hm G.hz hs q1 q2 q3⟩
theorem Step.ba_gt (q1:k=62):Step k r .befAN (.endt nm) ⟨.data,.none,r⟩ (some (.endt (ac nm))):=⟨gw,trivial,fun G hs=>xi G.hm G.hz hs q1⟩
theorem Step.ba_sl (q1:k=47) (q2:l.length<=3):Step k r .befAN (.start nm l) ⟨.selfC,.start nm l,r⟩ none:=⟨df,trivial,fun G hs=>kH (C:=fun l=>csz (.start nm l)<=1000->TS G St.befAN nm l ⟨.selfC,.start nm l,r⟩ none) q2 (fun hs=>u9 G.hm G.hz q1) (fun a b=>fun hs=>u8 G.hm G.hz q1) (fun a b c d=>fun hs=>u7 G.hm G.hz q1) (fun a b c d e g=>fun hs=>u0 G.hm G.hz q1) hs⟩
theorem Step.ba_le (q1:aS k) (q2:l.length<=2):Step k r .befAN (.start nm l) ⟨.attrN,.start nm (l++[(ao k,⟨#[]⟩)]),r⟩ none:=⟨eu (fV (sV _ _)),trivial,fun G hs=>t0 (C:=fun l=>csz (.start nm l)<=1000->TS G St.befAN nm l ⟨.attrN,.start nm (l++[(ao k,(⟨#[]⟩:Str))]),r⟩ none) q2 (fun hs=>uz G.hm G.hz q1) (fun a b=>fun hs=>uy G.hm G.hz q1) (fun a b c d=>fun hs=>ux G.hm G.hz q1) hs⟩
theorem Step.sc_gt (q1:k=62) (q2:ci l=true):Step k r .selfC (.start nm l) ⟨.data,.none,r⟩ (some (.start (ac nm) l true)):=⟨gw,trivial,fun G hs=>kH (C:=fun l=>csz (.start nm l)<=1000->ci l=true->TS G St.selfC nm l ⟨.data,.none,r⟩ (some (.start (ac nm) l true))) (Bc q2) (fun hs d=>ze G.hm G.hz (szN hs) q1 List.nodup_nil) (fun a b=>fun hs d=>zd G.hm G.hz (szN hs) q1 (nd1 d)) (fun a b c d=>fun hs d=>zc G.hm G.hz (szN hs) q1 (nd2 d)) (fun a b c d e g=>fun hs d=>zb G.hm G.hz (szN hs) q1 (nd3 d)) hs q2⟩
theorem Step.an_eq (q1:¬ 3<=l.length) (q2:k=61) (q3:fresh (p::l)=true):Step k r .attrN (.start nm (p::l)) ⟨.befAV,.start nm (cq (p::l)),r⟩ none:=⟨eu (fV (sA _)),trivial,fun G hs=>cb (C:=fun l=>csz (.start nm l)<=1000->fresh l=true->TS G St.attrN nm l ⟨.befAV,.start nm (cq l),r⟩ none) q1 (fun a b=>fun hs g=>zH G.hm G.hz (szN hs) (em hs) (eg hs) q2) (fun a b c d=>fun hs g=>zG G.hm G.hz (szN hs) (el hs) (ef hs) q2 (fr2 g)) (fun a b c d e g=>fun hs g=>zF G.hm G.hz (szN hs) (eh hs) (ed hs) q2 (fr3 g).1 (fr3 g).2) hs q3⟩
theorem Step.an_le (q1:¬ 3<=l.length) (q2:aS k) (q3:(iu r).2≠[]):Step k r .attrN (.start nm (p::l)) ⟨.attrN,.start nm (bT (fun q=>(q.1++(ao k++mkS (iu r).1),q.2)) (p::l)),(iu r).2⟩ none:=⟨gX (fV (FE _ _ _)) (gG _ r),trivial,fun G hs=>cb (C:=fun l=>csz (.start nm l)<=1000->TS G St.attrN nm l ⟨.attrN,.start nm (bT (fun q=>(q.1++(ao k++mkS (iu r).1),q.2)) l),(iu r).2⟩ none) q1 (fun a b=>fun hs=>eB (C:=fun t r'=>TS G .attrN nm [(a,b)] ⟨.attrN,.start nm [(a++(ao k++mkS t),b)],r'⟩ none) q3 (fun h1=>ut G.hm G.hz (szN hs) (em hs) (eg hs) q2 rfl rfl h1 q3) fun h1 h2=>ur G.hm G.hz (szN hs) (em hs) (eg hs) q2 h1 h2) (fun a b c d=>fun hs=>eB (C:=fun t r'=>TS G .attrN nm [(a,b),(c,d)] ⟨.attrN,.start nm [(a,b),(c++(ao k++mkS t),d)],r'⟩ none) q3 (fun h1=>uo G.hm G.hz (szN hs) (el hs) (ef hs) q2 rfl rfl h1 q3) fun h1 h2=>un G.hm G.hz (szN hs) (el hs) (ef hs) q2 h1 h2) (fun a b c d e g=>fun hs=>eB (C:=fun t r'=>TS G .attrN nm [(a,b),(c,d),(e,g)] ⟨.attrN,.start nm [(a,b),(c,d),(e++(ao k++mkS t),g)],r'⟩ none) q3 (fun h1=>um G.hm G.hz (szN hs) (eh hs) (ed hs) q2 rfl rfl h1 q3) fun h1 h2=>ul G.hm G.hz (szN hs) (eh hs) (ed hs) q2 h1 h2) hs⟩
theorem Step.an_gt (q1:¬ 3<=l.length) (q2:k=62) (q3:fresh (p::l)=true) (q4:ci (cq (p::l))=true):Step k r .attrN (.start nm (p::l)) ⟨.data,.none,r⟩ (some (.start (ac nm) (cq (p::l)) false)):=⟨gw,trivial,fun G hs=>cb (C:=fun l=>csz (.start nm l)<=1000->fresh l=true->ci (cq l)=true->TS G St.attrN nm l ⟨.data,.none,r⟩ (some (.start (ac nm) (cq l) false))) q1 (fun a b=>fun hs g d=>zE G.hm G.hz (szN hs) (em hs) (eg hs) q2 (nd1 d)) (fun a b c d=>fun hs g d=>zD G.hm G.hz (szN hs) (el hs) (ef hs) q2 (fr2 g) (nd2 d)) (fun a b c d e g=>fun hs g d=>zC G.hm G.hz (szN hs) (eh hs) (ed hs) q2 (fr3 g).1 (fr3 g).2 (nd3 d)) hs q3 q4⟩
theorem Step.an_sp (q1:¬ 3<=l.length) (q2:aO k) (q3:fresh (p::l)=true):Step k r .attrN (.start nm (p::l)) ⟨.aftAN,.start nm (cq (p::l)),r⟩ none:=⟨eu (fV (sA _)),trivial,fun G hs=>cb (C:=fun l=>csz (.start nm l)<=1000->fresh l=true->TS G St.attrN nm l ⟨.aftAN,.start nm (cq l),r⟩ none) q1 (fun a b=>fun hs g=>zB G.hm G.hz (szN hs) (em hs) (eg hs) q2) (fun a b c d=>fun hs g=>zA G.hm G.hz (szN hs) (el hs) (ef hs) q2 (fr2 g)) (fun a b c d e g=>fun hs g=>zy G.hm G.hz (szN hs) (eh hs) (ed hs) q2 (fr3 g).1 (fr3 g).2) hs q3⟩
theorem Step.an_ch (q1:¬ 3<=l.length) (q2:k=45):Step k r .attrN (.start nm (p::l)) ⟨.attrN,.start nm (bT (fun q=>(q.1++ao k,q.2)) (p::l)),r⟩ none:=⟨eu (fV (tZ _ _)),trivial,fun G hs=>cb (C:=fun l=>csz (.start nm l)<=1000->TS G St.attrN nm l ⟨.attrN,.start nm (bT (fun q=>(q.1++ao k,q.2)) l),r⟩ none) q1 (fun a b=>fun hs=>zK G.hm G.hz (szN hs) (em hs) (eg hs) q2) (fun a b c d=>fun hs=>zJ G.hm G.hz (szN hs) (el hs) (ef hs) q2) (fun a b c d e g=>fun hs=>zI G.hm G.hz (szN hs) (eh hs) (ed hs) q2) hs⟩
theorem Step.aa_eq (q1:¬ 3<=l.length) (q2:k=61):Step k r .aftAN (.start nm (p::l)) ⟨.befAV,.start nm (p::l),r⟩ none:=⟨df,trivial,fun G hs=>cb (C:=fun l=>csz (.start nm l)<=1000->TS G St.aftAN nm l ⟨.befAV,.start nm l,r⟩ none) q1 (fun a b=>fun hs=>zN G.hm G.hz q2) (fun a b c d=>fun hs=>zM G.hm G.hz q2) (fun a b c d e g=>fun hs=>zL G.hm G.hz q2) hs⟩
theorem Step.aa_sl (q1:¬ 3<=l.length) (q2:k=47):Step k r .aftAN (.start nm (p::l)) ⟨.selfC,.start nm (p::l),r⟩ none:=⟨df,trivial,fun G hs=>cb (C:=fun l=>csz (.start nm l)<=1000->TS G St.aftAN nm l ⟨.selfC,.start nm l,r⟩ none) q1 (fun a b=>fun hs=>ve G.hm G.hz q2) (fun a b c d=>fun hs=>vc G.hm G.hz q2) (fun a b c d e g=>fun hs=>vb G.hm G.hz q2) hs⟩
theorem Step.aa_le (q1:aS k) (q2:l.length<=1):Step k r .aftAN (.start nm (p::l)) ⟨.attrN,.start nm (p::l++[(ao k,⟨#[]⟩)]),r⟩ none:=⟨eu (fV (sV _ _)),trivial,fun G hs=>GC (C:=fun l=>csz (.start nm l)<=1000->TS G St.aftAN nm l ⟨.attrN,.start nm (l++[(ao k,(⟨#[]⟩:Str))]),r⟩ none) q2 (fun a b=>fun hs=>uB G.hm G.hz q1) (fun a b c d=>fun hs=>uA G.hm G.hz q1) hs⟩
theorem Step.bv_sp (q1:¬ 3<=l.length) (q2:aO k) (q3:(aN r).1=[]) (q4:(aN r).2≠[]):Step k r .befAV (.start nm (p::l)) ⟨.befAV,.start nm (p::l),(aN r).2⟩ none:=⟨gX (Nat.le_add_right _ _) (gG _ r),trivial,fun G hs=>by rw[(ja q3).2];have q6:r≠[]:=(ja q3).2▸q4;exact cb (C:=fun l=>csz (.start nm l)<=1000->TS G St.befAV nm l ⟨.befAV,.start nm l,r⟩ none) q1 (fun a b=>fun hs=>zk G.hm G.hz q2 (ja q3).1 q6) (fun a b c d=>fun hs=>zj G.hm G.hz q2 (ja q3).1 q6) (fun a b c d e g=>fun hs=>zi G.hm G.hz q2 (ja q3).1 q6) hs⟩
theorem Step.bv_dq (q1:¬ 3<=l.length) (q2:k=34):Step k r .befAV (.start nm (p::l)) ⟨.dq,.start nm (p::l),r⟩ none:=⟨df,trivial,fun G hs=>cb (C:=fun l=>csz (.start nm l)<=1000->TS G St.befAV nm l ⟨.dq,.start nm l,r⟩ none) q1 (fun a b=>fun hs=>zn G.hm G.hz q2) (fun a b c d=>fun hs=>zm G.hm G.hz q2) (fun a b c d e g=>fun hs=>zl G.hm G.hz q2) hs⟩
theorem Step.bv_sq (q1:¬ 3<=l.length) (q2:k=39):Step k r .befAV (.start nm (p::l)) ⟨.sq,.start nm (p::l),r⟩ none:=⟨df,trivial,fun G hs=>cb (C:=fun l=>csz (.start nm l)<=1000->TS G St.befAV nm l ⟨.sq,.start nm l,r⟩ none) q1 (fun a b=>fun hs=>zh G.hm G.hz q2) (fun a b c d=>fun hs=>zg G.hm G.hz q2) (fun a b c d e g=>fun hs=>zf G.hm G.hz q2) hs⟩
theorem Step.bv_le (q1:¬ 3<=l.length) (q2:aS k):Step k r .befAV (.start nm (p::l)) ⟨.uq,.start nm (bT (fun q=>(q.1,q.2++ao k)) (p::l)),r⟩ none:=⟨eu (fV (tY _ _)),trivial,fun G hs=>cb (C:=fun l=>csz (.start nm l)<=1000->TS G St.befAV nm l ⟨.uq,.start nm (bT (fun q=>(q.1,q.2++ao k)) l),r⟩ none) q1 (fun a b=>fun hs=>zq G.hm G.hz (szN hs) (em hs) (eg hs) q2) (fun a b c d=>fun hs=>zp G.hm G.hz (szN hs) (el hs) (ef hs) q2) (fun a b c d e g=>fun hs=>zo G.hm G.hz (szN hs) (eh hs) (ed hs) q2) hs⟩
theorem Step.dq_end (q1:¬ 3<=l.length) (q2:k=34):Step k r .dq (.start nm (p::l)) ⟨.aftAV,.start nm (p::l),r⟩ none:=⟨df,trivial,fun G hs=>cb (C:=fun l=>csz (.start nm l)<=1000->TS G St.dq nm l ⟨.aftAV,.start nm l,r⟩ none) q1 (fun a b=>fun hs=>xb G.hm G.hz q2) (fun a b c d=>fun hs=>xa G.hm G.hz q2) (fun a b c d e g=>fun hs=>w9 G.hm G.hz q2) hs⟩
theorem Step.dq_ch (q1:¬ 3<=l.length) (q2:¬ k=34) (q3:¬ (k=38\/k=0)) (q4:(aQ dqL r).2≠[]):Step k r .dq (.start nm (p::l)) ⟨.dq,.start nm (bT (fun q=>(q.1,q.2++(ao k++mkS (aQ dqL r).1))) (p::l)),(aQ dqL r).2⟩ none:=⟨gX (fV (sZ _ _ _)) (gG _ r),trivial,fun G hs=>cb (C:=fun l=>csz (.start nm l)<=1000->TS G St.dq nm l ⟨.dq,.start nm (bT (fun q=>(q.1,q.2++(ao k++mkS (aQ dqL r).1))) l),(aQ dqL r).2⟩ none) q1 (fun a b=>fun hs=>eB (C:=fun t r'=>TS G .dq nm [(a,b)] ⟨.dq,.start nm [(a,b++(ao k++mkS t))],r'⟩ none) q4 (fun h1=>vT G.hm G.hz (szN hs) (em hs) (eg hs) q2 q3 rfl rfl h1 q4) fun h1 h2=>vS G.hm G.hz (szN hs) (em hs) (eg hs) q2 q3 h1 h2) (fun a b c d=>fun hs=>eB (C:=fun t r'=>TS G .dq nm [(a,b),(c,d)] ⟨.dq,.start nm [(a,b),(c,d++(ao k++mkS t))],r'⟩ none) q4 (fun h1=>vR G.hm G.hz (szN hs) (el hs) (ef hs) q2 q3 rfl rfl h1 q4) fun h1 h2=>vQ G.hm G.hz (szN hs) (el hs) (ef hs) q2 q3 h1 h2) (fun a b c d e g=>fun hs=>eB (C:=fun t r'=>TS G .dq nm [(a,b),(c,d),(e,g)] ⟨.dq,.start nm [(a,b),(c,d),(e,g++(ao k++mkS t))],r'⟩ none) q4 (fun h1=>vP G.hm G.hz (szN hs) (eh hs) (ed hs) q2 q3 rfl rfl h1 q4) fun h1 h2=>vO G.hm G.hz (szN hs) (eh hs) (ed hs) q2 q3 h1 h2) hs⟩
theorem Step.sq_end (q1:¬ 3<=l.length) (q2:k=39):Step k r .sq (.start nm (p::l)) ⟨.aftAV,.start nm (p::l),r⟩ none:=⟨df,trivial,fun G hs=>cb (C:=fun l=>csz (.start nm l)<=1000->TS G St.sq nm l ⟨.aftAV,.start nm l,r⟩ none) q1 (fun a b=>fun hs=>w6 G.hm G.hz q2) (fun a b c d=>fun hs=>w0 G.hm G.hz q2) (fun a b c d e g=>fun hs=>wZ G.hm G.hz q2) hs⟩
theorem Step.sq_ch (q1:¬ 3<=l.length) (q2:¬ k=39) (q3:¬ (k=38\/k=0)) (q4:(aQ sqL r).2≠[]):Step k r .sq (.start nm (p::l)) ⟨.sq,.start nm (bT (fun q=>(q.1,q.2++(ao k++mkS (aQ sqL r).1))) (p::l)),(aQ sqL r).2⟩ none:=⟨gX (fV (sZ _ _ _)) (gG _ r),trivial,fun G hs=>cb (C:=fun l=>csz (.start nm l)<=1000->TS G St.sq nm l ⟨.sq,.start nm (bT (fun q=>(q.1,q.2++(ao k++mkS (aQ sqL r).1))) l),(aQ sqL r).2⟩ none) q1 (fun a b=>fun hs=>eB (C:=fun t r'=>TS G .sq nm [(a,b)] ⟨.sq,.start nm [(a,b++(ao k++mkS t))],r'⟩ none) q4 (fun h1=>vN G.hm G.hz (szN hs) (em hs) (eg hs) q2 q3 rfl rfl h1 q4) fun h1 h2=>vM G.hm G.hz (szN hs) (em hs) (eg hs) q2 q3 h1 h2) (fun a b c d=>fun hs=>eB (C:=fun t r'=>TS G .sq nm [(a,b),(c,d)] ⟨.sq,.start nm [(a,b),(c,d++(ao k++mkS t))],r'⟩ none) q4 (fun h1=>vL G.hm G.hz (szN hs) (el hs) (ef hs) q2 q3 rfl rfl h1 q4) fun h1 h2=>vK G.hm G.hz (szN hs) (el hs) (ef hs) q2 q3 h1 h2) (fun a b c d e g=>fun hs=>eB (C:=fun t r'=>TS G .sq nm [(a,b),(c,d),(e,g)] ⟨.sq,.start nm [(a,b),(c,d),(e,g++(ao k++mkS t))],r'⟩ none) q4 (fun h1=>vJ G.hm G.hz (szN hs) (eh hs) (ed hs) q2 q3 rfl rfl h1 q4) fun h1 h2=>vI G.hm G.hz (szN hs) (eh hs) (ed hs) q2 q3 h1 h2) hs⟩
theorem Step.uq_sp (q1:¬ 3<=l.length) (q2:aO k):Step k r .uq (.start nm (p::l)) ⟨.befAN,.start nm (p::l),r⟩ none:=⟨df,trivial,fun G hs=>cb (C:=fun l=>csz (.start nm l)<=1000->TS G St.uq nm l ⟨.befAN,.start nm l,r⟩ none) q1 (fun a b=>fun hs=>y7 G.hm G.hz q2) (fun a b c d=>fun hs=>y6 G.hm G.hz q2) (fun a b c d e g=>fun hs=>yZ G.hm G.hz q2) hs⟩
theorem Step.uq_gt (q1:¬ 3<=l.length) (q2:k=62) (q3:ci (p::l)=true):Step k r .uq (.start nm (p::l)) ⟨.data,.none,r⟩ (some (.start (ac nm) (p::l) false)):=⟨gw,trivial,fun G hs=>cb (C:=fun l=>csz (.start nm l)<=1000->ci l=true->TS G St.uq nm l ⟨.data,.none,r⟩ (some (.start (ac nm) l false))) q1 (fun a b=>fun hs d=>za G.hm G.hz (szN hs) q2 (nd1 d)) (fun a b c d=>fun hs d=>y9 G.hm G.hz (szN hs) q2 (nd2 d)) (fun a b c d e g=>fun hs d=>y8 G.hm G.hz (szN hs) q2 (nd3 d)) hs q3⟩
theorem Step.av_sp (q1:¬ 3<=l.length) (q2:aO k):Step k r .aftAV (.start nm (p::l)) ⟨.befAN,.start nm (p::l),r⟩ none:=⟨df,trivial,fun G hs=>cb (C:=fun l=>csz (.start nm l)<=1000->TS G St.aftAV nm l ⟨.befAN,.start nm l,r⟩ none) q1 (fun a b=>fun hs=>zu G.hm G.hz q2) (fun a b c d=>fun hs=>zt G.hm G.hz q2) (fun a b c d e g=>fun hs=>zr G.hm G.hz q2) hs⟩
theorem Step.av_gt (q1:¬ 3<=l.length) (q2:k=62) (q3:ci (p::l)=true):Step k r .aftAV (.start nm (p::l)) ⟨.data,.none,r⟩ (some (.start (ac nm) (p::l) false)):=⟨gw,trivial,fun G hs=>cb (C:=fun l=>csz (.start nm l)<=1000->ci l=true->TS G St.aftAV nm l ⟨.data,.none,r⟩ (some (.start (ac nm) l false))) q1 (fun a b=>fun hs d=>zx G.hm G.hz (szN hs) q2 (nd1 d)) (fun a b c d=>fun hs d=>zw G.hm G.hz (szN hs) q2 (nd2 d)) (fun a b c d e g=>fun hs d=>zv G.hm G.hz (szN hs) q2 (nd3 d)) hs q3⟩
theorem Step.mk_d (q1:k=45) (q2:r=45::r'):Step k r .markup .none ⟨.cStart,.note ⟨#[]⟩,r'⟩ none:=⟨q2▸GN,trivial,fun G hs _=>w7 (q2▸G.hm) G.hz q1 rfl⟩
theorem Step.cs_dash (q1:k=45):Step k r .cStart (.note t) ⟨.cStartDash,.note t,r⟩ none:=⟨Qa _,trivial,fun G hs=>xc G.hm G.hz q1⟩
theorem Step.cs_ch (q1:¬ k=45) (q2:¬ (k=0\/k=62)):Step k r .cStart (.note t) ⟨.comment,.note (t++ao k),r⟩ none:=⟨eu (Nat.le_of_eq (bM _ _)),trivial,fun G hs=>B9 G.hm G.hz hs q1 q2⟩
theorem Step.cd_dash (q1:k=45):Step k r .cStartDash (.note t) ⟨.cEnd,.note t,r⟩ none:=⟨Qa _,trivial,fun G hs=>xh G.hm G.hz q1⟩
theorem Step.co_dash (q1:k=45):Step k r .comment (.note t) ⟨.cEndDash,.note t,r⟩ none:=⟨Qa _,trivial,fun G hs=>xd G.hm G.hz q1⟩
theorem Step.co_ch (q1:¬ k=45) (q2:¬ k=0) (q3:(aQ coL r).2≠[]):Step k r .comment (.note t) ⟨.comment,.note (t++(ao k++mkS (aQ coL r).1)),(aQ coL r).2⟩ none:=⟨gX (GH _ _ _) (gG _ r),trivial,fun G hs=>eB (C:=fun u r'=>Turn (base G.f (.con G.rc) G.X G.x 626 (.ptr 10) [] (aZ t)) true G.f G.X ⟨.comment,.note (t++(ao k++mkS u)),r'⟩ none) q3 (fun h1=>xf G.hm G.hz hs q1 q2 rfl rfl h1 q3) fun h1 h2=>xe G.hm G.hz hs q1 q2 h1 h2⟩
theorem Step.ce_dash (q1:k=45):Step k r .cEndDash (.note t) ⟨.cEnd,.note t,r⟩ none:=⟨Qa _,trivial,fun G hs=>xg G.hm G.hz q1⟩
theorem Step.ce_ch (q1:¬ k=45) (q2:¬ k=0):Step k r .cEndDash (.note t) ⟨.comment,.note (t++(⟨#[45]⟩++ao k)),r⟩ none:=⟨GP (bM _ _),trivial,fun G hs=>Ca G.hm G.hz hs q1 q2⟩
theorem Step.en_gt (q1:k=62):Step k r .cEnd (.note t) ⟨.data,.none,r⟩ (some (.note t)):=⟨gw,trivial,fun G hs=>B7 G.hm G.hz q1⟩
theorem Step.en_ch (q1:¬ k=62) (q2:¬ (k=0\/k=33\/k=45)):Step k r .cEnd (.note t) ⟨.comment,.note (t++(⟨#[45,45]⟩++ao k)),r⟩ (some .err):=⟨GO (bM _ _),trivial,fun G hs=>B8 G.hm G.hz hs q1 q2⟩
end
section
variable {C:Prop} {α:Type} {y:α}
theorem c7 {p:Prop} [Decidable p] {a b:Option α} (h:(if p then a else b)=some y) (k1:p->a=some y->C) (k2:¬ p->b=some y->C):C:=by
 by_cases q:p
 ·exact k1 q (by rw[if_pos q] at h;exact h)
 ·exact k2 q (by rw[if_neg q] at h;exact h)
theorem mC {p:Prop} [Decidable p] {a:Option α} (h:(if p then a else none)=some y) (k:p->a=some y->C):C:=c7 h k fun _ h=>non h
theorem cr {p:Prop} [Decidable p] {b:Option α} (h:(if p then none else b)=some y) (k:¬ p->b=some y->C):C:=c7 h (fun _ h=>non h) k
theorem iN {t:List Nat×List Nat} {k:List Nat->List Nat->Option (MS×Option Tok)} {y:MS×Option Tok} (h:ie t k=some y) (g:t.2≠[]->k t.1 t.2=some y->C):C:=by
 obtain ⟨t1,t2⟩:=t
 cases t2 with
 | nil=>exact non h
 | cons _ _=>exact g (List.cons_ne_nil _ _) h
end
theorem Step.of {c:Nat} {r:List Nat} {st:St} {cur:Cur} {ms' ms:MS} {out o:Option Tok} (k:Step c r st cur ms o) (h:some (ms,o)=some (ms',out)):Step c r st cur ms' out:=by cases h;exact k
section
variable {c:Nat} {r:List Nat} {st:St} {cur:Cur} {ms' ms:MS} {out o:Option Tok} {p:Prop} [Decidable p]
theorem cj {b:Option (MS×Option Tok)} (h:(if p then some (ms,o) else b)=some (ms',out)) (k:p->Step c r st cur ms o) (k2:¬ p->b=some (ms',out)->Step c r st cur ms' out):Step c r st cur ms' out:=c7 h (fun q h=>.of (k q) h) k2
theorem cV (h:(if p then some (ms,o) else none)=some (ms',out)) (k:p->Step c r st cur ms o):Step c r st cur ms' out:=c7 h (fun q h=>.of (k q) h) fun _ h=>non h
end
theorem mr {c:Nat} {r:List Nat} {st:St} {cur:Cur} {ms':MS} {out:Option Tok} (h:bj st cur c r=some (ms',out)):Step c r st cur ms' out:=by
 cases st with
 | data =>
  cases cur with
  | none=>exact cj h (fun q=>.d_lt q) fun q1 h=>cr h fun q2 h=>cj h (fun q=>.d_sp q) fun q3 h=>.of (.d_ch q1 q2 q3) h
  | _=>exact non h
 | tagOpen =>
  cases cur with
  | none=>exact cj h (fun q=>.to_bang q) fun _ h=>cj h (fun q=>.to_slash q) fun _ h=>cV h fun q=>.to_letter q
  | _=>exact non h
 | close =>
  cases cur with
  | none=>exact cV h fun q=>.cl_letter q
  | _=>exact non h
 | tagName =>
  cases cur with
  | start nm l =>
   cases l with
   | nil=>exact cj h (fun q=>.ts_sp q) fun q1 h=>cj h (fun q=>.ts_gt q) fun q2 h=>cr h fun q3 h=>.of (.ts_ch q1 q2 q3) h
   | cons _ _=>exact non h
  | endt nm=>exact cj h (fun q=>.te_sp q) fun q1 h=>cj h (fun q=>.te_gt q) fun q2 h=>cr h fun q3 h=>.of (.te_ch q1 q2 q3) h
  | _=>exact non h
 | befAN =>
  cases cur with
  | endt nm=>exact cV h fun q=>.ba_gt q
  | start nm l=>exact c7 h (fun q h=>cV h fun q'=>.ba_sl q q') fun _ h=>mC h fun q h=>cV h fun q'=>.ba_le q q'
  | _=>exact non h
 | selfC =>
  cases cur with
  | start nm l=>exact cV h fun q=>.sc_gt q.1 q.2
  | _=>exact non h
 | attrN =>
  cases cur with
  | start nm l =>
   cases l with
   | nil=>exact non h
   | cons p l=>exact cr h fun hl h=>c7 h (fun q h=>cV h fun q'=>.an_eq hl q q') fun _ h=>c7 h (fun q h=>iN h fun hd h=>.of (.an_le hl q hd) h) fun _ h=>c7 h (fun q h=>cV h fun q'=>.an_gt hl q q'.1 q'.2) fun _ h=>c7 h (fun q h=>cV h fun q'=>.an_sp hl q q') fun _ h=>cV h fun q=>.an_ch hl q
  | _=>exact non h
 | aftAN =>
  cases cur with
  | start nm l =>
   cases l with
   | nil=>exact non h
   | cons p l=>exact cr h fun hl h=>cj h (fun q=>.aa_eq hl q) fun _ h=>cj h (fun q=>.aa_sl hl q) fun _ h=>mC h fun q h=>cV h fun q'=>.aa_le q q'
  | _=>exact non h
 | befAV =>
  cases cur with
  | start nm l =>
   cases l with
   | nil=>exact non h
   | cons p l =>
    refine cr h fun hl h=>c7 h (fun q h=>iN h fun hd h=>?_) fun _ h=>cj h (fun q=>.bv_dq hl q) fun _ h=>cj h (fun q=>.bv_sq hl q) fun _ h=>cV h fun q=>.bv_le hl q
    cases hn:(aN r).1 with
    | nil=>rw[hn] at h;exact .of (.bv_sp hl q hn hd) h
    | cons _ _=>rw[hn] at h;exact non h
  | _=>exact non h
 | dq =>
  cases cur with
  | start nm l =>
   cases l with
   | nil=>exact non h
   | cons p l=>exact cr h fun hl h=>cj h (fun q=>.dq_end hl q) fun q1 h=>cr h fun q2 h=>iN h fun hd h=>.of (.dq_ch hl q1 q2 hd) h
  | _=>exact non h
 | sq =>
  cases cur with
  | start nm l =>
   cases l with
   | nil=>exact non h
   | cons p l=>exact cr h fun hl h=>cj h (fun q=>.sq_end hl q) fun q1 h=>cr h fun q2 h=>iN h fun hd h=>.of (.sq_ch hl q1 q2 hd) h
  | _=>exact non h
 | uq =>
  cases cur with
  | start nm l =>
   cases l with
   | nil=>exact non h
   | cons p l=>exact cr h fun hl h=>cj h (fun q=>.uq_sp hl q) fun _ h=>cV h fun q=>.uq_gt hl q.1 q.2
  | _=>exact non h
 | aftAV =>
  cases cur with
  | start nm l =>
   cases l with
   | nil=>exact non h
   | cons p l=>exact cr h fun hl h=>cj h (fun q=>.av_sp hl q) fun _ h=>cV h fun q=>.av_gt hl q.1 q.2
  | _=>exact non h
 | markup =>
  cases cur with
  | none =>
   cases r with
   | nil=>exact non h
   | cons d r'=>exact mC h fun q h=>.of (.mk_d q.1 (congrArg (·::r') q.2)) h
  | _=>exact non h
 | cStart =>
  cases cur with
  | note t=>exact cj h (fun q=>.cs_dash q) fun q1 h=>cr h fun q2 h=>.of (.cs_ch q1 q2) h
  | _=>exact non h
 | cStartDash =>
  cases cur with
  | note t=>exact cV h fun q=>.cd_dash q
  | _=>exact non h
 | comment =>
  cases cur with
  | note t=>exact cj h (fun q=>.co_dash q) fun q1 h=>cr h fun q2 h=>iN h fun hd h=>.of (.co_ch q1 q2 hd) h
  | _=>exact non h
 | cEndDash =>
  cases cur with
  | note t=>exact cj h (fun q=>.ce_dash q) fun q1 h=>cr h fun q2 h=>.of (.ce_ch q1 q2) h
  | _=>exact non h
 | cEnd =>
  cases cur with
  | note t=>exact cj h (fun q=>.en_gt q) fun q1 h=>cr h fun q2 h=>.of (.en_ch q1 q2) h
  | _=>exact non h
noncomputable def Go (ms ms':MS) (out:Option Tok):Prop:=csz ms.cur<=1000/\∃ c r,ms.rest=c::r/\bj ms.st ms.cur c r=some (ms',out)
theorem Go.turn {ms ms':MS} {out:Option Tok} {X:Str} {x:Sx} {f:Fx} {rc:Value} {ct:AV} (h:Go ms ms' out) (hm:Mid X x ms.rest) (hz:X.length<=10240) (z6:ctC ms.cur ct):Turn (base f (.con rc) X x ms.st.addr ct [] (aK ms.cur)) true f X ms' out:=by
 obtain ⟨hs,c,r,e,h⟩:=h;exact ((mr h).turn ⟨X,x,f,rc,e▸hm,hz⟩ hs).at z6
theorem Go.tok {ms ms':MS} {t:Tok} (h:Go ms ms' (some t)):gk ms'.cur t:=by
 obtain ⟨_,c,r,_,h⟩:=h;exact (mr h).tok
theorem FJ {X:Str} {c:Nat} {r:List Nat} {f:Fx} {ms':MS} {out:Option Tok} (hm:Mid X (xI X) (c::r)) (hz:X.length<=10240) (hI:bc (ba X (decide (1 < X.length)))) {v:Value} (h:bj .data .none c r=some (ms',out)):Turn (base f (.ptr 10) X x0 304 (.con v) [] [.meth 148 (.ptr 3)]) true f X ms' out:=by
 have go:∀ {a o},Turn (base f (.ptr 10) X x0 304 (.con v) [] [.meth 148 (.ptr 3)]) true f X a o->some (a,o)=some (ms',out)->Turn (base f (.ptr 10) X x0 304 (.con v) [] [.meth 148 (.ptr 3)]) true f X ms' out:=fun k h=>by cases h;exact k
 by_cases q:1 < X.length
 ·rw[decide_eq_true q] at hI;exact c7 h (fun q=>go (B1 hm hz hI q)) fun q1 h=>cr h fun q2 h=>c7 h (fun q=>go (BZ hm hz hI q)) fun q3=>go (B3 hm hz hI q1 q2 q3)
 ·rw[decide_eq_false q] at hI;exact c7 h (fun q=>go (B5 hm hz hI q)) fun q1 h=>cr h fun q2 h=>c7 h (fun q=>go (B4 hm hz hI q)) fun q3=>go (B6 hm hz hI q1 q2 q3)
end TE
namespace TE
set_option backward.match.sparseCases false
set_option tactic.hygienic false
noncomputable def e1P:Expr:=.Attribute (.Attribute (.Name dc ⟨196,18,196,22⟩) ⟨#[115,116,114,101,97,109]⟩ ⟨196,18,196,29⟩) ⟨#[101,114,114,111,114,115]⟩ ⟨196,18,196,36⟩
noncomputable def qAt (l c:Nat):Expr:=.Attribute (.Name dc ⟨l,c,l,c+4⟩) ⟨#[116,111,107,101,110,81,117,101,117,101]⟩ ⟨l,c,l,c+15⟩
noncomputable def nO:Expr:=.Call (.Attribute (qAt 199 22) ⟨#[112,111,112]⟩ ⟨199,22,199,41⟩) [.Constant (.int 0) 0 ⟨199,42,199,43⟩] [] ⟨199,22,199,44⟩
noncomputable def b1P:List Stmt:=match eS with
 | .While _ b _ _::_=>b
 | _=>[]
noncomputable def DW:Stmt:=.Expr (.Yield (some nO) ⟨199,16,199,44⟩) ⟨199,16,199,44⟩
theorem jQ:eS=[.While e1P b1P [] ⟨196,12,197,91⟩,.While (qAt 198 18) [DW] [] ⟨198,12,199,44⟩]:=by kernel_rfl
noncomputable def nG:Stmt:=.Assign [.Attribute (.Name dc ⟨194,8,194,12⟩) ⟨#[116,111,107,101,110,81,117,101,117,101]⟩ ⟨194,8,194,23⟩] (.List [] ⟨194,26,194,28⟩) ⟨194,8,194,28⟩
theorem pH:bL.2.1=[nG,.While dO eS [] ⟨195,8,199,44⟩]:=by kernel_rfl
section
variable (f:Fx) (rc:AV) (X:Str) (x:Sx) (st:Addr) (ct:AV) (R:List AO) (t:Nat)
theorem Da (q:List AV):gev.t e1P ⟨base f rc X x st ct q R,[]⟩=some (false,⟨base f rc X x st ct q R,[]⟩,[]):=by kernel_rfl
theorem Ee:gev.t (qAt 198 18) ⟨base f rc X x st ct [] R,[]⟩=some (false,⟨base f rc X x st ct [] R,[]⟩,[]):=by kernel_rfl
theorem Ed:gev.t (qAt 198 18) ⟨base f rc X x st ct [.ptr t] R,[]⟩=some (true,⟨base f rc X x st ct [.ptr t] R,[]⟩,[]):=by kernel_rfl
theorem CC:gev.e nO ⟨base f rc X x st ct [.ptr t] R,[]⟩=some (.ptr t,⟨base f rc X x st ct [] R,[]⟩,[]):=by kernel_rfl
end
section
variable {prog:Program} {A:Around} {env:Env}
example (k:Result->Sem Fin) (b:List Stmt) (p:Pos) (l:List Value):(A.over (.whileLoop dO eS [] env) [.ret k none false l (.func b env) p []]).depth=A.depth+1:=by
 rfl
example (k:Result->Sem Fin) (b:List Stmt) (p:Pos) (l:List Value):(A.over (.whileLoop dO eS [] env) [.ret k none false l (.func b env) p []]).handled=A.handled:=by
 rfl
end
end TE
namespace TE
set_option tactic.hygienic false
inductive eO (tk:Nat->Tok):Nat->MS->Prop where
 | eof {cur:Cur}:cur=.none->eO tk 0 ⟨.data,cur,[]⟩
 | quiet {n:Nat} {ms ms':MS}:Go ms ms' none->eO tk n ms'->eO tk n ms
 | emit {n:Nat} {ms ms':MS} {t:Tok}:Go ms ms' (some t)->tk n=t->eO tk n ms'->eO tk (n+1) ms
noncomputable def SxR (X:Str) (x:Sx) (rest:List Nat):Prop:=Mid X x rest\/(rest=[]/\x=br X)
noncomputable abbrev g7 (f:Fx) (rc:Value) (X:Str) (x:Sx) (ms:MS) (ct:AV):List AO:=base f (.con rc) X x ms.st.addr ct [] (aK ms.cur)
noncomputable abbrev bTk (f:Fx) (rc:Value) (X:Str) (x:Sx) (ms:MS) (ct:AV) (tk:Tok):List AO:=base f (.con rc) X x ms.st.addr ct [] (aK ms.cur++aM (10+(aK ms.cur).length) tk)
abbrev Inv:=Nat->(Nat->Addr)->Nat->Heap->Prop
structure Same (s s₀:Shared):Prop where
 gens:s.gens=s₀.gens
 os:s.os=s₀.os
theorem Same.of {s s' s₀:Shared} (h:Same s s₀) (g:s'.gens=s.gens) (o:s'.os=s.os):Same s' s₀:=⟨g.trans h.gens,o.trans h.os⟩
section
variable (P:Params) (z5:Heap) (f:Fx) (X:Str) (tk:Nat->Tok) (env:Env) (TK:Addr) (Φ:Inv)
inductive YPi (n:Nat) (s₀:Shared) (v:Value) (s:Shared) (kap:Resume->Shared->Prop):Prop
 | mk (ρ:Nat->Addr) (rc:Value) (x:Sx) (ct:AV) (ms:MS) (sm:Same s s₀) (hc:gk ms.cur (tk n)) (R:Rel P z5 ρ (bTk f rc X x ms ct (tk n)) s.heap) (h0:ρ 0=env.locals) (h1:ρ 1=TK) (z6:ctR ms.cur (some (tk n)) ct)
  (hv:v=.ref (ρ (10+(aK ms.cur).length))) (hP:Φ (n+1) ρ (bTk f rc X x ms ct (tk n)).length s.heap)
  (wk:∀ (s'':Shared) (ρ'':Nat->Addr) (ct'':AV),Rel P z5 ρ'' (g7 f rc X x ms ct'') s''.heap->ρ'' 0=env.locals->ρ'' 1=TK->ctC ms.cur ct''->Φ n ρ'' (g7 f rc X x ms ct'').length s''.heap->kap (.send .none) s'') (nv:∃ s'',kap (.send .none) s''):YPi n s₀ v s kap
abbrev YP:Protocol:=YPi P z5 f X tk env TK Φ
inductive PP (n:Nat) (s₀ s₁:Shared):Prop
 | mk (hn:n=0) (sm:Same s₁ s₀) (ρ:Nat->Addr) (rc:Value) (ct:AV) (R:Rel P z5 ρ (base f (.con rc) X (br X) 304 ct [] []) s₁.heap) (h0:ρ 0=env.locals) (h1:ρ 1=TK) (hP:Φ 0 ρ (base f (.con rc) X (br X) 304 ct [] []).length s₁.heap):PP n s₀ s₁
abbrev RP:GenEnd:=fun n s₀ r s₁=>r=.ok (.ret .none)/\PP P z5 f X env TK Φ n s₀ s₁
end
theorem ox:gscope.kind=.function:=by kernel_rfl
theorem lT:gscope.isCoroutine=false:=by kernel_rfl
theorem di (f:Fx) (rc:AV) (X:Str) (x:Sx) (st:Addr) (ct:AV) (q:List AV) (R:List AO):(base f rc X x st ct q R).length=10+R.length:=by
 unfold base;simp only[List.length_cons];exact Eq.symm (Nat.add_comm 10 R.length)
theorem After.none_of {f:Fx} {X:Str} {ms:MS} {σ:List AO} (h:After f X ms none σ):∃ (rc:Value) (x:Sx) (ct:AV),SxR X x ms.rest/\ctC ms.cur ct/\σ=g7 f rc X x ms ct:=by
 obtain ⟨rc,x,ct,h1,h2,rfl⟩:=h;refine ⟨rc,x,ct,h1,?_,?_⟩
 ·obtain ⟨st,cur,rest⟩:=ms
  cases cur<;>exact h2
 ·show base f (.con rc) X x ms.st.addr ct [] (aK ms.cur++[])=_;rw[List.append_nil]
section
variable {prog:Program} {w:World} {z5:Heap} {K:Frag} {A:Around} {env:Env} {f:Fx} {X:Str} {tk:Nat->Tok} {TK:Addr} {Φ:Inv}
theorem eE (B:Bt prog w z5 K tab) (hT:∀ f r,tab.fn f=some r->bP w z5 f r) {A':Around} (h1:A'.handled=none) (h2:A'.depth<=860):aR prog w z5 A' env 0 gscope [] gev :=
 gt B (n:=8) (gE B (i0 B hT) jG hT 8) (jS xG hT 8) (lO A' env 0 gscope h1 (by omega)) ⟨h1,by omega⟩ 10
theorem gP (hes:env.scope=gscope) (heg:env.globals=mainGlobals) (heb:env.builtins=builtinsNs) {len:Nat} {ρ:Nat->Addr} (h0:ρ 0=env.locals) (hl:0 < len):EnvR len ρ env 0 gscope [] :=
 ⟨hes,ox,lT,hl,h0.symm,heg,heb,fun _ _ h=>by cases h⟩
noncomputable def k7 (k:Result->Sem Fin) (l:List Value) (b:List Stmt) (env:Env) (p:Pos):List Frame:=[.ret k none false l (.func b env) p []]
section
variable {A':Around} {rc:AV} {x:Sx} {st:Addr} {ct:AV} {R:List AO} {t:Nat} {ρ:Nat->Addr} {s:Shared}
theorem sO (EV:aR prog w z5 A' env 0 gscope [] gev) {q:List AV} (hR:Rel w.params z5 ρ (base f rc X x st ct q R) s.heap) (hE:EnvR (base f rc X x st ct q R).length ρ env 0 gscope []) :
  wpAny (model prog w) A' (isTrue e1P env (eval e1P env)) (fun b s2=>b=false/\∃ ρ2,Stp w.params z5 ρ (base f rc X x st ct q R) s ρ2 (base f rc X x st ct q R) s2) (fun _ _=>False) s :=
 (EV.t (es:=⟨_,[]⟩) hR hE e1P).go (Da f rc X x st ct R q) (fun _ h=>noM h) fun b s2 ρ2 S2 r2=>⟨r2,ρ2,S2⟩
theorem ti (EV:aR prog w z5 A' env 0 gscope [] gev) (hR:Rel w.params z5 ρ (base f rc X x st ct [] R) s.heap) (hE:EnvR (base f rc X x st ct [] R).length ρ env 0 gscope []) :
  wpAny (model prog w) A' (isTrue (qAt 198 18) env (eval (qAt 198 18) env)) (fun b s2=>b=false/\∃ ρ2,Stp w.params z5 ρ (base f rc X x st ct [] R) s ρ2 (base f rc X x st ct [] R) s2) (fun _ _=>False) s :=
 (EV.t (es:=⟨_,[]⟩) hR hE _).go (Ee f rc X x st ct R) (fun _ h=>noM h) fun b s2 ρ2 S2 r2=>⟨r2,ρ2,S2⟩
theorem FQ (EV:aR prog w z5 A' env 0 gscope [] gev) (hR:Rel w.params z5 ρ (base f rc X x st ct [.ptr t] R) s.heap) (hE:EnvR (base f rc X x st ct [.ptr t] R).length ρ env 0 gscope []) :
  wpAny (model prog w) A' (isTrue (qAt 198 18) env (eval (qAt 198 18) env)) (fun b s2=>b=true/\∃ ρ2,Stp w.params z5 ρ (base f rc X x st ct [.ptr t] R) s ρ2 (base f rc X x st ct [.ptr t] R) s2) (fun _ _=>False) s :=
 (EV.t (es:=⟨_,[]⟩) hR hE _).go (Ed f rc X x st ct R t) (fun _ h=>noM h) fun b s2 ρ2 S2 r2=>⟨r2,ρ2,S2⟩
theorem Ef (EV:aR prog w z5 A' env 0 gscope [] gev) (hR:Rel w.params z5 ρ (base f rc X x st ct [.ptr t] R) s.heap) (hE:EnvR (base f rc X x st ct [.ptr t] R).length ρ env 0 gscope []) :
  wpAny (model prog w) A' (eval nO env) (fun v s2=>∃ ρ2,v=.ref (ρ2 t)/\Stp w.params z5 ρ (base f rc X x st ct [.ptr t] R) s ρ2 (base f rc X x st ct [] R) s2) (fun _ _=>False) s :=
 (EV.e (es:=⟨_,[]⟩) hR hE _).go (CC f rc X x st ct R t) (fun _ h=>noM h) fun b s2 ρ2 S2 r2=>⟨ρ2,r2.2,S2⟩
end
section
variable (prog:Program) (w:World) (z5:Heap) (A:Around) (env:Env) (f:Fx) (X:Str) (tk:Nat->Tok) (TK:Addr) (Φ:Inv) (k:Result->Sem PySem.Fin) (l:List Value) (b:List Stmt) (p:Pos)
abbrev jw (n:Nat) (s₀ s:Shared):Prop:=Seg (model prog w) A (RP w.params z5 f X env TK Φ) (YP w.params z5 f X tk env TK Φ) n s₀ (.whileLoop dO eS [] env) ((model prog w).den (.whileLoop dO eS [] env)) (k7 k l b env p) s
noncomputable def nM (n:Nat) (ms:MS):Prop:=∀ (s s₀:Shared) (ρ:Nat->Addr) (rc:Value) (x:Sx) (ct:AV),Same s s₀->Rel w.params z5 ρ (g7 f rc X x ms ct) s.heap->ρ 0=env.locals->ρ 1=TK ->
   SxR X x ms.rest->ctC ms.cur ct->Φ n ρ (g7 f rc X x ms ct).length s.heap->jw prog w z5 A env f X tk TK Φ k l b p n s₀ s
structure jx:Prop where
 hA:A.handled=none
 hd:A.depth<=850
 hes:env.scope=gscope
 heg:env.globals=mainGlobals
 heb:env.builtins=builtinsNs
 hΦ:∀ n ρ σ s ρ' σ' s',Φ n ρ σ.length s.heap->Move w.params z5 ρ σ s ρ' σ' s'->Φ n ρ' σ'.length s'.heap
 hN:∀ (n:Nat) (ρ:Nat->Addr) (rc:Value) (x:Sx) (ct:AV) (ms:MS) (s:Shared),gk ms.cur (tk n)->Rel w.params z5 ρ (bTk f rc X x ms ct (tk n)) s.heap->ρ 0=env.locals->ρ 1=TK->ctR ms.cur (some (tk n)) ct ->
  Φ (n+1) ρ (bTk f rc X x ms ct (tk n)).length s.heap ->
  ∃ (s'':Shared) (ρ'':Nat->Addr) (ct'':AV),Rel w.params z5 ρ'' (g7 f rc X x ms ct'') s''.heap/\ρ'' 0=env.locals/\ρ'' 1=TK/\ctC ms.cur ct''/\Φ n ρ'' (g7 f rc X x ms ct'').length s''.heap
 hk:∀ n s₀ s1,PP w.params z5 f X env TK Φ n s₀ s1->Seg (model prog w) A (RP w.params z5 f X env TK Φ) (YP w.params z5 f X tk env TK Φ) n s₀ (.func b env) (k (.ok .next)) [] s1
end
section
variable {k:Result->Sem PySem.Fin} {l:List Value} {b:List Stmt} {p:Pos}
theorem ru (B:Bt prog w z5 K tab) (hT:∀ f r,tab.fn f=some r->bP w z5 f r) (G:jx prog w z5 A env f X tk TK Φ k b) {n:Nat} (hn:n=0) {σ:List AO} (T:TurnE σ f X) (hl:2<=σ.length) {s s₀:Shared} {ρ:Nat->Addr} (hg:Same s s₀) (hR:Rel w.params z5 ρ σ s.heap) (h0:ρ 0=env.locals) (h1:ρ 1=TK)
  (hP:Φ n ρ σ.length s.heap):jw prog w z5 A env f X tk TK Φ k l b p n s₀ s:=by
 have hd:=G.hd;have EV0:aR prog w z5 (A.over (.whileLoop dO eS [] env) (k7 k l b env p)) env 0 gscope [] gev:=eE B hT (by exact G.hA) (by show A.depth+1<=860;omega);subst hn;obtain ⟨dec,σ',pc,t1,t2,t3⟩:=T;have hE:EnvR σ.length ρ env 0 gscope []:=gP G.hes G.heg G.heb h0 (by exact Nat.zero_lt_of_lt hl);refine seg_whileLoop (wpAny_mono (mn EV0 hR hE t1 (d0 t2) (fun ρ' h=>?_) hl) (fun b' s' ⟨hb,ρ1,ρ',M,q0,q1⟩=>?_) fun _ _ x=>x.elim)
 ·obtain ⟨_,_,e⟩:=t3 ρ';rw[h] at e;cases e
 ·subst hb;refine (if_neg Bool.false_ne_true)▸?_;refine seg_execs_nil (seg_leaf (.ok .next) (G.hk _ _ _ ?_));obtain ⟨rc',ct',y3⟩:=t3 ρ1;rw[y3] at M;exact ⟨rfl,hg.of M.gens M.os,ρ',rc',.con ct',M.rel,q0.trans h0,q1.trans h1,G.hΦ _ _ _ _ _ _ _ hP M⟩
theorem pO (B:Bt prog w z5 K tab) (hT:∀ f r,tab.fn f=some r->bP w z5 f r) (G:jx prog w z5 A env f X tk TK Φ k b) {n:Nat} {ms':MS} (L:nM prog w z5 A env f X tk TK Φ k l b p n ms') {σ:List AO} (T:Turn σ true f X ms' none) (hl:2<=σ.length)
  {s s₀:Shared} {ρ:Nat->Addr} (hg:Same s s₀) (hR:Rel w.params z5 ρ σ s.heap) (h0:ρ 0=env.locals) (h1:ρ 1=TK) (hP:Φ n ρ σ.length s.heap):jw prog w z5 A env f X tk TK Φ k l b p n s₀ s:=by
 have hd:=G.hd;have hA:=G.hA;refine ag fun G0 hG0=>?_;obtain ⟨hes,heg,heb,hΦ⟩:_/\_/\_/\_:=⟨G.hes,G.heg,G.heb,G.hΦ⟩;have EV0:aR prog w z5 (A.over (.whileLoop dO eS [] env) (k7 k l b env p)) env 0 gscope [] gev:=eE B hT (by exact hA) (by show A.depth+1<=860;omega);obtain ⟨dec,σ',pc,t1,t2,t3⟩:=T;refine hG0 ?_;have hE:EnvR σ.length ρ env 0 gscope []:=gP hes heg heb h0 (by exact Nat.zero_lt_of_lt hl);refine seg_whileLoop (wpAny_mono (mn EV0 hR hE t1 (d0 t2) (fun ρ' h=>?_) hl) (fun b' s' ⟨hb,ρ1,ρ',M,q0,q1⟩=>?_) fun _ _ x=>x.elim)
 ·refine ag fun G0 hG0=>?_;obtain ⟨_,_,_,_,_,e⟩:=(t3 ρ').none_of;refine hG0 ?_;rw[h] at e;cases e
 ·subst hb;rw[if_pos rfl,jQ];refine ag fun G0 hG0=>?_;obtain ⟨rc',x',ct',y1,y2,y3⟩:=(t3 ρ1).none_of;refine hG0 ?_;rw[y3] at M;have hR':=M.rel;have h0':=q0.trans h0;have h1':=q1.trans h1;have hP':=hΦ _ _ _ _ _ _ _ hP M;have hE':EnvR (base f (.con rc') X x' ms'.st.addr ct' [] (aK ms'.cur)).length ρ' env 0 gscope []:=gP hes heg heb h0' (by rw[di];exact Nat.pos_of_neZero (10+(aK ms'.cur).length));refine seg_execs_cons (seg_While fun p1=>seg_whileLoop ?_);refine wpAny_mono (sO (eE B hT (by exact hA) (by show A.depth+1<=860;omega)) hR' hE') (fun b s2 zz=>?_) fun _ _ x=>x.elim;refine ag fun G0 hG0=>?_;obtain ⟨hb,ρ2,S2⟩:=zz;subst hb;refine hG0 ?_;refine (if_neg Bool.false_ne_true)▸?_;refine seg_execs_nil (seg_leaf (.ok .next) ?_);refine seg_execs_cons (seg_While fun p2=>seg_whileLoop ?_);have hE2:=S2.env hE';refine wpAny_mono (ti (eE B hT (by exact hA) (by show A.depth+1<=860;omega)) S2.rel hE2) (fun b s3 zz=>?_) fun _ _ x=>x.elim;refine ag fun G0 hG0=>?_;obtain ⟨hb,ρ3,S3⟩:=zz;subst hb;refine hG0 ?_;refine (if_neg Bool.false_ne_true)▸?_;refine seg_execs_nil (seg_leaf (.ok .next) ?_);refine seg_execs_nil (env:=env) (seg_again rfl ?_);have S23:=(S2.trans S3).move;have l2:2<=(base f (.con rc') X x' ms'.st.addr ct' [] (aK ms'.cur)).length:=by rw[di];omega
  refine (jQ).symm▸?_;exact L s3 s₀ ρ3 rc' x' ct' (hg.of (S3.gens.trans (S2.gens.trans M.gens)) (S3.os.trans (S2.os.trans M.os))) S3.rel (((S2.trans S3).ext 0 (by exact Qk l2)).trans h0') (((S2.trans S3).ext 1 (by exact l2)).trans h1') y1 y2 (hΦ _ _ _ _ _ _ _ hP' S23)
theorem qB (B:Bt prog w z5 K tab) (hT:∀ f r,tab.fn f=some r->bP w z5 f r) (G:jx prog w z5 A env f X tk TK Φ k b) {n:Nat} {ms':MS} (L:nM prog w z5 A env f X tk TK Φ k l b p n ms') (hc:gk ms'.cur (tk n)) {σ:List AO} (T:Turn σ true f X ms' (some (tk n))) (hl:2<=σ.length)
  {s s₀:Shared} {ρ:Nat->Addr} (hg:Same s s₀) (hR:Rel w.params z5 ρ σ s.heap) (h0:ρ 0=env.locals) (h1:ρ 1=TK) (hP:Φ (n+1) ρ σ.length s.heap):jw prog w z5 A env f X tk TK Φ k l b p (n+1) s₀ s:=by
 have hd:=G.hd;have hA:=G.hA;refine ag fun G0 hG0=>?_;obtain ⟨hes,heg,heb,hΦ⟩:_/\_/\_/\_:=⟨G.hes,G.heg,G.heb,G.hΦ⟩;have EV0:aR prog w z5 (A.over (.whileLoop dO eS [] env) (k7 k l b env p)) env 0 gscope [] gev:=eE B hT (by exact hA) (by show A.depth+1<=860;omega);obtain ⟨dec,σ',pc,t1,t2,t3⟩:=T;refine hG0 ?_;have hE:EnvR σ.length ρ env 0 gscope []:=gP hes heg heb h0 (by exact Nat.zero_lt_of_lt hl);refine seg_whileLoop (wpAny_mono (mn EV0 hR hE t1 (d0 t2) (fun ρ' h=>?_) hl) (fun b' s' ⟨hb,ρ1,ρ',M,q0,q1⟩=>?_) fun _ _ x=>x.elim)
 ·refine ag fun G0 hG0=>?_;obtain ⟨_,_,_,_,_,e⟩:=t3 ρ';refine hG0 ?_;rw[h] at e;cases e
 ·subst hb;rw[if_pos rfl,jQ];obtain ⟨rc',x',ct',y1,y2,y3⟩:=t3 ρ1;rw[y3] at M;have M:Move w.params z5 ρ σ s ρ' (base f (.con rc') X x' ms'.st.addr ct' [.ptr (10+(aK ms'.cur).length)] (aK ms'.cur++aM (10+(aK ms'.cur).length) (tk n))) s':=M;have hR':=M.rel;have h0':=q0.trans h0;have h1':=q1.trans h1;have hP':=hΦ _ _ _ _ _ _ _ hP M;have len':∀ q,(base f (.con rc') X x' ms'.st.addr ct' q (aK ms'.cur++aM (10+(aK ms'.cur).length) (tk n))).length=10+(aK ms'.cur++aM (10+(aK ms'.cur).length) (tk n)).length:=fun q=>di ..;have hE':EnvR (base f (.con rc') X x' ms'.st.addr ct' [.ptr (10+(aK ms'.cur).length)] (aK ms'.cur++aM (10+(aK ms'.cur).length) (tk n))).length ρ' env 0 gscope []:=gP hes heg heb h0' (by rw[len'];exact Nat.pos_of_neZero (10+(aK ms'.cur++aM (10+(aK ms'.cur).length) (tk n)).length));refine seg_execs_cons (seg_While fun p1=>seg_whileLoop ?_);refine wpAny_mono (sO (eE B hT (by exact hA) (by show A.depth+1<=860;omega)) hR' hE') (fun b s2 zz=>?_) fun _ _ x=>x.elim;refine ag fun G0 hG0=>?_;obtain ⟨hb,ρ2,S2⟩:=zz;subst hb;refine hG0 ?_;refine (if_neg Bool.false_ne_true)▸?_;refine seg_execs_nil (seg_leaf (.ok .next) ?_);refine seg_execs_cons (seg_While fun p2=>seg_whileLoop ?_);have hE2:=S2.env hE';refine wpAny_mono (FQ (eE B hT (by exact hA) (by show A.depth+1<=860;omega)) S2.rel hE2) (fun b s3 zz=>?_) fun _ _ x=>x.elim;obtain ⟨hb,ρ3,S3⟩:=zz;subst hb;refine (if_pos rfl)▸?_;have hE3:=S3.env hE2;refine seg_execs_cons (seg_Expr_Yield rfl rfl rfl ?_ (by rw[hes];exact lT) (pi hE));refine wpAny_mono (Ef (eE B hT (by exact hA) (by show A.depth+1<=860;omega)) S3.rel hE3) (fun v s4 ⟨ρ4,hv,S4⟩ kap hkap=>?_) fun _ _ x=>x.elim;have S24:=(S2.trans S3).trans S4;have PH:=hΦ _ _ _ _ _ _ _ hP' S24.move
  suffices wake:∀ (s5:Shared) (ρ5:Nat->Addr) (ct5:AV),Rel w.params z5 ρ5 (base f (.con rc') X x' ms'.st.addr ct5 [] (aK ms'.cur)) s5.heap->ρ5 0=env.locals->ρ5 1=TK->ctC ms'.cur ct5->Φ n ρ5 (base f (.con rc') X x' ms'.st.addr ct5 [] (aK ms'.cur)).length s5.heap->kap (.send .none) s5 from by
   refine ⟨ρ4,rc',x',ct',ms',hg.of ((S24.gens).trans M.gens) (S24.os.trans M.os),hc,S4.rel,(S24.ext 0 (by rw[len'];omega)).trans h0',(S24.ext 1 (by rw[len'];omega)).trans h1',y2,hv,PH,wake,?_⟩;obtain ⟨s5,ρ5,ct5,w1,w2,w3,w4,w5⟩:=G.hN n ρ4 rc' x' ct' ms' s4 hc S4.rel ((S24.ext 0 (by rw[len'];omega)).trans h0') ((S24.ext 1 (by rw[len'];omega)).trans h1') y2 PH;exact ⟨s5,wake s5 ρ5 ct5 w1 w2 w3 w4 w5⟩
  intro s5 ρ5 ct5 hR5 h05 h15 hct5 hP5;refine hkap .none s5 ?_;show Seg (model prog w) A _ _ n s5 _ _ _ s5;have hE5:EnvR (base f (.con rc') X x' ms'.st.addr ct5 [] (aK ms'.cur)).length ρ5 env 0 gscope []:=gP hes heg heb h05 (by rw[di];exact Nat.pos_of_neZero (10+(aK ms'.cur).length));refine seg_execs_nil (env:=env) (seg_again rfl (seg_whileLoop ?_));refine wpAny_mono (ti (eE B hT (by exact hA) (by show A.depth+1<=860;omega)) hR5 hE5) (fun b s6 zz=>?_) fun _ _ x=>x.elim;obtain ⟨hb,ρ6,S6⟩:=zz;subst hb;refine (if_neg Bool.false_ne_true)▸?_;refine seg_execs_nil (seg_leaf (.ok .next) ?_);refine seg_execs_nil (env:=env) (seg_again rfl ?_);have l2:2<=(base f (.con rc') X x' ms'.st.addr ct5 [] (aK ms'.cur)).length:=by rw[di];omega
  refine (jQ).symm▸?_;exact L s6 s5 ρ6 rc' x' ct5 ⟨S6.gens,S6.os⟩ S6.rel ((S6.ext 0 (by exact Qk l2)).trans h05) ((S6.ext 1 (by exact l2)).trans h15) y1 hct5 (hΦ _ _ _ _ _ _ _ hP5 S6.move)
theorem qA (B:Bt prog w z5 K tab) (hT:∀ f r,tab.fn f=some r->bP w z5 f r) (hz:X.length<=10240) (G:jx prog w z5 A env f X tk TK Φ k b) {n:Nat} {ms:MS} (D:eO tk n ms):nM prog w z5 A env f X tk TK Φ k l b p n ms:=by
 have mid:∀ {ms ms':MS} {x:Sx} {out:Option Tok},Go ms ms' out->SxR X x ms.rest->Mid X x ms.rest:=fun hst hx=>by
  rcases hx with hm | ⟨hr,_⟩
  ·exact hm
  ·exfalso
   obtain ⟨_,c,r,e,_⟩:=hst;rw[hr] at e;cases e
 induction D with
 | eof hcur =>
  intro s s₀ ρ rc x ct hg hR h0 h1 hx z6 hP;subst hcur;obtain ⟨v,rfl⟩:∃ v,ct=.con v:=z6
  have T:TurnE (base f (.con rc) X x 304 (.con v) [] []) f X:=by
   rcases hx with hm | ⟨_,rfl⟩
   ·exact FC hm hz
   ·exact FB hz
  exact ru B hT G rfl T (by rw[di];exact Nat.le_add_left 2 8) hg hR h0 h1 hP
 | quiet hst D ih =>
  intro s s₀ ρ rc x ct hg hR h0 h1 hx z6 hP;exact pO B hT G ih (hst.turn (f:=f) (rc:=rc) (mid hst hx) hz z6) (by rw[di];omega) hg hR h0 h1 hP
 | emit hst ht D ih =>
  intro s s₀ ρ rc x ct hg hR h0 h1 hx z6 hP;subst ht;exact qB B hT G ih hst.tok (hst.turn (f:=f) (rc:=rc) (mid hst hx) hz z6) (by rw[di];omega) hg hR h0 h1 hP
end
end
end TE
namespace TE
set_option tactic.hygienic false
noncomputable def mR (f:Fx) (i st:Nat):List (Str×AV):=[(⟨#[115,116,114,101,97,109]⟩,.ptr i),(⟨#[112,97,114,115,101,114]⟩,.none),(⟨#[101,115,99,97,112,101,70,108,97,103]⟩,.bool false),(⟨#[108,97,115,116,70,111,117,114,67,104,97,114,115]⟩,.con f.lf),(⟨#[115,116,97,116,101]⟩,.ptr st),(⟨#[101,115,99,97,112,101]⟩,.bool false),(⟨#[99,117,114,114,101,110,116,84,111,107,101,110]⟩,.none)]
noncomputable def mX (f:Fx) (ds er rc:Nat):List (Str×AV):=[(⟨#[114,101,112,111,114,116,67,104,97,114,97,99,116,101,114,69,114,114,111,114,115]⟩,.ptr rc),(⟨#[110,101,119,76,105,110,101,115]⟩,.con f.nl),(⟨#[100,97,116,97,83,116,114,101,97,109]⟩,.ptr ds),(⟨#[99,104,117,110,107]⟩,.sstr ⟨#[]⟩),(⟨#[99,104,117,110,107,83,105,122,101]⟩,.sint 0),(⟨#[99,104,117,110,107,79,102,102,115,101,116]⟩,.sint 0),(⟨#[101,114,114,111,114,115]⟩,.ptr er),(⟨#[112,114,101,118,78,117,109,76,105,110,101,115]⟩,.sint 0),(⟨#[112,114,101,118,78,117,109,67,111,108,115]⟩,.sint 0),(⟨#[95,98,117,102,102,101,114,101,100,67,104,97,114,97,99,116,101,114]⟩,.none)]
noncomputable def mQ (X:Str):AO:=.dict [(⟨#[116,101,120,116]⟩,.sstr X),(⟨#[112,108,97,99,101]⟩,.sint 0)]
noncomputable def dh (f:Fx) (X:Str):List AO:=[.inst 762 1,.dict (mR f 2 5),.inst 166 3,.dict (mX f 6 4 8),.list [],.meth 304 (.ptr 0),.inst 73 7,mQ X,.meth 148 (.ptr 2)]
noncomputable def gz (f:Fx) (X:Str):List AO:=[.ns [(⟨#[115,101,108,102]⟩,.ptr 1)],.inst 762 2,.dict (mR f 3 6),.inst 166 4,.dict (mX f 7 5 9),.list [],.meth 304 (.ptr 1),.inst 73 8,mQ X,.meth 148 (.ptr 3)]
noncomputable def nR (f:Fx) (X:Str):List AO:=[.ns [(⟨#[115,101,108,102]⟩,.ptr 1)],.inst 762 2,.dict (mR f 3 6++[(⟨#[116,111,107,101,110,81,117,101,117,101]⟩,.ptr 10)]),.inst 166 4,.dict (mX f 7 5 9),.list [],.meth 304 (.ptr 1),.inst 73 8,mQ X,.meth 148 (.ptr 3),.list []]
theorem AT (f:Fx) (X:Str):gev.s nG ⟨gz f X,[]⟩=some (.next,⟨nR f X,[]⟩,[]):=by kernel_rfl
noncomputable def kY:List Nat:=[0,1,2,3,4,10,5,6,7,8,9]
theorem As (ρ:Nat->Addr) (f:Fx) (X:Str):TE.pick ρ kY [] (nR f X)=base f (.ptr 10) X x0 304 .none [] [.meth 148 (.ptr 3)]:=by kernel_rfl
section
variable {prog:Program} {w:World} {z5:Heap} {K:Frag} {A:Around} {env:Env} {f:Fx} {X:Str} {tk:Nat->Tok} {TK:Addr} {Φ:Inv}
theorem qD {P:Params} {n:Nat} {ρ:Nat->Addr} {x:Str} {b:List (Str×AV)}:∀ {a:List (Str×AV)} {ents:List DictEntry},All2 (EntR P n ρ) (a++(x,.none)::b) ents->All2 (EntR P n ρ) (a++(x,.con .none)::b) ents
 | [],_::_,h=>⟨h.1,h.2⟩
 | _::_,_::_,h=>⟨h.1,qD h.2⟩
 | [],[],h=>h.elim
 | _::_,[],h=>h.elim
theorem EB {P:Params} {ρ:Nat->Addr} {s:Shared} {R:List AO} (hR:Rel P z5 ρ (base f (.ptr 10) X x0 304 .none [] R) s.heap):Stp P z5 ρ (base f (.ptr 10) X x0 304 .none [] R) s ρ (base f (.ptr 10) X x0 304 (.con .none) [] R) s :=
 Stp.frameOnly (fr:=2) (o:=.dict (nr f (.con .none))) hR (by rw[di];lia) rfl rfl rfl (Qa _) (fun _ _ _ e=>e) (by
  obtain ⟨ents,ep,e1,e2,e3⟩:=hR.own 2 _ rfl;exact ⟨ents,ep,e1,qD (a:=(nr f .none).take 6) e2,e3⟩)
theorem yi (B:Bt prog w z5 K tab) (hT:∀ f r,tab.fn f=some r->bP w z5 f r) (hz:X.length<=10240) (ok:∀ c∈X.cps.toList,cD c)
  (hA:A.handled=none) (hd:A.depth<=850) (hes:env.scope=gscope) (heg:env.globals=mainGlobals) (heb:env.builtins=builtinsNs)
  (hΦ:∀ n ρ σ s ρ' σ' s',Φ n ρ σ.length s.heap->Move w.params z5 ρ σ s ρ' σ' s'->Φ n ρ' σ'.length s'.heap)
  (hN:∀ (n:Nat) (ρ:Nat->Addr) (rc:Value) (x:Sx) (ct:AV) (ms:MS) (s:Shared),gk ms.cur (tk n)->Rel w.params z5 ρ (base f (.con rc) X x ms.st.addr ct [] (aK ms.cur++aM (10+(aK ms.cur).length) (tk n))) s.heap->ρ 0=env.locals->ρ 1=TK->ctR ms.cur (some (tk n)) ct ->
   Φ (n+1) ρ (base f (.con rc) X x ms.st.addr ct [] (aK ms.cur++aM (10+(aK ms.cur).length) (tk n))).length s.heap ->
   ∃ (s'':Shared) (ρ'':Nat->Addr) (ct'':AV),Rel w.params z5 ρ'' (base f (.con rc) X x ms.st.addr ct'' [] (aK ms.cur)) s''.heap/\ρ'' 0=env.locals/\ρ'' 1=TK/\ctC ms.cur ct''/\Φ n ρ'' (base f (.con rc) X x ms.st.addr ct'' [] (aK ms.cur)).length s''.heap)
  {n:Nat} (D:eO tk n ⟨.data,.none,X.cps.toList⟩) {s s₀:Shared} {ρ:Nat->Addr} (hg:Same s s₀) (hR:Rel w.params z5 ρ (gz f X) s.heap) (h0:ρ 0=env.locals) (h1:ρ 1=TK) (hP:Φ n ρ (gz f X).length s.heap) :
  Seg (model prog w) A (RP w.params z5 f X env TK Φ) (YP w.params z5 f X tk env TK Φ) n s₀ (.func bL.2.1 env) ((model prog w).den (.func bL.2.1 env)) [] s:=by
 refine seg_func ?_;rw[pH];refine seg_execs_cons (seg_wrap ?_);have hE:EnvR (gz f X).length ρ env 0 gscope []:=gP hes heg heb h0 (by show 0 < 10;exact Qn 9);refine wpAny_mono (((eE B hT (by exact hA) (by show A.depth+1<=860;lia)).s (es:=⟨gz f X,[]⟩) hR hE nG).go (AT f X) (fun _ h=>nomatch h) (Q:=fun fl s'=>fl=.next/\∃ ρ1,Stp w.params z5 ρ (gz f X) s ρ1 (nR f X) s') (E:=fun _ _=>False) fun c s' ρ1 S r=>⟨r,ρ1,S⟩) (fun fl s1 zz=>?_) fun _ _ x=>x.elim;obtain ⟨hf,ρ1,S1⟩:=zz;subst hf;have P1:=Move.pick (m:=kY) (ks:=[]) S1.rel rfl (by decide);rw[As] at P1;have S2:=EB P1.rel;have M:=(S1.move.trans P1).trans S2.move;have q0:bh ρ1 kY 0=env.locals:=(S1.ext 0 (by show 0 < 10;omega)).trans h0;have q1:bh ρ1 kY 1=TK:=(S1.ext 1 (by show 1 < 10;exact Nat.one_lt_succ_succ 8)).trans h1;have hP1:=hΦ _ _ _ _ _ _ _ hP M;have hg1:=hg.of M.gens M.os;rw[<- pH];refine seg_execs_cons (seg_While fun p=>?_)
 suffices main:∀ k l,jx prog w z5 A env f X tk TK Φ k bL.2.1->jw prog w z5 A env f X tk TK Φ k l bL.2.1 p n s₀ s1 from
  main _ _ ⟨hA,hd,hes,heg,heb,hΦ,hN,fun n s₀ s1 hp=>seg_end (.ok (.ret .none)) ⟨rfl,hp⟩⟩
 intro k l G;have hl:2<=(base f (.ptr 10) X x0 304 (.con .none) [] [.meth 148 (.ptr 3)]).length:=by rw[di];exact Nat.le_add_left 2 9
 have first:∀ {c:Nat} {r:List Nat} {ms':MS} {out:Option Tok},X.cps.toList=c::r->bj .data .none c r=some (ms',out)->Turn (base f (.ptr 10) X x0 304 (.con .none) [] [.meth 148 (.ptr 3)]) true f X ms' out:=fun e h=>by
  have ne:X.length≠0:=by
   have:X.cps.toList.length=X.length:=rfl;rw[e,List.length_cons] at this;exact nE (id (Eq.symm this)) rfl
  exact FJ (e▸CW hz) hz (CV hz ne ok) h
 have fst:∀ {c:Nat} {r:List Nat} {ms':MS} {out:Option Tok},Go ⟨.data,.none,c::r⟩ ms' out->bj .data .none c r=some (ms',out):=fun h=>by
  refine ag fun G0 hG0=>?_;obtain ⟨_,c,r,e,h⟩:=h;refine hG0 ?_
  cases e;exact h
 cases hx:X.cps.toList with
 | nil =>
  rw[hx] at D
  cases D with
  | eof hc=>exact ru B hT G rfl (w8 (by have:X.cps.toList.length=X.length:=rfl;rw[hx] at this;exact this.symm)) hl hg1 M.rel q0 q1 hP1
  | quiet h _=>obtain ⟨_,c,r,e,_⟩:=h;cases e
  | emit h _ _=>obtain ⟨_,c,r,e,_⟩:=h;cases e
 | cons c r =>
  rw[hx] at D;generalize hms:(⟨.data,.none,c::r⟩:MS)=ms at D
  cases D with
  | eof hc=>cases hms
  | quiet h D =>
   refine ag fun G0 hG0=>?_;subst hms;refine hG0 ?_;exact pO B hT G (qA B hT hz G D) (first hx (fst h)) hl hg1 M.rel q0 q1 hP1
  | emit h ht D =>
   refine ag fun G0 hG0=>?_;subst hms;subst ht;refine hG0 ?_;exact qB B hT G (qA B hT hz G D) h.tok (first hx (fst h)) hl hg1 M.rel q0 q1 hP1
end
end TE
namespace TE
set_option genSizeOf false
set_option genInjectivity false
structure It where
 kd:Str
 pl:Str
 row:List (Str×Str)
 cl:Bool
noncomputable def de (l:List (Str×Str)):PyData:=.list (l.map fun p=>.tuple [.str p.1,.str p.2])
noncomputable def It.data (i:It):PyData:=.tuple [.str i.kd,.str i.pl,de i.row,.bool i.cl]
noncomputable def ReadsF (F:List (Addr×Obj)) (v:Value) (d:PyData):Prop:=∃ as,∀ h:Heap,(∀ p∈F,h.get? p.1=some p.2)->Reads h v d as
theorem tK {α:Type} {M:Model} {A:Around} {t:Sem α} {s:Shared} {Q:α->Shared->Prop} {E:Value->Shared->Prop} (h:∀ Q':α->Shared->Prop,(∀ a s',Q a s'->Q' a s')->wpAny M A t Q' E s):wpAny M A t Q E s:=h Q fun _ _ x=>x
theorem ReadsF.mono {F F':List (Addr×Obj)} {v:Value} {d:PyData} (H:ReadsF F v d) (h:∀ p∈F,p∈F'):ReadsF F' v d :=
 let ⟨as,k⟩:=H;⟨as,fun x hx=>k x fun p hp=>hx p (h p hp)⟩
noncomputable def mz:List AV->List Nat
 | []=>[]
 | [.ptr i]=>[i]
 | _::r=>mz r
noncomputable def fP (o:AO):List Nat:=match o with
 | .list xs=>mz xs
 | .snoc _ xs=>mz xs
 | _=>[]
noncomputable def rX (o:AO):Option Nat:=match o with
 | .tuple [_,_,.ptr r,_]=>some r
 | _=>none
noncomputable def nA:AO->Option (List AV)
 | .list l=>some l
 | _=>none
theorem wm {o:AO} {l:List AV} (h:nA o=some l):o=.list l:=by
 cases o with
 | list _=>rw[Qb h]
 | _=>exact non h
noncomputable def h8 (hp:List AO):List AV->Option (List (Str×Str)×List Nat)
 | []=>some ([],[])
 | a::r=>match a with
  | .ptr j=>(match gN (atD hp j) with
   | some p=>(match h8 hp r with
    | some x=>some (p::x.1,j::x.2)
    | none=>none)
   | none=>none)
  | _=>none
noncomputable def kz (hp:List AO) (r:Nat):Option (List (Str×Str)×List Nat):=match nA (atD hp r) with
 | some xs=>(match h8 hp xs with
  | some x=>some (x.1,r::x.2)
  | none=>none)
 | none=>none
noncomputable def io (loc:List (Str×AV)):List Str->List (Str×AV)
 | []=>[]
 | x::r=>match lk loc x with
  | some a=>(x,a)::io loc r
  | none=>io loc r
noncomputable def te (names:List Str):AO->AO
 | .ns loc=>.ns (io loc names)
 | o=>o
noncomputable def slim (names:List Str):List AO->List AO
 | a::.cell _::r=>te names a::.cell none::r
 | l=>l
noncomputable def gR:List Nat->List Nat->Bool
 | [],_=>true
 | i::r,m=>match inL i m with
  | true=>false
  | false=>gR r m
noncomputable def aP (names:List Str) (pre:List Nat) (q:Nat) (ρ:Nat->Addr) (r:Option (AF×ES×List Prop)):Option (List AO×Nat×List (Str×Str)×AO×List Prop):=match r with
 | some (.next,⟨hp,[]⟩,pc)=>(match fP (atD hp q) with
  | [t]=>(match rX (atD hp t) with
   | some rI=>(match kz hp rI with
    | some (ps,is)=>(match bB (pre++[t]) hp.length&&fN (pre++[t])&&bB is hp.length&&gR is (pre++[t])&&gR [pre.length] (pre++[t])&&Nat.blt pre.length hp.length with
     | true=>some (slim names (TE.pick ρ (pre++[t]) [] hp),rI,ps,atD hp pre.length,pc)
     | false=>none)
    | none=>none)
   | none=>none)
  | _=>none)
 | _=>none
noncomputable def iD (names:List Str) (pre:List Nat) (q:Nat) (ρ:Nat->Addr) (r:Option (AF×ES×List Prop)):Option (List AO×List Prop):=match r with
 | some (.next,⟨hp,[]⟩,pc)=>(match bB (pre++fP (atD hp q)) hp.length&&fN (pre++fP (atD hp q)) with
  | true=>some (slim names (TE.pick ρ (pre++fP (atD hp q)) [] hp),pc)
  | false=>none)
 | _=>none
section
variable {P:Params} {z5 h:Heap} {ρ ρ':Nat->Addr} {σ σ':List AO} {n:Nat} {s:Shared} {F:List (Addr×Obj)}
theorem l7 {loc:List (Str×AV)}:∀ {l:List Str} {x:Str} {a:AV},lk (io loc l) x=some a->lk loc x=some a
 | [],_,_,h=>non h
 | y::r,x,a,h=>by
  dsimp only[io] at h
  cases q:lk loc y with
  | none=>rw[q] at h;exact l7 h
  | some b =>
   rw[q] at h;have h:(match seq y x with | true=>some b | false=>lk (io loc r) x)=some a:=h
   cases q2:seq y x with
   | true=>rw[q2] at h;obtain rfl:=Qb h;rw[<- (bt _ _).mp q2];exact q
   | false=>rw[q2] at h;exact l7 h
theorem Rel.weak (R:Rel P z5 ρ σ h) (hl:σ'.length=σ.length) (k:∀ (i:Nat) (o':AO),σ'[i]?=some o'->∃ o:AO,σ[i]?=some o/\∀ a,ORel P σ.length ρ h a o->ORel P σ.length ρ h a o'):Rel P z5 ρ σ' h :=
 ⟨R.base,R.keep,fun i o' e=>by
  obtain ⟨o,h1,h2⟩:=k i o' e;rw[hl];exact h2 _ (R.own i o h1),fun i hi=>R.high i (hl▸hi),fun i j hi hj=>R.inj i j (hl▸hi) (hl▸hj)⟩
theorem xo {names:List Str} {a:Addr} {o:AO} (H:ORel P n ρ h a o):ORel P n ρ h a (te names o):=by
 cases o with
 | ns loc =>
  obtain ⟨m,h1,h2⟩:=H;exact ⟨m,h1,fun x av hx=>h2 x av (l7 hx)⟩
 | _=>exact H
theorem hJ {names:List Str}:∀ {l:List AO},(slim names l).length=l.length
 | []=>rfl
 | [_]=>rfl
 | a::.cell v::r=>rfl
 | a::.list _::r=>rfl
 | a::.snoc _ _::r=>rfl
 | a::.numl _::r=>rfl
 | a::.tuple _::r=>rfl
 | a::.dict _::r=>rfl
 | a::.inst _ _::r=>rfl
 | a::.meth _ _::r=>rfl
 | a::.ns _::r=>rfl
 | a::.iter _ _::r=>rfl
 | a::.dead::r=>rfl
theorem yx {a:Addr} {v:Option AV} (H:ORel P n ρ h a (.cell v)):ORel P n ρ h a (.cell none) :=
 let ⟨o,v',h1,h2,_⟩:=H;⟨o,v',h1,h2,fun _ e=>by cases e⟩
theorem Rel.slim {names:List Str} (R:Rel P z5 ρ σ h):Rel P z5 ρ (TE.slim names σ) h:=by
 refine R.weak hJ fun i o' e=>?_;have same:∀ {l:List AO},l[i]?=some o'->∃ o,l[i]?=some o/\∀ a,ORel P σ.length ρ h a o->ORel P σ.length ρ h a o':=fun e=>⟨o',e,fun _ x=>x⟩
 match σ,e with
 | a::.cell v::r,e =>
  match i,e with
  | 0,e=>obtain rfl:=Qb e;exact ⟨a,rfl,fun _ H=>xo H⟩
  | 1,e=>obtain rfl:=Qb e;exact ⟨_,rfl,fun _ H=>yx H⟩
  | i+2,e=>exact ⟨o',e,fun _ x=>x⟩
 | [],e=>exact same e
 | [_],e=>exact same e
 | a::.list _::r,e=>exact same e
 | a::.snoc _ _::r,e=>exact same e
 | a::.numl _::r,e=>exact same e
 | a::.tuple _::r,e=>exact same e
 | a::.dict _::r,e=>exact same e
 | a::.inst _ _::r,e=>exact same e
 | a::.meth _ _::r,e=>exact same e
 | a::.ns _::r,e=>exact same e
 | a::.iter _ _::r,e=>exact same e
 | a::.dead::r,e=>exact same e
theorem Rel.move_to {ρ:Nat->Addr} {σ σ':List AO} {s:Shared} (hl:σ'.length=σ.length) (R':Rel P z5 ρ σ' s.heap) (hz:s.heap.objs.size<=s.heap.objs.size):Move P z5 ρ σ s ρ σ' s :=
 ⟨rfl,rfl,rfl,R',hz,fun j hj=>.inl ⟨j,hl▸hj,rfl⟩,fun _ _ _ e=>e⟩
theorem vp (R:Rel P z5 ρ σ h) {j:Nat} {p:Str×Str} (hj:j < σ.length) (e:gN (atD σ j)=some p):∃ o,h.get? (ρ j)=some o/\ReadsF [(ρ j,o)] (.ref (ρ j)) (.tuple [.str p.1,.str p.2]):=by
 have H:=R.own j _ (gd hj);obtain ⟨a,b,e,sa,sb⟩:=oo e;rw[e] at H;obtain ⟨its,ep,e1,e2⟩:=H;refine ⟨_,e1,[],fun h' hh=>Reads.tuple (hh _ (.head _)) rfl rfl ?_⟩
 match hl:its.toList,e2 with
 | [v1,v2],e2 =>
  obtain ⟨t,rfl⟩:=jV sa e2.1;obtain ⟨u,rfl⟩:=jV sb e2.2.1;exact ReadsAll.cons (Reads.str _ t) (ReadsAll.cons (Reads.str _ u) ReadsAll.nil)
 | [],e2=>exact e2.elim
 | [_],e2=>exact e2.2.elim
 | _::_::_::_,e2=>exact e2.2.2.elim
theorem uG (R:Rel P z5 ρ σ h):∀ {xs:List AV} {vs:List Value} {ps:List (Str×Str)} {is:List Nat},h8 σ xs=some (ps,is)->bB is σ.length=true->All2 (VRel σ.length ρ) xs vs ->
  ∃ F:List (Addr×Obj),(∀ p∈F,h.get? p.1=some p.2/\∃ i∈is,p.1=ρ i)/\∃ as,∀ h':Heap,(∀ p∈F,h'.get? p.1=some p.2)->ReadsAll h' vs (ps.map fun p=>.tuple [.str p.1,.str p.2]) as:=fun {xs}=>by
 induction xs with
 | nil =>
  intro vs ps is e _ hv
  cases vs with
  | nil=>cases e;exact ⟨[],(fun _ h=>noM h),[],fun _ _=>ReadsAll.nil⟩
  | cons _ _=>exact hv.elim
 | cons a r ih =>
  intro vs ps is e hf hv
  cases vs with
  | nil=>exact hv.elim
  | cons v vs =>
   cases a with
   | ptr j =>
    dsimp only[h8] at e
    cases q1:gN (atD σ j) with
    | none=>rw[q1] at e;exact non e
    | some p =>
     rw[q1] at e;dsimp only at e
     cases q2:h8 σ r with
     | none=>rw[q2] at e;exact non e
     | some x =>
      rw[q2] at e
      cases e
      dsimp only[bB] at hf
      cases hj:Nat.blt j σ.length with
      | false=>rw[hj] at hf;exact noT hf
      | true =>
       rw[hj] at hf;have hj:j < σ.length:=Qc hj;refine ag fun G0 hG0=>?_;obtain ⟨F,f1,as,f2⟩:=ih q2 hf hv.2;obtain ⟨o,o1,bs,o2⟩:=vp R hj q1;obtain ⟨_,rfl⟩:=hv.1;refine hG0 ?_;refine ⟨(ρ j,o)::F,fun p hp=>?_,bs++as,fun h' hh=>ReadsAll.cons (o2 h' fun p hp=>hh p (by rw[List.mem_singleton] at hp;subst hp;exact .head _)) (f2 h' fun p hp=>hh p (.tail _ hp))⟩;rcases Qz hp with rfl | hp
       ·exact ⟨o1,j,.head _,rfl⟩
       ·obtain ⟨a,i,b,c⟩:=f1 p hp;exact ⟨a,i,.tail _ b,c⟩
   | _=>exact non e
theorem wf (R:Rel P z5 ρ σ h) {r:Nat} {ps:List (Str×Str)} {is:List Nat} (e:kz σ r=some (ps,is)) (hf:bB is σ.length=true) :
  ∃ F:List (Addr×Obj),(∀ p∈F,h.get? p.1=some p.2/\∃ i∈is,p.1=ρ i)/\ReadsF F (.ref (ρ r)) (de ps):=by
 dsimp only[kz] at e
 cases q:nA (atD σ r) with
 | none=>rw[q] at e;exact non e
 | some xs =>
  rw[q] at e;dsimp only at e
  cases q2:h8 σ xs with
  | none=>rw[q2] at e;exact non e
  | some x =>
   rw[q2] at e
   cases e
   dsimp only[bB] at hf
   cases hj:Nat.blt r σ.length with
   | false=>rw[hj] at hf;exact noT hf
   | true =>
    rw[hj] at hf;have H:=R.own r _ (gd (Qc hj));rw[wm q] at H;refine ag fun G0 hG0=>?_;obtain ⟨its,ep,e1,e2⟩:=H;obtain ⟨F,f1,as,f2⟩:=uG R q2 hf e2;refine hG0 ?_;refine ⟨(ρ r,({ cls:=.type "list",data:=.seq its ep }:Obj))::F,fun p hp=>?_,ρ r::as,fun h' hh=>Reads.list (n:=ep) (hh _ (.head _)) rfl rfl (f2 h' fun p hp=>hh p (.tail _ hp))⟩;rcases Qz hp with rfl | hp
    ·exact ⟨e1,r,.head _,rfl⟩
    ·obtain ⟨a,i,b,c⟩:=f1 p hp;exact ⟨a,i,.tail _ b,c⟩
theorem ou (R:Rel P z5 ρ σ h) {k:Nat} {kd pl:Str} {rr:Value} {c:Bool} (e:σ[k]?=some (.tuple [.sstr kd,.sstr pl,.con rr,.bool c])) :
  ∃ o,h.get? (ρ k)=some o/\∀ F d,ReadsF F rr d->ReadsF ((ρ k,o)::F) (.ref (ρ k)) (.tuple [.str kd,.str pl,d,.bool c]):=by
 obtain ⟨its,ep,e1,e2⟩:=R.own k _ e;refine ⟨_,e1,fun F d ⟨as,hd⟩=>⟨[]++([]++(as++([]++[]))),fun h' hh=>Reads.tuple (hh _ (.head _)) rfl rfl ?_⟩⟩
 match hl:its.toList,e2 with
 | [v1,v2,v3,v4],e2 =>
  obtain ⟨⟨t,rfl⟩,⟨u,rfl⟩,rfl,rfl,_⟩:=e2;exact ReadsAll.cons (Reads.str _ t) (ReadsAll.cons (Reads.str _ u) (ReadsAll.cons (hd h' fun p hp=>hh p (.tail _ hp)) (ReadsAll.cons (Reads.bool _) ReadsAll.nil)))
 | [],e2=>exact e2.elim
 | [_],e2=>exact e2.2.elim
 | [_,_],e2=>exact e2.2.2.elim
 | [_,_,_],e2=>exact e2.2.2.2.elim
 | _::_::_::_::_::_,e2=>exact e2.2.2.2.2.elim
end
end TE
namespace TE
set_option tactic.hygienic false
theorem CY:∀ {a:Nat} {r:List Nat},a∈r->inL a r=true:=fun {a r} h=>by
 have:∃ j,cP a r=some j:=by
  induction r with
  | nil=>exact noM h
  | cons b r ih =>
   dsimp only[cP]
   cases q:Nat.beq b a with
   | true=>exact ⟨0,rfl⟩
   | false =>
    have ne:b≠a:=fun e=>by subst e;rw[Nat.beq_refl] at q;exact noF q
    obtain ⟨j,e⟩:=ih ((Qz h).resolve_left fun e=>ne e.symm);exact ⟨j+1,by dsimp only;rw[e]⟩
 obtain ⟨j,e⟩:=this;dsimp only[inL];rw[e]
theorem lX:∀ {l m:List Nat},gR l m=true->∀ i∈l,i ∉ m
 | [],_,_,_,h=>nomatch h
 | i::r,m,e,j,h=>by
  dsimp only[gR] at e
  cases q:inL i m with
  | true=>rw[q] at e;exact noT e
  | false =>
   rw[q] at e;rcases Qz h with rfl | h
   ·intro hm;rw[CY hm] at q;exact noF q
   ·exact lX e j h
section
variable {prog:Program} {w:World} {z5:Heap} {A:Around} {env:Env} {ρ:Nat->Addr} {s:Shared} {sc:Scope} {cells:List (Str×Nat)} {r:Ev} {fr:Nat}
noncomputable def Src (ρ:Nat->Addr) (hp:List AO) (s:Shared) (F:List (Addr×Obj)):Prop:=∀ p∈F,(∃ i,i < hp.length/\p.1=ρ i)\/s.heap.objs.size<=p.1
inductive tV (P:Params) (z5:Heap) (ρ:Nat->Addr) (hp:List AO) (s:Shared) (σ':(Nat->Addr)->List AO) (rI:Nat) (ps:List (Str×Str)) (old:AO) (n:Nat) (K:(Nat->Addr)->(Nat->Addr)->Prop) (fl:Flow) (s':Shared):Prop
 | mk (hf:fl=.next) (ρ1 ρ':Nat->Addr) (F1:List (Addr×Obj)) (M:Move P z5 ρ hp s ρ' (σ' ρ1) s') (e1:∀ i,i < hp.length->ρ1 i=ρ i) (k1:K ρ1 ρ') (K1:Kept F1 (σ' ρ1).length ρ' s'.heap) (S1:Src ρ hp s F1) (r1:ReadsF F1 (.ref (ρ1 rI)) (de ps))
  (o1:∀ kd pl rr c,old=.tuple [.sstr kd,.sstr pl,.con rr,.bool c]->∃ o,Kept [(ρ1 n,o)] (σ' ρ1).length ρ' s'.heap/\Src ρ hp s [(ρ1 n,o)]/\∀ F d,ReadsF F rr d->ReadsF ((ρ1 n,o)::F) (.ref (ρ1 n)) (.tuple [.str kd,.str pl,d,.bool c])):tV P z5 ρ hp s σ' rI ps old n K fl s'
inductive tW (P:Params) (z5:Heap) (ρ:Nat->Addr) (hp:List AO) (s:Shared) (σ':(Nat->Addr)->List AO) (K:(Nat->Addr)->(Nat->Addr)->Prop) (fl:Flow) (s':Shared):Prop
 | mk (hf:fl=.next) (ρ1 ρ':Nat->Addr) (M:Move P z5 ρ hp s ρ' (σ' ρ1) s') (e1:∀ i,i < hp.length->ρ1 i=ρ i) (k1:K ρ1 ρ'):tW P z5 ρ hp s σ' K fl s'
theorem iA (EV:aR prog w z5 A env fr sc cells r) {hp:List AO} {dec:List Nat} {body:List Stmt} {names:List Str} {pre:List Nat} {q:Nat} {σ':(Nat->Addr)->List AO} {rI:Nat} {ps:List (Str×Str)} {old:AO} {pc:List Prop}
  (hR:Rel w.params z5 ρ hp s.heap) (hE:EnvR hp.length ρ env fr sc cells) (e:∀ ρ',aP names pre q ρ' (cH r.s body ⟨hp,dec⟩)=some (σ' ρ',rI,ps,old,pc)) (z8:∀ p∈pc,p) :
  wpAny (model prog w) A (execs body env) (tV w.params z5 ρ hp s σ' rI ps old pre.length (fun ρ1 ρ'=>∀ j i:Nat,pre[j]?=some i->ρ' j=ρ1 i))
   (fun _ _=>False) s:=by
 refine tK fun Q hQ=>?_;have e0:=e (fun _=>0);dsimp only[aP] at e0
 cases q0:cH r.s body ⟨hp,dec⟩ with
 | none=>rw[q0] at e0;exact non e0
 | some x =>
  refine ag fun G0 hG0=>?_;obtain ⟨fl,⟨hp1,dec1⟩,y0⟩:=x;refine hG0 ?_;rw[q0] at e0
  cases fl with
  | next =>
   cases dec1 with
   | cons _ _=>exact non e0
   | nil =>
    dsimp only at e0
    cases q1:fP (atD hp1 q) with
    | nil=>rw[q1] at e0;exact non e0
    | cons t tl =>
     cases tl with
     | cons _ _=>rw[q1] at e0;exact non e0
     | nil =>
      rw[q1] at e0;dsimp only at e0
      cases q2:rX (atD hp1 t) with
      | none=>rw[q2] at e0;exact non e0
      | some rI' =>
       rw[q2] at e0;dsimp only at e0
       cases q3:kz hp1 rI' with
       | none=>rw[q3] at e0;exact non e0
       | some y =>
        obtain ⟨ps',is⟩:=y;rw[q3] at e0;dsimp only at e0
        cases q4:bB (pre++[t]) hp1.length&&fN (pre++[t])&&bB is hp1.length&&gR is (pre++[t])&&gR [pre.length] (pre++[t])&&Nat.blt pre.length hp1.length with
        | false=>rw[q4] at e0;exact non e0
        | true =>
         rw[q4] at e0
         have hrest:rI'=rI/\ps'=ps/\atD hp1 pre.length=old/\y0=pc:=by
          simp only[Option.some.injEq,Prod.mk.injEq] at e0;exact ⟨e0.2.1,e0.2.2.1,e0.2.2.2.1,e0.2.2.2.2⟩
         refine ag fun G0 hG0=>?_;obtain ⟨rfl,rfl,rfl,rfl⟩:=hrest;obtain ⟨q4',q46⟩:=Qx q4;obtain ⟨q4',q45⟩:=Qx q4';obtain ⟨q4',q44⟩:=Qx q4';obtain ⟨q4',q43⟩:=Qx q4';obtain ⟨q41,q42⟩:=Qx q4';refine hG0 ?_;refine wpAny_mono ((fC EV body hR hE).go q0 z8 (Q:=fun fl s'=>fl=.next/\∃ ρ1,Stp w.params z5 ρ hp s ρ1 hp1 s') (E:=fun _ _=>False) fun c s' ρ1 S r=>⟨r,ρ1,S⟩) (fun fl s' zz=>?_) fun _ _ x=>x;obtain ⟨hb,ρ1,S⟩:=zz;have e1:=e ρ1;dsimp only[aP] at e1;rw[q0] at e1;dsimp only at e1;rw[q1] at e1;dsimp only at e1;rw[q2] at e1;dsimp only at e1;rw[q3] at e1;dsimp only at e1;rw[q4] at e1
         have hh:slim names (TE.pick ρ1 (pre++[t]) [] hp1)=σ' ρ1:=by
          simp only[Option.some.injEq,Prod.mk.injEq] at e1;exact e1.1
         have M1:=Move.pick (ks:=[]) S.rel q41 (jO q42);have M2:=Rel.move_to (s:=s') hJ (Rel.slim (names:=names) M1.rel) (Qa _);have M:=(S.move.trans M1).trans M2;rw[hh] at M;have hlen:(σ' ρ1).length=(TE.pick ρ1 (pre++[t]) [] hp1).length:=by rw[<- hh];exact hJ
         obtain ⟨F1,f1,f2⟩:=wf S.rel q3 q43;have ap:=lX q44;have kp:pre.length < hp1.length:=Qc q46
         have src:∀ i,i < hp1.length->(∃ j,j < hp.length/\ρ1 i=ρ j)\/s.heap.objs.size<=ρ1 i:=fun i hi=>by
          by_cases q:i < hp.length
          ·exact .inl ⟨i,q,S.ext i q⟩
          ·exact .inr (S.fresh i (Nat.not_lt.mp q) hi)
         refine hQ _ _ ⟨hb,ρ1,_,F1,M,S.ext,fun j i hj=>?_,⟨fun p hp=>(f1 p hp).1,fun p hp j hj=>?_⟩,fun p hp=>?_,f2,fun kd pl rr c ho=>?_⟩
         ·have:(pre++[t])[j]?=some i:=by rw[List.getElem?_append_left (Qy hj).1];exact hj
          exact cp this
         ·obtain ⟨_,i,hi,hpi⟩:=f1 p hp;rw[hlen] at hj;rw[hpi];exact qH S.rel q41 (i4 q43 i hi) (ap i hi) j hj
         ·refine ag fun G0 hG0=>?_;obtain ⟨_,i,hi,hpi⟩:=f1 p hp;refine hG0 ?_;rw[hpi];exact src i (i4 q43 i hi)
         ·obtain ⟨o,o1,o2⟩:=ou S.rel (k:=pre.length) (by rw[<- ho];exact gd kp);refine ⟨o,⟨fun p hp=>by rw[List.mem_singleton] at hp;subst hp;exact o1,fun p hp j hj=>?_⟩,fun p hp=>by rw[List.mem_singleton] at hp;subst hp;exact src _ kp,o2⟩;rw[List.mem_singleton] at hp;subst hp;rw[hlen] at hj;exact qH S.rel q41 kp (lX q45 _ (.head _)) j hj
  | _=>exact non e0
theorem Gv (EV:aR prog w z5 A env fr sc cells r) {hp:List AO} {dec:List Nat} {body:List Stmt} {names:List Str} {pre:List Nat} {q:Nat} {σ':(Nat->Addr)->List AO} {pc:List Prop}
  (hR:Rel w.params z5 ρ hp s.heap) (hE:EnvR hp.length ρ env fr sc cells) (e:∀ ρ',iD names pre q ρ' (cH r.s body ⟨hp,dec⟩)=some (σ' ρ',pc)) (z8:∀ p∈pc,p) :
  wpAny (model prog w) A (execs body env) (tW w.params z5 ρ hp s σ' (fun ρ1 ρ'=>∀ j i:Nat,pre[j]?=some i->ρ' j=ρ1 i))
   (fun _ _=>False) s:=by
 refine tK fun Q hQ=>?_;have e0:=e (fun _=>0);dsimp only[iD] at e0
 cases q0:cH r.s body ⟨hp,dec⟩ with
 | none=>rw[q0] at e0;exact non e0
 | some x =>
  refine ag fun G0 hG0=>?_;obtain ⟨fl,⟨hp1,dec1⟩,y0⟩:=x;refine hG0 ?_;rw[q0] at e0
  cases fl with
  | next =>
   cases dec1 with
   | cons _ _=>exact non e0
   | nil =>
    dsimp only at e0
    cases q4:bB (pre++fP (atD hp1 q)) hp1.length&&fN (pre++fP (atD hp1 q)) with
    | false=>rw[q4] at e0;exact non e0
    | true =>
     rw[q4] at e0
     have hrest:y0=pc:=by
      simp only[Option.some.injEq,Prod.mk.injEq] at e0;exact e0.2
     subst hrest;obtain ⟨q41,q42⟩:=Qx q4;refine wpAny_mono ((fC EV body hR hE).go q0 z8 (Q:=fun fl s'=>fl=.next/\∃ ρ1,Stp w.params z5 ρ hp s ρ1 hp1 s') (E:=fun _ _=>False) fun c s' ρ1 S r=>⟨r,ρ1,S⟩) (fun fl s' zz=>?_) fun _ _ x=>x;obtain ⟨hb,ρ1,S⟩:=zz;have e1:=e ρ1;dsimp only[iD] at e1;rw[q0] at e1;dsimp only at e1;rw[q4] at e1
     have hh:slim names (TE.pick ρ1 (pre++fP (atD hp1 q)) [] hp1)=σ' ρ1:=by
      simp only[Option.some.injEq,Prod.mk.injEq] at e1;exact e1.1
     have M1:=Move.pick (ks:=[]) S.rel q41 (jO q42);have M2:=Rel.move_to (s:=s') hJ (Rel.slim (names:=names) M1.rel) (Qa _);have M:=(S.move.trans M1).trans M2;rw[hh] at M;refine hQ _ _ ⟨hb,ρ1,_,M,S.ext,fun j i hj=>?_⟩;have:(pre++fP (atD hp1 q))[j]?=some i:=by rw[List.getElem?_append_left (Qy hj).1];exact hj
     exact cp this
  | _=>exact non e0
end
end TE
namespace TE
set_option backward.match.sparseCases false
set_option tactic.hygienic false
noncomputable def aV:Arguments×List Stmt×Scope:=(mP ⟨#[108,97,119]⟩).getD (⟨[],[],none,[],[],none,[]⟩,[],⟨.function,[],false,false,[]⟩)
noncomputable def lscope:Scope:=aV.2.2
noncomputable def lst (i:Nat):Stmt:=aV.2.1.getD i (.Pass ⟨0,0,0,0⟩)
noncomputable def rx:Stmt->List Stmt
 | .For _ _ b _ _=>b
 | _=>[]
noncomputable def bv:Str:=⟨#[116,97,112,101]⟩
noncomputable def bX:Str:=⟨#[116,101,120,116]⟩
noncomputable def cG:Str:=⟨#[100,117,101]⟩
noncomputable def gx:Str:=⟨#[103,111,116]⟩
noncomputable def aD:Str:=⟨#[116,111,107,101,110]⟩
noncomputable def dQ:Str:=⟨#[116,111,107,101,110,105,122,101,114]⟩
noncomputable def lev (hook:cy):Ev:=ev tab (db tab gV kr 8) hook 0 lscope [(aD,1)] 40
noncomputable def kQ:List Stmt:=rx (lst 3)
noncomputable def jm:List Stmt:=rx (lst 6)
noncomputable def bp:List Str:=[bv,bX,cG]
noncomputable def aw (T:Str) (ns:List Int) (due:AO) (R:List AO):List AO:=.ns [(bv,.ptr 2),(bX,.sstr T),(cG,.ptr 3)]::.cell none::.numl ns::due::R
noncomputable def bw (T:Str) (ns:List Int) (due:AO) (R:List AO) (dec:List Nat):=cH (lev bu).s kQ ⟨aw T ns due R,dec⟩
noncomputable def ax (kd pl:Str) (rr:Value) (cl:Bool):AO:=.tuple [.sstr kd,.sstr pl,.con rr,.bool cl]
end TE
namespace TE
noncomputable def sLt:Str:=(⟨#[60]⟩:Str)
noncomputable def sSp:Str:=(⟨#[32]⟩:Str)
noncomputable def sCl:Str:=(⟨#[32,47,62]⟩:Str)
noncomputable def sGt:Str:=(⟨#[62]⟩:Str)
noncomputable def sLtS:Str:=(⟨#[60,47]⟩:Str)
noncomputable def sSpGt:Str:=(⟨#[32,62]⟩:Str)
noncomputable def sCo:Str:=(⟨#[60,33,45,45]⟩:Str)
noncomputable def sCc:Str:=(⟨#[45,45,62]⟩:Str)
noncomputable def kHref:Str:=(⟨#[104,114,101,102]⟩:Str)
noncomputable def kB:Str:=(⟨#[66]⟩:Str)
noncomputable def kDC:Str:=(⟨#[100,97,116,97,45,99]⟩:Str)
noncomputable def aF:Str:=(⟨#[115,116,97,114,116]⟩:Str)
noncomputable def cc:Str:=(⟨#[101,110,100]⟩:Str)
noncomputable def cY:Str:=(⟨#[110,111,116,101]⟩:Str)
noncomputable def ay:Str:=(⟨#[116,101,120,116]⟩:Str)
noncomputable def lawNames:List Str:=[(⟨#[97]⟩:Str),(⟨#[100,105,118]⟩:Str),(⟨#[72,49]⟩:Str),(⟨#[66,114]⟩:Str),(⟨#[120,45,121]⟩:Str)]
noncomputable def lawNotes:List Str:=[(⟨#[]⟩:Str),(⟨#[110,111,116,101]⟩:Str),(⟨#[32,97,32,45,32,98,32]⟩:Str),(⟨#[120,45,45,121]⟩:Str),(⟨#[60,112,62]⟩:Str)]
noncomputable def lawTexts:List Str:=[(⟨#[112,108,97,105,110]⟩:Str),(⟨#[97,32,98]⟩:Str),(⟨#[32]⟩:Str),(⟨#[116,97,105,108,32,62,32]⟩:Str),(⟨#[108,105,110,101,10,108,105,110,101]⟩:Str)]
noncomputable def hd (ns:List Int):Int:=ns.headD 0
noncomputable def kN (ns:List Int):Int:=Int.fmod (hd ns) 4
noncomputable def ixN (ns:List Int):Int:=Int.fmod (Int.fdiv (hd ns) 4) 5
noncomputable def clN (ns:List Int):Int:=Int.fmod (Int.fdiv (hd ns) 20) 2
noncomputable def wd (l:List Str) (ns:List Int):Str:=l.getD (ixN ns).toNat ⟨#[]⟩
noncomputable def aT:Prop:=ea (dR ⟨#[95,108,97,119,95,115,109,97,108,108]⟩) (dR ⟨#[95,108,97,119,95,115,109,97,108,108]⟩)
section
variable (T:Str) (ns:List Int) (ys:List Value) (kd pl:Str) (rr:Value) (c:Bool)
theorem yO:∀ ρ,aP bp [0,1,2,3] 3 ρ (bw T ns (.list []) [] [1,0,0,0]) =
 some (aw ((T++(sLt++wd lawNames ns))++sGt) ns.tail.tail (.list [.ptr 4]) [.tuple [.sstr aF,.sstr (ac (wd lawNames ns)),.con (.ref (ρ 6)),.bool false]],6,[],.ns [],[ns.length<=1000,kN ns=0,0<=ixN ns/\ixN ns < (lawNames.length:Int),sLt.length+(wd lawNames ns).length<=aa,T.length+(sLt++wd lawNames ns).length<=aa,ns.tail.length<=1000,kN ns.tail=((0:Nat):Int),¬ (clN ns=1),(T++(sLt++wd lawNames ns)).length+sGt.length<=aa,aT,(wd lawNames ns).length<=aa]):=fun ρ=>by kernel_rfl
theorem yN:∀ ρ,aP bp [0,1,2,3] 3 ρ (bw T ns (.list []) [] [1,0,0,1]) =
 some (aw ((T++(sLt++wd lawNames ns))++sCl) ns.tail.tail (.list [.ptr 4]) [.tuple [.sstr aF,.sstr (ac (wd lawNames ns)),.con (.ref (ρ 6)),.bool true]],6,[],.ns [],[ns.length<=1000,kN ns=0,0<=ixN ns/\ixN ns < (lawNames.length:Int),sLt.length+(wd lawNames ns).length<=aa,T.length+(sLt++wd lawNames ns).length<=aa,ns.tail.length<=1000,kN ns.tail=((0:Nat):Int),clN ns=1,(T++(sLt++wd lawNames ns)).length+sCl.length<=aa,aT,(wd lawNames ns).length<=aa]):=fun ρ=>by kernel_rfl
theorem yM:∀ ρ,aP bp [0,1,2,3] 3 ρ (bw T ns (.list []) [] [1,0,1,0]) =
 some (aw (((T++(sLt++wd lawNames ns))++(sSp++(af (hd ns.tail.tail) kHref).1))++sGt) ns.tail.tail.tail (.list [.ptr 4]) [.tuple [.sstr aF,.sstr (ac (wd lawNames ns)),.con (.ref (ρ 6)),.bool false]],6,[(ac kHref,(af (hd ns.tail.tail) kHref).2)],.ns [],[ns.length<=1000,kN ns=0,0<=ixN ns/\ixN ns < (lawNames.length:Int),sLt.length+(wd lawNames ns).length<=aa,T.length+(sLt++wd lawNames ns).length<=aa,ns.tail.length<=1000,kN ns.tail=((1:Nat):Int),ns.tail.tail.length<=1000,kHref.length<=100,sSp.length+(af (hd ns.tail.tail) kHref).1.length<=aa,(T++(sLt++wd lawNames ns)).length+(sSp++(af (hd ns.tail.tail) kHref).1).length<=aa,aT,kHref.length<=aa,¬ (clN ns=1),((T++(sLt++wd lawNames ns))++(sSp++(af (hd ns.tail.tail) kHref).1)).length+sGt.length<=aa,aT,(wd lawNames ns).length<=aa]):=fun ρ=>by kernel_rfl
theorem yL:∀ ρ,aP bp [0,1,2,3] 3 ρ (bw T ns (.list []) [] [1,0,1,1]) =
 some (aw (((T++(sLt++wd lawNames ns))++(sSp++(af (hd ns.tail.tail) kHref).1))++sCl) ns.tail.tail.tail (.list [.ptr 4]) [.tuple [.sstr aF,.sstr (ac (wd lawNames ns)),.con (.ref (ρ 6)),.bool true]],6,[(ac kHref,(af (hd ns.tail.tail) kHref).2)],.ns [],[ns.length<=1000,kN ns=0,0<=ixN ns/\ixN ns < (lawNames.length:Int),sLt.length+(wd lawNames ns).length<=aa,T.length+(sLt++wd lawNames ns).length<=aa,ns.tail.length<=1000,kN ns.tail=((1:Nat):Int),ns.tail.tail.length<=1000,kHref.length<=100,sSp.length+(af (hd ns.tail.tail) kHref).1.length<=aa,(T++(sLt++wd lawNames ns)).length+(sSp++(af (hd ns.tail.tail) kHref).1).length<=aa,aT,kHref.length<=aa,clN ns=1,((T++(sLt++wd lawNames ns))++(sSp++(af (hd ns.tail.tail) kHref).1)).length+sCl.length<=aa,aT,(wd lawNames ns).length<=aa]):=fun ρ=>by kernel_rfl
theorem yK:∀ ρ,aP bp [0,1,2,3] 3 ρ (bw T ns (.list []) [] [1,0,2,0]) =
 some (aw ((((T++(sLt++wd lawNames ns))++(sSp++(af (hd ns.tail.tail) kHref).1))++(sSp++(af (hd ns.tail.tail.tail) kB).1))++sGt) ns.tail.tail.tail.tail (.list [.ptr 4]) [.tuple [.sstr aF,.sstr (ac (wd lawNames ns)),.con (.ref (ρ 6)),.bool false]],6,[(ac kHref,(af (hd ns.tail.tail) kHref).2),(ac kB,(af (hd ns.tail.tail.tail) kB).2)],.ns [],[ns.length<=1000,kN ns=0,0<=ixN ns/\ixN ns < (lawNames.length:Int),sLt.length+(wd lawNames ns).length<=aa,T.length+(sLt++wd lawNames ns).length<=aa,ns.tail.length<=1000,kN ns.tail=((2:Nat):Int),ns.tail.tail.length<=1000,kHref.length<=100,sSp.length+(af (hd ns.tail.tail) kHref).1.length<=aa,(T++(sLt++wd lawNames ns)).length+(sSp++(af (hd ns.tail.tail) kHref).1).length<=aa,aT,kHref.length<=aa,ns.tail.tail.tail.length<=1000,kB.length<=100,sSp.length+(af (hd ns.tail.tail.tail) kB).1.length<=aa,((T++(sLt++wd lawNames ns))++(sSp++(af (hd ns.tail.tail) kHref).1)).length+(sSp++(af (hd ns.tail.tail.tail) kB).1).length<=aa,aT,kB.length<=aa,¬ (clN ns=1),(((T++(sLt++wd lawNames ns))++(sSp++(af (hd ns.tail.tail) kHref).1))++(sSp++(af (hd ns.tail.tail.tail) kB).1)).length+sGt.length<=aa,aT,(wd lawNames ns).length<=aa]):=fun ρ=>by kernel_rfl
theorem yJ:∀ ρ,aP bp [0,1,2,3] 3 ρ (bw T ns (.list []) [] [1,0,2,1]) =
 some (aw ((((T++(sLt++wd lawNames ns))++(sSp++(af (hd ns.tail.tail) kHref).1))++(sSp++(af (hd ns.tail.tail.tail) kB).1))++sCl) ns.tail.tail.tail.tail (.list [.ptr 4]) [.tuple [.sstr aF,.sstr (ac (wd lawNames ns)),.con (.ref (ρ 6)),.bool true]],6,[(ac kHref,(af (hd ns.tail.tail) kHref).2),(ac kB,(af (hd ns.tail.tail.tail) kB).2)],.ns [],[ns.length<=1000,kN ns=0,0<=ixN ns/\ixN ns < (lawNames.length:Int),sLt.length+(wd lawNames ns).length<=aa,T.length+(sLt++wd lawNames ns).length<=aa,ns.tail.length<=1000,kN ns.tail=((2:Nat):Int),ns.tail.tail.length<=1000,kHref.length<=100,sSp.length+(af (hd ns.tail.tail) kHref).1.length<=aa,(T++(sLt++wd lawNames ns)).length+(sSp++(af (hd ns.tail.tail) kHref).1).length<=aa,aT,kHref.length<=aa,ns.tail.tail.tail.length<=1000,kB.length<=100,sSp.length+(af (hd ns.tail.tail.tail) kB).1.length<=aa,((T++(sLt++wd lawNames ns))++(sSp++(af (hd ns.tail.tail) kHref).1)).length+(sSp++(af (hd ns.tail.tail.tail) kB).1).length<=aa,aT,kB.length<=aa,clN ns=1,(((T++(sLt++wd lawNames ns))++(sSp++(af (hd ns.tail.tail) kHref).1))++(sSp++(af (hd ns.tail.tail.tail) kB).1)).length+sCl.length<=aa,aT,(wd lawNames ns).length<=aa]):=fun ρ=>by kernel_rfl
theorem yI:∀ ρ,aP bp [0,1,2,3] 3 ρ (bw T ns (.list []) [] [1,0,3,0]) =
 some (aw (((((T++(sLt++wd lawNames ns))++(sSp++(af (hd ns.tail.tail) kHref).1))++(sSp++(af (hd ns.tail.tail.tail) kB).1))++(sSp++(af (hd ns.tail.tail.tail.tail) kDC).1))++sGt) ns.tail.tail.tail.tail.tail (.list [.ptr 4]) [.tuple [.sstr aF,.sstr (ac (wd lawNames ns)),.con (.ref (ρ 6)),.bool false]],6,[(ac kHref,(af (hd ns.tail.tail) kHref).2),(ac kB,(af (hd ns.tail.tail.tail) kB).2),(ac kDC,(af (hd ns.tail.tail.tail.tail) kDC).2)],.ns [],[ns.length<=1000,kN ns=0,0<=ixN ns/\ixN ns < (lawNames.length:Int),sLt.length+(wd lawNames ns).length<=aa,T.length+(sLt++wd lawNames ns).length<=aa,ns.tail.length<=1000,kN ns.tail=((3:Nat):Int),ns.tail.tail.length<=1000,kHref.length<=100,sSp.length+(af (hd ns.tail.tail) kHref).1.length<=aa,(T++(sLt++wd lawNames ns)).length+(sSp++(af (hd ns.tail.tail) kHref).1).length<=aa,aT,kHref.length<=aa,ns.tail.tail.tail.length<=1000,kB.length<=100,sSp.length+(af (hd ns.tail.tail.tail) kB).1.length<=aa,((T++(sLt++wd lawNames ns))++(sSp++(af (hd ns.tail.tail) kHref).1)).length+(sSp++(af (hd ns.tail.tail.tail) kB).1).length<=aa,aT,kB.length<=aa,ns.tail.tail.tail.tail.length<=1000,kDC.length<=100,sSp.length+(af (hd ns.tail.tail.tail.tail) kDC).1.length<=aa,(((T++(sLt++wd lawNames ns))++(sSp++(af (hd ns.tail.tail) kHref).1))++(sSp++(af (hd ns.tail.tail.tail) kB).1)).length+(sSp++(af (hd ns.tail.tail.tail.tail) kDC).1).length<=aa,aT,kDC.length<=aa,¬ (clN ns=1),((((T++(sLt++wd lawNames ns))++(sSp++(af (hd ns.tail.tail) kHref).1))++(sSp++(af (hd ns.tail.tail.tail) kB).1))++(sSp++(af (hd ns.tail.tail.tail.tail) kDC).1)).length+sGt.length<=aa,aT,(wd lawNames ns).length<=aa]):=fun ρ=>by kernel_rfl
theorem yH:∀ ρ,aP bp [0,1,2,3] 3 ρ (bw T ns (.list []) [] [1,0,3,1]) =
 some (aw (((((T++(sLt++wd lawNames ns))++(sSp++(af (hd ns.tail.tail) kHref).1))++(sSp++(af (hd ns.tail.tail.tail) kB).1))++(sSp++(af (hd ns.tail.tail.tail.tail) kDC).1))++sCl) ns.tail.tail.tail.tail.tail (.list [.ptr 4]) [.tuple [.sstr aF,.sstr (ac (wd lawNames ns)),.con (.ref (ρ 6)),.bool true]],6,[(ac kHref,(af (hd ns.tail.tail) kHref).2),(ac kB,(af (hd ns.tail.tail.tail) kB).2),(ac kDC,(af (hd ns.tail.tail.tail.tail) kDC).2)],.ns [],[ns.length<=1000,kN ns=0,0<=ixN ns/\ixN ns < (lawNames.length:Int),sLt.length+(wd lawNames ns).length<=aa,T.length+(sLt++wd lawNames ns).length<=aa,ns.tail.length<=1000,kN ns.tail=((3:Nat):Int),ns.tail.tail.length<=1000,kHref.length<=100,sSp.length+(af (hd ns.tail.tail) kHref).1.length<=aa,(T++(sLt++wd lawNames ns)).length+(sSp++(af (hd ns.tail.tail) kHref).1).length<=aa,aT,kHref.length<=aa,ns.tail.tail.tail.length<=1000,kB.length<=100,sSp.length+(af (hd ns.tail.tail.tail) kB).1.length<=aa,((T++(sLt++wd lawNames ns))++(sSp++(af (hd ns.tail.tail) kHref).1)).length+(sSp++(af (hd ns.tail.tail.tail) kB).1).length<=aa,aT,kB.length<=aa,ns.tail.tail.tail.tail.length<=1000,kDC.length<=100,sSp.length+(af (hd ns.tail.tail.tail.tail) kDC).1.length<=aa,(((T++(sLt++wd lawNames ns))++(sSp++(af (hd ns.tail.tail) kHref).1))++(sSp++(af (hd ns.tail.tail.tail) kB).1)).length+(sSp++(af (hd ns.tail.tail.tail.tail) kDC).1).length<=aa,aT,kDC.length<=aa,clN ns=1,((((T++(sLt++wd lawNames ns))++(sSp++(af (hd ns.tail.tail) kHref).1))++(sSp++(af (hd ns.tail.tail.tail) kB).1))++(sSp++(af (hd ns.tail.tail.tail.tail) kDC).1)).length+sCl.length<=aa,aT,(wd lawNames ns).length<=aa]):=fun ρ=>by kernel_rfl
theorem DC:∀ ρ,aP bp [0,1,2,3] 3 ρ (bw T ns (.list []) [] [0,1,0,0]) =
 some (aw (T++((sLtS++wd lawNames ns)++sGt)) ns.tail (.list [.ptr 4]) [.tuple [.sstr cc,.sstr (ac (wd lawNames ns)),.con (.ref (ρ 7)),.bool false]],7,[],.ns [],[ns.length<=1000,¬ (kN ns=0),kN ns=1,0<=ixN ns/\ixN ns < (lawNames.length:Int),sLtS.length+(wd lawNames ns).length<=aa,¬ (clN ns≠0),(sLtS++wd lawNames ns).length+sGt.length<=aa,T.length+((sLtS++wd lawNames ns)++sGt).length<=aa,aT,(wd lawNames ns).length<=aa]):=fun ρ=>by kernel_rfl
theorem DB:∀ ρ,aP bp [0,1,2,3] 3 ρ (bw T ns (.list []) [] [0,1,0,1]) =
 some (aw (T++((sLtS++wd lawNames ns)++sSpGt)) ns.tail (.list [.ptr 4]) [.tuple [.sstr cc,.sstr (ac (wd lawNames ns)),.con (.ref (ρ 7)),.bool false]],7,[],.ns [],[ns.length<=1000,¬ (kN ns=0),kN ns=1,0<=ixN ns/\ixN ns < (lawNames.length:Int),sLtS.length+(wd lawNames ns).length<=aa,clN ns≠0,(sLtS++wd lawNames ns).length+sSpGt.length<=aa,T.length+((sLtS++wd lawNames ns)++sSpGt).length<=aa,aT,(wd lawNames ns).length<=aa]):=fun ρ=>by kernel_rfl
theorem Gu:∀ ρ,aP bp [0,1,2,3] 3 ρ (bw T ns (.list []) [] [0,0,1,0]) =
 some (aw (T++((sCo++wd lawNotes ns)++sCc)) ns.tail (.list [.ptr 4]) [.tuple [.sstr cY,.sstr (wd lawNotes ns),.con (.ref (ρ 6)),.bool false]],6,[],.ns [],[ns.length<=1000,¬ (kN ns=0),¬ (kN ns=1),kN ns=2,0<=ixN ns/\ixN ns < (lawNotes.length:Int),sCo.length+(wd lawNotes ns).length<=aa,(sCo++wd lawNotes ns).length+sCc.length<=aa,T.length+((sCo++wd lawNotes ns)++sCc).length<=aa]):=fun ρ=>by kernel_rfl
theorem Gr:∀ ρ,aP bp [0,1,2,3] 3 ρ (bw T ns (.list []) [] [0,0,0,0]) =
 some (aw (T++wd lawTexts ns) ns.tail (.list [.ptr 4]) [.tuple [.sstr ay,.sstr (wd lawTexts ns),.con (.ref (ρ 6)),.bool false]],6,[],.ns [],[ns.length<=1000,¬ (kN ns=0),¬ (kN ns=1),¬ (kN ns=2),0<=ixN ns/\ixN ns < (lawTexts.length:Int),T.length+(wd lawTexts ns).length<=aa]):=fun ρ=>by kernel_rfl
theorem yG:∀ ρ,aP bp [0,1,2,3] 3 ρ (bw T ns (.snoc ys [.ptr 4]) [ax kd pl rr c] [1,0,0,0]) =
 some (aw ((T++(sLt++wd lawNames ns))++sGt) ns.tail.tail (.snoc ys [.con (.ref (ρ 4)),.ptr 4]) [.tuple [.sstr aF,.sstr (ac (wd lawNames ns)),.con (.ref (ρ 7)),.bool false]],7,[],ax kd pl rr c,[ns.length<=1000,kN ns=0,0<=ixN ns/\ixN ns < (lawNames.length:Int),sLt.length+(wd lawNames ns).length<=aa,T.length+(sLt++wd lawNames ns).length<=aa,ns.tail.length<=1000,kN ns.tail=((0:Nat):Int),¬ (clN ns=1),(T++(sLt++wd lawNames ns)).length+sGt.length<=aa,aT,(wd lawNames ns).length<=aa,ys.length+[AV.ptr 4].length < aa]):=fun ρ=>by kernel_rfl
theorem yF:∀ ρ,aP bp [0,1,2,3] 3 ρ (bw T ns (.snoc ys [.ptr 4]) [ax kd pl rr c] [1,0,0,1]) =
 some (aw ((T++(sLt++wd lawNames ns))++sCl) ns.tail.tail (.snoc ys [.con (.ref (ρ 4)),.ptr 4]) [.tuple [.sstr aF,.sstr (ac (wd lawNames ns)),.con (.ref (ρ 7)),.bool true]],7,[],ax kd pl rr c,[ns.length<=1000,kN ns=0,0<=ixN ns/\ixN ns < (lawNames.length:Int),sLt.length+(wd lawNames ns).length<=aa,T.length+(sLt++wd lawNames ns).length<=aa,ns.tail.length<=1000,kN ns.tail=((0:Nat):Int),clN ns=1,(T++(sLt++wd lawNames ns)).length+sCl.length<=aa,aT,(wd lawNames ns).length<=aa,ys.length+[AV.ptr 4].length < aa]):=fun ρ=>by kernel_rfl
theorem yE:∀ ρ,aP bp [0,1,2,3] 3 ρ (bw T ns (.snoc ys [.ptr 4]) [ax kd pl rr c] [1,0,1,0]) =
 some (aw (((T++(sLt++wd lawNames ns))++(sSp++(af (hd ns.tail.tail) kHref).1))++sGt) ns.tail.tail.tail (.snoc ys [.con (.ref (ρ 4)),.ptr 4]) [.tuple [.sstr aF,.sstr (ac (wd lawNames ns)),.con (.ref (ρ 7)),.bool false]],7,[(ac kHref,(af (hd ns.tail.tail) kHref).2)],ax kd pl rr c,[ns.length<=1000,kN ns=0,0<=ixN ns/\ixN ns < (lawNames.length:Int),sLt.length+(wd lawNames ns).length<=aa,T.length+(sLt++wd lawNames ns).length<=aa,ns.tail.length<=1000,kN ns.tail=((1:Nat):Int),ns.tail.tail.length<=1000,kHref.length<=100,sSp.length+(af (hd ns.tail.tail) kHref).1.length<=aa,(T++(sLt++wd lawNames ns)).length+(sSp++(af (hd ns.tail.tail) kHref).1).length<=aa,aT,kHref.length<=aa,¬ (clN ns=1),((T++(sLt++wd lawNames ns))++(sSp++(af (hd ns.tail.tail) kHref).1)).length+sGt.length<=aa,aT,(wd lawNames ns).length<=aa,ys.length+[AV.ptr 4].length < aa]):=fun ρ=>by kernel_rfl
theorem yD:∀ ρ,aP bp [0,1,2,3] 3 ρ (bw T ns (.snoc ys [.ptr 4]) [ax kd pl rr c] [1,0,1,1]) =
 some (aw (((T++(sLt++wd lawNames ns))++(sSp++(af (hd ns.tail.tail) kHref).1))++sCl) ns.tail.tail.tail (.snoc ys [.con (.ref (ρ 4)),.ptr 4]) [.tuple [.sstr aF,.sstr (ac (wd lawNames ns)),.con (.ref (ρ 7)),.bool true]],7,[(ac kHref,(af (hd ns.tail.tail) kHref).2)],ax kd pl rr c,[ns.length<=1000,kN ns=0,0<=ixN ns/\ixN ns < (lawNames.length:Int),sLt.length+(wd lawNames ns).length<=aa,T.length+(sLt++wd lawNames ns).length<=aa,ns.tail.length<=1000,kN ns.tail=((1:Nat):Int),ns.tail.tail.length<=1000,kHref.length<=100,sSp.length+(af (hd ns.tail.tail) kHref).1.length<=aa,(T++(sLt++wd lawNames ns)).length+(sSp++(af (hd ns.tail.tail) kHref).1).length<=aa,aT,kHref.length<=aa,clN ns=1,((T++(sLt++wd lawNames ns))++(sSp++(af (hd ns.tail.tail) kHref).1)).length+sCl.length<=aa,aT,(wd lawNames ns).length<=aa,ys.length+[AV.ptr 4].length < aa]):=fun ρ=>by kernel_rfl
theorem yC:∀ ρ,aP bp [0,1,2,3] 3 ρ (bw T ns (.snoc ys [.ptr 4]) [ax kd pl rr c] [1,0,2,0]) =
 some (aw ((((T++(sLt++wd lawNames ns))++(sSp++(af (hd ns.tail.tail) kHref).1))++(sSp++(af (hd ns.tail.tail.tail) kB).1))++sGt) ns.tail.tail.tail.tail (.snoc ys [.con (.ref (ρ 4)),.ptr 4]) [.tuple [.sstr aF,.sstr (ac (wd lawNames ns)),.con (.ref (ρ 7)),.bool false]],7,[(ac kHref,(af (hd ns.tail.tail) kHref).2),(ac kB,(af (hd ns.tail.tail.tail) kB).2)],ax kd pl rr c,[ns.length<=1000,kN ns=0,0<=ixN ns/\ixN ns < (lawNames.length:Int),sLt.length+(wd lawNames ns).length<=aa,T.length+(sLt++wd lawNames ns).length<=aa,ns.tail.length<=1000,kN ns.tail=((2:Nat):Int),ns.tail.tail.length<=1000,kHref.length<=100,sSp.length+(af (hd ns.tail.tail) kHref).1.length<=aa,(T++(sLt++wd lawNames ns)).length+(sSp++(af (hd ns.tail.tail) kHref).1).length<=aa,aT,kHref.length<=aa,ns.tail.tail.tail.length<=1000,kB.length<=100,sSp.length+(af (hd ns.tail.tail.tail) kB).1.length<=aa,((T++(sLt++wd lawNames ns))++(sSp++(af (hd ns.tail.tail) kHref).1)).length+(sSp++(af (hd ns.tail.tail.tail) kB).1).length<=aa,aT,kB.length<=aa,¬ (clN ns=1),(((T++(sLt++wd lawNames ns))++(sSp++(af (hd ns.tail.tail) kHref).1))++(sSp++(af (hd ns.tail.tail.tail) kB).1)).length+sGt.length<=aa,aT,(wd lawNames ns).length<=aa,ys.length+[AV.ptr 4].length < aa]):=fun ρ=>by kernel_rfl
theorem yB:∀ ρ,aP bp [0,1,2,3] 3 ρ (bw T ns (.snoc ys [.ptr 4]) [ax kd pl rr c] [1,0,2,1]) =
 some (aw ((((T++(sLt++wd lawNames ns))++(sSp++(af (hd ns.tail.tail) kHref).1))++(sSp++(af (hd ns.tail.tail.tail) kB).1))++sCl) ns.tail.tail.tail.tail (.snoc ys [.con (.ref (ρ 4)),.ptr 4]) [.tuple [.sstr aF,.sstr (ac (wd lawNames ns)),.con (.ref (ρ 7)),.bool true]],7,[(ac kHref,(af (hd ns.tail.tail) kHref).2),(ac kB,(af (hd ns.tail.tail.tail) kB).2)],ax kd pl rr c,[ns.length<=1000,kN ns=0,0<=ixN ns/\ixN ns < (lawNames.length:Int),sLt.length+(wd lawNames ns).length<=aa,T.length+(sLt++wd lawNames ns).length<=aa,ns.tail.length<=1000,kN ns.tail=((2:Nat):Int),ns.tail.tail.length<=1000,kHref.length<=100,sSp.length+(af (hd ns.tail.tail) kHref).1.length<=aa,(T++(sLt++wd lawNames ns)).length+(sSp++(af (hd ns.tail.tail) kHref).1).length<=aa,aT,kHref.length<=aa,ns.tail.tail.tail.length<=1000,kB.length<=100,sSp.length+(af (hd ns.tail.tail.tail) kB).1.length<=aa,((T++(sLt++wd lawNames ns))++(sSp++(af (hd ns.tail.tail) kHref).1)).length+(sSp++(af (hd ns.tail.tail.tail) kB).1).length<=aa,aT,kB.length<=aa,clN ns=1,(((T++(sLt++wd lawNames ns))++(sSp++(af (hd ns.tail.tail) kHref).1))++(sSp++(af (hd ns.tail.tail.tail) kB).1)).length+sCl.length<=aa,aT,(wd lawNames ns).length<=aa,ys.length+[AV.ptr 4].length < aa]):=fun ρ=>by kernel_rfl
theorem yA:∀ ρ,aP bp [0,1,2,3] 3 ρ (bw T ns (.snoc ys [.ptr 4]) [ax kd pl rr c] [1,0,3,0]) =
 some (aw (((((T++(sLt++wd lawNames ns))++(sSp++(af (hd ns.tail.tail) kHref).1))++(sSp++(af (hd ns.tail.tail.tail) kB).1))++(sSp++(af (hd ns.tail.tail.tail.tail) kDC).1))++sGt) ns.tail.tail.tail.tail.tail (.snoc ys [.con (.ref (ρ 4)),.ptr 4]) [.tuple [.sstr aF,.sstr (ac (wd lawNames ns)),.con (.ref (ρ 7)),.bool false]],7,[(ac kHref,(af (hd ns.tail.tail) kHref).2),(ac kB,(af (hd ns.tail.tail.tail) kB).2),(ac kDC,(af (hd ns.tail.tail.tail.tail) kDC).2)],ax kd pl rr c,[ns.length<=1000,kN ns=0,0<=ixN ns/\ixN ns < (lawNames.length:Int),sLt.length+(wd lawNames ns).length<=aa,T.length+(sLt++wd lawNames ns).length<=aa,ns.tail.length<=1000,kN ns.tail=((3:Nat):Int),ns.tail.tail.length<=1000,kHref.length<=100,sSp.length+(af (hd ns.tail.tail) kHref).1.length<=aa,(T++(sLt++wd lawNames ns)).length+(sSp++(af (hd ns.tail.tail) kHref).1).length<=aa,aT,kHref.length<=aa,ns.tail.tail.tail.length<=1000,kB.length<=100,sSp.length+(af (hd ns.tail.tail.tail) kB).1.length<=aa,((T++(sLt++wd lawNames ns))++(sSp++(af (hd ns.tail.tail) kHref).1)).length+(sSp++(af (hd ns.tail.tail.tail) kB).1).length<=aa,aT,kB.length<=aa,ns.tail.tail.tail.tail.length<=1000,kDC.length<=100,sSp.length+(af (hd ns.tail.tail.tail.tail) kDC).1.length<=aa,(((T++(sLt++wd lawNames ns))++(sSp++(af (hd ns.tail.tail) kHref).1))++(sSp++(af (hd ns.tail.tail.tail) kB).1)).length+(sSp++(af (hd ns.tail.tail.tail.tail) kDC).1).length<=aa,aT,kDC.length<=aa,¬ (clN ns=1),((((T++(sLt++wd lawNames ns))++(sSp++(af (hd ns.tail.tail) kHref).1))++(sSp++(af (hd ns.tail.tail.tail) kB).1))++(sSp++(af (hd ns.tail.tail.tail.tail) kDC).1)).length+sGt.length<=aa,aT,(wd lawNames ns).length<=aa,ys.length+[AV.ptr 4].length < aa]):=fun ρ=>by kernel_rfl
theorem yz:∀ ρ,aP bp [0,1,2,3] 3 ρ (bw T ns (.snoc ys [.ptr 4]) [ax kd pl rr c] [1,0,3,1]) =
 some (aw (((((T++(sLt++wd lawNames ns))++(sSp++(af (hd ns.tail.tail) kHref).1))++(sSp++(af (hd ns.tail.tail.tail) kB).1))++(sSp++(af (hd ns.tail.tail.tail.tail) kDC).1))++sCl) ns.tail.tail.tail.tail.tail (.snoc ys [.con (.ref (ρ 4)),.ptr 4]) [.tuple [.sstr aF,.sstr (ac (wd lawNames ns)),.con (.ref (ρ 7)),.bool true]],7,[(ac kHref,(af (hd ns.tail.tail) kHref).2),(ac kB,(af (hd ns.tail.tail.tail) kB).2),(ac kDC,(af (hd ns.tail.tail.tail.tail) kDC).2)],ax kd pl rr c,[ns.length<=1000,kN ns=0,0<=ixN ns/\ixN ns < (lawNames.length:Int),sLt.length+(wd lawNames ns).length<=aa,T.length+(sLt++wd lawNames ns).length<=aa,ns.tail.length<=1000,kN ns.tail=((3:Nat):Int),ns.tail.tail.length<=1000,kHref.length<=100,sSp.length+(af (hd ns.tail.tail) kHref).1.length<=aa,(T++(sLt++wd lawNames ns)).length+(sSp++(af (hd ns.tail.tail) kHref).1).length<=aa,aT,kHref.length<=aa,ns.tail.tail.tail.length<=1000,kB.length<=100,sSp.length+(af (hd ns.tail.tail.tail) kB).1.length<=aa,((T++(sLt++wd lawNames ns))++(sSp++(af (hd ns.tail.tail) kHref).1)).length+(sSp++(af (hd ns.tail.tail.tail) kB).1).length<=aa,aT,kB.length<=aa,ns.tail.tail.tail.tail.length<=1000,kDC.length<=100,sSp.length+(af (hd ns.tail.tail.tail.tail) kDC).1.length<=aa,(((T++(sLt++wd lawNames ns))++(sSp++(af (hd ns.tail.tail) kHref).1))++(sSp++(af (hd ns.tail.tail.tail) kB).1)).length+(sSp++(af (hd ns.tail.tail.tail.tail) kDC).1).length<=aa,aT,kDC.length<=aa,clN ns=1,((((T++(sLt++wd lawNames ns))++(sSp++(af (hd ns.tail.tail) kHref).1))++(sSp++(af (hd ns.tail.tail.tail) kB).1))++(sSp++(af (hd ns.tail.tail.tail.tail) kDC).1)).length+sCl.length<=aa,aT,(wd lawNames ns).length<=aa,ys.length+[AV.ptr 4].length < aa]):=fun ρ=>by kernel_rfl
theorem DA:∀ ρ,aP bp [0,1,2,3] 3 ρ (bw T ns (.snoc ys [.ptr 4]) [ax kd pl rr c] [0,1,0,0]) =
 some (aw (T++((sLtS++wd lawNames ns)++sGt)) ns.tail (.snoc ys [.con (.ref (ρ 4)),.ptr 4]) [.tuple [.sstr cc,.sstr (ac (wd lawNames ns)),.con (.ref (ρ 8)),.bool false]],8,[],ax kd pl rr c,[ns.length<=1000,¬ (kN ns=0),kN ns=1,0<=ixN ns/\ixN ns < (lawNames.length:Int),sLtS.length+(wd lawNames ns).length<=aa,¬ (clN ns≠0),(sLtS++wd lawNames ns).length+sGt.length<=aa,T.length+((sLtS++wd lawNames ns)++sGt).length<=aa,aT,(wd lawNames ns).length<=aa,ys.length+[AV.ptr 4].length < aa]):=fun ρ=>by kernel_rfl
theorem Dz:∀ ρ,aP bp [0,1,2,3] 3 ρ (bw T ns (.snoc ys [.ptr 4]) [ax kd pl rr c] [0,1,0,1]) =
 some (aw (T++((sLtS++wd lawNames ns)++sSpGt)) ns.tail (.snoc ys [.con (.ref (ρ 4)),.ptr 4]) [.tuple [.sstr cc,.sstr (ac (wd lawNames ns)),.con (.ref (ρ 8)),.bool false]],8,[],ax kd pl rr c,[ns.length<=1000,¬ (kN ns=0),kN ns=1,0<=ixN ns/\ixN ns < (lawNames.length:Int),sLtS.length+(wd lawNames ns).length<=aa,clN ns≠0,(sLtS++wd lawNames ns).length+sSpGt.length<=aa,T.length+((sLtS++wd lawNames ns)++sSpGt).length<=aa,aT,(wd lawNames ns).length<=aa,ys.length+[AV.ptr 4].length < aa]):=fun ρ=>by kernel_rfl
theorem Gs:∀ ρ,aP bp [0,1,2,3] 3 ρ (bw T ns (.snoc ys [.ptr 4]) [ax kd pl rr c] [0,0,1,0]) =
 some (aw (T++((sCo++wd lawNotes ns)++sCc)) ns.tail (.snoc ys [.con (.ref (ρ 4)),.ptr 4]) [.tuple [.sstr cY,.sstr (wd lawNotes ns),.con (.ref (ρ 7)),.bool false]],7,[],ax kd pl rr c,[ns.length<=1000,¬ (kN ns=0),¬ (kN ns=1),kN ns=2,0<=ixN ns/\ixN ns < (lawNotes.length:Int),sCo.length+(wd lawNotes ns).length<=aa,(sCo++wd lawNotes ns).length+sCc.length<=aa,T.length+((sCo++wd lawNotes ns)++sCc).length<=aa,ys.length+[AV.ptr 4].length < aa]):=fun ρ=>by kernel_rfl
theorem Gq:∀ ρ,aP bp [0,1,2,3] 3 ρ (bw T ns (.snoc ys [.ptr 4]) [ax kd pl rr c] [0,0,0,0,0]) =
 some (aw (T++wd lawTexts ns) ns.tail (.snoc ys [.con (.ref (ρ 4)),.ptr 4]) [.tuple [.sstr ay,.sstr (wd lawTexts ns),.con (.ref (ρ 7)),.bool false]],7,[],ax kd pl rr c,[ns.length<=1000,¬ (kN ns=0),¬ (kN ns=1),¬ (kN ns=2),0<=ixN ns/\ixN ns < (lawTexts.length:Int),T.length+(wd lawTexts ns).length<=aa,ys.length+[AV.ptr 4].length < aa,ys.length+[AV.ptr 4].length < aa,¬ (kd=ay),ys.length+[AV.ptr 4].length < aa]):=fun ρ=>by kernel_rfl
theorem Gp:∀ ρ,aP bp [0,1,2,3] 3 ρ (bw T ns (.snoc ys [.ptr 4]) [ax kd pl rr c] [0,0,0,0,1]) =
 some (aw (T++wd lawTexts ns) ns.tail (.snoc ys [.ptr 4]) [.tuple [.sstr ay,.sstr (pl++wd lawTexts ns),.con (.ref (ρ 7)),.bool false]],7,[],ax kd pl rr c,[ns.length<=1000,¬ (kN ns=0),¬ (kN ns=1),¬ (kN ns=2),0<=ixN ns/\ixN ns < (lawTexts.length:Int),T.length+(wd lawTexts ns).length<=aa,ys.length+[AV.ptr 4].length < aa,ys.length+[AV.ptr 4].length < aa,kd=ay,ys.length+[AV.ptr 4].length < aa,pl.length+(wd lawTexts ns).length<=aa,ys.length+[AV.ptr 4].length < aa]):=fun ρ=>by kernel_rfl
end
end TE
namespace TE
set_option tactic.hygienic false
theorem jU {a b:Str} (h:a.cps.toList=b.cps.toList):a=b:=by
 cases a;cases b
 simp only[Str.mk.injEq];exact Array.toList_inj.mp h
theorem bU (a b:Str):(a++b).cps.toList=a.cps.toList++b.cps.toList:=by
 show (a.cps++b.cps).toList=_;simp
theorem eA (a b c:Str):a++b++c=a++(b++c):=jU (by simp only[bU,Qv])
theorem dI (a:Str):a++(⟨#[]⟩:Str)=a:=jU (by rw[bU];simp)
theorem eF (a:Str):(⟨#[]⟩:Str)++a=a:=jU (by rw[bU];simp)
noncomputable def cW:List Str->List Int->Str
 | [],_=>⟨#[]⟩
 | k::r,ns=>(sSp++(af (hd ns) k).1)++cW r ns.tail
noncomputable def bb:List Str->List Int->List (Str×Str)
 | [],_=>[]
 | k::r,ns=>(ac k,(af (hd ns) k).2)::bb r ns.tail
noncomputable def lawKeys:List Str:=[kHref,kB,kDC]
noncomputable def bA (ns:List Int):List Str:=lawKeys.take (kN ns.tail).toNat
noncomputable def aE (ns:List Int):Str :=
 if kN ns=0 then (sLt++wd lawNames ns)++(cW (bA ns) ns.tail.tail++(if clN ns=1 then sCl else sGt))
 else if kN ns=1 then (sLtS++wd lawNames ns)++(if clN ns≠0 then sSpGt else sGt)
 else if kN ns=2 then (sCo++wd lawNotes ns)++sCc
 else wd lawTexts ns
noncomputable def aH (ns:List Int):It :=
 if kN ns=0 then ⟨aF,ac (wd lawNames ns),bb (bA ns) ns.tail.tail,decide (clN ns=1)⟩
 else if kN ns=1 then ⟨cc,ac (wd lawNames ns),[],false⟩
 else if kN ns=2 then ⟨cY,wd lawNotes ns,[],false⟩
 else ⟨ay,wd lawTexts ns,[],false⟩
noncomputable def aJ (ns:List Int):List Int:=if kN ns=0 then ns.drop (2+(kN ns.tail).toNat) else ns.tail
noncomputable def aG:List It->It->List It
 | [],i=>[i]
 | [l],i=>if l.kd=ay/\i.kd=ay then [⟨ay,l.pl++i.pl,[],false⟩] else [l,i]
 | a::b::r,i=>a::aG (b::r) i
theorem fZ:∀ (its:List It) (l i:It),aG (its++[l]) i=if l.kd=ay/\i.kd=ay then its++[⟨ay,l.pl++i.pl,[],false⟩] else its++[l]++[i]
 | [],l,i=>by
  show (if l.kd=ay/\i.kd=ay then _ else _)=_
  split<;>rfl
 | [a],l,i=>by
  show a::(if l.kd=ay/\i.kd=ay then _ else _)=_
  split<;>rfl
 | a::b::r,l,i=>by
  show a::aG (b::r++[l]) i=_;rw[fZ (b::r) l i]
  split<;>rfl
inductive Hold (F:List (Addr×Obj)) (k:Nat):List It->AO->List AO->Prop
 | empty:Hold F k [] (.list []) []
 | last {ys:List Value} {its:List It} {it:It} {rr:Value}:ReadsF F rr (de it.row)->All2 (fun v i=>ReadsF F v (It.data i)) ys its->Hold F k (its++[it]) (.snoc ys [.ptr k]) [ax it.kd it.pl rr it.cl]
theorem pT {F F':List (Addr×Obj)} (h:∀ p∈F,p∈F') {ys:List Value} {its:List It} (H:All2 (fun v i=>ReadsF F v (It.data i)) ys its):All2 (fun v i=>ReadsF F' v (It.data i)) ys its:=H.mono fun _ _ x=>x.mono h
section
variable {P:Params} {z5 h:Heap} {ρ ρ':Nat->Addr} {σ σ':List AO} {n:Nat} {s:Shared} {F F':List (Addr×Obj)}
theorem Kept.app (K:Kept F n ρ h) (K':Kept F' n ρ h):Kept (F++F') n ρ h :=
 ⟨fun p hp=>(QA hp).elim (K.here p) (K'.here p),fun p hp=>(QA hp).elim (K.apart p) (K'.apart p)⟩
theorem xP {a:Addr} {xs:List AV} (H:ORel P n ρ h a (.list xs)):ORel P n ρ h a (.snoc [] xs):=by
 obtain ⟨its,ep,e,q⟩:=H;exact ⟨its,ep,its.toList,e,rfl,q⟩
theorem Ah {a:Addr} {ys:List Value} {c:Value} {xs:List AV} (H:ORel P n ρ h a (.snoc ys (.con c::xs))):ORel P n ρ h a (.snoc (ys++[c]) xs):=by
 obtain ⟨its,ep,zs,e,q,r⟩:=H
 match zs,r with
 | v::zs,r =>
  obtain ⟨rfl,r2⟩:=r;exact ⟨its,ep,zs,e,by rw[q];simp,r2⟩
 | [],r=>exact r.elim
theorem Rel.weak1 (R:Rel P z5 ρ σ h) {i:Nat} {o o':AO} (e:σ[i]?=some o) (k:∀ a,ORel P σ.length ρ h a o->ORel P σ.length ρ h a o'):Rel P z5 ρ (σ.set i o') h:=by
 refine R.weak (by simp) fun j ob hj=>?_
 by_cases q:i=j
 ·subst q;rw[List.getElem?_set_self (Qy e).1] at hj;obtain rfl:=Qb hj;exact ⟨o,e,k⟩
 ·rw[List.getElem?_set_ne q] at hj;exact ⟨ob,hj,fun _ x=>x⟩
end
end TE
namespace TE
set_option tactic.hygienic false
section
variable {P:Params} {z5:Heap} {ρ ρ1 ρ':Nat->Addr} {hp pre R:List AO} {lo lo':AO} {s s':Shared} {F F1:List (Addr×Obj)} {k rI:Nat} {its:List It} {it:It} {ys:List Value} {l:It} {rr:Value}
theorem qL:∀ {pre R:List AO} {lo lo':AO},(pre++lo::R).set pre.length lo'=pre++lo'::R
 | [],_,_,_=>rfl
 | a::pre,R,lo,lo'=>by
  show a::(pre++lo::R).set pre.length lo'=_;rw[qL];rfl
theorem rt:∀ {pre R:List AO} {lo:AO},(pre++lo::R)[pre.length]?=some lo
 | [],_,_=>rfl
 | _::pre,_,_=>rt (pre:=pre)
theorem Move.relo (M:Move P z5 ρ hp s ρ' (pre++lo::R) s') (k:∀ a n,ORel P n ρ' s'.heap a lo->ORel P n ρ' s'.heap a lo'):Move P z5 ρ hp s ρ' (pre++lo'::R) s':=by
 have R':=M.rel.weak1 (o':=lo') rt fun a x=>k a _ x;rw[qL] at R';exact M.trans (Rel.move_to (by simp) R' (Qa _))
inductive Put (P:Params) (z5:Heap) (ρ:Nat->Addr) (hp:List AO) (s:Shared) (pre:List AO) (k:Nat) (F:List (Addr×Obj)) (its:List It) (s':Shared) (ρ':Nat->Addr):Prop
 | mk (F':List (Addr×Obj)) (lo:AO) (R:List AO) (M:Move P z5 ρ hp s ρ' (pre++lo::R) s') (K:Kept F' (pre++lo::R).length ρ' s'.heap) (k1:∀ p∈F,p∈F') (k2:∀ p∈F',p∈F\/(∃ i,i < hp.length/\p.1=ρ i)\/s.heap.objs.size<=p.1) (H:Hold F' k its lo R):Put P z5 ρ hp s pre k F its s' ρ'
theorem rh {pre R:List AO} {lo lo':AO}:(pre++lo::R).length=(pre++lo'::R).length:=by simp
theorem tm (M:Move P z5 ρ hp s ρ' (pre++AO.list [.ptr k]::[AO.tuple [.sstr it.kd,.sstr it.pl,.con (.ref (ρ1 rI)),.bool it.cl]]) s') (K1:Kept F1 (pre++AO.list [.ptr k]::[AO.tuple [.sstr it.kd,.sstr it.pl,.con (.ref (ρ1 rI)),.bool it.cl]]).length ρ' s'.heap)
  (S1:Src ρ hp s F1) (r1:ReadsF F1 (.ref (ρ1 rI)) (de it.row)) (KF:Kept F hp.length ρ s.heap):Put P z5 ρ hp s pre k F (aG [] it) s' ρ':=by
 refine ⟨F1++F,.snoc [] [.ptr k],[ax it.kd it.pl (.ref (ρ1 rI)) it.cl],M.relo fun a n x=>xP x,?_,fun p hp=>Qj _ hp,fun p hp=>(QA hp).elim (fun h=>.inr (S1 p h)) .inl,?_⟩
 ·rw[rh (lo':=.list [.ptr k])];exact K1.app (KF.move M)
 ·exact Hold.last (its:=[]) (ys:=[]) (r1.mono fun p hp=>Qm _ hp) trivial
theorem to (hc:¬ (l.kd=ay/\it.kd=ay)) (M:Move P z5 ρ hp s ρ' (pre++AO.snoc ys [.con (.ref (ρ1 k)),.ptr k]::[AO.tuple [.sstr it.kd,.sstr it.pl,.con (.ref (ρ1 rI)),.bool it.cl]]) s')
  (K1:Kept F1 (pre++AO.snoc ys [.con (.ref (ρ1 k)),.ptr k]::[AO.tuple [.sstr it.kd,.sstr it.pl,.con (.ref (ρ1 rI)),.bool it.cl]]).length ρ' s'.heap)
  (S1:Src ρ hp s F1) (r1:ReadsF F1 (.ref (ρ1 rI)) (de it.row)) (KF:Kept F hp.length ρ s.heap)
  (old:∃ o,Kept [(ρ1 k,o)] (pre++AO.snoc ys [.con (.ref (ρ1 k)),.ptr k]::[AO.tuple [.sstr it.kd,.sstr it.pl,.con (.ref (ρ1 rI)),.bool it.cl]]).length ρ' s'.heap/\Src ρ hp s [(ρ1 k,o)]/\∀ F d,ReadsF F rr d->ReadsF ((ρ1 k,o)::F) (.ref (ρ1 k)) (.tuple [.str l.kd,.str l.pl,d,.bool l.cl]))
  (hr:ReadsF F rr (de l.row)) (hys:All2 (fun v i=>ReadsF F v (It.data i)) ys its):Put P z5 ρ hp s pre k F (aG (its++[l]) it) s' ρ':=by
 refine ag fun G0 hG0=>?_;obtain ⟨o,Ko,So,fo⟩:=old;refine hG0 ?_;rw[fZ,if_neg hc];refine ⟨[(ρ1 k,o)]++(F++F1),.snoc (ys++[.ref (ρ1 k)]) [.ptr k],[ax it.kd it.pl (.ref (ρ1 rI)) it.cl],M.relo fun a n x=>Ah x,?_,fun p hp=>Qj _ (Qm _ hp),fun p hp=>(QA hp).elim (fun h=>.inr (So p h)) (fun h=>(QA h).elim .inl fun h=>.inr (S1 p h)),?_⟩
 ·rw[rh (lo':=.snoc ys [.con (.ref (ρ1 k)),.ptr k])];exact Ko.app ((KF.move M).app K1)
 ·refine Hold.last (r1.mono fun p hp=>Qj _ (Qj _ hp)) (All2.append (pT (fun p hp=>Qj _ (Qm _ hp)) hys) ⟨?_,trivial⟩)
  exact (fo F _ hr).mono fun p hp=>by
   rcases Qz hp with rfl | hp
   ·exact .head _
   ·exact Qj _ (Qm _ hp)
theorem tj (hl:l.kd=ay) (hi:it.kd=ay) (hrow:it.row=[]) (hcl:it.cl=false) (M:Move P z5 ρ hp s ρ' (pre++AO.snoc ys [.ptr k]::[AO.tuple [.sstr ay,.sstr (l.pl++it.pl),.con (.ref (ρ1 rI)),.bool false]]) s')
  (K1:Kept F1 (pre++AO.snoc ys [.ptr k]::[AO.tuple [.sstr ay,.sstr (l.pl++it.pl),.con (.ref (ρ1 rI)),.bool false]]).length ρ' s'.heap)
  (S1:Src ρ hp s F1) (r1:ReadsF F1 (.ref (ρ1 rI)) (de [])) (KF:Kept F hp.length ρ s.heap) (hys:All2 (fun v i=>ReadsF F v (It.data i)) ys its):Put P z5 ρ hp s pre k F (aG (its++[l]) it) s' ρ':=by
 rw[fZ,if_pos ⟨hl,hi⟩];refine ⟨F1++F,.snoc ys [.ptr k],[ax ay (l.pl++it.pl) (.ref (ρ1 rI)) false],M,K1.app (KF.move M),fun p hp=>Qj _ hp,fun p hp=>(QA hp).elim (fun h=>.inr (S1 p h)) .inl,?_⟩;exact Hold.last (it:=⟨ay,l.pl++it.pl,[],false⟩) (r1.mono fun p hp=>Qm _ hp) (pT (fun p hp=>Qj _ hp) hys)
end
theorem aq {l:List Str} {n:Nat} (h:∀ x∈l,x.length<=n) (ns:List Int):(wd l ns).length<=n:=by
 dsimp only[wd];rw[Qp]
 cases q:l[(ixN ns).toNat]? with
 | none=>exact Qu _
 | some x=>exact h x (Ql q)
theorem ar:∀ x∈lawNames,x.length<=10:=by decide +kernel
theorem f0:∀ x∈lawNotes,x.length<=10:=by decide +kernel
theorem g9:∀ x∈lawTexts,x.length<=10:=by decide +kernel
theorem zP (j:Nat):(vals.getD j ⟨#[]⟩).length<=9:=by
 rw[Qp]
 cases q:vals[j]? with
 | none=>exact Qu _
 | some x =>
  have:∀ x∈vals,x.length<=9:=by decide +kernel
  exact this x (Ql q)
theorem GY:(⟨#[61,39]⟩:Str).length=2:=rfl
theorem l_q:(⟨#[39]⟩:Str).length=1:=rfl
theorem l_e:(⟨#[61]⟩:Str).length=1:=rfl
theorem Gc:(⟨#[32,61,32,34]⟩:Str).length=4:=rfl
theorem GZ:(⟨#[34]⟩:Str).length=1:=rfl
theorem az (n:Int) (k:Str):(af n k).1.length<=k.length+14:=by
 dsimp only[af,bm];have v:=zP (n.fmod 6).toNat
 split
 ·simp only[bM,GY,l_q];lia
 ·split
  ·simp only[bM,l_e];lia
  ·split
   ·exact Nat.le_add_right _ _
   ·simp only[bM,Gc,GZ];lia
theorem F8:sLt.length=1:=rfl
theorem F7:sSp.length=1:=rfl
theorem Ga:sCl.length=3:=rfl
theorem tB:sGt.length=1:=rfl
theorem Ep:sLtS.length=2:=rfl
theorem CS:sSpGt.length=2:=rfl
theorem F9:sCo.length=4:=rfl
theorem Gb:sCc.length=3:=rfl
theorem He:kHref.length=4:=rfl
theorem Hi:kB.length=1:=rfl
theorem Hh:kDC.length=6:=rfl
theorem aU:aT:=rfl
section
variable {prog:Program} {w:World} {z5:Heap} {K:Frag} {A:Around} {env:Env} {sc:Scope} {cells:List (Str×Nat)} {fr:Nat}
theorem pk:fG prog w z5 A env fr sc cells bu:=⟨fun _ _ _ _ _ _=>Tr.fail,fun _ _ _ _ _ _ _ _=>Tr.fail,fun _ _ _=>Tr.fail⟩
theorem sG (B:Bt prog w z5 K tab) (hT:∀ f r,tab.fn f=some r->bP w z5 f r) {hook:cy} (hH:fG prog w z5 A env 0 lscope [(aD,1)] hook) (hA:A.handled=none) (hd:A.depth<=860):aR prog w z5 A env 0 lscope [(aD,1)] (lev hook) :=
 gt B (n:=8) (gE B (i0 B hT) (jK B hT) hT 8) (jS (fun f g h=>(jK B hT f g h).1) hT 8) hH ⟨hA,by lia⟩ 40
end
end TE
namespace TE
set_option tactic.hygienic false
theorem aLe {a b c d:Nat} (h:a<=b) (k:c<=d):a+c<=b+d:=Nat.add_le_add h k
theorem ae {a b:Str} {m n:Nat} (ha:a.length<=m) (hb:b.length<=n):(a++b).length<=m+n:=by rw[bM];exact Nat.add_le_add ha hb
theorem aB {l:List Int} {n:Nat} (h:l.length<=n):l.tail.length<=n:=by rw[List.length_tail];exact Qf (Nat.sub_le _ _) h
theorem am {n m:Nat} (h:n<=m) (q:Nat.ble m aa=true):n<=aa:=Qf h (Qc q)
theorem cu {ys:List Value} (h:ys.length<=100):ys.length+[AV.ptr 4].length < aa:=by simp only[List.length_cons,List.length_nil];unfold aa;lia
noncomputable def kU (T:Str) (ns:List Int):List AO:=[.ns [(bv,.ptr 2),(bX,.sstr T),(cG,.ptr 3)],.cell none,.numl ns]
section
variable {prog:Program} {w:World} {z5:Heap} {A:Around} {env:Env} {ρ:Nat->Addr} {s:Shared} {F:List (Addr×Obj)}
inductive n0 (P:Params) (z5:Heap) (ρ:Nat->Addr) (hp:List AO) (s:Shared) (pre:List AO) (k:Nat) (F:List (Addr×Obj)) (its:List It) (fl:Flow) (s':Shared):Prop
 | mk (hf:fl=.next) (ρ':Nat->Addr) (p:Put P z5 ρ hp s pre k F its s' ρ') (hρ:∀ j,j < k->ρ' j=ρ j):n0 P z5 ρ hp s pre k F its fl s'
noncomputable def bk (prog:Program) (w:World) (z5:Heap) (A:Around) (env:Env) (ρ:Nat->Addr) (hp:List AO) (s:Shared) (F:List (Addr×Obj)) (T:Str) (ns:List Int) (its:List It):Prop :=
 wpAny (model prog w) A (execs kQ env) (n0 w.params z5 ρ hp s (kU T ns) 4 F its) (fun _ _=>False) s
theorem mG {ρ ρ1 ρ':Nat->Addr} {n:Nat} (h4:4<=n) (e:∀ i,i < n->ρ1 i=ρ i) (k:∀ j i:Nat,[0,1,2,3][j]?=some i->ρ' j=ρ1 i):∀ j,j < 4->ρ' j=ρ j:=fun j hj=>by
 have:[0,1,2,3][j]?=some j:=(show ∀ j,j < 4->[0,1,2,3][j]?=some j by decide) j hj;exact (k j j this).trans (e j (by exact Qd hj h4))
theorem dJ (EV:aR prog w z5 A env 0 lscope [(aD,1)] (lev bu)) {T T':Str} {ns ns':List Int} {dec:List Nat} {it:It} {rI:Nat} {old:AO} {pc:List Prop} (hR:Rel w.params z5 ρ (aw T ns (.list []) []) s.heap) (hE:EnvR (aw T ns (.list []) []).length ρ env 0 lscope [(aD,1)])
  (run:∀ ρ,aP bp [0,1,2,3] 3 ρ (bw T ns (.list []) [] dec)=some (aw T' ns' (.list [.ptr 4]) [.tuple [.sstr it.kd,.sstr it.pl,.con (.ref (ρ rI)),.bool it.cl]],rI,it.row,old,pc)) (z8:bc pc)
  (KF:Kept F (aw T ns (.list []) []).length ρ s.heap):bk prog w z5 A env ρ (aw T ns (.list []) []) s F T' ns' (aG [] it):=by
 refine wpAny_mono (iA EV hR hE run (d0 z8)) (fun fl s' z=>?_) fun _ _ x=>x;obtain ⟨h,ρ1,ρ',F1,M,e1,k1,K1,S1,r1,_⟩:=z;exact ⟨h,ρ',tm (pre:=kU T' ns') M K1 S1 r1 KF,mG (by show 4<=4;exact Qc rfl) e1 k1⟩
theorem dK (EV:aR prog w z5 A env 0 lscope [(aD,1)] (lev bu)) {T T':Str} {ns ns':List Int} {dec:List Nat} {it l:It} {its:List It} {rr:Value} {rI:Nat} {ys:List Value} {pc:List Prop} (hR:Rel w.params z5 ρ (aw T ns (.snoc ys [.ptr 4]) [ax l.kd l.pl rr l.cl]) s.heap) (hE:EnvR (aw T ns (.snoc ys [.ptr 4]) [ax l.kd l.pl rr l.cl]).length ρ env 0 lscope [(aD,1)])
  (run:∀ ρ,aP bp [0,1,2,3] 3 ρ (bw T ns (.snoc ys [.ptr 4]) [ax l.kd l.pl rr l.cl] dec)=some (aw T' ns' (.snoc ys [.con (.ref (ρ 4)),.ptr 4]) [.tuple [.sstr it.kd,.sstr it.pl,.con (.ref (ρ rI)),.bool it.cl]],rI,it.row,ax l.kd l.pl rr l.cl,pc)) (z8:bc pc)
  (hc:¬ (l.kd=ay/\it.kd=ay)) (KF:Kept F (aw T ns (.snoc ys [.ptr 4]) [ax l.kd l.pl rr l.cl]).length ρ s.heap) (hr:ReadsF F rr (de l.row)) (hys:All2 (fun v i=>ReadsF F v (It.data i)) ys its) :
  bk prog w z5 A env ρ (aw T ns (.snoc ys [.ptr 4]) [ax l.kd l.pl rr l.cl]) s F T' ns' (aG (its++[l]) it):=by
 refine wpAny_mono (iA EV hR hE run (d0 z8)) (fun fl s' z=>?_) fun _ _ x=>x;obtain ⟨h,ρ1,ρ',F1,M,e1,k1,K1,S1,r1,o1⟩:=z;exact ⟨h,ρ',to (pre:=kU T' ns') hc M K1 S1 r1 KF (o1 _ _ _ _ rfl) hr hys,mG (by show 4<=5;exact Qc rfl) e1 k1⟩
theorem Eo (EV:aR prog w z5 A env 0 lscope [(aD,1)] (lev bu)) {T T':Str} {ns ns':List Int} {dec:List Nat} {it l:It} {its:List It} {rr:Value} {rI:Nat} {ys:List Value} {pc:List Prop} (hR:Rel w.params z5 ρ (aw T ns (.snoc ys [.ptr 4]) [ax l.kd l.pl rr l.cl]) s.heap) (hE:EnvR (aw T ns (.snoc ys [.ptr 4]) [ax l.kd l.pl rr l.cl]).length ρ env 0 lscope [(aD,1)])
  (run:∀ ρ,aP bp [0,1,2,3] 3 ρ (bw T ns (.snoc ys [.ptr 4]) [ax l.kd l.pl rr l.cl] dec)=some (aw T' ns' (.snoc ys [.ptr 4]) [.tuple [.sstr ay,.sstr (l.pl++it.pl),.con (.ref (ρ rI)),.bool false]],rI,[],ax l.kd l.pl rr l.cl,pc)) (z8:bc pc)
  (hl:l.kd=ay) (hi:it.kd=ay) (hrow:it.row=[]) (hcl:it.cl=false) (KF:Kept F (aw T ns (.snoc ys [.ptr 4]) [ax l.kd l.pl rr l.cl]).length ρ s.heap) (hys:All2 (fun v i=>ReadsF F v (It.data i)) ys its) :
  bk prog w z5 A env ρ (aw T ns (.snoc ys [.ptr 4]) [ax l.kd l.pl rr l.cl]) s F T' ns' (aG (its++[l]) it):=by
 refine wpAny_mono (iA EV hR hE run (d0 z8)) (fun fl s' z=>?_) fun _ _ x=>x;obtain ⟨h,ρ1,ρ',F1,M,e1,k1,K1,S1,r1,o1⟩:=z;exact ⟨h,ρ',tj (pre:=kU T' ns') hl hi hrow hcl M K1 S1 r1 KF hys,mG (by show 4<=5;exact Qc rfl) e1 k1⟩
theorem bJ {hp:List AO} {T T':Str} {ns ns':List Int} {its:List It} {i i':It} (e:T=T'/\i=i'/\ns=ns') (h:bk prog w z5 A env ρ hp s F T' ns' (aG its i')):bk prog w z5 A env ρ hp s F T ns (aG its i):=by
 refine ag fun G0 hG0=>?_;obtain ⟨rfl,rfl,rfl⟩:=e;refine hG0 ?_;exact h
section
variable {T:Str} {ns:List Int}
theorem ss (hk:kN ns=0) (hj:kN ns.tail=((0:Nat):Int)) (hc:¬ (clN ns=1)):T++aE ns=(T++(sLt++wd lawNames ns))++sGt/\aH ns=⟨aF,ac (wd lawNames ns),bb [] ns.tail.tail,false⟩/\aJ ns=ns.tail.tail:=by
 have hkey:bA ns=[]:=by unfold bA;rw[hj];rfl
 dsimp only[aE,aH,aJ];rw[if_pos hk,if_pos hk,if_pos hk,hkey,if_neg hc,decide_eq_false hc,hj];refine ⟨by simp only[cW,eA,dI,eF],rfl,?_⟩;show ns.drop 2=_;simp only[List.tail_drop,<- List.drop_one,List.drop_drop]
theorem sr (hk:kN ns=0) (hj:kN ns.tail=((0:Nat):Int)) (hc:clN ns=1):T++aE ns=(T++(sLt++wd lawNames ns))++sCl/\aH ns=⟨aF,ac (wd lawNames ns),bb [] ns.tail.tail,true⟩/\aJ ns=ns.tail.tail:=by
 have hkey:bA ns=[]:=by unfold bA;rw[hj];rfl
 dsimp only[aE,aH,aJ];rw[if_pos hk,if_pos hk,if_pos hk,hkey,if_pos hc,decide_eq_true hc,hj];refine ⟨by simp only[cW,eA,dI,eF],rfl,?_⟩;show ns.drop 2=_;simp only[List.tail_drop,<- List.drop_one,List.drop_drop]
theorem sn (hk:kN ns=0) (hj:kN ns.tail=((1:Nat):Int)) (hc:¬ (clN ns=1)):T++aE ns=((T++(sLt++wd lawNames ns))++(sSp++(af (hd ns.tail.tail) kHref).1))++sGt/\aH ns=⟨aF,ac (wd lawNames ns),bb [kHref] ns.tail.tail,false⟩/\aJ ns=ns.tail.tail.tail:=by
 have hkey:bA ns=[kHref]:=by unfold bA;rw[hj];rfl
 dsimp only[aE,aH,aJ];rw[if_pos hk,if_pos hk,if_pos hk,hkey,if_neg hc,decide_eq_false hc,hj];refine ⟨by simp only[cW,eA,dI,eF],rfl,?_⟩;show ns.drop 3=_;simp only[List.tail_drop,<- List.drop_one,List.drop_drop]
theorem sk (hk:kN ns=0) (hj:kN ns.tail=((1:Nat):Int)) (hc:clN ns=1):T++aE ns=((T++(sLt++wd lawNames ns))++(sSp++(af (hd ns.tail.tail) kHref).1))++sCl/\aH ns=⟨aF,ac (wd lawNames ns),bb [kHref] ns.tail.tail,true⟩/\aJ ns=ns.tail.tail.tail:=by
 have hkey:bA ns=[kHref]:=by unfold bA;rw[hj];rfl
 dsimp only[aE,aH,aJ];rw[if_pos hk,if_pos hk,if_pos hk,hkey,if_pos hc,decide_eq_true hc,hj];refine ⟨by simp only[cW,eA,dI,eF],rfl,?_⟩;show ns.drop 3=_;simp only[List.tail_drop,<- List.drop_one,List.drop_drop]
theorem sj (hk:kN ns=0) (hj:kN ns.tail=((2:Nat):Int)) (hc:¬ (clN ns=1)):T++aE ns=(((T++(sLt++wd lawNames ns))++(sSp++(af (hd ns.tail.tail) kHref).1))++(sSp++(af (hd ns.tail.tail.tail) kB).1))++sGt/\aH ns=⟨aF,ac (wd lawNames ns),bb [kHref,kB] ns.tail.tail,false⟩/\aJ ns=ns.tail.tail.tail.tail:=by
 have hkey:bA ns=[kHref,kB]:=by unfold bA;rw[hj];rfl
 dsimp only[aE,aH,aJ];rw[if_pos hk,if_pos hk,if_pos hk,hkey,if_neg hc,decide_eq_false hc,hj];refine ⟨by simp only[cW,eA,dI,eF],rfl,?_⟩;show ns.drop 4=_;simp only[List.tail_drop,<- List.drop_one,List.drop_drop]
theorem sg (hk:kN ns=0) (hj:kN ns.tail=((2:Nat):Int)) (hc:clN ns=1):T++aE ns=(((T++(sLt++wd lawNames ns))++(sSp++(af (hd ns.tail.tail) kHref).1))++(sSp++(af (hd ns.tail.tail.tail) kB).1))++sCl/\aH ns=⟨aF,ac (wd lawNames ns),bb [kHref,kB] ns.tail.tail,true⟩/\aJ ns=ns.tail.tail.tail.tail:=by
 have hkey:bA ns=[kHref,kB]:=by unfold bA;rw[hj];rfl
 dsimp only[aE,aH,aJ];rw[if_pos hk,if_pos hk,if_pos hk,hkey,if_pos hc,decide_eq_true hc,hj];refine ⟨by simp only[cW,eA,dI,eF],rfl,?_⟩;show ns.drop 4=_;simp only[List.tail_drop,<- List.drop_one,List.drop_drop]
theorem sf (hk:kN ns=0) (hj:kN ns.tail=((3:Nat):Int)) (hc:¬ (clN ns=1)):T++aE ns=((((T++(sLt++wd lawNames ns))++(sSp++(af (hd ns.tail.tail) kHref).1))++(sSp++(af (hd ns.tail.tail.tail) kB).1))++(sSp++(af (hd ns.tail.tail.tail.tail) kDC).1))++sGt/\aH ns=⟨aF,ac (wd lawNames ns),bb [kHref,kB,kDC] ns.tail.tail,false⟩/\aJ ns=ns.tail.tail.tail.tail.tail:=by
 have hkey:bA ns=[kHref,kB,kDC]:=by unfold bA;rw[hj];rfl
 dsimp only[aE,aH,aJ];rw[if_pos hk,if_pos hk,if_pos hk,hkey,if_neg hc,decide_eq_false hc,hj];refine ⟨by simp only[cW,eA,dI,eF],rfl,?_⟩;show ns.drop 5=_;simp only[List.tail_drop,<- List.drop_one,List.drop_drop]
theorem se (hk:kN ns=0) (hj:kN ns.tail=((3:Nat):Int)) (hc:clN ns=1):T++aE ns=((((T++(sLt++wd lawNames ns))++(sSp++(af (hd ns.tail.tail) kHref).1))++(sSp++(af (hd ns.tail.tail.tail) kB).1))++(sSp++(af (hd ns.tail.tail.tail.tail) kDC).1))++sCl/\aH ns=⟨aF,ac (wd lawNames ns),bb [kHref,kB,kDC] ns.tail.tail,true⟩/\aJ ns=ns.tail.tail.tail.tail.tail:=by
 have hkey:bA ns=[kHref,kB,kDC]:=by unfold bA;rw[hj];rfl
 dsimp only[aE,aH,aJ];rw[if_pos hk,if_pos hk,if_pos hk,hkey,if_pos hc,decide_eq_true hc,hj];refine ⟨by simp only[cW,eA,dI,eF],rfl,?_⟩;show ns.drop 5=_;simp only[List.tail_drop,<- List.drop_one,List.drop_drop]
theorem t9 (h0:¬ kN ns=0) (hk:kN ns=1) (hc:¬ (clN ns≠0)):T++aE ns=T++((sLtS++wd lawNames ns)++sGt)/\aH ns=⟨cc,ac (wd lawNames ns),[],false⟩/\aJ ns=ns.tail:=by
 dsimp only[aE,aH,aJ];rw[if_neg h0,if_neg h0,if_neg h0,if_pos hk,if_pos hk,if_neg hc];exact ⟨rfl,rfl,rfl⟩
theorem t8 (h0:¬ kN ns=0) (hk:kN ns=1) (hc:clN ns≠0):T++aE ns=T++((sLtS++wd lawNames ns)++sSpGt)/\aH ns=⟨cc,ac (wd lawNames ns),[],false⟩/\aJ ns=ns.tail:=by
 dsimp only[aE,aH,aJ];rw[if_neg h0,if_neg h0,if_neg h0,if_pos hk,if_pos hk,if_pos hc];exact ⟨rfl,rfl,rfl⟩
theorem t7 (h0:¬ kN ns=0) (h1:¬ kN ns=1) (hk:kN ns=2):T++aE ns=T++((sCo++wd lawNotes ns)++sCc)/\aH ns=⟨cY,wd lawNotes ns,[],false⟩/\aJ ns=ns.tail:=by
 dsimp only[aE,aH,aJ];rw[if_neg h0,if_neg h0,if_neg h0,if_neg h1,if_neg h1,if_pos hk,if_pos hk];exact ⟨rfl,rfl,rfl⟩
theorem nP (h0:¬ kN ns=0) (h1:¬ kN ns=1) (h2:¬ kN ns=2):T++aE ns=T++wd lawTexts ns/\aH ns=⟨ay,wd lawTexts ns,[],false⟩/\aJ ns=ns.tail:=by
 dsimp only[aE,aH,aJ];rw[if_neg h0,if_neg h0,if_neg h0,if_neg h1,if_neg h1,if_neg h2,if_neg h2];exact ⟨rfl,rfl,rfl⟩
variable (EV:aR prog w z5 A env 0 lscope [(aD,1)] (lev bu)) (hT:T.length<=5000) (hn:ns.length<=1000) (hix:0<=ixN ns/\ixN ns < 5)
include EV hT hn hix
section
variable (hR:Rel w.params z5 ρ (aw T ns (.list []) []) s.heap) (hE:EnvR (aw T ns (.list []) []).length ρ env 0 lscope [(aD,1)]) (KF:Kept F (aw T ns (.list []) []).length ρ s.heap)
include hR hE KF
theorem BL (hk:kN ns=0) (hj:kN ns.tail=((0:Nat):Int)) (hc:¬ (clN ns=1)):bk prog w z5 A env ρ (aw T ns (.list []) []) s F (T++aE ns) (aJ ns) (aG [] (aH ns)) :=
 bJ (ss hk hj hc) (dJ EV hR hE (it:=⟨aF,ac (wd lawNames ns),bb [] ns.tail.tail,false⟩) (yO T ns) ⟨hn,hk,hix,am (aLe (Qa _) (aq ar _)) rfl,am (aLe hT (ae (Qa _) (aq ar _))) rfl,aB hn,hj,hc,am (aLe (ae hT (ae (Qa _) (aq ar _))) (Qa _)) rfl,aU,am (aq ar _) rfl,trivial⟩ KF)
theorem BK (hk:kN ns=0) (hj:kN ns.tail=((0:Nat):Int)) (hc:clN ns=1):bk prog w z5 A env ρ (aw T ns (.list []) []) s F (T++aE ns) (aJ ns) (aG [] (aH ns)) :=
 bJ (sr hk hj hc) (dJ EV hR hE (it:=⟨aF,ac (wd lawNames ns),bb [] ns.tail.tail,true⟩) (yN T ns) ⟨hn,hk,hix,am (aLe (Qa _) (aq ar _)) rfl,am (aLe hT (ae (Qa _) (aq ar _))) rfl,aB hn,hj,hc,am (aLe (ae hT (ae (Qa _) (aq ar _))) (Qa _)) rfl,aU,am (aq ar _) rfl,trivial⟩ KF)
theorem BJ (hk:kN ns=0) (hj:kN ns.tail=((1:Nat):Int)) (hc:¬ (clN ns=1)):bk prog w z5 A env ρ (aw T ns (.list []) []) s F (T++aE ns) (aJ ns) (aG [] (aH ns)) :=
 bJ (sn hk hj hc) (dJ EV hR hE (it:=⟨aF,ac (wd lawNames ns),bb [kHref] ns.tail.tail,false⟩) (yM T ns) ⟨hn,hk,hix,am (aLe (Qa _) (aq ar _)) rfl,am (aLe hT (ae (Qa _) (aq ar _))) rfl,aB hn,hj,aB (aB hn),by decide,am (aLe (Qa _) (az _ _)) rfl,am (aLe (ae hT (ae (Qa _) (aq ar _))) (ae (Qa _) (az _ _))) rfl,aU,by decide,hc,am (aLe (ae (ae hT (ae (Qa _) (aq ar _))) (ae (Qa _) (az _ _))) (Qa _)) rfl,aU,am (aq ar _) rfl,trivial⟩ KF)
theorem BH (hk:kN ns=0) (hj:kN ns.tail=((1:Nat):Int)) (hc:clN ns=1):bk prog w z5 A env ρ (aw T ns (.list []) []) s F (T++aE ns) (aJ ns) (aG [] (aH ns)) :=
 bJ (sk hk hj hc) (dJ EV hR hE (it:=⟨aF,ac (wd lawNames ns),bb [kHref] ns.tail.tail,true⟩) (yL T ns) ⟨hn,hk,hix,am (aLe (Qa _) (aq ar _)) rfl,am (aLe hT (ae (Qa _) (aq ar _))) rfl,aB hn,hj,aB (aB hn),by decide,am (aLe (Qa _) (az _ _)) rfl,am (aLe (ae hT (ae (Qa _) (aq ar _))) (ae (Qa _) (az _ _))) rfl,aU,by decide,hc,am (aLe (ae (ae hT (ae (Qa _) (aq ar _))) (ae (Qa _) (az _ _))) (Qa _)) rfl,aU,am (aq ar _) rfl,trivial⟩ KF)
theorem BG (hk:kN ns=0) (hj:kN ns.tail=((2:Nat):Int)) (hc:¬ (clN ns=1)):bk prog w z5 A env ρ (aw T ns (.list []) []) s F (T++aE ns) (aJ ns) (aG [] (aH ns)) :=
 bJ (sj hk hj hc) (dJ EV hR hE (it:=⟨aF,ac (wd lawNames ns),bb [kHref,kB] ns.tail.tail,false⟩) (yK T ns) ⟨hn,hk,hix,am (aLe (Qa _) (aq ar _)) rfl,am (aLe hT (ae (Qa _) (aq ar _))) rfl,aB hn,hj,aB (aB hn),by decide,am (aLe (Qa _) (az _ _)) rfl,am (aLe (ae hT (ae (Qa _) (aq ar _))) (ae (Qa _) (az _ _))) rfl,aU,by decide,aB (aB (aB hn)),by decide,am (aLe (Qa _) (az _ _)) rfl,am (aLe (ae (ae hT (ae (Qa _) (aq ar _))) (ae (Qa _) (az _ _))) (ae (Qa _) (az _ _))) rfl,aU,by decide,hc,am (aLe (ae (ae (ae hT (ae (Qa _) (aq ar _))) (ae (Qa _) (az _ _))) (ae (Qa _) (az _ _))) (Qa _)) rfl,aU,am (aq ar _) rfl,trivial⟩ KF)
theorem BF (hk:kN ns=0) (hj:kN ns.tail=((2:Nat):Int)) (hc:clN ns=1):bk prog w z5 A env ρ (aw T ns (.list []) []) s F (T++aE ns) (aJ ns) (aG [] (aH ns)) :=
 bJ (sg hk hj hc) (dJ EV hR hE (it:=⟨aF,ac (wd lawNames ns),bb [kHref,kB] ns.tail.tail,true⟩) (yJ T ns) ⟨hn,hk,hix,am (aLe (Qa _) (aq ar _)) rfl,am (aLe hT (ae (Qa _) (aq ar _))) rfl,aB hn,hj,aB (aB hn),by decide,am (aLe (Qa _) (az _ _)) rfl,am (aLe (ae hT (ae (Qa _) (aq ar _))) (ae (Qa _) (az _ _))) rfl,aU,by decide,aB (aB (aB hn)),by decide,am (aLe (Qa _) (az _ _)) rfl,am (aLe (ae (ae hT (ae (Qa _) (aq ar _))) (ae (Qa _) (az _ _))) (ae (Qa _) (az _ _))) rfl,aU,by decide,hc,am (aLe (ae (ae (ae hT (ae (Qa _) (aq ar _))) (ae (Qa _) (az _ _))) (ae (Qa _) (az _ _))) (Qa _)) rfl,aU,am (aq ar _) rfl,trivial⟩ KF)
theorem BE (hk:kN ns=0) (hj:kN ns.tail=((3:Nat):Int)) (hc:¬ (clN ns=1)):bk prog w z5 A env ρ (aw T ns (.list []) []) s F (T++aE ns) (aJ ns) (aG [] (aH ns)) :=
 bJ (sf hk hj hc) (dJ EV hR hE (it:=⟨aF,ac (wd lawNames ns),bb [kHref,kB,kDC] ns.tail.tail,false⟩) (yI T ns) ⟨hn,hk,hix,am (aLe (Qa _) (aq ar _)) rfl,am (aLe hT (ae (Qa _) (aq ar _))) rfl,aB hn,hj,aB (aB hn),by decide,am (aLe (Qa _) (az _ _)) rfl,am (aLe (ae hT (ae (Qa _) (aq ar _))) (ae (Qa _) (az _ _))) rfl,aU,by decide,aB (aB (aB hn)),by decide,am (aLe (Qa _) (az _ _)) rfl,am (aLe (ae (ae hT (ae (Qa _) (aq ar _))) (ae (Qa _) (az _ _))) (ae (Qa _) (az _ _))) rfl,aU,by decide,aB (aB (aB (aB hn))),by decide,am (aLe (Qa _) (az _ _)) rfl,am (aLe (ae (ae (ae hT (ae (Qa _) (aq ar _))) (ae (Qa _) (az _ _))) (ae (Qa _) (az _ _))) (ae (Qa _) (az _ _))) rfl,aU,by decide,hc,am (aLe (ae (ae (ae (ae hT (ae (Qa _) (aq ar _))) (ae (Qa _) (az _ _))) (ae (Qa _) (az _ _))) (ae (Qa _) (az _ _))) (Qa _)) rfl,aU,am (aq ar _) rfl,trivial⟩ KF)
theorem BD (hk:kN ns=0) (hj:kN ns.tail=((3:Nat):Int)) (hc:clN ns=1):bk prog w z5 A env ρ (aw T ns (.list []) []) s F (T++aE ns) (aJ ns) (aG [] (aH ns)) :=
 bJ (se hk hj hc) (dJ EV hR hE (it:=⟨aF,ac (wd lawNames ns),bb [kHref,kB,kDC] ns.tail.tail,true⟩) (yH T ns) ⟨hn,hk,hix,am (aLe (Qa _) (aq ar _)) rfl,am (aLe hT (ae (Qa _) (aq ar _))) rfl,aB hn,hj,aB (aB hn),by decide,am (aLe (Qa _) (az _ _)) rfl,am (aLe (ae hT (ae (Qa _) (aq ar _))) (ae (Qa _) (az _ _))) rfl,aU,by decide,aB (aB (aB hn)),by decide,am (aLe (Qa _) (az _ _)) rfl,am (aLe (ae (ae hT (ae (Qa _) (aq ar _))) (ae (Qa _) (az _ _))) (ae (Qa _) (az _ _))) rfl,aU,by decide,aB (aB (aB (aB hn))),by decide,am (aLe (Qa _) (az _ _)) rfl,am (aLe (ae (ae (ae hT (ae (Qa _) (aq ar _))) (ae (Qa _) (az _ _))) (ae (Qa _) (az _ _))) (ae (Qa _) (az _ _))) rfl,aU,by decide,hc,am (aLe (ae (ae (ae (ae hT (ae (Qa _) (aq ar _))) (ae (Qa _) (az _ _))) (ae (Qa _) (az _ _))) (ae (Qa _) (az _ _))) (Qa _)) rfl,aU,am (aq ar _) rfl,trivial⟩ KF)
theorem ET (h0:¬ kN ns=0) (hk:kN ns=1) (hc:¬ (clN ns≠0)):bk prog w z5 A env ρ (aw T ns (.list []) []) s F (T++aE ns) (aJ ns) (aG [] (aH ns)) :=
 bJ (t9 h0 hk hc) (dJ EV hR hE (it:=⟨cc,ac (wd lawNames ns),[],false⟩) (DC T ns) ⟨hn,h0,hk,hix,am (aLe (Qa _) (aq ar _)) rfl,hc,am (aLe (ae (Qa _) (aq ar _)) (Qa _)) rfl,am (aLe hT (ae (ae (Qa _) (aq ar _)) (Qa _))) rfl,aU,am (aq ar _) rfl,trivial⟩ KF)
theorem ER (h0:¬ kN ns=0) (hk:kN ns=1) (hc:clN ns≠0):bk prog w z5 A env ρ (aw T ns (.list []) []) s F (T++aE ns) (aJ ns) (aG [] (aH ns)) :=
 bJ (t8 h0 hk hc) (dJ EV hR hE (it:=⟨cc,ac (wd lawNames ns),[],false⟩) (DB T ns) ⟨hn,h0,hk,hix,am (aLe (Qa _) (aq ar _)) rfl,hc,am (aLe (ae (Qa _) (aq ar _)) (Qa _)) rfl,am (aLe hT (ae (ae (Qa _) (aq ar _)) (Qa _))) rfl,aU,am (aq ar _) rfl,trivial⟩ KF)
theorem G5 (h0:¬ kN ns=0) (h1:¬ kN ns=1) (hk:kN ns=2):bk prog w z5 A env ρ (aw T ns (.list []) []) s F (T++aE ns) (aJ ns) (aG [] (aH ns)) :=
 bJ (t7 h0 h1 hk) (dJ EV hR hE (it:=⟨cY,wd lawNotes ns,[],false⟩) (Gu T ns) ⟨hn,h0,h1,hk,hix,am (aLe (Qa _) (aq f0 _)) rfl,am (aLe (ae (Qa _) (aq f0 _)) (Qa _)) rfl,am (aLe hT (ae (ae (Qa _) (aq f0 _)) (Qa _))) rfl,trivial⟩ KF)
theorem G4 (h0:¬ kN ns=0) (h1:¬ kN ns=1) (h2:¬ kN ns=2):bk prog w z5 A env ρ (aw T ns (.list []) []) s F (T++aE ns) (aJ ns) (aG [] (aH ns)) :=
 bJ (nP h0 h1 h2) (dJ EV hR hE (it:=⟨ay,wd lawTexts ns,[],false⟩) (Gr T ns) ⟨hn,h0,h1,h2,hix,am (aLe hT (aq g9 _)) rfl,trivial⟩ KF)
end
section
variable {ys:List Value} {its:List It} {l:It} {rr:Value} (hy:ys.length<=100) (hlp:l.pl.length<=5000) (hR:Rel w.params z5 ρ (aw T ns (.snoc ys [.ptr 4]) [ax l.kd l.pl rr l.cl]) s.heap) (hE:EnvR (aw T ns (.snoc ys [.ptr 4]) [ax l.kd l.pl rr l.cl]).length ρ env 0 lscope [(aD,1)]) (KF:Kept F (aw T ns (.snoc ys [.ptr 4]) [ax l.kd l.pl rr l.cl]).length ρ s.heap) (hr:ReadsF F rr (de l.row)) (hys:All2 (fun v i=>ReadsF F v (It.data i)) ys its)
include hy hlp hR hE KF hr hys
theorem BV (hk:kN ns=0) (hj:kN ns.tail=((0:Nat):Int)) (hc:¬ (clN ns=1)):bk prog w z5 A env ρ (aw T ns (.snoc ys [.ptr 4]) [ax l.kd l.pl rr l.cl]) s F (T++aE ns) (aJ ns) (aG (its++[l]) (aH ns)) :=
 bJ (ss hk hj hc) (dK EV hR hE (it:=⟨aF,ac (wd lawNames ns),bb [] ns.tail.tail,false⟩) (yG T ns ys l.kd l.pl rr l.cl) ⟨hn,hk,hix,am (aLe (Qa _) (aq ar _)) rfl,am (aLe hT (ae (Qa _) (aq ar _))) rfl,aB hn,hj,hc,am (aLe (ae hT (ae (Qa _) (aq ar _))) (Qa _)) rfl,aU,am (aq ar _) rfl,cu hy,trivial⟩ (fun z=>absurd z.2 (show ¬ aF=ay by decide +kernel)) KF hr hys)
theorem BU (hk:kN ns=0) (hj:kN ns.tail=((0:Nat):Int)) (hc:clN ns=1):bk prog w z5 A env ρ (aw T ns (.snoc ys [.ptr 4]) [ax l.kd l.pl rr l.cl]) s F (T++aE ns) (aJ ns) (aG (its++[l]) (aH ns)) :=
 bJ (sr hk hj hc) (dK EV hR hE (it:=⟨aF,ac (wd lawNames ns),bb [] ns.tail.tail,true⟩) (yF T ns ys l.kd l.pl rr l.cl) ⟨hn,hk,hix,am (aLe (Qa _) (aq ar _)) rfl,am (aLe hT (ae (Qa _) (aq ar _))) rfl,aB hn,hj,hc,am (aLe (ae hT (ae (Qa _) (aq ar _))) (Qa _)) rfl,aU,am (aq ar _) rfl,cu hy,trivial⟩ (fun z=>absurd z.2 (show ¬ aF=ay by decide +kernel)) KF hr hys)
theorem BR (hk:kN ns=0) (hj:kN ns.tail=((1:Nat):Int)) (hc:¬ (clN ns=1)):bk prog w z5 A env ρ (aw T ns (.snoc ys [.ptr 4]) [ax l.kd l.pl rr l.cl]) s F (T++aE ns) (aJ ns) (aG (its++[l]) (aH ns)) :=
 bJ (sn hk hj hc) (dK EV hR hE (it:=⟨aF,ac (wd lawNames ns),bb [kHref] ns.tail.tail,false⟩) (yE T ns ys l.kd l.pl rr l.cl) ⟨hn,hk,hix,am (aLe (Qa _) (aq ar _)) rfl,am (aLe hT (ae (Qa _) (aq ar _))) rfl,aB hn,hj,aB (aB hn),by decide,am (aLe (Qa _) (az _ _)) rfl,am (aLe (ae hT (ae (Qa _) (aq ar _))) (ae (Qa _) (az _ _))) rfl,aU,by decide,hc,am (aLe (ae (ae hT (ae (Qa _) (aq ar _))) (ae (Qa _) (az _ _))) (Qa _)) rfl,aU,am (aq ar _) rfl,cu hy,trivial⟩ (fun z=>absurd z.2 (show ¬ aF=ay by decide +kernel)) KF hr hys)
theorem BQ (hk:kN ns=0) (hj:kN ns.tail=((1:Nat):Int)) (hc:clN ns=1):bk prog w z5 A env ρ (aw T ns (.snoc ys [.ptr 4]) [ax l.kd l.pl rr l.cl]) s F (T++aE ns) (aJ ns) (aG (its++[l]) (aH ns)) :=
 bJ (sk hk hj hc) (dK EV hR hE (it:=⟨aF,ac (wd lawNames ns),bb [kHref] ns.tail.tail,true⟩) (yD T ns ys l.kd l.pl rr l.cl) ⟨hn,hk,hix,am (aLe (Qa _) (aq ar _)) rfl,am (aLe hT (ae (Qa _) (aq ar _))) rfl,aB hn,hj,aB (aB hn),by decide,am (aLe (Qa _) (az _ _)) rfl,am (aLe (ae hT (ae (Qa _) (aq ar _))) (ae (Qa _) (az _ _))) rfl,aU,by decide,hc,am (aLe (ae (ae hT (ae (Qa _) (aq ar _))) (ae (Qa _) (az _ _))) (Qa _)) rfl,aU,am (aq ar _) rfl,cu hy,trivial⟩ (fun z=>absurd z.2 (show ¬ aF=ay by decide +kernel)) KF hr hys)
theorem BP (hk:kN ns=0) (hj:kN ns.tail=((2:Nat):Int)) (hc:¬ (clN ns=1)):bk prog w z5 A env ρ (aw T ns (.snoc ys [.ptr 4]) [ax l.kd l.pl rr l.cl]) s F (T++aE ns) (aJ ns) (aG (its++[l]) (aH ns)) :=
 bJ (sj hk hj hc) (dK EV hR hE (it:=⟨aF,ac (wd lawNames ns),bb [kHref,kB] ns.tail.tail,false⟩) (yC T ns ys l.kd l.pl rr l.cl) ⟨hn,hk,hix,am (aLe (Qa _) (aq ar _)) rfl,am (aLe hT (ae (Qa _) (aq ar _))) rfl,aB hn,hj,aB (aB hn),by decide,am (aLe (Qa _) (az _ _)) rfl,am (aLe (ae hT (ae (Qa _) (aq ar _))) (ae (Qa _) (az _ _))) rfl,aU,by decide,aB (aB (aB hn)),by decide,am (aLe (Qa _) (az _ _)) rfl,am (aLe (ae (ae hT (ae (Qa _) (aq ar _))) (ae (Qa _) (az _ _))) (ae (Qa _) (az _ _))) rfl,aU,by decide,hc,am (aLe (ae (ae (ae hT (ae (Qa _) (aq ar _))) (ae (Qa _) (az _ _))) (ae (Qa _) (az _ _))) (Qa _)) rfl,aU,am (aq ar _) rfl,cu hy,trivial⟩ (fun z=>absurd z.2 (show ¬ aF=ay by decide +kernel)) KF hr hys)
theorem BO (hk:kN ns=0) (hj:kN ns.tail=((2:Nat):Int)) (hc:clN ns=1):bk prog w z5 A env ρ (aw T ns (.snoc ys [.ptr 4]) [ax l.kd l.pl rr l.cl]) s F (T++aE ns) (aJ ns) (aG (its++[l]) (aH ns)) :=
 bJ (sg hk hj hc) (dK EV hR hE (it:=⟨aF,ac (wd lawNames ns),bb [kHref,kB] ns.tail.tail,true⟩) (yB T ns ys l.kd l.pl rr l.cl) ⟨hn,hk,hix,am (aLe (Qa _) (aq ar _)) rfl,am (aLe hT (ae (Qa _) (aq ar _))) rfl,aB hn,hj,aB (aB hn),by decide,am (aLe (Qa _) (az _ _)) rfl,am (aLe (ae hT (ae (Qa _) (aq ar _))) (ae (Qa _) (az _ _))) rfl,aU,by decide,aB (aB (aB hn)),by decide,am (aLe (Qa _) (az _ _)) rfl,am (aLe (ae (ae hT (ae (Qa _) (aq ar _))) (ae (Qa _) (az _ _))) (ae (Qa _) (az _ _))) rfl,aU,by decide,hc,am (aLe (ae (ae (ae hT (ae (Qa _) (aq ar _))) (ae (Qa _) (az _ _))) (ae (Qa _) (az _ _))) (Qa _)) rfl,aU,am (aq ar _) rfl,cu hy,trivial⟩ (fun z=>absurd z.2 (show ¬ aF=ay by decide +kernel)) KF hr hys)
theorem BN (hk:kN ns=0) (hj:kN ns.tail=((3:Nat):Int)) (hc:¬ (clN ns=1)):bk prog w z5 A env ρ (aw T ns (.snoc ys [.ptr 4]) [ax l.kd l.pl rr l.cl]) s F (T++aE ns) (aJ ns) (aG (its++[l]) (aH ns)) :=
 bJ (sf hk hj hc) (dK EV hR hE (it:=⟨aF,ac (wd lawNames ns),bb [kHref,kB,kDC] ns.tail.tail,false⟩) (yA T ns ys l.kd l.pl rr l.cl) ⟨hn,hk,hix,am (aLe (Qa _) (aq ar _)) rfl,am (aLe hT (ae (Qa _) (aq ar _))) rfl,aB hn,hj,aB (aB hn),by decide,am (aLe (Qa _) (az _ _)) rfl,am (aLe (ae hT (ae (Qa _) (aq ar _))) (ae (Qa _) (az _ _))) rfl,aU,by decide,aB (aB (aB hn)),by decide,am (aLe (Qa _) (az _ _)) rfl,am (aLe (ae (ae hT (ae (Qa _) (aq ar _))) (ae (Qa _) (az _ _))) (ae (Qa _) (az _ _))) rfl,aU,by decide,aB (aB (aB (aB hn))),by decide,am (aLe (Qa _) (az _ _)) rfl,am (aLe (ae (ae (ae hT (ae (Qa _) (aq ar _))) (ae (Qa _) (az _ _))) (ae (Qa _) (az _ _))) (ae (Qa _) (az _ _))) rfl,aU,by decide,hc,am (aLe (ae (ae (ae (ae hT (ae (Qa _) (aq ar _))) (ae (Qa _) (az _ _))) (ae (Qa _) (az _ _))) (ae (Qa _) (az _ _))) (Qa _)) rfl,aU,am (aq ar _) rfl,cu hy,trivial⟩ (fun z=>absurd z.2 (show ¬ aF=ay by decide +kernel)) KF hr hys)
theorem BM (hk:kN ns=0) (hj:kN ns.tail=((3:Nat):Int)) (hc:clN ns=1):bk prog w z5 A env ρ (aw T ns (.snoc ys [.ptr 4]) [ax l.kd l.pl rr l.cl]) s F (T++aE ns) (aJ ns) (aG (its++[l]) (aH ns)) :=
 bJ (se hk hj hc) (dK EV hR hE (it:=⟨aF,ac (wd lawNames ns),bb [kHref,kB,kDC] ns.tail.tail,true⟩) (yz T ns ys l.kd l.pl rr l.cl) ⟨hn,hk,hix,am (aLe (Qa _) (aq ar _)) rfl,am (aLe hT (ae (Qa _) (aq ar _))) rfl,aB hn,hj,aB (aB hn),by decide,am (aLe (Qa _) (az _ _)) rfl,am (aLe (ae hT (ae (Qa _) (aq ar _))) (ae (Qa _) (az _ _))) rfl,aU,by decide,aB (aB (aB hn)),by decide,am (aLe (Qa _) (az _ _)) rfl,am (aLe (ae (ae hT (ae (Qa _) (aq ar _))) (ae (Qa _) (az _ _))) (ae (Qa _) (az _ _))) rfl,aU,by decide,aB (aB (aB (aB hn))),by decide,am (aLe (Qa _) (az _ _)) rfl,am (aLe (ae (ae (ae hT (ae (Qa _) (aq ar _))) (ae (Qa _) (az _ _))) (ae (Qa _) (az _ _))) (ae (Qa _) (az _ _))) rfl,aU,by decide,hc,am (aLe (ae (ae (ae (ae hT (ae (Qa _) (aq ar _))) (ae (Qa _) (az _ _))) (ae (Qa _) (az _ _))) (ae (Qa _) (az _ _))) (Qa _)) rfl,aU,am (aq ar _) rfl,cu hy,trivial⟩ (fun z=>absurd z.2 (show ¬ aF=ay by decide +kernel)) KF hr hys)
theorem EW (h0:¬ kN ns=0) (hk:kN ns=1) (hc:¬ (clN ns≠0)):bk prog w z5 A env ρ (aw T ns (.snoc ys [.ptr 4]) [ax l.kd l.pl rr l.cl]) s F (T++aE ns) (aJ ns) (aG (its++[l]) (aH ns)) :=
 bJ (t9 h0 hk hc) (dK EV hR hE (it:=⟨cc,ac (wd lawNames ns),[],false⟩) (DA T ns ys l.kd l.pl rr l.cl) ⟨hn,h0,hk,hix,am (aLe (Qa _) (aq ar _)) rfl,hc,am (aLe (ae (Qa _) (aq ar _)) (Qa _)) rfl,am (aLe hT (ae (ae (Qa _) (aq ar _)) (Qa _))) rfl,aU,am (aq ar _) rfl,cu hy,trivial⟩ (fun z=>absurd z.2 (show ¬ cc=ay by decide +kernel)) KF hr hys)
theorem EU (h0:¬ kN ns=0) (hk:kN ns=1) (hc:clN ns≠0):bk prog w z5 A env ρ (aw T ns (.snoc ys [.ptr 4]) [ax l.kd l.pl rr l.cl]) s F (T++aE ns) (aJ ns) (aG (its++[l]) (aH ns)) :=
 bJ (t8 h0 hk hc) (dK EV hR hE (it:=⟨cc,ac (wd lawNames ns),[],false⟩) (Dz T ns ys l.kd l.pl rr l.cl) ⟨hn,h0,hk,hix,am (aLe (Qa _) (aq ar _)) rfl,hc,am (aLe (ae (Qa _) (aq ar _)) (Qa _)) rfl,am (aLe hT (ae (ae (Qa _) (aq ar _)) (Qa _))) rfl,aU,am (aq ar _) rfl,cu hy,trivial⟩ (fun z=>absurd z.2 (show ¬ cc=ay by decide +kernel)) KF hr hys)
theorem G6 (h0:¬ kN ns=0) (h1:¬ kN ns=1) (hk:kN ns=2):bk prog w z5 A env ρ (aw T ns (.snoc ys [.ptr 4]) [ax l.kd l.pl rr l.cl]) s F (T++aE ns) (aJ ns) (aG (its++[l]) (aH ns)) :=
 bJ (t7 h0 h1 hk) (dK EV hR hE (it:=⟨cY,wd lawNotes ns,[],false⟩) (Gs T ns ys l.kd l.pl rr l.cl) ⟨hn,h0,h1,hk,hix,am (aLe (Qa _) (aq f0 _)) rfl,am (aLe (ae (Qa _) (aq f0 _)) (Qa _)) rfl,am (aLe hT (ae (ae (Qa _) (aq f0 _)) (Qa _))) rfl,cu hy,trivial⟩ (fun z=>absurd z.2 (show ¬ cY=ay by decide +kernel)) KF hr hys)
theorem GA (h0:¬ kN ns=0) (h1:¬ kN ns=1) (h2:¬ kN ns=2) (hl:¬ (l.kd=ay)):bk prog w z5 A env ρ (aw T ns (.snoc ys [.ptr 4]) [ax l.kd l.pl rr l.cl]) s F (T++aE ns) (aJ ns) (aG (its++[l]) (aH ns)) :=
 bJ (nP h0 h1 h2) (dK EV hR hE (it:=⟨ay,wd lawTexts ns,[],false⟩) (Gq T ns ys l.kd l.pl rr l.cl) ⟨hn,h0,h1,h2,hix,am (aLe hT (aq g9 _)) rfl,cu hy,cu hy,hl,cu hy,trivial⟩ (fun z=>hl z.1) KF hr hys)
theorem Gz (h0:¬ kN ns=0) (h1:¬ kN ns=1) (h2:¬ kN ns=2) (hl:l.kd=ay):bk prog w z5 A env ρ (aw T ns (.snoc ys [.ptr 4]) [ax l.kd l.pl rr l.cl]) s F (T++aE ns) (aJ ns) (aG (its++[l]) (aH ns)) :=
 bJ (nP h0 h1 h2) (Eo EV hR hE (it:=⟨ay,wd lawTexts ns,[],false⟩) (Gp T ns ys l.kd l.pl rr l.cl) ⟨hn,h0,h1,h2,hix,am (aLe hT (aq g9 _)) rfl,cu hy,cu hy,hl,cu hy,am (aLe hlp (aq g9 _)) rfl,cu hy,trivial⟩ hl rfl rfl rfl KF hys)
end
end
end
end TE
namespace TE
theorem iZ (ns:List Int):kN ns=0\/kN ns=1\/kN ns=2\/kN ns=3:=by
 have h:=Int.fmod_nonneg_of_pos (hd ns) (b:=4) (by decide);have h':=Int.fmod_lt_of_pos (hd ns) (b:=4) (by decide);unfold kN;lia
theorem pG (ns:List Int):0<=ixN ns/\ixN ns < 5:=⟨Int.fmod_nonneg_of_pos _ (by decide),Int.fmod_lt_of_pos _ (by decide)⟩
section
variable {prog:Program} {w:World} {z5:Heap} {A:Around} {env:Env} {ρ:Nat->Addr} {s:Shared} {F:List (Addr×Obj)}
theorem Gn (EV:aR prog w z5 A env 0 lscope [(aD,1)] (lev bu)) {T:Str} {ns:List Int} {its:List It} {lo:AO} {R:List AO} (hT:T.length<=5000) (hn:ns.length<=1000) (hi:its.length<=100) (hpl:∀ i∈its,i.pl.length<=5000) (H:Hold F 4 its lo R)
  (hR:Rel w.params z5 ρ (aw T ns lo R) s.heap) (hE:EnvR (aw T ns lo R).length ρ env 0 lscope [(aD,1)]) (KF:Kept F (aw T ns lo R).length ρ s.heap) :
  bk prog w z5 A env ρ (aw T ns lo R) s F (T++aE ns) (aJ ns) (aG its (aH ns)):=by
 have hix:=pG ns
 cases H with
 | empty =>
  by_cases h0:kN ns=0
  ·by_cases hc:clN ns=1
   ·rcases iZ ns.tail with hj | hj | hj | hj
    ·exact BK EV hT hn hix hR hE KF h0 hj hc
    ·exact BH EV hT hn hix hR hE KF h0 hj hc
    ·exact BF EV hT hn hix hR hE KF h0 hj hc
    ·exact BD EV hT hn hix hR hE KF h0 hj hc
   ·rcases iZ ns.tail with hj | hj | hj | hj
    ·exact BL EV hT hn hix hR hE KF h0 hj hc
    ·exact BJ EV hT hn hix hR hE KF h0 hj hc
    ·exact BG EV hT hn hix hR hE KF h0 hj hc
    ·exact BE EV hT hn hix hR hE KF h0 hj hc
  ·by_cases h1:kN ns=1
   ·by_cases hc:clN ns≠0
    ·exact ER EV hT hn hix hR hE KF h0 h1 hc
    ·exact ET EV hT hn hix hR hE KF h0 h1 hc
   ·by_cases h2:kN ns=2
    ·exact G5 EV hT hn hix hR hE KF h0 h1 h2
    ·exact G4 EV hT hn hix hR hE KF h0 h1 h2
 | last hr hys =>
  rename_i ys its l rr
  have hy:ys.length<=100:=by
   rw[hys.length];rw[List.length_append] at hi;simp only[List.length_cons,List.length_nil] at hi;exact Qk hi
  have hlp:l.pl.length<=5000:=hpl l (Qj _ (.head _))
  by_cases h0:kN ns=0
  ·by_cases hc:clN ns=1
   ·rcases iZ ns.tail with hj | hj | hj | hj
    ·exact BU EV hT hn hix hy hlp hR hE KF hr hys h0 hj hc
    ·exact BQ EV hT hn hix hy hlp hR hE KF hr hys h0 hj hc
    ·exact BO EV hT hn hix hy hlp hR hE KF hr hys h0 hj hc
    ·exact BM EV hT hn hix hy hlp hR hE KF hr hys h0 hj hc
   ·rcases iZ ns.tail with hj | hj | hj | hj
    ·exact BV EV hT hn hix hy hlp hR hE KF hr hys h0 hj hc
    ·exact BR EV hT hn hix hy hlp hR hE KF hr hys h0 hj hc
    ·exact BP EV hT hn hix hy hlp hR hE KF hr hys h0 hj hc
    ·exact BN EV hT hn hix hy hlp hR hE KF hr hys h0 hj hc
  ·by_cases h1:kN ns=1
   ·by_cases hc:clN ns≠0
    ·exact EU EV hT hn hix hy hlp hR hE KF hr hys h0 h1 hc
    ·exact EW EV hT hn hix hy hlp hR hE KF hr hys h0 h1 hc
   ·by_cases h2:kN ns=2
    ·exact G6 EV hT hn hix hy hlp hR hE KF hr hys h0 h1 h2
    ·by_cases hl:l.kd=ay
     ·exact Gz EV hT hn hix hy hlp hR hE KF hr hys h0 h1 h2 hl
     ·exact GA EV hT hn hix hy hlp hR hE KF hr hys h0 h1 h2 hl
end
noncomputable def dl:Nat->Str->List Int->List It->Str×List It
 | 0,T,_,its=>(T,its)
 | m+1,T,ns,its=>dl m (T++aE ns) (aJ ns) (aG its (aH ns))
theorem oi:∀ (ks:List Str) (ns:List Int) (n:Nat),(∀ k∈ks,k.length<=n)->(cW ks ns).length<=ks.length * (n+15)
 | [],_,_,_=>Qu _
 | k::r,ns,n,h=>by
  have h1:=az (hd ns) k;have h2:=h k (.head _);have h3:=oi r ns.tail n fun x hx=>h x (.tail _ hx);show ((sSp++(af (hd ns) k).1)++cW r ns.tail).length<=_;simp only[bM,F7,List.length_cons];rw[Nat.succ_mul];lia
theorem vE:∀ k∈lawKeys,k.length<=6:=by decide +kernel
theorem o8 (ns:List Int):(aE ns).length<=100:=by
 unfold aE;have hN:=aq ar ns;have hO:=aq f0 ns;have hX:=aq g9 ns
 split
 ·have h:=oi (bA ns) ns.tail.tail 6 fun k hk=>vE k (List.mem_of_mem_take hk)
  have hl:(bA ns).length<=3:=by
   unfold bA;rw[List.length_take];exact Nat.min_le_right _ _
  have h2:(bA ns).length * 21<=3 * 21:=Nat.mul_le_mul_right _ hl
  split<;>simp only[bM,F8,Ga,tB]<;>lia
 ·split
  ·split<;>simp only[bM,Ep,CS,tB]<;>lia
  ·split
   ·simp only[bM,F9,Gb];lia
   ·lia
theorem j0 (x:Str):(ac x).length=x.length:=by
 show (x.cps.toList.map bS).toArray.size=x.cps.size;simp
theorem AR (ns:List Int):(aH ns).pl.length<=10:=by
 unfold aH;have hN:=aq ar ns
 split
 ·show (ac _).length<=10;rw[j0];exact hN
 ·split
  ·show (ac _).length<=10;rw[j0];exact hN
  ·split
   ·exact aq f0 ns
   ·exact aq g9 ns
theorem oK {b:Nat} {i:It} (hi:i.pl.length<=10):∀ {its:List It},(∀ x∈its,x.pl.length<=b)->10<=b->∀ x∈aG its i,x.pl.length<=b+10
 | [],_,hb,x,hx=>by
  have hx:x∈[i]:=hx;rw[List.mem_singleton] at hx;subst hx;exact Nat.le_add_left_of_le hi
 | [l],h,hb,x,hx=>by
  have hx:x∈(if l.kd=ay/\i.kd=ay then [⟨ay,l.pl++i.pl,[],false⟩] else [l,i]):=hx
  have hl:=h l (.head _)
  split at hx
  ·rw[List.mem_singleton] at hx;subst hx;show (l.pl++i.pl).length<=_;rw[bM];exact Nat.add_le_add hl hi
  ·rcases Qz hx with rfl | hx
   ·exact Nat.le_add_right_of_le hl
   ·rw[List.mem_singleton] at hx;subst hx;exact Nat.le_add_left_of_le hi
 | a::c::r,h,hb,x,hx=>by
  have hx:x∈a::aG (c::r) i:=hx;rcases Qz hx with rfl | hx
  ·have:=h x (.head _);exact Nat.le_add_right_of_le this
  ·exact oK hi (fun y hy=>h y (.tail _ hy)) hb x hx
theorem ma {i:It}:∀ {its:List It},(aG its i).length<=its.length+1
 | []=>Qa _
 | [l]=>by
  show (if l.kd=ay/\i.kd=ay then _ else _:List It).length<=_
  split<;>simp
 | a::c::r=>by
  show (aG (c::r) i).length+1<=_;have:=ma (i:=i) (its:=c::r);simp only[List.length_cons] at this ⊢;exact Nat.add_le_add_right this 1
theorem Ap (ns:List Int):(aJ ns).length<=ns.length:=by
 unfold aJ
 split
 ·rw[List.length_drop];exact Nat.sub_le ns.length (2+(kN ns.tail).toNat)
 ·rw[List.length_tail];exact Nat.sub_le ns.length 1
end TE
namespace TE
set_option tactic.hygienic false
noncomputable def nUs:Str:=⟨#[95]⟩
noncomputable def nj (T:Str) (ns:List Int) (due:AO) (R:List AO) (v:Int):List AO:=.ns [(bv,.ptr 2),(bX,.sstr T),(cG,.ptr 3),(nUs,.int v)]::.cell none::.numl ns::due::R
theorem DX (T:Str) (ns:List Int) (due:AO) (R:List AO) (v:Int):putName 0 lscope [(aD,1)] nUs (.int v) ⟨aw T ns due R,[]⟩=some ((),⟨nj T ns due R v,[]⟩,[]):=by kernel_rfl
theorem Cc (T:Str) (ns:List Int) (due:AO) (R:List AO) (v:Int):slim bp (nj T ns due R v)=aw T ns due R:=by kernel_rfl
theorem ez:lscope.kind=.function:=by kernel_rfl
theorem pq:lscope.isCoroutine=false:=by kernel_rfl
section
variable {P:Params} {z5 h h':Heap} {ρ ρ':Nat->Addr} {σ σ':List AO} {s s':Shared} {F:List (Addr×Obj)} {a:Addr}
theorem Rel.sameBut (R:Rel P z5 ρ σ h) (hs:Heap.SameBut a h h') (ha:∀ i,i < σ.length->ρ i≠a) (hb:z5.objs.size<=a):Rel P z5 ρ σ h' :=
 ⟨Qf R.base (Nat.le_of_eq hs.1.symm),fun b o e=>(hs.2 b (Qh (Qd (Qg e) hb))).trans (R.keep b o e),
  fun i o e=>(R.own i o e).mono (Qa _) (fun _ _=>rfl) (Nat.le_of_eq hs.1.symm) fun ob q=>(hs.2 _ (ha i (Qy e).1)).trans q,R.high,R.inj⟩
theorem Rel.extBut (R:Rel P z5 ρ σ h) (hs:Heap.ExtBut a h h') (hz:h.objs.size<=h'.objs.size) (ha:∀ i,i < σ.length->ρ i≠a) (hb:z5.objs.size<=a):Rel P z5 ρ σ h' :=
 ⟨Qf R.base hz,fun b o e=>hs b o (Qh (Qd (Qg e) hb)) (R.keep b o e),
  fun i o e=>(R.own i o e).mono (Qa _) (fun _ _=>rfl) hz fun ob q=>hs _ ob (ha i (Qy e).1) q,R.high,R.inj⟩
end
section
variable {prog:Program} {w:World} {z5:Heap} {K:Frag} {A:Around} {env:Env}
inductive BSt (P:Params) (z5:Heap) (ρ0:Nat->Addr) (s0:Shared) (T:Str) (ns:List Int) (its:List It) (X:(Nat->Addr)->Nat->List (Addr×Obj)->Prop) (s':Shared):Prop
 | mk (gens:s'.gens=s0.gens) (os:s'.os=s0.os) (drawn:s'.drawn=s0.drawn) (ρ:Nat->Addr) (F:List (Addr×Obj)) (lo:AO) (R:List AO) (RR:Rel P z5 ρ (aw T ns lo R) s'.heap) (hρ:∀ j,j < 4->ρ j=ρ0 j) (KF:Kept F (aw T ns lo R).length ρ s'.heap) (HO:Hold F 4 its lo R) (hX:X ρ (aw T ns lo R).length F):BSt P z5 ρ0 s0 T ns its X s'
inductive tX (P:Params) (z5:Heap) (ρ0:Nat->Addr) (s0:Shared) (fin:Str×List It) (I:Addr) (m:Nat) (s':Shared):Prop
 | mk (T:Str) (ns:List Int) (its:List It) (x:Int) (e:dl m T ns its=fin) (c1:T.length+100 * m<=4000) (c2:its.length+m<=50) (c3:∀ i∈its,i.pl.length<=10 * (50 - m)) (c4:m<=10) (c5:ns.length<=1000)
  (B:BSt P z5 ρ0 s0 T ns its (fun ρ n F=>(∀ i,i < n->ρ i≠I)/\∀ p∈F,p.1≠I) s') (hit:IsRangeIter s'.heap I x m 1):tX P z5 ρ0 s0 fin I m s'
theorem lH (T:Str) (ns:List Int) (lo:AO) (R:List AO):(aw T ns lo R).length=4+R.length:=by
 unfold aw;simp only[List.length_cons];exact Eq.symm (Nat.add_comm 4 R.length)
theorem h9 (hes:env.scope=lscope) (heg:env.globals=mainGlobals) (heb:env.builtins=builtinsNs) {n:Nat} {ρ:Nat->Addr} (h0:ρ 0=env.locals) (h1:env.cells.lookup aD=some (ρ 1)) (hn:2<=n):EnvR n ρ env 0 lscope [(aD,1)] :=
 ⟨hes,ez,pq,by exact Nat.zero_lt_of_lt hn,h0.symm,heg,heb,fun x i h=>by
  have h:(match seq aD x with | true=>some 1 | false=>none)=some i:=h
  cases q:seq aD x with
  | true=>rw[q] at h;obtain rfl:=Qb h;rw[<- (bt _ _).mp q];exact ⟨by exact hn,h1⟩
  | false=>rw[q] at h;cases h⟩
theorem wI (EV:aR prog w z5 A env 0 lscope [(aD,1)] (lev bu)) (hA:A.handled=none) (hes:env.scope=lscope) (heg:env.globals=mainGlobals) (heb:env.builtins=builtinsNs) {ρ0:Nat->Addr} (h0:ρ0 0=env.locals) (h1:env.cells.lookup aD=some (ρ0 1))
  {px:Pos} {I:Addr} {s0:Shared} {fin:Str×List It} {R:Result->Shared->Prop} (hI:z5.objs.size<=I)
  (hR:∀ s' ns,BSt w.params z5 ρ0 s0 fin.1 ns fin.2 (fun _ _ _=>True) s'->R (.ok .next) s') :
  ∀ (m:Nat) (T:Str) (ns:List Int) (its:List It) (x:Int) (s:Shared),dl m T ns its=fin->T.length+100 * m<=4000->its.length+m<=50->(∀ i∈its,i.pl.length+10 * m<=4000)->(∀ i∈its,i.pl.length<=10 * (50 - m))->m<=10->ns.length<=1000 ->
   BSt w.params z5 ρ0 s0 T ns its (fun ρ n F=>(∀ i,i < n->ρ i≠I)/\∀ p∈F,p.1≠I) s->IsRangeIter s.heap I x m 1->codeAny (model prog w) A (.forLoop (.Name nUs px) (.ref I) kQ [] env) R s:=by
 intro m0 T0 z9 its0 x0 s1 e0 b1 b2 b3 b4 b5 b6 B0 I0;refine codeAny_forLoop (tX w.params z5 ρ0 s0 fin I) ?_ m0 ⟨T0,z9,its0,x0,e0,b1,b2,b4,b5,b6,B0,I0⟩;intro m s z;obtain ⟨T,ns,its,x,e,c1,c2,c3,c4,c5,⟨bg,bo,bd,ρ,F,lo,R',RR,hρ,KF,HO,a1,a2⟩,hit⟩:=z
 cases m with
 | zero =>
  refine jD (wpAny_pyNext_range_end hA hit (by simp) fun h' he hz=>wpAny_execs_nil ?_);refine hR _ ns ?_;have e:(T,its)=fin:=e;subst e;exact ⟨bg,bo,bd,ρ,F,lo,R',RR.extBut he hz a1 hI,hρ,⟨fun p hp=>he _ _ (a2 p hp) (KF.here p hp),KF.apart⟩,HO,trivial⟩
 | succ m =>
  refine wpAny_pyNext_range_item hit (by exact Int.ofNat_succ_pos m) fun h' hit' hs=>?_;have RR':Rel w.params z5 ρ (aw T ns lo R') h':=RR.sameBut hs a1 hI;have KF':Kept F (aw T ns lo R').length ρ h':=⟨fun p hp=>(hs.2 _ (a2 p hp)).trans (KF.here p hp),KF.apart⟩;have hE:EnvR (aw T ns lo R').length ρ env 0 lscope [(aD,1)]:=h9 hes heg heb ((hρ 0 (by exact Qn 3)).trans h0) (by rw[h1,hρ 1 (by exact Nat.one_lt_succ_succ 2)]) (by rw[lH];omega);refine wpAny_assign_Name (wpAny_mono ((iR (es:=⟨aw T ns lo R',[]⟩) (s:={ s with heap:=h',toks:=s.toks+1 }) RR' hE nUs (a:=.int x) ⟨_,rfl⟩).go (DX T ns lo R' x) (fun _ h=>noM h) (Q:=fun _ s'=>∃ ρ1,Stp w.params z5 ρ (aw T ns lo R') { s with heap:=h',toks:=s.toks+1 } ρ1 (nj T ns lo R' x) s') (E:=fun _ _=>False) fun c s' ρ1 S r=>⟨ρ1,S⟩) (fun _ s2 zz=>?_) fun _ _ x=>x.elim)
  obtain ⟨ρ1,S⟩:=zz;have M1:=Rel.move_to (s:=s2) hJ (Rel.slim (names:=bp) S.rel) (Qa _);rw[Cc] at M1;have M:=S.move.trans M1
  have KI:Kept [(I,({ cls:=.type "range_iterator",dict:=none,data:=.fields #[rawInt (x+1),rawInt (((m+1:Nat):Int) - 1),rawInt 1],slots:=#[] }:Obj))] (aw T ns lo R').length ρ h' :=
   ⟨fun p hp=>by rw[List.mem_singleton] at hp;subst hp;exact hit',fun p hp i hi=>by rw[List.mem_singleton] at hp;subst hp;exact a1 i hi⟩
  have KI2:=KI.move (s:={ s with heap:=h',toks:=s.toks+1 }) M
  have KF2:=KF'.move (s:={ s with heap:=h',toks:=s.toks+1 }) M
  have hρ2:∀ j,j < 4->ρ1 j=ρ j:=fun j hj=>S.ext j (by rw[lH];exact Nat.lt_add_right R'.length hj);have hE2:EnvR (aw T ns lo R').length ρ1 env 0 lscope [(aD,1)]:=h9 hes heg heb ((hρ2 0 (by exact Qn 3)).trans ((hρ 0 (by exact Qn 3)).trans h0)) (by rw[h1,hρ2 1 (by exact Nat.one_lt_succ_succ 2),hρ 1 (by exact Nat.one_lt_succ_succ 2)]) (by rw[lH];omega);refine wpAny_mono (Gn EV (by lia) c5 (by lia) (fun i hi=>by have:=c3 i hi;omega) HO M1.rel hE2 KF2) (fun fl s3 z=>?_) fun _ _ x=>x.elim;obtain ⟨rfl,ρ3,⟨F3,lo3,R3,M3,K3,k1,k2,HO3⟩,hρ3⟩:=z;have KI3:=KI2.move M3
  have iI:IsRangeIter s3.heap I (x+1) m 1:=by
   have:=KI3.here _ (.head _);have e2:(((m+1:Nat):Int) - 1)=(m:Int):=by simp
   rw[e2] at this;exact this
  have hp:=o8 ns;have hm:(T++aE ns).length<=T.length+100:=by rw[bM];simp[*]
  have hl:=ma (i:=aH ns) (its:=its);have hIlt:I < s2.heap.objs.size:=Qg (KI2.here _ (.head _));refine ⟨m,Qt _,T++aE ns,aJ ns,aG its (aH ns),x+1,e,by lia,by lia,fun i hi=>?_,by exact Qk c4,Qf (Ap ns) c5,⟨?_,?_,?_,ρ3,F3,lo3,R3,M3.rel,fun j hj=>(hρ3 j hj).trans ((hρ2 j hj).trans (hρ j hj)),K3,HO3,⟨fun i hi=>KI3.apart _ (.head _) i hi,fun p hp=>?_⟩⟩,iI⟩
  ·have:=oK (b:=10 * (50 - (m+1))) (AR ns) c3 (by omega) i hi;omega
  ·exact M3.gens.trans (M.gens.trans bg)
  ·exact M3.os.trans (M.os.trans bo)
  ·exact M3.drawn.trans (M.drawn.trans bd)
  ·rcases k2 p hp with h | ⟨i,hi,h⟩ | h
   ·exact a2 p h
   ·rw[h];exact KI2.apart _ (.head _) i hi
   ·intro z;rw[z] at h;exact absurd hIlt (Nat.not_lt.mpr h)
end
end TE
namespace TE
section
variable {prog:Program} {w:World} {z5:Heap}
theorem rk {a:AV} {v:Value} (h:m8 a v=true) (n:Nat) (ρ:Nat->Addr):VRel n ρ a v:=by
 cases a with
 | bi b=>exact beq_iff_eq.mp h
 | con c=>exact beq_iff_eq.mp h
 | none=>exact eD (a:=.none) (v:=v) h n ρ
 | bool b=>exact eD (a:=.bool b) (v:=v) h n ρ
 | int b=>exact eD (a:=.int b) (v:=v) h n ρ
 | sint b=>exact eD (a:=.sint b) (v:=v) h n ρ
 | str b=>exact eD (a:=.str b) (v:=v) h n ρ
 | sstr b=>exact eD (a:=.sstr b) (v:=v) h n ρ
 | ptr b=>exact eD (a:=.ptr b) (v:=v) h n ρ
theorem nh {w:World} {z5:Heap} {K:Frag} {f T:Addr} {v:Value} {av:AV} {r:cJ} {a1:Arg} {x2:Str} (X:K.In z5) (h1:fnB K f=true) (h2:c9 K f=some (r.params,.stmts r.body,r.scope)) (h3:iK K f T v=true)
  (hd:r.dflts=[(x2,av)]) (hv:∀ n ρ,VRel n ρ av v) (hk:r.scope.kind=.function) (hco:r.scope.isCoroutine=false) (hg:r.scope.isGenerator=false) (hc:∀ x∈r.scope.names,x.2≠.cell)
  (hb:∀ (fd:FuncData) (its:Array Value) (c:Value) (d:Option Addr) (n:Nat) (sl:Array (Option Value)),fd.params=r.params->fd.defaults=.ref T->its=#[v]->∀ args bs,bF r.dflts r.params.args args=some bs->∀ n' ρ vs,All2 (VRel n' ρ) args vs ->
   ∃ binds,(∀ S,peek [(T,⟨c,d,.seq its n,sl⟩)] S (bindArgs fd ⟨vs,[]⟩)=some binds)/\All2 (cF n' ρ) bs binds/\(binds.map (·.1)).Nodup/\∀ y∈binds,r.scope.names.lookup y.1=some .local):bP w z5 f r:=by
 dsimp only[fnB] at h1;dsimp only[c9] at h2;dsimp only[iK] at h3
 cases q:gS (K.lookup f) with
 | none=>rw[q] at h1;exact noT h1
 | some x =>
  obtain ⟨oc,od,fd,osl⟩:=x;rw[q] at h1 h2 h3;have q:K.lookup f=some ⟨oc,od,.func fd,osl⟩:=lB q;dsimp only at h1 h2 h3;simp only[Option.some.injEq,Prod.mk.injEq] at h2;refine ag fun G0 hG0=>?_;obtain ⟨p1,p2,p3⟩:=h2;obtain ⟨h1,_⟩:=Qx h1;obtain ⟨h1,c⟩:=Qx h1;obtain ⟨g,b⟩:=Qx h1;refine hG0 ?_
  cases q2:gY (K.lookup T) with
  | none=>rw[q2] at h3;exact noT h3
  | some y =>
   obtain ⟨c',d',its',n',sl'⟩:=y;rw[q2] at h3;have q2:K.lookup T=some ⟨c',d',.seq its' n',sl'⟩:=lN q2;obtain ⟨h3,h4⟩:=Qx h3;have h4:its'.toList=[v]:=beq_iff_eq.mp h4;have hits:its'=#[v]:=Array.toList_inj.mp h4;refine ⟨⟨K,oc,od,osl,fd,X,q,p3,beq_iff_eq.mp g,beq_iff_eq.mp b,p2,c,fun args bs e n ρ vs s hkk hvv=>?_⟩,hk,hco,hg,hc⟩;refine ag fun G0 hG0=>?_;obtain ⟨binds,z1,z2,z3,z4⟩:=hb fd its' c' d' n' sl' p1 (beq_iff_eq.mp h3) hits args bs e n ρ vs hvv;refine hG0 ?_;refine ⟨binds,kp_binds (K:=[(T,⟨c',d',.seq its' n',sl'⟩)]) (fun a o ho=>?_) z1,z2,z3,z4⟩;rw[List.lookup_cons] at ho
   by_cases qa:a=T
   ·subst qa;rw[beq_self_eq_true] at ho;obtain rfl:=Qb ho;exact hkk _ _ (X _ _ q2)
   ·rw[beq_eq_false_iff_ne.mpr qa] at ho;exact non ho
end
noncomputable def rec141:cJ:=(dP 141).getD ⟨⟨#[]⟩,⟨#[]⟩,⟨[],[],none,[],[],none,[]⟩,[],⟨.function,[],false,false,[]⟩,[]⟩
noncomputable def rec156:cJ:=(dP 156).getD ⟨⟨#[]⟩,⟨#[]⟩,⟨[],[],none,[],[],none,[]⟩,[],⟨.function,[],false,false,[]⟩,[]⟩
noncomputable def rec261:cJ:=(dP 261).getD ⟨⟨#[]⟩,⟨#[]⟩,⟨[],[],none,[],[],none,[]⟩,[],⟨.function,[],false,false,[]⟩,[]⟩
theorem tI:dP 141=some rec141:=by kernel_rfl
theorem tH:dP 156=some rec156:=by kernel_rfl
theorem tG:dP 261=some rec261:=by kernel_rfl
noncomputable def bz:Str:=⟨#[115,101,108,102]⟩
noncomputable def eR:Str:=⟨#[99,104,117,110,107,83,105,122,101]⟩
noncomputable def eY:Str:=⟨#[111,112,112,111,115,105,116,101]⟩
noncomputable def fE:Str:=⟨#[99,104,97,114,97,99,116,101,114,115]⟩
noncomputable def fx:Str:=⟨#[115,116,114,101,97,109]⟩
noncomputable def eG:Str:=⟨#[112,97,114,115,101,114]⟩
theorem Hc:rec141.params.args.map (·.arg)=[bz,eR]:=by kernel_rfl
theorem Hb:rec156.params.args.map (·.arg)=[bz,fE,eY]:=by kernel_rfl
theorem Ha:rec261.params.args.map (·.arg)=[bz,fx,eG]:=by kernel_rfl
theorem xC (fd:FuncData) (hp:fd.params=rec141.params) (hd:fd.defaults=.ref 134) (c:Value) (d:Option Addr) (n:Nat) (sl:Array (Option Value)) (S:Setting) (x0:Value) :
  peek [(134,⟨c,d,.seq #[.none] n,sl⟩)] S (bindArgs fd ⟨[x0],[]⟩)=some [(bz,x0),(eR,.none)]:=by
 obtain ⟨fn,fq,fp,fb,fs,fg,fc,fdd,fk,f1,f2,f3,f4,f5,f6⟩:=fd;dsimp only at hp hd;subst hp hd
 kernel_rfl
theorem xB (fd:FuncData) (hp:fd.params=rec141.params) (hd:fd.defaults=.ref 134) (c:Value) (d:Option Addr) (n:Nat) (sl:Array (Option Value)) (S:Setting) (x0 x1:Value) :
  peek [(134,⟨c,d,.seq #[.none] n,sl⟩)] S (bindArgs fd ⟨[x0,x1],[]⟩)=some [(bz,x0),(eR,x1)]:=by
 obtain ⟨fn,fq,fp,fb,fs,fg,fc,fdd,fk,f1,f2,f3,f4,f5,f6⟩:=fd;dsimp only at hp hd;subst hp hd
 kernel_rfl
theorem xA (fd:FuncData) (hp:fd.params=rec156.params) (hd:fd.defaults=.ref 149) (c:Value) (d:Option Addr) (n:Nat) (sl:Array (Option Value)) (S:Setting) (x0 x1:Value) :
  peek [(149,⟨c,d,.seq #[(.bool false)] n,sl⟩)] S (bindArgs fd ⟨[x0,x1],[]⟩)=some [(bz,x0),(fE,x1),(eY,(.bool false))]:=by
 obtain ⟨fn,fq,fp,fb,fs,fg,fc,fdd,fk,f1,f2,f3,f4,f5,f6⟩:=fd;dsimp only at hp hd;subst hp hd
 kernel_rfl
theorem xz (fd:FuncData) (hp:fd.params=rec156.params) (hd:fd.defaults=.ref 149) (c:Value) (d:Option Addr) (n:Nat) (sl:Array (Option Value)) (S:Setting) (x0 x1 x2:Value) :
  peek [(149,⟨c,d,.seq #[(.bool false)] n,sl⟩)] S (bindArgs fd ⟨[x0,x1,x2],[]⟩)=some [(bz,x0),(fE,x1),(eY,x2)]:=by
 obtain ⟨fn,fq,fp,fb,fs,fg,fc,fdd,fk,f1,f2,f3,f4,f5,f6⟩:=fd;dsimp only at hp hd;subst hp hd
 kernel_rfl
theorem xy (fd:FuncData) (hp:fd.params=rec261.params) (hd:fd.defaults=.ref 254) (c:Value) (d:Option Addr) (n:Nat) (sl:Array (Option Value)) (S:Setting) (x0 x1:Value) :
  peek [(254,⟨c,d,.seq #[.none] n,sl⟩)] S (bindArgs fd ⟨[x0,x1],[]⟩)=some [(bz,x0),(fx,x1),(eG,.none)]:=by
 obtain ⟨fn,fq,fp,fb,fs,fg,fc,fdd,fk,f1,f2,f3,f4,f5,f6⟩:=fd;dsimp only at hp hd;subst hp hd
 kernel_rfl
theorem xx (fd:FuncData) (hp:fd.params=rec261.params) (hd:fd.defaults=.ref 254) (c:Value) (d:Option Addr) (n:Nat) (sl:Array (Option Value)) (S:Setting) (x0 x1 x2:Value) :
  peek [(254,⟨c,d,.seq #[.none] n,sl⟩)] S (bindArgs fd ⟨[x0,x1,x2],[]⟩)=some [(bz,x0),(fx,x1),(eG,x2)]:=by
 obtain ⟨fn,fq,fp,fb,fs,fg,fc,fdd,fk,f1,f2,f3,f4,f5,f6⟩:=fd;dsimp only at hp hd;subst hp hd
 kernel_rfl
section
variable {w:World} {z5:Heap}
theorem DM (x0 x1:AV):bF rec141.dflts rec141.params.args [x0,x1]=some [(bz,x0),(eR,x1)]:=by kernel_rfl
theorem DN (x0:AV):bF rec141.dflts rec141.params.args [x0]=some [(bz,x0),(eR,.none)]:=by kernel_rfl
theorem DK (x0 x1 y:AV) (r:List AV):bF rec141.dflts rec141.params.args (x0::x1::y::r)=none:=by kernel_rfl
theorem BB:bF rec141.dflts rec141.params.args []=none:=by kernel_rfl
theorem tr:([bz,eR]:List Str).Nodup:=by decide +kernel
theorem tA:∀ y∈([bz,eR]:List Str),rec141.scope.names.lookup y=some .local:=by decide +kernel
theorem FP:rec141.scope.names.all (fun x=>x.2 != .cell)=true:=by kernel_rfl
theorem FU {K:Frag} (X:K.In z5) (h1:fnB K 141=true) (h2:c9 K 141=some (rec141.params,.stmts rec141.body,rec141.scope)) (h3:iK K 141 134 .none=true):bP w z5 141 rec141:=by
 refine nh (av:=.none) (a1:=default) (x2:=eR) X h1 h2 h3 (by kernel_rfl) (fun _ _=>rfl) (by kernel_rfl) (by kernel_rfl) (by kernel_rfl) (fun x hx=>by have:=List.all_eq_true.mp FP x hx;simpa using this) ?_
 rintro fd its c d n sl hp hd rfl args bs e n' ρ vs hv
 match args,vs,hv,e with
 | [x0,x1],[v0,v1],⟨h0,h1,_⟩,e =>
  rw[DM] at e;obtain rfl:=Qb e;exact ⟨[(bz,v0),(eR,v1)],fun S=>xB fd hp hd c d n sl S v0 v1,⟨⟨rfl,h0⟩,⟨rfl,h1⟩,trivial⟩,tr,fun y hy=>tA y.1 (List.mem_map_of_mem hy)⟩
 | [x0],[v0],⟨h0,_⟩,e =>
  rw[DN] at e;obtain rfl:=Qb e;exact ⟨[(bz,v0),(eR,.none)],fun S=>xC fd hp hd c d n sl S v0,⟨⟨rfl,h0⟩,⟨rfl,rfl⟩,trivial⟩,tr,fun y hy=>tA y.1 (List.mem_map_of_mem hy)⟩
 | [],_,_,e=>rw[BB] at e;exact non e
 | x0::x1::y::r,_,_,e=>rw[DK] at e;exact non e
 | [x0,x1],[],h,_=>exact h.elim
 | [x0,x1],[v0],h,_=>exact h.2.elim
 | [x0,x1],v0::v1::_::_,h,_=>exact h.2.2.elim
 | [x0],[],h,_=>exact h.elim
 | [x0],v0::_::_,h,_=>exact h.2.elim
theorem DI (x0 x1 x2:AV):bF rec156.dflts rec156.params.args [x0,x1,x2]=some [(bz,x0),(fE,x1),(eY,x2)]:=by kernel_rfl
theorem DJ (x0 x1:AV):bF rec156.dflts rec156.params.args [x0,x1]=some [(bz,x0),(fE,x1),(eY,(.bool false))]:=by kernel_rfl
theorem DH (x0 x1 x2 y:AV) (r:List AV):bF rec156.dflts rec156.params.args (x0::x1::x2::y::r)=none:=by kernel_rfl
theorem BA:bF rec156.dflts rec156.params.args []=none:=by kernel_rfl
theorem Bz (x0:AV):bF rec156.dflts rec156.params.args [x0]=none:=by kernel_rfl
theorem tq:([bz,fE,eY]:List Str).Nodup:=by decide +kernel
theorem tz:∀ y∈([bz,fE,eY]:List Str),rec156.scope.names.lookup y=some .local:=by decide +kernel
theorem FO:rec156.scope.names.all (fun x=>x.2 != .cell)=true:=by kernel_rfl
theorem FT {K:Frag} (X:K.In z5) (h1:fnB K 156=true) (h2:c9 K 156=some (rec156.params,.stmts rec156.body,rec156.scope)) (h3:iK K 156 149 (.bool false)=true):bP w z5 156 rec156:=by
 refine nh (av:=(.bool false)) (a1:=default) (x2:=eY) X h1 h2 h3 (by kernel_rfl) (fun _ _=>rfl) (by kernel_rfl) (by kernel_rfl) (by kernel_rfl) (fun x hx=>by have:=List.all_eq_true.mp FO x hx;simpa using this) ?_
 rintro fd its c d n sl hp hd rfl args bs e n' ρ vs hv
 match args,vs,hv,e with
 | [x0,x1,x2],[v0,v1,v2],⟨h0,h1,h2,_⟩,e =>
  rw[DI] at e;obtain rfl:=Qb e;exact ⟨[(bz,v0),(fE,v1),(eY,v2)],fun S=>xz fd hp hd c d n sl S v0 v1 v2,⟨⟨rfl,h0⟩,⟨rfl,h1⟩,⟨rfl,h2⟩,trivial⟩,tq,fun y hy=>tz y.1 (List.mem_map_of_mem hy)⟩
 | [x0,x1],[v0,v1],⟨h0,h1,_⟩,e =>
  rw[DJ] at e;obtain rfl:=Qb e;exact ⟨[(bz,v0),(fE,v1),(eY,(.bool false))],fun S=>xA fd hp hd c d n sl S v0 v1,⟨⟨rfl,h0⟩,⟨rfl,h1⟩,⟨rfl,rfl⟩,trivial⟩,tq,fun y hy=>tz y.1 (List.mem_map_of_mem hy)⟩
 | [],_,_,e=>rw[BA] at e;exact non e
 | [x0],_,_,e=>rw[Bz] at e;exact non e
 | x0::x1::x2::y::r,_,_,e=>rw[DH] at e;exact non e
 | [x0,x1,x2],[],h,_=>exact h.elim
 | [x0,x1,x2],[v0],h,_=>exact h.2.elim
 | [x0,x1,x2],[v0,v1],h,_=>exact h.2.2.elim
 | [x0,x1,x2],v0::v1::v2::_::_,h,_=>exact h.2.2.2.elim
 | [x0,x1],[],h,_=>exact h.elim
 | [x0,x1],[v0],h,_=>exact h.2.elim
 | [x0,x1],v0::v1::_::_,h,_=>exact h.2.2.elim
theorem DF (x0 x1 x2:AV):bF rec261.dflts rec261.params.args [x0,x1,x2]=some [(bz,x0),(fx,x1),(eG,x2)]:=by kernel_rfl
theorem DG (x0 x1:AV):bF rec261.dflts rec261.params.args [x0,x1]=some [(bz,x0),(fx,x1),(eG,.none)]:=by kernel_rfl
theorem DE (x0 x1 x2 y:AV) (r:List AV):bF rec261.dflts rec261.params.args (x0::x1::x2::y::r)=none:=by kernel_rfl
theorem By:bF rec261.dflts rec261.params.args []=none:=by kernel_rfl
theorem Bx (x0:AV):bF rec261.dflts rec261.params.args [x0]=none:=by kernel_rfl
theorem tp:([bz,fx,eG]:List Str).Nodup:=by decide +kernel
theorem tw:∀ y∈([bz,fx,eG]:List Str),rec261.scope.names.lookup y=some .local:=by decide +kernel
theorem FN:rec261.scope.names.all (fun x=>x.2 != .cell)=true:=by kernel_rfl
theorem FS {K:Frag} (X:K.In z5) (h1:fnB K 261=true) (h2:c9 K 261=some (rec261.params,.stmts rec261.body,rec261.scope)) (h3:iK K 261 254 .none=true):bP w z5 261 rec261:=by
 refine nh (av:=.none) (a1:=default) (x2:=eG) X h1 h2 h3 (by kernel_rfl) (fun _ _=>rfl) (by kernel_rfl) (by kernel_rfl) (by kernel_rfl) (fun x hx=>by have:=List.all_eq_true.mp FN x hx;simpa using this) ?_
 rintro fd its c d n sl hp hd rfl args bs e n' ρ vs hv
 match args,vs,hv,e with
 | [x0,x1,x2],[v0,v1,v2],⟨h0,h1,h2,_⟩,e =>
  rw[DF] at e;obtain rfl:=Qb e;exact ⟨[(bz,v0),(fx,v1),(eG,v2)],fun S=>xx fd hp hd c d n sl S v0 v1 v2,⟨⟨rfl,h0⟩,⟨rfl,h1⟩,⟨rfl,h2⟩,trivial⟩,tp,fun y hy=>tw y.1 (List.mem_map_of_mem hy)⟩
 | [x0,x1],[v0,v1],⟨h0,h1,_⟩,e =>
  rw[DG] at e;obtain rfl:=Qb e;exact ⟨[(bz,v0),(fx,v1),(eG,.none)],fun S=>xy fd hp hd c d n sl S v0 v1,⟨⟨rfl,h0⟩,⟨rfl,h1⟩,⟨rfl,rfl⟩,trivial⟩,tp,fun y hy=>tw y.1 (List.mem_map_of_mem hy)⟩
 | [],_,_,e=>rw[By] at e;exact non e
 | [x0],_,_,e=>rw[Bx] at e;exact non e
 | x0::x1::x2::y::r,_,_,e=>rw[DE] at e;exact non e
 | [x0,x1,x2],[],h,_=>exact h.elim
 | [x0,x1,x2],[v0],h,_=>exact h.2.elim
 | [x0,x1,x2],[v0,v1],h,_=>exact h.2.2.elim
 | [x0,x1,x2],v0::v1::v2::_::_,h,_=>exact h.2.2.2.elim
 | [x0,x1],[],h,_=>exact h.elim
 | [x0,x1],[v0],h,_=>exact h.2.elim
 | [x0,x1],v0::v1::_::_,h,_=>exact h.2.2.elim
end
section
variable {prog:Program} {w:World} {z5:Heap}
theorem cT {o:Nat->Obj} {l:List Chk} (h:eQ o l=true) {p:Chk} (hp:p∈l):p.2 (frg o p.1)=true:=List.all_eq_true.mp h p hp
theorem yl:(fnsA++fnsB).all (fun f=>match dP f with | some r=>mW r | none=>false)=true:=by kernel_rfl
theorem ym:(fnL.map (·.1)).all (fun f=>(fnsA++fnsB).elem f||f==141||f==156||f==261)=true:=by kernel_rfl
theorem yn {f:Addr} {r:cJ} (h:dP f=some r):f∈fnsA++fnsB\/f=141\/f=156\/f=261:=by
 have:=List.all_eq_true.mp ym f (qz h);rw[Bool.or_eq_true,Bool.or_eq_true,Bool.or_eq_true,beq_iff_eq,beq_iff_eq,beq_iff_eq,List.elem_iff,or_assoc,or_assoc] at this;exact this
theorem Co (C:Addr):tab.cls C=(match C with | 73=>kL | 166=>lb | 762=>la | _=>[]):=rfl
theorem zU (a:Addr):tab.init a=(match a with | 73=>some 63 | 166=>some 98 | 762=>some 261 | _=>none):=rfl
theorem zV (a:Addr):tab.cobj a=(match a with | 48=>some (.dict ttab) | 49=>some (.tuple [.int 3,.int 4,.int 5]) | 22=>some (.tuple (fF ah)) | 27=>some (.tuple (fF aC)) | _=>none):=rfl
structure eN (w:World) (z5:Heap):Prop where
 fn:∀ f r,tab.fn f=some r->bP w z5 f r
 cls:∀ C x c,lk (tab.cls C) x=some c->jy z5 C (tab.cls C)
 init:∀ a fI,tab.init a=some fI->∃ K:Frag,K.In z5/\makesIn K a=true/\findIn K (.ref a) "__init__" = some (some (.ref fI))/\typeIn K (.ref fI)=some (.type "function")/\keepIn K (.ref a)=true
 cobj:∀ a o,tab.cobj a=some o->∀ n ρ,ORel w.params n ρ z5 a o
 gen:∃ (K:Frag),K.In z5/\fnB K 268=true/\c9 K 268=some (bL.1,.stmts bL.2.1,bL.2.2)
 iter:∃ (K:Frag),K.In z5/\findIn K (.ref 762) "__iter__" = some (some (.ref 268))/\typeIn K (.ref 268)=some (.type "function")
 names:∃ o3 o0,z5.get? 3=some o3/\z5.get? 0=some o0/\(jv++kF).all (nz [(3,o3),(0,o0)])=true
theorem C9 (F:Facts w.params z5):eN w z5:=by
 obtain ⟨o,at_,a1,b1,hh,pa,pb,p8⟩:=F.all
 have inA:∀ p∈chkA,(frg o p.1).In z5:=fun p hp=>sK fun a ha=>at_ a (Qm _ (List.mem_flatMap.mpr ⟨p,hp,ha⟩))
 have inB:∀ p∈chkB,(frg o p.1).In z5:=fun p hp=>sK fun a ha=>at_ a (Qj _ (List.mem_flatMap.mpr ⟨p,hp,ha⟩))
 have part1:∀ (l:List Addr) (f:Addr),c9 (frg o (f::l)) f=dm o f:=fun l f=>by
  dsimp only[dm,c9,frg];simp only[List.map_cons,List.lookup_cons,beq_self_eq_true]
 have part:∀ f,f∈fnsA'++fnsB'->dm o f=gh f:=fun f hf=>by
  rcases QA hf with h | h
  ·exact List.map_eq_map_iff.mp pa f h
  ·exact List.map_eq_map_iff.mp pb f h
 have partR:∀ f r,f∈fnsA'++fnsB'->dP f=some r->∀ l,c9 (frg o (f::l)) f=some (r.params,.stmts r.body,r.scope):=fun f r hf hr l=>by
  rw[part1,part f hf];dsimp only[gh];rw[hr]
 have mA:∀ f∈fnsA,iy f∈chkA:=fun f hf=>Qm _ (List.mem_map_of_mem hf);have mB:∀ f∈fnsB,iy f∈chkB:=fun f hf=>Qm _ (List.mem_map_of_mem hf);have dA:∀ p∈chkA.drop 11,p∈chkA:=fun p hp=>List.mem_of_mem_drop hp;have dB:∀ p∈chkB.drop 28,p∈chkB:=fun p hp=>List.mem_of_mem_drop hp;have m141:iz 141 134 .none∈chkA:=dA _ (.head _);have m156:iz 156 149 (.bool false)∈chkA:=dA _ (.tail _ (.head _));have m73:(([73,72,70,63],fun K=>gQ K 73 kL&&gU K 73 63):Chk)∈chkA:=dA _ (.tail _ (.tail _ (.head _)));have m166:(([166,165,98,105,112,119,126,133,141,148,156,163],fun K=>gQ K 166 lb&&gU K 166 98):Chk)∈chkA:=dA _ (.tail _ (.tail _ (.tail _ (.head _))));have m49:gc 49 (.tuple [.int 3,.int 4,.int 5])∈chkA:=dA _ (.tail _ (.tail _ (.tail _ (.tail _ (.head _)))));have m22:gc 22 (.tuple (fF ah))∈chkA:=dA _ (.tail _ (.tail _ (.tail _ (.tail _ (.tail _ (.head _))))));have m27:gc 27 (.tuple (fF aC))∈chkA:=dA _ (.tail _ (.tail _ (.tail _ (.tail _ (.tail _ (.tail _ (.head _)))))));have m48:gc 48 (.dict ttab)∈chkA:=dA _ (.tail _ (.tail _ (.tail _ (.tail _ (.tail _ (.tail _ (.tail _ (.head _))))))));have m268:iy 268∈chkB:=dB _ (.head _);have m261:iz 261 254 .none∈chkB:=dB _ (.tail _ (.head _));have m762:(([762,761,261,297,304,311,353,360,367,535,542,549,556,563,570,577,584,591,598,605,612,619,626,633,640,647],fun K=>gQ K 762 la&&gU K 762 261):Chk)∈chkB:=dB _ (.tail _ (.tail _ (.head _)));have mit:(([762,761,268],fun K=>findIn K (.ref 762) "__iter__" == some (some (.ref 268))&&typeIn K (.ref 268)==some (.type "function")):Chk)∈chkB:=dB _ (.tail _ (.tail _ (.tail _ (.head _))));have mnm:rd∈chkB:=dB _ (.tail _ (.tail _ (.tail _ (.tail _ (.head _)))));have c73:=cT a1 m73;have c166:=cT a1 m166;have c762:=cT b1 m762;obtain ⟨c73a,c73b⟩:=Qx c73;obtain ⟨c166a,c166b⟩:=Qx c166;obtain ⟨c762a,c762b⟩:=Qx c762;refine ⟨fun f r hr=>?_,fun C x c hx=>?_,fun a fI hi=>?_,fun a ob hc n ρ=>?_,?_,?_,?_⟩
 ·have hr:dP f=some r:=hr;rcases yn hr with hf | rfl | rfl | rfl
  ·have sh:=List.all_eq_true.mp yl f hf;rw[hr] at sh;rcases QA hf with h | h
   ·exact rC (inA _ (mA f h)) (cT a1 (mA f h)) (partR f r (Qm _ (Qm _ h)) hr _) sh
   ·exact rC (inB _ (mB f h)) (cT b1 (mB f h)) (partR f r (Qj _ (Qm _ h)) hr _) sh
  ·rw[tI] at hr;obtain rfl:=Qb hr;obtain ⟨q1,q2⟩:=Qx (cT a1 m141);exact FU (inA _ m141) q1 (partR 141 _ (by decide) tI _) q2
  ·rw[tH] at hr;obtain rfl:=Qb hr;obtain ⟨q1,q2⟩:=Qx (cT a1 m156);exact FT (inA _ m156) q1 (partR 156 _ (by decide) tH _) q2
  ·rw[tG] at hr;obtain rfl:=Qb hr;obtain ⟨q1,q2⟩:=Qx (cT b1 m261);exact FS (inB _ m261) q1 (partR 261 _ (by decide) tG _) q2
 ·have e:=Co C;rw[e] at hx ⊢
  split
  ·exact ⟨_,inA _ m73,lW c73a⟩
  ·exact ⟨_,inA _ m166,lW c166a⟩
  ·exact ⟨_,inB _ m762,lW c762a⟩
  ·rename_i h1 h2 h3
   split at hx
   ·exact (h1 rfl).elim
   ·exact (h2 rfl).elim
   ·exact (h3 rfl).elim
   ·exact non hx
 ·have e:=zU a;rw[e] at hi
  split at hi
  ·obtain rfl:=Qb hi;exact ⟨_,inA _ m73,me c73b⟩
  ·obtain rfl:=Qb hi;exact ⟨_,inA _ m166,me c166b⟩
  ·obtain rfl:=Qb hi;exact ⟨_,inB _ m762,me c762b⟩
  ·exact non hi
 ·have e:=zV a;rw[e] at hc
  split at hc
  ·obtain rfl:=Qb hc;exact yv (inA _ m48) (cT a1 m48) hh n ρ
  ·obtain rfl:=Qb hc;exact lF (inA _ m49) (cT a1 m49) n ρ
  ·obtain rfl:=Qb hc;exact lF (inA _ m22) (cT a1 m22) n ρ
  ·obtain rfl:=Qb hc;exact lF (inA _ m27) (cT a1 m27) n ρ
  ·exact non hc
 ·exact ⟨_,inB _ m268,cT b1 m268,by show c9 (frg o [268,268 - 1]) 268=_;rw[part1];exact p8⟩
 ·obtain ⟨q1,q2⟩:=Qx (cT b1 mit);exact ⟨_,inB _ mit,beq_iff_eq.mp q1,beq_iff_eq.mp q2⟩
 ·exact ⟨o 3,o 0,at_ 3 (Qj _ (List.mem_flatMap.mpr ⟨_,mnm,.head _⟩)),at_ 0 (Qj _ (List.mem_flatMap.mpr ⟨_,mnm,.tail _ (.head _)⟩)),cT b1 mnm⟩
theorem rs (X:eN w z5) {mg mb:Str->Option Value} (g:z5.Ns mainGlobals mg) (b:z5.Ns builtinsNs mb) {x:Str} {a:AV} (hx:lk (jv++kF) x=some a):∃ v,(mg x=some v\/(mg x=none/\mb x=some v))/\∀ n ρ,VRel n ρ a v:=by
 refine ag fun G0 hG0=>?_;obtain ⟨o3,o0,h3,h0,hn⟩:=X.names;refine hG0 ?_;have hb:=List.all_eq_true.mp hn (x,a) (nC hx);dsimp only[nz] at hb;have l3:([(3,o3),(0,o0)]:Frag).lookup 3=some o3:=rfl;have l0:([(3,o3),(0,o0)]:Frag).lookup 0=some o0:=rfl;rw[l3,l0] at hb;have mg3:∀ y,mg y=z5.nsMap 3 y:=fun y=>congrFun g.eq_nsMap y;have mb0:∀ y,mb y=z5.nsMap 0 y:=fun y=>congrFun b.eq_nsMap y
 cases q3:gr (some o3) with
 | none=>rw[q3] at hb;exact noT hb
 | some x3 =>
  rw[q3] at hb
  cases q0:gr (some o0) with
  | none=>rw[q0] at hb;exact noT hb
  | some x0 =>
   rw[q0] at hb;obtain rfl:=Qb (lC q3);obtain rfl:=Qb (lC q0);have e3:mg x=nsFind x3.2.2.1 x:=by rw[mg3];unfold Heap.nsMap;rw[h3]
   have e0:mb x=nsFind x0.2.2.1 x:=by rw[mb0];unfold Heap.nsMap;rw[h0]
   dsimp only at hb
   cases q:nsFind x3.2.2.1 x with
   | some v =>
    rw[q] at hb;exact ⟨v,.inl (e3.trans q),rk hb⟩
   | none =>
    rw[q] at hb;dsimp only at hb
    cases q':nsFind x0.2.2.1 x with
    | some v=>rw[q'] at hb;exact ⟨v,.inr ⟨e3.trans q,e0.trans q'⟩,rk hb⟩
    | none=>rw[q'] at hb;exact noT hb
theorem rg {α:Type}:∀ {l r:List (Str×α)} {x:Str} {a:α},lk l x=some a->lk (l++r) x=some a
 | [],_,_,_,h=>non h
 | (k,u)::l,r,x,a,h=>by
  have h:(match seq k x with | true=>some u | false=>lk l x)=some a:=h
  show (match seq k x with | true=>some u | false=>lk (l++r) x)=some a
  cases q:seq k x with
  | true=>rw[q] at h;exact h
  | false=>rw[q] at h;exact rg h
theorem Gm (X:eN w z5) (lim:z5.NoLimit) {mg mb:Str->Option Value} (g:z5.Ns mainGlobals mg) (b:z5.Ns builtinsNs mb):Bt prog w z5 [] tab :=
 { lim:=lim,cobj:=X.cobj,glob:=⟨mg,mb,g,b,fun _ _ hx=>rs X g b (rg hx)⟩,cls:=X.cls,init:=X.init }
end
end TE
namespace TE
set_option tactic.hygienic false
noncomputable def sv:Str:=⟨#[114,97,110,103,101]⟩
noncomputable def ub:Str:=⟨#[109,105,110]⟩
noncomputable def ju:Str:=⟨#[108,101,110]⟩
noncomputable def usP:Pos:=⟨1214,8,1214,9⟩
noncomputable def FI:Expr:=.Name bv ⟨1214,31,1214,35⟩
noncomputable def GX:Expr:=.Call (.Name ju ⟨1214,27,1214,30⟩) [FI] [] ⟨1214,27,1214,36⟩
noncomputable def GE:Expr:=.Constant (.int 10) 0 ⟨1214,23,1214,25⟩
noncomputable def GR:Expr:=.Call (.Name ub ⟨1214,19,1214,22⟩) [GE,GX] [] ⟨1214,19,1214,37⟩
noncomputable def rY:Expr:=.Call (.Name sv ⟨1214,13,1214,18⟩) [GR] [] ⟨1214,13,1214,38⟩
theorem GV:∃ p,lst 3=.For (.Name nUs usP) rY kQ [] p:=⟨⟨1214,4,1242,54⟩,by kernel_rfl⟩
noncomputable def nN:Tab:={ tab with glob:=jv++kF }
section
variable {prog:Program} {w:World} {z5:Heap} {K:Frag} {T:Tab} {A:Around} {env:Env} {s:Shared}
theorem Br {g:Str} {gp p:Pos} {a:Expr} {id:String} {Q:Value->Shared->Prop} {E:Value->Shared->Prop} (hs:b0 a=false)
  (hg:∀ (Q:Value->Shared->Prop) E,Q (.type id) s->wpAny (model prog w) A (eval (.Name g gp) env) Q E s)
  (h:wpAny (model prog w) A (eval a env) (fun v s1=>wpAny (model prog w) A (call (.type id) [v]) Q E s1) E s):wpAny (model prog w) A (eval (.Call (.Name g gp) [a] [] p) env) Q E s:=by
 have arm:eval (.Call (.Name g gp) [a] [] p) env=(do callWith p (<- eval (.Name g gp) env) [] (backTo p (starEach [a] env)) []):=rfl;rw[arm];refine wpAny_bind (hg _ _ ?_);have plain:(backTo p (starEach [a] env)).any (·.1)=false:=ff p (by rw[List.any_cons,hs];rfl);refine PySem.callWith_type plain ?_
 have L:wpAny (model prog w) A (spliced (backTo p (starEach [a] env))) (fun vs s'=>wpAny (model prog w) A (call (.type id) vs) Q E s') E s :=
  wpAny_items_cons (wpAny_mono h (fun v s' h'=>wpAny_items_nil h') fun _ _ x=>x) (cf hs [])
 rw[cf hs] at L ⊢;exact evalArgs_plain L
theorem Bv {g:Str} {gp p:Pos} {a b:Expr} {id:String} {Q:Value->Shared->Prop} {E:Value->Shared->Prop} (hs:b0 a=false) (hb:b0 b=false)
  (hg:∀ (Q:Value->Shared->Prop) E,Q (.builtin id) s->wpAny (model prog w) A (eval (.Name g gp) env) Q E s)
  (h:wpAny (model prog w) A (eval a env) (fun v s1=>wpAny (model prog w) A (eval b env) (fun u s2=>wpAny (model prog w) A (call (.builtin id) [v,u]) Q E s2) E s1) E s):wpAny (model prog w) A (eval (.Call (.Name g gp) [a,b] [] p) env) Q E s:=by
 have arm:eval (.Call (.Name g gp) [a,b] [] p) env=(do callWith p (<- eval (.Name g gp) env) [] (backTo p (starEach [a,b] env)) []):=rfl;rw[arm];refine wpAny_bind (hg _ _ ?_);have plain:(backTo p (starEach [a,b] env)).any (·.1)=false:=ff p (by rw[List.any_cons,List.any_cons,hs,hb];rfl);refine callWith_builtin plain ?_
 have L:wpAny (model prog w) A (spliced (backTo p (starEach [a,b] env))) (fun vs s'=>wpAny (model prog w) A (call (.builtin id) vs) Q E s') E s :=
  wpAny_items_cons (wpAny_mono h (fun v s' h'=>wpAny_items_cons (wpAny_mono h' (fun u s2 h2=>wpAny_items_nil h2) fun _ _ x=>x) (cf hb [])) fun _ _ x=>x) (cf hs [b])
 rw[cf hs] at L ⊢;exact evalArgs_plain L
theorem uI:lk lscope.names sv=some .globalImplicit:=by kernel_rfl
theorem wq:lk lscope.names ub=some .globalImplicit:=by kernel_rfl
theorem oQ:lk lscope.names ju=some .globalImplicit:=by kernel_rfl
theorem or:lk lscope.names bv=some .local:=by kernel_rfl
theorem dk (hes:env.scope=lscope) {x:Str} {k:Option NameKind} (e:lk lscope.names x=k):env.kindOf x=k:=by
 unfold Env.kindOf;rw[hes,<- lp];exact e
theorem wg (B2:Bs prog w z5 [] nN) (hA:A.handled=none) (hes:env.scope=lscope) (heg:env.globals=mainGlobals) (heb:env.builtins=builtinsNs) (hk:∀ b o,z5.get? b=some o->s.heap.get? b=some o) {m:Str->Option Value} (hns:s.heap.Ns env.locals m)
  {l:Addr} {its:Array Value} {ep:Nat} (hm:m bv=some (.ref l)) (hl:s.heap.get? l=some { cls:=.type "list",data:=.seq its ep }) (hz:its.size<=aa) {Q:Value->Shared->Prop} {E:Value->Shared->Prop}
  (h:∀ r h' k t u v,(∀ b o,s.heap.get? b=some o->h'.get? b=some o)->IsRange h' r 0 (if (its.size:Int) < 10 then (its.size:Int) else 10) 1 t u v->Q (.ref r) { s with heap:=h',toks:=k }) :
  wpAny (model prog w) A (eval rY env) Q E s:=by
 have hkf:env.scope.kind=.function:=by rw[hes];exact ez
 have hbk:env.blockKind=.function:=by unfold Env.blockKind;rw[hes,ez];rfl
 refine Br rfl (fun Q E hq=>f7 B2 hk (v:=.type "range") (.inl (by kernel_rfl)) (by decide +kernel) hkf hbk (dk hes uI) heg heb hq) ?_;refine Bv rfl rfl (fun Q E hq=>f7 B2 hk (v:=.builtin "min") (.inl (by kernel_rfl)) (by decide +kernel) hkf hbk (dk hes wq) heg heb hq) ?_;refine wpAny_Constant_int ?_;refine hU rfl (fun Q E hq=>f7 (s:={ s with toks:=s.toks+1 }) B2 hk (v:=.builtin "len") (.inr ⟨.len,by kernel_rfl,rfl⟩) (by decide +kernel) hkf hbk (dk hes oQ) heg heb hq) ?_
 refine cU (s:={ s with toks:=s.toks+1 }) (by decide +kernel) hkf (dk hes or) hns hm ?_
 refine qu (s:={ s with toks:=s.toks+1 }) hl hz ?_
 refine min_two_ints hA fun h' k hk'=>?_
 have key:∀ (n:Int) (t:PySem.Tok),n=(if (its.size:Int) < 10 then (its.size:Int) else 10)->wpAny (model prog w) A (call (.type "range") [.int n t]) Q E { s with heap:=h',toks:=k }:=fun n t hn=>by
  subst hn;refine call_range_1 ?_;refine h _ _ _ _ _ _ (fun b o e=>Qe _ (hk' b o e)) (Qi _ rfl)
 split
 ·rename_i q;exact key _ _ (by rw[if_pos q])
 ·rename_i q;exact key _ _ (by rw[if_neg q])
theorem yy (B2:Bs prog w z5 [] nN) (EV:aR prog w z5 A env 0 lscope [(aD,1)] (lev bu)) (hA:A.handled=none) (hes:env.scope=lscope) (heg:env.globals=mainGlobals) (heb:env.builtins=builtinsNs) {ρ:Nat->Addr} (h0:ρ 0=env.locals) (h1:env.cells.lookup aD=some (ρ 1))
  {ns:List Int} (hn:ns.length<=1000) (hR:Rel w.params z5 ρ (aw ⟨#[]⟩ ns (.list []) []) s.heap) :
  wpAny (model prog w) A (exec (lst 3) env) (fun fl s'=>fl=.next/\∃ ns',BSt w.params z5 ρ s (dl (min 10 ns.length) ⟨#[]⟩ ns []).1 ns' (dl (min 10 ns.length) ⟨#[]⟩ ns []).2 (fun _ _ _=>True) s') (fun _ _=>False) s:=by
 obtain ⟨p,e⟩:=GV;rw[e];refine ag fun G0 hG0=>?_;obtain ⟨m,n1,n2⟩:=hR.own 0 _ rfl;obtain ⟨v,hv,_,rfl⟩:=n2 bv (.ptr 2) (by kernel_rfl);obtain ⟨its,ep,l1,l2⟩:=hR.own 2 _ rfl;refine hG0 ?_;have hsz:its.size=ns.length:=by rw[l2.length];simp
 refine wpAny_For (wg B2 hA hes heg heb hR.keep (h0▸n1) hv l1 (by rw[hsz];unfold aa;lia) fun r h' k t u v hk hr=>?_) (fun _=>rfl);rw[hsz] at hr;have hm:(if (ns.length:Int) < 10 then (ns.length:Int) else 10)=((min 10 ns.length:Nat):Int):=by split<;>lia
 rw[hm] at hr;have hlt:min 10 ns.length<=10:=Nat.min_le_left _ _;refine wpAny_pyIter_range hr (small_one (by exact Int.NonNeg.mk (0+Nat.succ 4611686018427387903)) (by exact kbt_pos 62) (by exact Int.NonNeg.mk (min 10 ns.length+Nat.succ 4611686018427387903)) (by lia)) ?_;rw[rangeSize_one];have hz:(if (0:Int) < ((min 10 ns.length:Nat):Int) then ((min 10 ns.length:Nat):Int) - 0 else 0)=((min 10 ns.length:Nat):Int):=by split<;>lia
 rw[hz];have hk2:∀ b o,s.heap.get? b=some o->(h'.push { cls:=.type "range_iterator",data:=.fields #[rawInt 0,rawInt ((min 10 ns.length:Nat):Int),rawInt 1] }).get? b=some o:=fun b o e=>Qe _ (hk b o e)
 have szh:∀ i,i < (aw ⟨#[]⟩ ns (.list []) []).length->ρ i < h'.objs.size:=fun i hi=>by
  have o:=hR.own i _ (Qo hi)
  have:∃ ob,s.heap.get? (ρ i)=some ob:=by
   match i,hi with
   | 0,_=>obtain ⟨_,q,_⟩:=hR.own 0 _ rfl;obtain ⟨ob,_,_,q,_⟩:=q;exact ⟨ob,q⟩
   | 1,_=>obtain ⟨ob,_,q,_⟩:=hR.own 1 _ rfl;exact ⟨ob,q⟩
   | 2,_=>exact ⟨_,l1⟩
   | 3,_=>obtain ⟨_,_,q,_⟩:=hR.own 3 _ rfl;exact ⟨_,q⟩
   | i+4,hi=>exact absurd hi (by show ¬ i+4 < 4;exact of_decide_eq_false rfl)
  obtain ⟨ob,q⟩:=this;exact Qg (hk _ _ q)
 have base:z5.objs.size<=h'.objs.size:=Qf (hR.high 2 (by show 2 < 4;assumption)) (Qk (szh 2 (by show 2 < 4;assumption)))
 have RR:Rel w.params z5 ρ (aw ⟨#[]⟩ ns (.list []) []) (h'.push { cls:=.type "range_iterator",data:=.fields #[rawInt 0,rawInt ((min 10 ns.length:Nat):Int),rawInt 1] }) :=
  ⟨by rw[Qs];exact Nat.le_add_right_of_le base,fun b o e=>hk2 b o (hR.keep b o e),fun i o e=>by
   have hi:=(Qy e).1;have O:=hR.own i o e
   match i,hi,e with
   | 0,_,e=>obtain rfl:=Qb e;obtain ⟨m,q1,q2⟩:=O;exact ⟨m,q1.at fun o h=>hk2 _ o h,q2⟩
   | 1,_,e=>obtain rfl:=Qb e;obtain ⟨ob,v',q1,q2,q3⟩:=O;exact ⟨ob,v',hk2 _ _ q1,q2,q3⟩
   | 2,_,e=>obtain rfl:=Qb e;obtain ⟨its,ep,q1,q2⟩:=O;exact ⟨its,ep,hk2 _ _ q1,q2⟩
   | 3,_,e=>obtain rfl:=Qb e;obtain ⟨its,ep,q1,q2⟩:=O;exact ⟨its,ep,hk2 _ _ q1,q2⟩
   | i+4,hi,_=>exact absurd hi (by show ¬ i+4 < 4;exact of_decide_eq_false rfl),hR.high,hR.inj⟩
 refine wI EV hA hes heg heb h0 h1 (s0:=s) (fin:=dl (min 10 ns.length) ⟨#[]⟩ ns []) base (fun s' ns' b=>⟨rfl,ns',b⟩) (min 10 ns.length) ⟨#[]⟩ ns [] 0 _ rfl (by show 0+_<=_;lia) (by simp only[List.length_nil];lia) (fun _ h=>noM h) (fun _ h=>noM h) hlt hn
  ⟨rfl,rfl,rfl,ρ,[],_,_,RR,fun _ _=>rfl,⟨fun _ h=>(nomatch h),fun _ h=>(nomatch h)⟩,.empty,fun i hi=>Qh (szh i hi),fun _ h=>noM h⟩ (Qi _ rfl)
end
end TE
namespace TE
set_option tactic.hygienic false
noncomputable def eZ:Str:=⟨#[107,101,121]⟩
noncomputable def gn:Str:=⟨#[100,97,116,97]⟩
noncomputable def kK (p1 p2 p3:Pos):Expr:=.Subscript (.Name aD p1) (.Constant (.str gn) 0 p2) p3
noncomputable def dG:Scope:={ kind:=.function,names:=[(⟨#[46,48]⟩,.local),(eZ,.local),(aD,.free)],isGenerator:=false,isCoroutine:=false }
noncomputable def nW (p1 p2 p3 p4 p5 p6 p7:Pos):Expr:=.Tuple [.Name eZ p1,.Subscript (kK p2 p3 p4) (.Name eZ p5) p6] 0 p7
noncomputable def m4 (p1 p2 p3 p4 p5 p6 p7 q1 q2 q3 q4 q5:Pos):Expr:=.ListComp (nW p1 p2 p3 p4 p5 p6 p7) [⟨.Name eZ q1,kK q2 q3 q4,[],0⟩] dG q5
noncomputable def fS (h:Heap) (T:Addr) (p:Str×Value):Prop:=∃ t ep,h.get? T=some { cls:=.type "tuple",data:=.seq #[.str p.1 t,p.2] ep }
section
variable {prog:Program} {w:World} {A:Around} {s:Shared} {env:Env} {c t d:Addr} {fs kvs:List (Str×Value)} {ep:Nat}
theorem pY {a b:Value}:[a,b].length<=sizeLine:=by show 2<=sizeLine;decide
theorem rL {env':Env} {p1 p2 p3:Pos} (hkf:env'.scope.kind=.function) (hko:env'.kindOf aD=some .cell) (hc:env'.cells.lookup aD=some c) (h1:s.heap.IsCell c (some (.ref t))) (h2:s.heap.DictOf (strKind prog w) t fs) {v:Value} (hv:valueAt fs gn=some v)
  {Q:Value->Shared->Prop} {E:Value->Shared->Prop} (h:∀ k,Q v { s with toks:=k }):wpAny (model prog w) A (eval (kK p1 p2 p3) env') Q E s:=by
 refine Subscript_ (wpAny_Name (wpAny_loadName_cell hkf hko hc h1 ?_) (by decide +kernel));refine wpAny_Constant_str ?_;refine tail_any (h2.typeIs (s:={ s with toks:=s.toks+1 })) slot_dict_getitem.lookup ?_ (iV (ix:=.Constant (.str gn) 0 p2) rfl _ _)
 exact wpAny_getItem_of (s:={ s with toks:=s.toks+1 }) (hV gn _) h2.mapOf hv (h _)
theorem Gl (hc:env.cells.lookup aD=some c) (hk:env.scope.kind=.function):closureFor dG env=pure [(aD,c)]:=by
 dsimp only[closureFor,dG];simp only[List.forIn_cons,List.forIn_nil];have:cellOf env aD=pure c:=by unfold cellOf;rw[hc]
 rw[this];rfl
theorem o5 (hk:env.scope.kind=.function) (hko:env.kindOf aD=some .cell):(relabel dG env).names=[(⟨#[46,48]⟩,.local),(eZ,.local),(aD,.cell)]:=by
 dsimp only[relabel,dG];simp only[List.map_cons,List.map_nil,hk,hko];rfl
inductive LCI (kvs:List (Str×Value)) (s:Shared) (I C D d:Addr) (ep m:Nat) (s':Shared):Prop
 | mk (h':Heap) (k i:Nat) (Ts:List Addr) (mm:Str->Option Value) (e:s'={ s with heap:=h',toks:=k }) (hm:m+i=kvs.length) (hk:∀ b o,s.heap.get? b=some o->h'.get? b=some o) (hit:h'.IsKeyIter I d i kvs.length ep) (hns:h'.Ns C mm)
  (hl:h'.PlainList D (Ts.map Value.ref).toArray) (ht:All2 (fS h') Ts (kvs.take i)) (hnd:Ts.Nodup) (hT:∀ T∈Ts,T≠I/\T≠C/\T≠D/\I<=T):LCI kvs s I C D d ep m s'
inductive LCO (s:Shared) (h3:Heap) (kv:Str×Value) (y:Value) (s4:Shared):Prop
 | mk (T:Addr) (h4:Heap) (k4:Nat) (hy:y=.ref T) (h4s:s4={ s with heap:=h4,toks:=k4 }) (hT4:h3.objs.size<=T) (hk4:∀ b o,h3.get? b=some o->h4.get? b=some o) (tup:fS h4 T kv):LCO s h3 kv y s4
theorem pZ {h h':Heap}:∀ {l:List Addr} {r:List (Str×Value)},(∀ T∈l,∀ o,h.get? T=some o->h'.get? T=some o)->All2 (fS h) l r->All2 (fS h') l r:=fun {l}=>by
 induction l with
 | nil=>intro r _ x;match r,x with | [],_=>trivial
 | cons a l ih =>
  intro r hl x
  match r,x with
  | b::r,x =>
   obtain ⟨⟨t,e,q⟩,x2⟩:=x;exact ⟨⟨t,e,hl a (.head _) _ q⟩,ih (fun T hTm=>hl T (.tail _ hTm)) x2⟩
theorem Cd {h:Heap} {a:Addr}:∀ {l:List Addr} {r:List (Str×Value)},a∈l->All2 (fS h) l r->∃ o,h.get? a=some o:=fun {l}=>by
 induction l with
 | nil=>intro r z;exact noM z
 | cons c l ih =>
  intro r z x
  match r,x with
  | b::r,x =>
   rcases Qz z with rfl | z
   ·obtain ⟨⟨t,e,q⟩,_⟩:=x;exact ⟨_,q⟩
   ·exact ih z x.2
theorem Av {p1 p2 p3 p4 p5 p6 p7 q1 q2 q3 q4 q5:Pos} (hA:A.handled=none) (hkf:env.scope.kind=.function) (hko:env.kindOf aD=some .cell) (hc:env.cells.lookup aD=some c) (h1:s.heap.IsCell c (some (.ref t))) (h2:s.heap.DictOf (strKind prog w) t fs)
  (hv:valueAt fs gn=some (.ref d)) (h3':s.heap.DictAt (strKind prog w) d kvs ep) (hs:(d==sysModules)=false) (hn:kvs.length<=100) {Q:Value->Shared->Prop}
  (h:∀ (D:Addr) (Ts:List Addr) (h':Heap) (k:Nat),(∀ b o,s.heap.get? b=some o->h'.get? b=some o)->h'.PlainList D (Ts.map Value.ref).toArray->All2 (fS h') Ts kvs->Ts.Nodup->(∀ T∈Ts,T≠D/\s.heap.objs.size<=T)->s.heap.objs.size<=D ->
   Q (.ref D) { s with heap:=h',toks:=k }) {E:Value->Shared->Prop}:wpAny (model prog w) A (eval (m4 p1 p2 p3 p4 p5 p6 p7 q1 q2 q3 q4 q5) env) Q E s:=by
 dsimp only[m4];rw[eval_ListComp];refine wpAny_comprehension_free (use:=none) rfl (fun _=>rfl) (Gl hc hkf) rfl (by decide +kernel) ?_;refine rL hkf hko hc h1 h2 hv fun k=>?_;refine wpAny_pyIter_dict (s:={ s with toks:=k }) hs h3' ?_
 refine wpAny_newObj_type (wpAny_newFunctionEnv (by decide) (fun y hy=>(nomatch hy)) (fun h₁ hns₁ hsb₁=>?_) rfl);dsimp only at hns₁ hsb₁ ⊢;generalize hI:s.heap.objs.size=I at hns₁ hsb₁ h ⊢;generalize hH1:s.heap.push { cls:=.type "dict_keyiterator",data:=.fields #[.ref d,.int 0 0,.int kvs.length 0,.int ep 0] }=H1 at hns₁ hsb₁ ⊢;have sI:H1.objs.size=I+1:=by rw[<- hH1,Qs,hI]
 generalize hD:H1.objs.size=D at hns₁ hsb₁ sI ⊢;generalize hH2:H1.push { cls:=.type "list",dict:=none,data:=.seq ([]:List Value).toArray }=H2 at hns₁ hsb₁ ⊢;have sD:H2.objs.size=D+1:=by rw[<- hH2,Qs,hD]
 generalize hC:H2.objs.size=C at hns₁ hsb₁ sD ⊢;have nIC:I≠C:=Qh (by lia);have nDC:D≠C:=Qh (by simp[*]);have nDI:D≠I:=Nat.ne_of_gt (by simp[*])
 have keep1:∀ b o,s.heap.get? b=some o->h₁.get? b=some o:=fun b o e=>by
  have lt:b < I:=hI▸Qg e;exact hsb₁.extBut b o (Qh (Qd lt (by lia))) (Qe _ (hH2▸Qe _ (hH1▸Qe _ e)))
 have kI:h₁.IsKeyIter I d 0 kvs.length ep:=⟨_,hsb₁.extBut _ _ nIC (Qe _ (hH2▸Qe _ (hH1▸hI▸Qi _ rfl))),rfl,rfl⟩;have kD:h₁.PlainList D #[]:=⟨_,hsb₁.extBut _ _ nDC (Qe _ (hH2▸hD▸Qi _ rfl))⟩
 have loop:codeAny (model prog w) A (.compLoop (.ListComp (nW p1 p2 p3 p4 p5 p6 p7) [⟨.Name eZ q1,kK q2 q3 q4,[],0⟩] dG q5) 0 (.ref I) (.ref D) { newEnv dG C env.globals [(aD,c)] env.qual none .none (some env) env.builtins with scope:=relabel dG env })
   (compPost (model prog w) A E none Q (.ref D) C) { s with heap:=h₁,toks:=k+([]:List (Str×Value)).length }:=by
  generalize he:({ newEnv dG C env.globals [(aD,c)] env.qual none .none (some env) env.builtins with scope:=relabel dG env }:Env)=ce
  have e1:ce.scope.kind=.function:=by rw[<- he];rfl
  have e2:ce.locals=C:=by rw[<- he];rfl
  have e3:ce.cells.lookup aD=some c:=by rw[<- he];rfl
  have e4:ce.kindOf eZ=some .local:=by
   rw[<- he];show (relabel dG env).names.lookup eZ=_;rw[o5 hkf hko];decide +kernel
  have e5:ce.kindOf aD=some .cell:=by
   rw[<- he];show (relabel dG env).names.lookup aD=_;rw[o5 hkf hko];decide +kernel
  refine codeAny_compLoop_list (LCI kvs s I C D d ep) ?_ kvs.length ⟨h₁,_,0,[],_,rfl,rfl,keep1,kI,hns₁,kD,trivial,List.nodup_nil,fun _ h=>noM h⟩;intro m s' z;obtain ⟨h',k',i,Ts,mm,rfl,hm,hk,hit,hns,hl,ht,hnd,hT⟩:=z;have hd':h'.DictAt (strKind prog w) d kvs ep:=h3'.keep hk
  cases m with
  | zero =>
   refine wpAny_pyNext_dict_end hA hit hd' (List.getElem?_eq_none (by lia)) fun h'' he''=>?_;have hi:i=kvs.length:=by lia
   rw[hi,List.take_length] at ht;refine ⟨mm,hns.extBut he'' nIC.symm,fun h3 hs3=>h D Ts h3 _ (fun b o e=>?_) ((hl.extBut he'' nDI).extBut hs3.extBut nDC) ?_ hnd (fun T hTm=>⟨(hT T hTm).2.2.1,(hT T hTm).2.2.2⟩) (by exact Nat.le.intro (id (Eq.symm sI)))⟩
   ·have lt:b < I:=hI▸Qg e;exact hs3.extBut b o (Qh (Qd lt (by lia))) (he'' b o (Qh lt) (hk b o e))
   ·exact pZ (fun T hTm o q=>hs3.extBut T _ (hT T hTm).2.1 (he'' T _ (hT T hTm).1 q)) ht
  | succ m =>
   have hi:i < kvs.length:=by lia
   refine wpAny_pyNext_dict_item hit hd' (k:=kvs[i].1) (v:=kvs[i].2) (Qo hi) fun key h'' hkey hit'' hs''=>?_;obtain ⟨tk,rfl⟩:=Value.isStrOf_shape hkey;have hns2:h''.Ns ce.locals mm:=by rw[e2];exact hns.sameBut hs'' (Ne.symm nIC)
   refine wpAny_assign_Name (wpAny_storeName_local e4 hns2 (fun h3 hns3 hs3=>?_) (by rw[e1];rfl));rw[e2] at hs3
   have k3:∀ b o,s.heap.get? b=some o->h3.get? b=some o:=fun b o e=>by
    have lt:b < I:=hI▸Qg e;exact hs3.extBut b o (Qh (Qd lt (by lia))) (hs''.extBut b o (Qh lt) (hk b o e))
   have d3:h3.DictOf (strKind prog w) d kvs:=(h3'.keep k3).dictOf;have hval:valueAt kvs kvs[i].1=some kvs[i].2:=valueAt_of_get h3'.nodup (i:=i) (Qo hi)
   have nameK:∀ {k:Nat} {p:Pos} {Q:Value->Shared->Prop} {E:Value->Shared->Prop},Q (.str kvs[i].1 tk) { s with heap:=h3,toks:=k }->wpAny (model prog w) A (eval (.Name eZ p) ce) Q E { s with heap:=h3,toks:=k }:=fun hq =>
    cU (by decide +kernel) e1 e4 hns3 (by simp) hq
   refine wpAny_mono (Q:=LCO s h3 kvs[i]) (E:=fun _ _=>False) ?_ (fun y s4 z=>?_) fun _ _ x=>x.elim
   ·dsimp only[nW];refine wpAny_Tuple (wpAny_items_cons (nameK ?_) (cf rfl _));refine wpAny_items_cons (Subscript_ (rL (s:={ s with heap:=h3,toks:=_ }) e1 e5 e3 (h1.keeps k3) (h2.keep k3) hv fun k=>nameK ?_)) (cf rfl _)
    refine tail_any (T := "dict") (Heap.DictOf.typeIs (s:={ s with heap:=h3,toks:=k }) d3) slot_dict_getitem.lookup ?_ (iV (ix:=.Name eZ p5) rfl _ _)
    refine wpAny_getItem_of (s:={ s with heap:=h3,toks:=k }) (hV kvs[i].1 tk) d3.mapOf hval (wpAny_items_nil ⟨pY,?_⟩)
    exact ⟨_,_,_,rfl,rfl,Qa _,fun b o e=>Qe _ e,_,_,Qi _ rfl⟩
   ·obtain ⟨T,h4,k4,rfl,rfl,hT4,hk4,tup⟩:=z;have up:∀ b o,b≠I->b≠C->h'.get? b=some o->h4.get? b=some o:=fun b o z1 z2 e=>hk4 b o (hs3.extBut b o z2 (hs''.extBut b o z1 e));have hl4:h4.PlainList D (Ts.map Value.ref).toArray:=((hl.extBut hs''.extBut nDI).extBut hs3.extBut nDC).at fun o e=>hk4 _ o e;have lt3:∀ b o,h3.get? b=some o->b < T:=fun b o e=>Qd (Qg e) hT4
    have hI3:I < T:=by
     obtain ⟨o,e,_⟩:=hit'';exact lt3 I o (hs3.extBut I o nIC e)
    have hC3:C < T:=by
     rw[e2] at hns3;obtain ⟨o,_,_,e,_⟩:=hns3;exact lt3 C o e
    have hD3:D < T:=by
     obtain ⟨n,e⟩:=(hl.extBut hs''.extBut nDI).extBut hs3.extBut nDC;exact lt3 D _ e
    have hlen:Ts.length=i:=by rw[ht.length,List.length_take];omega
    refine wpAny_list_append_plain (s:={ s with heap:=h4,toks:=k4 }) hl4 (fun h5 hl5 hs5=>?_) (by
     show (Ts.map Value.ref).toArray.size<=sizeLine;rw[List.size_toArray,List.length_map,hlen];exact cQ (by unfold aa;lia))
    have ns4:=hns3.keeps hk4;rw[e2] at ns4;have up5:∀ b o,b≠I->b≠C->b≠D->h'.get? b=some o->h5.get? b=some o:=fun b o z1 z2 z3 e=>hs5.extBut b o z3 (up b o z1 z2 e);refine ⟨m,Qt _,h5,k4,i+1,Ts++[T],_,rfl,by lia,fun b o e=>?_,?_,ns4.sameBut hs5 nDC.symm,by simpa using hl5,?_,?_,?_⟩
    ·have lt:b < I:=hI▸Qg e;exact up5 b o (Qh lt) (Qh (Qd lt (by lia))) (Qh (Qd lt (by exact Nat.le.intro (id (Eq.symm sI))))) (hk b o e)
    ·obtain ⟨o,e,r⟩:=hit''.extBut hs3.extBut nIC;exact (show h4.IsKeyIter I d (i+1) kvs.length ep from ⟨o,hk4 _ o e,r⟩).extBut hs5.extBut nDI.symm
    ·have tk:kvs.take (i+1)=kvs.take i++[kvs[i]]:=by rw[List.take_succ,Qo hi];rfl
     rw[tk];refine (pZ (fun T hTm o q=>up5 T _ (hT T hTm).1 (hT T hTm).2.1 (hT T hTm).2.2.1 q) ht).append ⟨?_,trivial⟩;obtain ⟨t,e,q⟩:=tup;exact ⟨t,e,hs5.extBut T _ (Nat.ne_of_gt hD3) q⟩
    ·refine List.nodup_append.mpr ⟨hnd,by simp,fun a ha b hb=>?_⟩;rw[List.mem_singleton] at hb;subst hb;obtain ⟨o,e⟩:=Cd ha ht;have hh:=hT a ha;exact Qh (lt3 a o (hs3.extBut a o hh.2.1 (hs''.extBut a o hh.1 e)))
    ·intro b hb;rcases QA hb with hb | hb
     ·exact hT b hb
     ·rw[List.mem_singleton] at hb;subst hb;exact ⟨Nat.ne_of_gt hI3,Nat.ne_of_gt hC3,Nat.ne_of_gt hD3,Qk hI3⟩
 exact codeAny_compStart_list loop (wpAny_pyIter_keyiter kI loop)
end
end TE
namespace TE
set_option backward.match.sparseCases false
set_option tactic.hygienic false
noncomputable def iW:Expr:=m4 ⟨1253,50,1253,53⟩ ⟨1253,55,1253,60⟩ ⟨1253,61,1253,67⟩ ⟨1253,55,1253,68⟩ ⟨1253,69,1253,72⟩ ⟨1253,55,1253,73⟩ ⟨1253,49,1253,74⟩ ⟨1253,79,1253,82⟩ ⟨1253,86,1253,91⟩ ⟨1253,92,1253,98⟩ ⟨1253,86,1253,99⟩ ⟨1253,48,1253,100⟩
noncomputable def hW:List (Str×AV)->Option (List (Str×Str))
 | []=>some []
 | (k,.sstr v)::r=>(match hW r with
  | some l=>some ((k,v)::l)
  | none=>none)
 | _=>none
noncomputable def hK:List (Str×Str)->List AO
 | []=>[]
 | (a,b)::r=>.tuple [.sstr a,.sstr b]::hK r
noncomputable def rF (l:List (Str×Str)):EM AV:=fun es=>some (.ptr es.hp.length,⟨es.hp++.list (iY (es.hp.length+1) l)::hK l,es.dec⟩,[])
noncomputable def qP (e:Expr):EM AV:=do
 match <- EM.obj 1 with
 | .cell (some (.ptr t))=>do
  match <- EM.obj t with
  | .dict fs=>(match lk fs gn with
   | some (.ptr d)=>do
    match <- EM.obj d with
    | .dict ents=>(match hW ents with
     | some l=>EM.chk (Nat.blt l.length 20) do
      EM.need (ea e iW)
      rF l
     | none=>EM.fail)
    | _=>EM.fail
   | _=>EM.fail)
  | _=>EM.fail
 | _=>EM.fail
noncomputable def fz:cy where
 e:=fun e _ _=>match e with
  | .ListComp ..=>qP e
  | _=>EM.fail
 s:=fun _ _ _=>EM.fail
noncomputable def gZ (ρ:Nat->Addr) (n:Nat) (as:List Addr):Nat->Addr:=fun i=>if i < n then ρ i else as.getD (i - n) 0
section
variable {P:Params} {z5 h':Heap} {ρ:Nat->Addr} {σ os:List AO} {s:Shared} {as:List Addr} {t:Nat}
theorem Stp.fam (R:Rel P z5 ρ σ s.heap) (hl:as.length=os.length) (nd:as.Nodup) (fr:∀ a∈as,s.heap.objs.size<=a) (hz:s.heap.objs.size<=h'.objs.size) (hk:∀ b o,s.heap.get? b=some o->h'.get? b=some o)
  (ho:∀ (j:Nat) (o:AO),os[j]?=some o->ORel P (σ.length+os.length) (gZ ρ σ.length as) h' (as.getD j 0) o):Stp P z5 ρ σ s (gZ ρ σ.length as) (σ++os) { s with heap:=h',toks:=t }:=by
 have low:∀ i,i < σ.length->gZ ρ σ.length as i=ρ i:=fun i hi=>if_pos hi;have up:∀ i,¬ i < σ.length->gZ ρ σ.length as i=as.getD (i - σ.length) 0:=fun i hi=>if_neg hi;have gy:∀ j,j < as.length->as.getD j 0∈as:=fun j hj=>by rw[Qp,Qo hj];exact List.getElem_mem hj
 have len:(σ++os).length=σ.length+os.length:=List.length_append;refine ⟨rfl,rfl,rfl,⟨Qf R.base hz,fun b o e=>hk b o (R.keep b o e),fun i o e=>?_,fun i hi=>?_,fun i j hi hj e=>?_⟩,by rw[len];exact Nat.le_add_right σ.length os.length,low,hz,fun i h1 h2=>?_,fun b o _ e=>hk b o e⟩
 ·rw[len]
  by_cases q:i < σ.length
  ·rw[List.getElem?_append_left q] at e;rw[low i q];exact (R.own i o e).mono (by exact Nat.le_add_right σ.length os.length) low hz (hk _)
  ·rw[Qr (Nat.not_lt.mp q)] at e;rw[up i q];exact ho _ o e
 ·by_cases q:i < σ.length
  ·rw[low i q];exact R.high i q
  ·rw[up i q];rw[len] at hi;exact Qf R.base (fr _ (gy _ (by omega)))
 ·rw[len] at hi hj
  by_cases q:i < σ.length
  ·by_cases q':j < σ.length
   ·rw[low i q,low j q'] at e;exact R.inj i j q q' e
   ·rw[low i q,up j q'] at e;have h1:=(R.own i _ (Qo q)).lt;have h2:=fr _ (gy (j - σ.length) (by omega));rw[<- e] at h2;exact absurd h1 (Nat.not_lt.mpr h2)
  ·by_cases q':j < σ.length
   ·rw[up i q,low j q'] at e;have h1:=(R.own j _ (Qo q')).lt;have h2:=fr _ (gy (i - σ.length) (by omega));rw[e] at h2;exact absurd h1 (Nat.not_lt.mpr h2)
   ·rw[up i q,up j q'] at e;rw[Qp,Qp,Qo (by omega),Qo (by omega)] at e;have:=(List.getElem_inj nd).mp e;omega
 ·rw[up i (Nat.not_lt.mpr h1)];rw[len] at h2;exact fr _ (gy _ (by omega))
end
theorem mZ:∀ {l:List (Str×Str)},(hK l).length=l.length
 | []=>rfl
 | _::r=>by show (hK r).length+1=r.length+1;rw[mZ]
theorem rZ:∀ {l:List (Str×Str)} {j:Nat} {o:AO},(hK l)[j]?=some o->∃ p,l[j]?=some p/\o=.tuple [.sstr p.1,.sstr p.2]
 | [],_,_,h=>non h
 | (a,b)::r,0,_,h=>by cases h;exact ⟨(a,b),rfl,rfl⟩
 | _::r,j+1,_,h=>rZ (l:=r) h
theorem qC {n:Nat} {ρ:Nat->Addr}:∀ {ents:List (Str×AV)} {l:List (Str×Str)} {kvs:List (Str×Value)},hW ents=some l->All2 (cF n ρ) ents kvs->kvs.length=l.length/\All2 (fun (p:Str×Str) (kv:Str×Value)=>kv.1=p.1/\∃ t,kv.2=.str p.2 t) l kvs
 | [],l,[],h,_=>by cases h;exact ⟨rfl,trivial⟩
 | (k,v)::r,l,kv::kvs,h,hv=>by
  cases v with
  | sstr v =>
   dsimp only[hW] at h
   cases q:hW r with
   | none=>rw[q] at h;exact non h
   | some l' =>
    rw[q] at h;obtain rfl:=Qb h;obtain ⟨h1,h2⟩:=qC q hv.2;exact ⟨by simp[h1],⟨hv.1.1.symm,hv.1.2⟩,h2⟩
  | _=>exact non h
 | [],_,_::_,_,hv=>hv.elim
 | _::_,_,[],_,hv=>hv.elim
theorem qf {ρ:Nat->Addr}:∀ {l:List (Str×Str)} {Ts:List Addr} {i n:Nat},l.length=Ts.length->i+l.length<=n->(∀ j,j < Ts.length->ρ (i+j)=Ts.getD j 0)->All2 (VRel n ρ) (iY i l) (Ts.map Value.ref)
 | [],[],_,_,_,_,_=>trivial
 | p::l,T::Ts,i,n,hl,hn,h=>by
  simp only[List.length_cons] at hl hn;refine ⟨⟨by exact Nat.lt_of_add_right_lt hn,by rw[show i=i+0 from rfl,h 0 (by simp)];rfl⟩,qf (by exact Nat.add_right_cancel hl) (by lia) fun j hj=>?_⟩;have:=h (j+1) (by simp;omega);rw[show i+1+j=i+(j+1) by exact Nat.succ_add_eq_add_succ i j,this];rfl
 | [],_::_,_,_,hl,_,_=>by cases hl
 | _::_,[],_,_,hl,_,_=>by cases hl
theorem wn:lk lscope.names aD=some .cell:=by kernel_rfl
section
variable {prog:Program} {w:World} {z5:Heap} {K:Frag} {A:Around} {env:Env} {es:ES} {ρ:Nat->Addr} {s:Shared}
theorem Aw (B:Bt prog w z5 K tab) (hA:A.handled=none) (hR:Rel w.params z5 ρ es.hp s.heap) (hE:EnvR es.hp.length ρ env 0 lscope [(aD,1)]) (e:Expr):Tr prog w z5 A (qP e) es (eval e env) ρ s RV:=by
 intro a es' pc ev z8;obtain ⟨o1,es1,p1,p2,e1,e2,rfl⟩:=ak ev;obtain ⟨g1,rfl,rfl⟩:=bG e1
 cases o1 with
 | cell v =>
  cases v with
  | none=>exact aL e2
  | some v =>
   cases v with
   | ptr t =>
    obtain ⟨o2,es2,p3,p4,e3,e4,rfl⟩:=ak e2;obtain ⟨g2,rfl,rfl⟩:=bG e3
    cases o2 with
    | dict fs =>
     dsimp only at e4
     cases q1:lk fs gn with
     | none=>rw[q1] at e4;exact aL e4
     | some av =>
      rw[q1] at e4
      cases av with
      | ptr d =>
       obtain ⟨o3,es3,p5,p6,e5,e6,rfl⟩:=ak e4;obtain ⟨g3,rfl,rfl⟩:=bG e5
       cases o3 with
       | dict ents =>
        dsimp only at e6
        cases q2:hW ents with
        | none=>rw[q2] at e6;exact aL e6
        | some l =>
         rw[q2] at e6;refine ag fun G0 hG0=>?_;obtain ⟨c1,e7⟩:=c8 e6;obtain ⟨_,es4,p7,p8,e8,e9,rfl⟩:=ak e7;obtain ⟨rfl,rfl⟩:=dz e8;have same:e=iW:=z8 (ea e iW) (by simp);subst same;have hl20:l.length < 20:=Qc c1
         have out:a=.ptr es4.hp.length/\es'.hp=es4.hp++.list (iY (es4.hp.length+1) l)::hK l:=by
          dsimp only[rF] at e9;simp only[Option.some.injEq,Prod.mk.injEq] at e9;exact ⟨e9.1.symm,(congrArg ES.hp e9.2.1).symm⟩
         obtain ⟨rfl,hh⟩:=out;obtain ⟨ob,v',c2,c3,c4⟩:=hR.at g1;obtain ⟨u,rfl,hu⟩:=c4 _ rfl;obtain ⟨_,rfl⟩:=hu;obtain ⟨fkv,d1,d2⟩:=i5 (prog:=prog) (hR.at g2);have pf:=lL gn d2;rw[q1] at pf;obtain ⟨vd,pf1,pf2⟩:=pf;obtain ⟨hd,rfl⟩:=pf2;obtain ⟨kvs,d3,d4⟩:=i5 (prog:=prog) (hR.at g3);obtain ⟨ep,d5⟩:=d3.dictAt;obtain ⟨kl,kp⟩:=qC q2 d4;have hkf:env.scope.kind=.function:=hE.hscope▸hE.hkind;have hko:env.kindOf aD=some .cell:=f9 hE wn;obtain ⟨_,hcl⟩:=hE.hcells aD 1 (by kernel_rfl);refine hG0 ?_;refine Av hA hkf hko hcl ⟨ob,c2,c3⟩ d1 pf1 d5 (qY B.toBs hR hd) (by omega) fun D Ts h' k hk hp ht hnd hTs hD=>?_;obtain ⟨epD,hpD⟩:=hp;have hTl:Ts.length=l.length:=by rw[ht.length,kl]
         have hz:s.heap.objs.size<=h'.objs.size:=Qf hD (Qk (Qg hpD));refine ⟨gZ ρ es4.hp.length (D::Ts),?_,?_⟩
         ·rw[hh];refine Stp.fam hR (by simp[mZ,hTl]) (List.nodup_cons.mpr ⟨fun hm=>(hTs D hm).1 rfl,hnd⟩) (fun b hb=>?_) hz hk fun j o hj=>?_
          ·rcases Qz hb with rfl | hb
           ·exact hD
           ·exact (hTs b hb).2
          ·cases j with
           | zero =>
            obtain rfl:=Qb hj;refine ⟨_,epD,hpD,?_⟩;refine qf hTl.symm (by simp[mZ];omega) fun j hj=>?_;dsimp only[gZ];rw[if_neg (by omega),show es4.hp.length+1+j - es4.hp.length=j+1 by omega];rfl
           | succ j =>
            refine ag fun G0 hG0=>?_;obtain ⟨p,hp1,rfl⟩:=rZ hj;have hjl:j < l.length:=(Qy hp1).1;obtain ⟨kv,k1,k2,t',k3⟩:=kp.get hp1
            have hT2:∃ T,Ts[j]?=some T/\fS h' T kv:=by
             have:∀ {l:List Addr} {r:List (Str×Value)} {j:Nat},All2 (fS h') l r->r[j]?=some kv->∃ T,l[j]?=some T/\fS h' T kv:=fun {l}=>by
              induction l with
              | nil=>intro r j x e;match r,x with | [],_=>exact non e
              | cons a l ih =>
               intro r j x e
               match r,x with
               | b::r,x =>
                cases j with
                | zero=>obtain rfl:=Qb e;exact ⟨a,rfl,x.1⟩
                | succ j=>exact ih x.2 e
             exact this ht k1
            obtain ⟨T,hT1,tt,tep,hT2⟩:=hT2
            have:(D::Ts).getD (j+1) 0=T:=by
             rw[Qp,List.getElem?_cons_succ,hT1];rfl
            refine hG0 ?_;rw[this];exact ⟨_,tep,hT2,⟨tt,by rw[k2]⟩,⟨t',k3⟩,trivial⟩
         ·rw[hh];refine ⟨by simp,?_⟩;dsimp only[gZ];rw[if_neg (by exact Nat.lt_irrefl es4.hp.length),Nat.sub_self];rfl
       | _=>exact aL e6
      | _=>exact aL e4
    | _=>exact aL e4
   | _=>exact aL e2
 | _=>exact aL e2
theorem ww (B:Bt prog w z5 K tab) (hA:A.handled=none):fG prog w z5 A env 0 lscope [(aD,1)] fz :=
 ⟨fun hR hE a b c d=>Aw B hA hR hE _,fun _ _ _ _ _ _ _ _=>Tr.fail,fun _ _ _=>Tr.fail⟩
end
end TE
namespace TE
noncomputable def bx:List Str:=[bX,cG,gx,dQ]
noncomputable def nY (X:Str) (D K:Value):AO:=.ns [(bX,.sstr X),(cG,.con D),(gx,.ptr 2),(dQ,.con K)]
noncomputable def aI (X:Str) (D K:Value) (lo:AO) (R:List AO):List AO:=nY X D K::.cell none::lo::R
noncomputable def bE (X:Str) (D K:Value) (lo:AO) (R:List AO) (k:Nat) (tk:Tok):List AO:=nY X D K::.cell (some (.ptr k))::lo::(R++aM k tk)
noncomputable def bN (X:Str) (D K:Value) (lo:AO) (R:List AO) (k:Nat) (tk:Tok) (dec:List Nat):=cH (lev fz).s jm ⟨bE X D K lo R k tk,dec⟩
end TE
namespace TE
set_option backward.match.sparseCases false
noncomputable def nq:Tok->Option It
 | .text _ t=>some ⟨ay,t,[],false⟩
 | .start nm l sc=>some ⟨aF,nm,l,sc⟩
 | .endt nm=>some ⟨cc,nm,[],false⟩
 | .note t=>some ⟨cY,t,[],false⟩
 | .err=>none
noncomputable def eat (its:List It) (t:Tok):List It:=match nq t with
 | some i=>aG its i
 | none=>its
noncomputable def samePairs:Prop:=ea iW iW
theorem fX:samePairs:=rfl
noncomputable def kT (X:Str) (D K:Value):List AO:=[nY X D K,.cell none]
section
variable {prog:Program} {w:World} {z5:Heap} {A:Around} {env:Env} {ρ:Nat->Addr} {s:Shared} {F:List (Addr×Obj)} {X:Str} {D K:Value}
noncomputable def jq (prog:Program) (w:World) (z5:Heap) (A:Around) (env:Env) (ρ:Nat->Addr) (hp:List AO) (s:Shared) (F:List (Addr×Obj)) (X:Str) (D K:Value) (its:List It):Prop :=
 wpAny (model prog w) A (execs jm env) (n0 w.params z5 ρ hp s (kT X D K) 3 F its) (fun _ _=>False) s
theorem jH {ρ ρ1 ρ':Nat->Addr} {n:Nat} (h4:3<=n) (e:∀ i,i < n->ρ1 i=ρ i) (k:∀ j i:Nat,[0,1,2][j]?=some i->ρ' j=ρ1 i):∀ j,j < 3->ρ' j=ρ j:=fun j hj=>by
 have:[0,1,2][j]?=some j:=(show ∀ j,j < 3->[0,1,2][j]?=some j by decide) j hj;exact (k j j this).trans (e j (by exact Qd hj h4))
theorem le3 {X:Str} {D K:Value} {lo:AO} {R:List AO} {k:Nat} {tk:Tok}:3<=(bE X D K lo R k tk).length:=by unfold bE;simp only[List.length_cons];exact Nat.le_add_left 3 (R++aM k tk).length
theorem ga (EV:aR prog w z5 A env 0 lscope [(aD,1)] (lev fz)) {tk:Tok} {dec:List Nat} {it:It} {rI:Nat} {old:AO} {pc:List Prop} (hR:Rel w.params z5 ρ (bE X D K (.list []) [] 3 tk) s.heap) (hE:EnvR (bE X D K (.list []) [] 3 tk).length ρ env 0 lscope [(aD,1)])
  (run:∀ ρ,aP bx [0,1,2] 2 ρ (bN X D K (.list []) [] 3 tk dec)=some (aI X D K (.list [.ptr 3]) [.tuple [.sstr it.kd,.sstr it.pl,.con (.ref (ρ rI)),.bool it.cl]],rI,it.row,old,pc)) (z8:bc pc)
  (KF:Kept F (bE X D K (.list []) [] 3 tk).length ρ s.heap):jq prog w z5 A env ρ (bE X D K (.list []) [] 3 tk) s F X D K (aG [] it):=by
 refine wpAny_mono (iA EV hR hE run (d0 z8)) (fun fl s' z=>?_) fun _ _ x=>x;obtain ⟨h,ρ1,ρ',F1,M,e1,k1,K1,S1,r1,_⟩:=z;exact ⟨h,ρ',tm (pre:=kT X D K) M K1 S1 r1 KF,jH le3 e1 k1⟩
theorem gb (EV:aR prog w z5 A env 0 lscope [(aD,1)] (lev fz)) {tk:Tok} {dec:List Nat} {it l:It} {its:List It} {rr:Value} {rI:Nat} {ys:List Value} {pc:List Prop} (hR:Rel w.params z5 ρ (bE X D K (.snoc ys [.ptr 3]) [ax l.kd l.pl rr l.cl] 4 tk) s.heap) (hE:EnvR (bE X D K (.snoc ys [.ptr 3]) [ax l.kd l.pl rr l.cl] 4 tk).length ρ env 0 lscope [(aD,1)])
  (run:∀ ρ,aP bx [0,1,2] 2 ρ (bN X D K (.snoc ys [.ptr 3]) [ax l.kd l.pl rr l.cl] 4 tk dec)=some (aI X D K (.snoc ys [.con (.ref (ρ 3)),.ptr 3]) [.tuple [.sstr it.kd,.sstr it.pl,.con (.ref (ρ rI)),.bool it.cl]],rI,it.row,ax l.kd l.pl rr l.cl,pc)) (z8:bc pc)
  (hc:¬ (l.kd=ay/\it.kd=ay)) (KF:Kept F (bE X D K (.snoc ys [.ptr 3]) [ax l.kd l.pl rr l.cl] 4 tk).length ρ s.heap) (hr:ReadsF F rr (de l.row)) (hys:All2 (fun v i=>ReadsF F v (It.data i)) ys its) :
  jq prog w z5 A env ρ (bE X D K (.snoc ys [.ptr 3]) [ax l.kd l.pl rr l.cl] 4 tk) s F X D K (aG (its++[l]) it):=by
 refine wpAny_mono (iA EV hR hE run (d0 z8)) (fun fl s' z=>?_) fun _ _ x=>x;obtain ⟨h,ρ1,ρ',F1,M,e1,k1,K1,S1,r1,o1⟩:=z;exact ⟨h,ρ',to (pre:=kT X D K) hc M K1 S1 r1 KF (o1 _ _ _ _ rfl) hr hys,jH le3 e1 k1⟩
theorem rG (EV:aR prog w z5 A env 0 lscope [(aD,1)] (lev fz)) {tk:Tok} {dec:List Nat} {it l:It} {its:List It} {rr:Value} {rI:Nat} {ys:List Value} {pc:List Prop} (hR:Rel w.params z5 ρ (bE X D K (.snoc ys [.ptr 3]) [ax l.kd l.pl rr l.cl] 4 tk) s.heap) (hE:EnvR (bE X D K (.snoc ys [.ptr 3]) [ax l.kd l.pl rr l.cl] 4 tk).length ρ env 0 lscope [(aD,1)])
  (run:∀ ρ,aP bx [0,1,2] 2 ρ (bN X D K (.snoc ys [.ptr 3]) [ax l.kd l.pl rr l.cl] 4 tk dec)=some (aI X D K (.snoc ys [.ptr 3]) [.tuple [.sstr ay,.sstr (l.pl++it.pl),.con (.ref (ρ rI)),.bool false]],rI,[],ax l.kd l.pl rr l.cl,pc)) (z8:bc pc)
  (hl:l.kd=ay) (hi:it.kd=ay) (hrow:it.row=[]) (hcl:it.cl=false) (KF:Kept F (bE X D K (.snoc ys [.ptr 3]) [ax l.kd l.pl rr l.cl] 4 tk).length ρ s.heap) (hys:All2 (fun v i=>ReadsF F v (It.data i)) ys its) :
  jq prog w z5 A env ρ (bE X D K (.snoc ys [.ptr 3]) [ax l.kd l.pl rr l.cl] 4 tk) s F X D K (aG (its++[l]) it):=by
 refine wpAny_mono (iA EV hR hE run (d0 z8)) (fun fl s' z=>?_) fun _ _ x=>x;obtain ⟨h,ρ1,ρ',F1,M,e1,k1,K1,S1,r1,o1⟩:=z;exact ⟨h,ρ',tj (pre:=kT X D K) hl hi hrow hcl M K1 S1 r1 KF hys,jH le3 e1 k1⟩
theorem rH (EV:aR prog w z5 A env 0 lscope [(aD,1)] (lev fz)) {tk:Tok} {dec:List Nat} {its:List It} {lo:AO} {R:List AO} {k:Nat} {pc:List Prop} (hR:Rel w.params z5 ρ (bE X D K lo R k tk) s.heap) (hE:EnvR (bE X D K lo R k tk).length ρ env 0 lscope [(aD,1)])
  (run:∀ ρ,iD bx [0,1,2] 2 ρ (bN X D K lo R k tk dec)=some (aI X D K lo R,pc)) (z8:bc pc) (H:Hold F 3 its lo R) (KF:Kept F (bE X D K lo R k tk).length ρ s.heap) :
  jq prog w z5 A env ρ (bE X D K lo R k tk) s F X D K its:=by
 refine wpAny_mono (Gv EV hR hE run (d0 z8)) (fun fl s' z=>?_) fun _ _ x=>x;obtain ⟨h,ρ1,ρ',M,e1,k1⟩:=z;exact ⟨h,ρ',⟨F,lo,R,M,KF.move M,fun _ h=>h,fun _ h=>.inl h,H⟩,jH le3 e1 k1⟩
end
section
variable (X:Str) (D K:Value) (ys:List Value) (kd pl:Str) (rr:Value) (c:Bool) (t a1 b1 a2 b2 a3 b3:Str) (sc:Bool)
theorem Dg:∀ ρ,aP bx [0,1,2] 2 ρ (bN X D K (.list []) [] 3 (.text 1 t) []) =
 some (aI X D K (.list [.ptr 3]) [.tuple [.sstr ay,.sstr (t),.con (.ref (ρ 4)),.bool false]],4,[],atD (aM 3 (.text 1 t)) 0,[]):=fun ρ=>by kernel_rfl
theorem Dd:∀ ρ,aP bx [0,1,2] 2 ρ (bN X D K (.list []) [] 3 (.text 2 t) []) =
 some (aI X D K (.list [.ptr 3]) [.tuple [.sstr ay,.sstr (t),.con (.ref (ρ 4)),.bool false]],4,[],atD (aM 3 (.text 2 t)) 0,[]):=fun ρ=>by kernel_rfl
theorem Dn:∀ ρ,aP bx [0,1,2] 2 ρ (bN X D K (.list []) [] 3 (.start t [] sc) []) =
 some (aI X D K (.list [.ptr 3]) [.tuple [.sstr aF,.sstr (t),.con (.ref (ρ 5)),.bool sc]],5,[],atD (aM 3 (.start t [] sc)) 0,[samePairs]):=fun ρ=>by kernel_rfl
theorem Dl:∀ ρ,aP bx [0,1,2] 2 ρ (bN X D K (.list []) [] 3 (.start t [(a1,b1)] sc) []) =
 some (aI X D K (.list [.ptr 3]) [.tuple [.sstr aF,.sstr (t),.con (.ref (ρ 5)),.bool sc]],5,[(a1,b1)],atD (aM 3 (.start t [(a1,b1)] sc)) 0,[samePairs]):=fun ρ=>by kernel_rfl
theorem Dj:∀ ρ,aP bx [0,1,2] 2 ρ (bN X D K (.list []) [] 3 (.start t [(a1,b1),(a2,b2)] sc) []) =
 some (aI X D K (.list [.ptr 3]) [.tuple [.sstr aF,.sstr (t),.con (.ref (ρ 5)),.bool sc]],5,[(a1,b1),(a2,b2)],atD (aM 3 (.start t [(a1,b1),(a2,b2)] sc)) 0,[samePairs]):=fun ρ=>by kernel_rfl
theorem Dh:∀ ρ,aP bx [0,1,2] 2 ρ (bN X D K (.list []) [] 3 (.start t [(a1,b1),(a2,b2),(a3,b3)] sc) []) =
 some (aI X D K (.list [.ptr 3]) [.tuple [.sstr aF,.sstr (t),.con (.ref (ρ 5)),.bool sc]],5,[(a1,b1),(a2,b2),(a3,b3)],atD (aM 3 (.start t [(a1,b1),(a2,b2),(a3,b3)] sc)) 0,[samePairs]):=fun ρ=>by kernel_rfl
theorem A3:∀ ρ,aP bx [0,1,2] 2 ρ (bN X D K (.list []) [] 3 (.endt t) []) =
 some (aI X D K (.list [.ptr 3]) [.tuple [.sstr cc,.sstr (t),.con (.ref (ρ 5)),.bool false]],5,[],atD (aM 3 (.endt t)) 0,[]):=fun ρ=>by kernel_rfl
theorem yp:∀ ρ,aP bx [0,1,2] 2 ρ (bN X D K (.list []) [] 3 (.note t) []) =
 some (aI X D K (.list [.ptr 3]) [.tuple [.sstr cY,.sstr (t),.con (.ref (ρ 4)),.bool false]],4,[],atD (aM 3 (.note t)) 0,[]):=fun ρ=>by kernel_rfl
theorem A1:∀ ρ,iD bx [0,1,2] 2 ρ (bN X D K (.list []) [] 3 .err [1])=some (aI X D K (.list []) [],[(⟨#[117,110,101,120,112,101,99,116,101,100,45,99,104,97,114,45,105,110,45,99,111,109,109,101,110,116]⟩:Str)=⟨#[117,110,101,120,112,101,99,116,101,100,45,99,104,97,114,45,105,110,45,99,111,109,109,101,110,116]⟩]):=fun ρ=>by kernel_rfl
theorem Df:∀ ρ,aP bx [0,1,2] 2 ρ (bN X D K (.snoc ys [.ptr 3]) [ax kd pl rr c] 4 (.text 1 t) [0]) =
 some (aI X D K (.snoc ys [.con (.ref (ρ 3)),.ptr 3]) [.tuple [.sstr ay,.sstr (t),.con (.ref (ρ 5)),.bool false]],5,[],ax kd pl rr c,[ys.length+[AV.ptr 3].length < aa,ys.length+[AV.ptr 3].length < aa,¬ (kd=ay),ys.length+[AV.ptr 3].length < aa]):=fun ρ=>by kernel_rfl
theorem De:∀ ρ,aP bx [0,1,2] 2 ρ (bN X D K (.snoc ys [.ptr 3]) [ax kd pl rr c] 4 (.text 1 t) [1]) =
 some (aI X D K (.snoc ys [.ptr 3]) [.tuple [.sstr ay,.sstr (pl++t),.con (.ref (ρ 5)),.bool false]],5,[],ax kd pl rr c,[ys.length+[AV.ptr 3].length < aa,ys.length+[AV.ptr 3].length < aa,kd=ay,ys.length+[AV.ptr 3].length < aa,pl.length+t.length<=aa,ys.length+[AV.ptr 3].length < aa]):=fun ρ=>by kernel_rfl
theorem Dc:∀ ρ,aP bx [0,1,2] 2 ρ (bN X D K (.snoc ys [.ptr 3]) [ax kd pl rr c] 4 (.text 2 t) [0]) =
 some (aI X D K (.snoc ys [.con (.ref (ρ 3)),.ptr 3]) [.tuple [.sstr ay,.sstr (t),.con (.ref (ρ 5)),.bool false]],5,[],ax kd pl rr c,[ys.length+[AV.ptr 3].length < aa,ys.length+[AV.ptr 3].length < aa,¬ (kd=ay),ys.length+[AV.ptr 3].length < aa]):=fun ρ=>by kernel_rfl
theorem Db:∀ ρ,aP bx [0,1,2] 2 ρ (bN X D K (.snoc ys [.ptr 3]) [ax kd pl rr c] 4 (.text 2 t) [1]) =
 some (aI X D K (.snoc ys [.ptr 3]) [.tuple [.sstr ay,.sstr (pl++t),.con (.ref (ρ 5)),.bool false]],5,[],ax kd pl rr c,[ys.length+[AV.ptr 3].length < aa,ys.length+[AV.ptr 3].length < aa,kd=ay,ys.length+[AV.ptr 3].length < aa,pl.length+t.length<=aa,ys.length+[AV.ptr 3].length < aa]):=fun ρ=>by kernel_rfl
theorem Do:∀ ρ,aP bx [0,1,2] 2 ρ (bN X D K (.snoc ys [.ptr 3]) [ax kd pl rr c] 4 (.start t [] sc) []) =
 some (aI X D K (.snoc ys [.con (.ref (ρ 3)),.ptr 3]) [.tuple [.sstr aF,.sstr (t),.con (.ref (ρ 6)),.bool sc]],6,[],ax kd pl rr c,[samePairs,ys.length+[AV.ptr 3].length < aa]):=fun ρ=>by kernel_rfl
theorem Dm:∀ ρ,aP bx [0,1,2] 2 ρ (bN X D K (.snoc ys [.ptr 3]) [ax kd pl rr c] 4 (.start t [(a1,b1)] sc) []) =
 some (aI X D K (.snoc ys [.con (.ref (ρ 3)),.ptr 3]) [.tuple [.sstr aF,.sstr (t),.con (.ref (ρ 6)),.bool sc]],6,[(a1,b1)],ax kd pl rr c,[samePairs,ys.length+[AV.ptr 3].length < aa]):=fun ρ=>by kernel_rfl
theorem Dk:∀ ρ,aP bx [0,1,2] 2 ρ (bN X D K (.snoc ys [.ptr 3]) [ax kd pl rr c] 4 (.start t [(a1,b1),(a2,b2)] sc) []) =
 some (aI X D K (.snoc ys [.con (.ref (ρ 3)),.ptr 3]) [.tuple [.sstr aF,.sstr (t),.con (.ref (ρ 6)),.bool sc]],6,[(a1,b1),(a2,b2)],ax kd pl rr c,[samePairs,ys.length+[AV.ptr 3].length < aa]):=fun ρ=>by kernel_rfl
theorem Di:∀ ρ,aP bx [0,1,2] 2 ρ (bN X D K (.snoc ys [.ptr 3]) [ax kd pl rr c] 4 (.start t [(a1,b1),(a2,b2),(a3,b3)] sc) []) =
 some (aI X D K (.snoc ys [.con (.ref (ρ 3)),.ptr 3]) [.tuple [.sstr aF,.sstr (t),.con (.ref (ρ 6)),.bool sc]],6,[(a1,b1),(a2,b2),(a3,b3)],ax kd pl rr c,[samePairs,ys.length+[AV.ptr 3].length < aa]):=fun ρ=>by kernel_rfl
theorem A4:∀ ρ,aP bx [0,1,2] 2 ρ (bN X D K (.snoc ys [.ptr 3]) [ax kd pl rr c] 4 (.endt t) []) =
 some (aI X D K (.snoc ys [.con (.ref (ρ 3)),.ptr 3]) [.tuple [.sstr cc,.sstr (t),.con (.ref (ρ 6)),.bool false]],6,[],ax kd pl rr c,[ys.length+[AV.ptr 3].length < aa]):=fun ρ=>by kernel_rfl
theorem yq:∀ ρ,aP bx [0,1,2] 2 ρ (bN X D K (.snoc ys [.ptr 3]) [ax kd pl rr c] 4 (.note t) []) =
 some (aI X D K (.snoc ys [.con (.ref (ρ 3)),.ptr 3]) [.tuple [.sstr cY,.sstr (t),.con (.ref (ρ 5)),.bool false]],5,[],ax kd pl rr c,[ys.length+[AV.ptr 3].length < aa]):=fun ρ=>by kernel_rfl
theorem A2:∀ ρ,iD bx [0,1,2] 2 ρ (bN X D K (.snoc ys [.ptr 3]) [ax kd pl rr c] 4 .err [1])=some (aI X D K (.snoc ys [.ptr 3]) [ax kd pl rr c],[(⟨#[117,110,101,120,112,101,99,116,101,100,45,99,104,97,114,45,105,110,45,99,111,109,109,101,110,116]⟩:Str)=⟨#[117,110,101,120,112,101,99,116,101,100,45,99,104,97,114,45,105,110,45,99,111,109,109,101,110,116]⟩]):=fun ρ=>by kernel_rfl
end
section
variable {prog:Program} {w:World} {z5:Heap} {A:Around} {env:Env} {ρ:Nat->Addr} {s:Shared} {F:List (Addr×Obj)} {X:Str} {D K:Value}
noncomputable def fM:Tok->Prop
 | .text ty t=>(ty=1\/ty=2)/\t.length<=20000
 | .start _ l _=>l.length<=3
 | _=>True
noncomputable def kOf:List AO->Nat
 | []=>3
 | _=>4
theorem Gi (EV:aR prog w z5 A env 0 lscope [(aD,1)] (lev fz)) {its:List It} {lo:AO} {R:List AO} {tk:Tok} (ht:fM tk) (hi:its.length<=5000) (hpl:∀ i∈its,i.pl.length<=20000) (H:Hold F 3 its lo R)
  (hR:Rel w.params z5 ρ (bE X D K lo R (kOf R) tk) s.heap) (hE:EnvR (bE X D K lo R (kOf R) tk).length ρ env 0 lscope [(aD,1)]) (KF:Kept F (bE X D K lo R (kOf R) tk).length ρ s.heap) :
  jq prog w z5 A env ρ (bE X D K lo R (kOf R) tk) s F X D K (eat its tk):=by
 cases H with
 | empty =>
  cases tk with
  | text ty t =>
   rcases ht.1 with rfl | rfl
   ·exact ga EV hR hE (it:=⟨ay,t,[],false⟩) (Dg X D K t) trivial KF
   ·exact ga EV hR hE (it:=⟨ay,t,[],false⟩) (Dd X D K t) trivial KF
  | start t l sc =>
   match l,ht,hR,hE,KF with
   | [],_,hR,hE,KF=>exact ga EV hR hE (it:=⟨aF,t,[],sc⟩) (Dn X D K t sc) ⟨fX,trivial⟩ KF
   | [(a1,b1)],_,hR,hE,KF=>exact ga EV hR hE (it:=⟨aF,t,[(a1,b1)],sc⟩) (Dl X D K t a1 b1 sc) ⟨fX,trivial⟩ KF
   | [(a1,b1),(a2,b2)],_,hR,hE,KF=>exact ga EV hR hE (it:=⟨aF,t,[(a1,b1),(a2,b2)],sc⟩) (Dj X D K t a1 b1 a2 b2 sc) ⟨fX,trivial⟩ KF
   | [(a1,b1),(a2,b2),(a3,b3)],_,hR,hE,KF=>exact ga EV hR hE (it:=⟨aF,t,[(a1,b1),(a2,b2),(a3,b3)],sc⟩) (Dh X D K t a1 b1 a2 b2 a3 b3 sc) ⟨fX,trivial⟩ KF
   | _::_::_::_::_,h,_,_,_=>exact absurd h nU
  | endt t=>exact ga EV hR hE (it:=⟨cc,t,[],false⟩) (A3 X D K t) trivial KF
  | note t=>exact ga EV hR hE (it:=⟨cY,t,[],false⟩) (yp X D K t) trivial KF
  | err=>exact rH EV hR hE (A1 X D K) ⟨rfl,trivial⟩ .empty KF
 | last hr hys =>
  rename_i ys its l rr
  have hy:ys.length+[AV.ptr 3].length < aa:=by
   rw[hys.length];rw[List.length_append] at hi;simp only[List.length_cons,List.length_nil] at hi ⊢;unfold aa;lia
  have hlp:l.pl.length<=20000:=hpl l (Qj _ (.head _))
  cases tk with
  | text ty t =>
   have htl:=ht.2
   by_cases hl:l.kd=ay
   ·rcases ht.1 with rfl | rfl
    ·exact rG EV hR hE (it:=⟨ay,t,[],false⟩) (De X D K ys l.kd l.pl rr l.cl t) ⟨hy,hy,hl,hy,by unfold aa;omega,hy,trivial⟩ hl rfl rfl rfl KF hys
    ·exact rG EV hR hE (it:=⟨ay,t,[],false⟩) (Db X D K ys l.kd l.pl rr l.cl t) ⟨hy,hy,hl,hy,by unfold aa;omega,hy,trivial⟩ hl rfl rfl rfl KF hys
   ·rcases ht.1 with rfl | rfl
    ·exact gb EV hR hE (it:=⟨ay,t,[],false⟩) (Df X D K ys l.kd l.pl rr l.cl t) ⟨hy,hy,hl,hy,trivial⟩ (fun z=>hl z.1) KF hr hys
    ·exact gb EV hR hE (it:=⟨ay,t,[],false⟩) (Dc X D K ys l.kd l.pl rr l.cl t) ⟨hy,hy,hl,hy,trivial⟩ (fun z=>hl z.1) KF hr hys
  | start t l1 sc =>
   have ne:¬ (l.kd=ay/\aF=ay):=fun z=>absurd z.2 (by decide +kernel)
   match l1,ht,hR,hE,KF with
   | [],_,hR,hE,KF=>exact gb EV hR hE (it:=⟨aF,t,[],sc⟩) (Do X D K ys l.kd l.pl rr l.cl t sc) ⟨fX,hy,trivial⟩ ne KF hr hys
   | [(a1,b1)],_,hR,hE,KF=>exact gb EV hR hE (it:=⟨aF,t,[(a1,b1)],sc⟩) (Dm X D K ys l.kd l.pl rr l.cl t a1 b1 sc) ⟨fX,hy,trivial⟩ ne KF hr hys
   | [(a1,b1),(a2,b2)],_,hR,hE,KF=>exact gb EV hR hE (it:=⟨aF,t,[(a1,b1),(a2,b2)],sc⟩) (Dk X D K ys l.kd l.pl rr l.cl t a1 b1 a2 b2 sc) ⟨fX,hy,trivial⟩ ne KF hr hys
   | [(a1,b1),(a2,b2),(a3,b3)],_,hR,hE,KF=>exact gb EV hR hE (it:=⟨aF,t,[(a1,b1),(a2,b2),(a3,b3)],sc⟩) (Di X D K ys l.kd l.pl rr l.cl t a1 b1 a2 b2 a3 b3 sc) ⟨fX,hy,trivial⟩ ne KF hr hys
   | _::_::_::_::_,h,_,_,_=>exact absurd h nU
  | endt t=>exact gb EV hR hE (it:=⟨cc,t,[],false⟩) (A4 X D K ys l.kd l.pl rr l.cl t) ⟨hy,trivial⟩ (fun z=>absurd z.2 (show ¬ cc=ay by decide +kernel)) KF hr hys
  | note t=>exact gb EV hR hE (it:=⟨cY,t,[],false⟩) (yq X D K ys l.kd l.pl rr l.cl t) ⟨hy,trivial⟩ (fun z=>absurd z.2 (show ¬ cY=ay by decide +kernel)) KF hr hys
  | err=>exact rH EV hR hE (A2 X D K ys l.kd l.pl rr l.cl) ⟨rfl,trivial⟩ (.last hr hys) KF
end
end TE
namespace TE
set_option backward.match.sparseCases false
set_option tactic.hygienic false
open PySem PySem.W PySem.Calls PyProof.Rows Sem
theorem FD {α:Type} (M:Model) (Γ:Ctx) (t:Sem α):∀ (Q:α->Pos->Shared->Prop) (E:Value->Pos->Shared->Prop) (p:Pos) (s:Shared),wp M Γ t Q E p s->(∃ a p' s',Q a p' s')\/∃ e p' s',E e p' s':=by
 induction t with
 | pure a=>intro Q E p s h;exact .inl ⟨_,_,_,h⟩
 | raise e=>intro Q E p s h;exact .inr ⟨_,_,_,h⟩
 | unsupported _=>intro Q E p s h;exact h.elim
 | finish _=>intro Q E p s h;exact h.elim
 | rule _ k ih=>intro Q E p s h;exact ih () Q E p s h
 | «at» p' k ih=>intro Q E p s h;exact ih () Q E p' s h
 | load a _ k ih=>intro Q E p s h;obtain ⟨o,ho,h⟩:=h;exact ih o Q E p s h
 | update a _ f k ih=>intro Q E p s h;exact ih () Q E p _ h.2
 | loadIfAlive a k ih=>intro Q E p s h;exact ih _ Q E p s h
 | point _ k ih=>intro Q E p s h;exact ih () Q E p s h
 | register _ _=>intro Q E p s h;exact h.elim
 | alloc o k ih=>intro Q E p s h;exact ih _ Q E p _ h
 | fresh k ih=>intro Q E p s h;exact ih _ Q E p _ h
 | ask k ih=>intro Q E p s h;exact ih _ Q E p s h
 | choose src m k ih=>intro Q E p s h;exact ih _ Q E p _ h.2
 | os q _ k ih=>intro Q E p s h;exact ih _ Q E p _ h
 | call c hd _ _ k ih=>intro Q E p s h;obtain ⟨r,s',hr,h⟩:=h;exact ih r Q E p s' h
 | handled own k ih=>intro Q E p s h;exact ih _ Q E p s h
 | genState g k ih=>intro Q E p s h;obtain ⟨st,hs,h⟩:=h;exact ih _ Q E p s h
 | newGen c k ih=>intro Q E p s h;exact ih _ Q E p _ h
 | resume g r _ k ih=>intro Q E p s h;obtain ⟨res,s',hw,h⟩:=h;exact ih res Q E p s' h
 | yield _ _ _ _=>intro Q E p s h;exact h.elim
 | stack k ih=>intro Q E p s h;exact ih _ Q E p s h
 | fork _ _=>intro Q E p s h;exact h.elim
 | thread k ih=>intro Q E p s h;exact ih _ Q E p s h
 | await _ _ _ _ _=>intro Q E p s h;exact h.elim
theorem pV {α:Type} {M:Model} {A:Around} (hex:∃ Γ:Ctx,Γ.In A) {s:Shared} {t:Sem α} {Q:α->Shared->Prop} (h:wpAny M A t Q (fun _ _=>False) s):∃ a s',Q a s':=by
 obtain ⟨Γ,hΓ⟩:=hex;rcases FD M Γ t _ _ default s (h Γ default hΓ) with ⟨a,_,s',q⟩ | ⟨_,_,_,q⟩
 ·exact ⟨a,s',q⟩
 ·exact q.elim
theorem jR {ρ:Nat->Addr} {m:List Nat} {num:Bool}:∀ l:List (Str×Str),dy ρ m num (bH l)=bH l
 | []=>rfl
 | (a,b)::r=>by
  show (a,.sstr b)::dy ρ m num (bH r)=_;rw[jR r];rfl
noncomputable def ten:List Nat:=[0,1,2,3,4,5,6,7,8,9]
theorem Ec (ρ:Nat->Addr) (f:Fx) (rc:Value) (X:Str) (x:Sx) (st:Addr) (ct:AV) (T:List AO):TE.pick ρ ten [] (base f (.con rc) X x st ct [] ([]++T))=base f (.con rc) X x st (fU ρ ten false ct) [] []:=by kernel_rfl
theorem Aq (ρ:Nat->Addr) (f:Fx) (rc:Value) (X:Str) (x:Sx) (st:Addr) (t:Str) (T:List AO):TE.pick ρ (ten++[10]) [] (base f (.con rc) X x st (.ptr 10) [] (aZ t++T))=base f (.con rc) X x st (.ptr 10) [] (aZ t):=by kernel_rfl
noncomputable def rW (i:Nat):Tok->List Nat
 | .start _ _ _=>[i,i+1]
 | .endt _=>[i,i+1]
 | _=>[i]
theorem zR (ρ:Nat->Addr) (f:Fx) (rc:Value) (X:Str) (x:Sx) (st:Addr) (ct:AV) (tk:Tok):TE.pick ρ (rW 10 tk) [] (base f (.con rc) X x st ct [] ([]++aM 10 tk))=aM 0 tk:=by
 cases tk with
 | start nm l sc =>
  show [bV nm sc 1,.dict (dy ρ [10,11] false (bH l))]=[bV nm sc 1,.dict (bH l)];rw[jR]
 | endt nm=>kernel_rfl
 | note t=>kernel_rfl
 | text ty t=>kernel_rfl
 | err=>kernel_rfl
theorem AZ (ρ:Nat->Addr) (f:Fx) (rc:Value) (X:Str) (x:Sx) (st:Addr) (t:Str):TE.pick ρ [11] [] (base f (.con rc) X x st (.ptr 10) [] (aZ t++aM 11 .err))=aM 0 .err:=by kernel_rfl
theorem zS (i j:Nat) (tk:Tok):(aM i tk).length=(aM j tk).length:=by cases tk<;>rfl
theorem Cf (ρ:Nat->Addr) (tk:Tok):d8 ρ (dv 3 (aM 0 tk).length) (aM 0 tk)=aM 3 tk:=by
 cases tk with
 | start nm l sc =>
  show [bV nm sc 4,.dict (dy ρ (dv 3 2) false (bH l))]=[bV nm sc 4,.dict (bH l)];rw[jR]
 | endt nm=>kernel_rfl
 | note t=>kernel_rfl
 | text ty t=>kernel_rfl
 | err=>kernel_rfl
theorem Ce (ρ:Nat->Addr) (tk:Tok):d8 ρ (dv 4 (aM 0 tk).length) (aM 0 tk)=aM 4 tk:=by
 cases tk with
 | start nm l sc =>
  show [bV nm sc 5,.dict (dy ρ (dv 4 2) false (bH l))]=[bV nm sc 5,.dict (bH l)];rw[jR]
 | endt nm=>kernel_rfl
 | note t=>kernel_rfl
 | text ty t=>kernel_rfl
 | err=>kernel_rfl
section
variable {P:Params} {z5 h:Heap} {ρ:Nat->Addr} {f:Fx} {rc:Value} {X:Str} {x:Sx} {st:Addr} {ct:AV} {cur:Cur} {tk:Tok}
theorem xn (hc:gk cur tk) (z6:ctR cur (some tk) ct) (R:Rel P z5 ρ (base f (.con rc) X x st ct [] (aK cur++aM (10+(aK cur).length) tk)) h) :
  ∃ (m1 m2:List Nat) (ct':AV),bB m1 (base f (.con rc) X x st ct [] (aK cur++aM (10+(aK cur).length) tk)).length=true/\m1.Nodup/\bB m2 (base f (.con rc) X x st ct [] (aK cur++aM (10+(aK cur).length) tk)).length=true/\m2.Nodup /\
   (∀ x,x∈m1->x ∉ m2)/\TE.pick ρ m1 [] (base f (.con rc) X x st ct [] (aK cur++aM (10+(aK cur).length) tk))=base f (.con rc) X x st ct' [] (aK cur)/\TE.pick ρ m2 [] (base f (.con rc) X x st ct [] (aK cur++aM (10+(aK cur).length) tk))=aM 0 tk /\
   ctC cur ct'/\m1[0]?=some 0/\m1[1]?=some 1/\m2[0]?=some (10+(aK cur).length):=by
 cases cur with
 | none =>
  refine ⟨ten,rW 10 tk,fU ρ ten false ct,?_,by decide,?_,?_,?_,Ec ..,zR ..,?_,rfl,rfl,?_⟩
  ·rfl
  ·cases tk<;>rfl
  ·cases tk<;>first | exact (by decide:([10,10+1]:List Nat).Nodup) | exact (by decide:([10]:List Nat).Nodup)
  ·cases tk<;>first | exact (by decide:∀ x,x∈ten->x ∉ ([10,10+1]:List Nat)) | exact (by decide:∀ x,x∈ten->x ∉ ([10]:List Nat))
  ·cases tk with
   | start _ _ _=>have e:ct=.ptr 10:=z6;subst e;exact ⟨_,rfl⟩
   | endt _=>have e:ct=.ptr 10:=z6;subst e;exact ⟨_,rfl⟩
   | note _=>have e:ct=.ptr 10:=z6;subst e;exact ⟨_,rfl⟩
   | text _ _=>obtain ⟨v,e⟩:∃ v,ct=.con v:=z6;subst e;exact ⟨_,rfl⟩
   | err=>obtain ⟨v,e⟩:∃ v,ct=.con v:=z6;subst e;exact ⟨_,rfl⟩
  ·cases tk<;>rfl
 | note t =>
  cases tk with
  | err =>
   have e:ct=.ptr 10:=z6;subst e;exact ⟨ten++[10],[11],.ptr 10,rfl,by decide,rfl,by decide,by decide,Aq ..,AZ ..,rfl,rfl,rfl,rfl⟩
  | _=>exact hc.elim
 | _=>exact hc.elim
end
end TE
namespace TE
set_option tactic.hygienic false
noncomputable def tkN (z7:List Tok) (n:Nat):Tok:=z7.reverse.getD n .err
noncomputable def bD (z7:List Tok) (n:Nat):List It:=(z7.reverse.drop n).reverse.foldl eat []
theorem xU {z7:List Tok} {n:Nat} (h:n < z7.length):bD z7 n=eat (bD z7 (n+1)) (tkN z7 n):=by
 dsimp only[bD,tkN];have hr:n < z7.reverse.length:=by simpa using h
 rw[List.drop_eq_getElem_cons hr,List.reverse_cons,List.foldl_append];show eat _ _=_;rw[Qp,Qo hr];rfl
theorem AP (z7:List Tok):bD z7 0=z7.foldl eat []:=by unfold bD;simp
theorem AN (z7:List Tok):bD z7 z7.length=[]:=by
 dsimp only[bD];rw[List.drop_of_length_le (by simp)];rfl
structure gW (P:Params) (z5:Heap) (env:Env) (X:Str) (D K:Value) (F0:List (Addr×Obj)) (its:List It) (ρL:Nat->Addr) (F:List (Addr×Obj)) (lo:AO) (R:List AO) (h:Heap):Prop where
 rel:Rel P z5 ρL (aI X D K lo R) h
 h0:ρL 0=env.locals
 h1:env.cells.lookup aD=some (ρL 1)
 kept:Kept F (aI X D K lo R).length ρL h
 sub:∀ p∈F0,p∈F
 hold:Hold F 3 its lo R
inductive ex (P:Params) (z5:Heap) (env:Env) (X:Str) (D K:Value) (F0:List (Addr×Obj)) (z7:List Tok) (n:Nat) (ρ:Nat->Addr) (len:Nat) (h:Heap):Prop
 | mk (hn:n<=z7.length) (ρL:Nat->Addr) (F:List (Addr×Obj)) (lo:AO) (R:List AO) (L:gW P z5 env X D K F0 (bD z7 n) ρL F lo R h) (DL:Disj (aI X D K lo R).length ρL len ρ) (KT:Kept F len ρ h):ex P z5 env X D K F0 z7 n ρ len h
section
variable {prog:Program} {w:World} {z5:Heap} {A:Around} {env:Env} {f:Fx} {X:Str} {D K:Value} {F0:List (Addr×Obj)} {z7:List Tok}
theorem xM:∀ n ρ σ (s:Shared) ρ' σ' s',ex w.params z5 env X D K F0 z7 n ρ (σ:List AO).length s.heap->Move w.params z5 ρ σ s ρ' σ' s'->ex w.params z5 env X D K F0 z7 n ρ' σ'.length s'.heap:=by
 rintro n ρ σ s ρ' σ' s' ⟨hn,ρL,F,lo,R,L,DL,KF⟩ M
 obtain ⟨R',D'⟩:=L.rel.besideM M DL;exact ⟨hn,ρL,F,lo,R,⟨R',L.h0,L.h1,L.kept.besideM KF M,L.sub,L.hold⟩,D',KF.move M⟩
theorem Kept.join {F:List (Addr×Obj)} {n:Nat} {ρ₁ ρ₂:Nat->Addr} {σ₁ σ₂:List AO} {h:Heap} (K1:Kept F σ₁.length ρ₁ h) (K2:Kept F n ρ₂ h) (hl:σ₂.length=n):Kept F (σ₁++σ₂).length (c6 σ₁.length ρ₁ ρ₂) h :=
 ⟨K1.here,fun p hp i hi=>by
  rw[List.length_append,hl] at hi
  by_cases q:i < σ₁.length
  ·rw[dj q];exact K1.apart p hp i q
  ·have ei:i=(i - σ₁.length)+σ₁.length:=by omega
   rw[ei,d6];exact K2.apart p hp _ (by lia)⟩
theorem Cg (X:Str) (D K:Value) (lo:AO) (R:List AO) (k:Nat) (tk:Tok):putName 0 lscope [(aD,1)] aD (.ptr k) ⟨aI X D K lo R++aM k tk,[]⟩=some ((),⟨bE X D K lo R k tk,[]⟩,[]):=by kernel_rfl
theorem qw (EV:aR prog w z5 A env 0 lscope [(aD,1)] (lev fz)) (hes:env.scope=lscope) (heg:env.globals=mainGlobals) (heb:env.builtins=builtinsNs)
  (hB:∀ n,n < z7.length->fM (tkN z7 n)/\(bD z7 (n+1)).length<=5000/\∀ i∈bD z7 (n+1),i.pl.length<=20000)
  {n:Nat} {ρ:Nat->Addr} {rc:Value} {x:Sx} {ct:AV} {ms:MS} {s:Shared} {px:Pos} (hc:gk ms.cur (tkN z7 n)) (R:Rel w.params z5 ρ (base f (.con rc) X x ms.st.addr ct [] (aK ms.cur++aM (10+(aK ms.cur).length) (tkN z7 n))) s.heap) (z6:ctR ms.cur (some (tkN z7 n)) ct)
  (hΦ:ex w.params z5 env X D K F0 z7 (n+1) ρ (base f (.con rc) X x ms.st.addr ct [] (aK ms.cur++aM (10+(aK ms.cur).length) (tkN z7 n))).length s.heap) :
  wpAny (model prog w) A (assign (.Name aD px) env (.ref (ρ (10+(aK ms.cur).length)))) (fun _ s2=>wpAny (model prog w) A (execs jm env) (fun fl s3=>fl=.next/\Same s3 s /\
   ∃ (ρ'':Nat->Addr) (ct'':AV),Rel w.params z5 ρ'' (base f (.con rc) X x ms.st.addr ct'' [] (aK ms.cur)) s3.heap/\ρ'' 0=ρ 0/\ρ'' 1=ρ 1/\ctC ms.cur ct''/\ex w.params z5 env X D K F0 z7 n ρ'' (base f (.con rc) X x ms.st.addr ct'' [] (aK ms.cur)).length s3.heap)
   (fun _ _=>False) s2) (fun _ _=>False) s:=by
 obtain ⟨hn,ρL,F,lo,RL,L,DL,KT⟩:=hΦ;obtain ⟨m1,m2,ct',f1,n1,f2,n2,hd,p1,p2,hcc,z0,z1,z2⟩:=xn hc z6 R;have RB:=R.pick (ks:=[]) f1 n1;have RT:=R.pick (ks:=[]) f2 n2;have DBT:=o9 (ks:=[]) (ks':=[]) R f1 f2 hd;have DLB:=DL.pick (ks:=[]) f1;have DLT:=DL.pick (ks:=[]) f2;have KB:=KT.pick (ks:=[]) f1;have KT2:=KT.pick (ks:=[]) f2;rw[p1] at RB DBT DLB KB;rw[p2] at RT DBT DLT KT2;obtain ⟨o1,o2,o3⟩:=hB n (by exact hn)
 have hlen:(aI X D K lo RL).length=kOf RL/\d8 (bh ρ m2) (dv (aI X D K lo RL).length (aM 0 (tkN z7 n)).length) (aM 0 (tkN z7 n))=aM (kOf RL) (tkN z7 n):=by
  have H:=L.hold;generalize bD z7 (n+1)=its at H
  cases H with
  | empty=>exact ⟨rfl,Cf _ _⟩
  | last _ _=>exact ⟨rfl,Ce _ _⟩
 obtain ⟨hk,hup⟩:=hlen;have RJ:=L.rel.join RT DLT (by cases tkN z7 n<;>simp[aM])
 rw[hup] at RJ;have tl:(aM (kOf RL) (tkN z7 n)).length=(aM 0 (tkN z7 n)).length:=zS _ _ _;have DBJ:=Disj.join DLB.symm DBT (σ':=aM (kOf RL) (tkN z7 n)) tl;have KJ:Kept F (aI X D K lo RL++aM (kOf RL) (tkN z7 n)).length (c6 (aI X D K lo RL).length ρL (bh ρ m2)) s.heap:=Kept.join L.kept KT2 tl;have l3:3<=(aI X D K lo RL).length:=by unfold aI;simp only[List.length_cons];exact Nat.le_add_left 3 RL.length
 have lJ:(aI X D K lo RL++aM (kOf RL) (tkN z7 n)).length=(aI X D K lo RL).length+(aM 0 (tkN z7 n)).length:=by rw[List.length_append,tl]
 have hv:VRel (aI X D K lo RL++aM (kOf RL) (tkN z7 n)).length (c6 (aI X D K lo RL).length ρL (bh ρ m2)) (.ptr (kOf RL)) (.ref (ρ (10+(aK ms.cur).length))):=by
  refine ⟨by rw[lJ,hk];cases tkN z7 n<;>(simp[aM]),?_⟩
  rw[<- hk];have:=d6 (ρ₁:=ρL) (ρ₂:=bh ρ m2) (aI X D K lo RL).length 0;rw[Nat.zero_add] at this;rw[this,cp z2]
 have hE:EnvR (aI X D K lo RL++aM (kOf RL) (tkN z7 n)).length (c6 (aI X D K lo RL).length ρL (bh ρ m2)) env 0 lscope [(aD,1)] :=
  h9 hes heg heb (by rw[dj (by exact Qn (AO.cell none::lo::RL).length)];exact L.h0) (by rw[dj (by exact Nat.one_lt_succ_succ (lo::RL).length)];exact L.h1) (by rw[lJ];lia)
 refine wpAny_assign_Name (wpAny_mono ((iR (es:=⟨aI X D K lo RL++aM (kOf RL) (tkN z7 n),[]⟩) RJ hE aD hv).go (Cg X D K lo RL (kOf RL) (tkN z7 n)) (fun _ h=>noM h)
  (Q:=fun _ s'=>∃ ρ1,Stp w.params z5 (c6 (aI X D K lo RL).length ρL (bh ρ m2)) (aI X D K lo RL++aM (kOf RL) (tkN z7 n)) s ρ1 (bE X D K lo RL (kOf RL) (tkN z7 n)) s') (E:=fun _ _=>False) fun c s' ρ1 S r=>⟨ρ1,S⟩) (fun _ s2 zz=>?_) fun _ _ x=>x)
 obtain ⟨ρ1,S1⟩:=zz;have hE2:=S1.env hE;have KC:=KJ.step S1;obtain ⟨RB2,D2⟩:=RB.beside S1 DBJ;refine wpAny_mono (Gi EV o1 o2 o3 L.hold S1.rel hE2 KC) (fun fl s3 z=>?_) fun _ _ x=>x;obtain ⟨hf,ρ',⟨F',lo',R',M,K',k1,k2,HO⟩,hρ⟩:=z;have M:Move w.params z5 ρ1 (bE X D K lo RL (kOf RL) (tkN z7 n)) s2 ρ' (aI X D K lo' R') s3:=M;have K':Kept F' (aI X D K lo' R').length ρ' s3.heap:=K';obtain ⟨RB3,D3⟩:=RB2.besideM M D2;have e1:∀ j,j < 3->ρ' j=ρL j:=fun j hj=>(hρ j hj).trans ((S1.ext j (by rw[lJ];lia)).trans (dj (by exact Qd hj l3)));refine ⟨hf,⟨M.gens.trans S1.gens,M.os.trans S1.os⟩,bh ρ m1,ct',RB3,cp z0,cp z1,hcc,by exact Qk hn,ρ',F',lo',R',⟨M.rel,(e1 0 (by exact Qn 2)).trans L.h0,by rw[L.h1,e1 1 (by exact Nat.one_lt_succ_succ 1)],K',fun p hp=>k1 p (L.sub p hp),?_⟩,D3.symm,K'.here,fun p hp i hi=>?_⟩
 ·rw[xU (by exact hn)];exact HO
 ·rcases k2 p hp with h | ⟨j,hj,h⟩ | h
  ·exact KB.apart p h i hi
  ·rw[h];exact D2 i j hi hj
  ·exact Qh (Qd (RB2.low hi) h)
end
end TE
namespace TE
noncomputable def Hg:Str := "__iter__"
section
variable {prog:Program} {w:World} {z5:Heap} {A:Around} {s:Shared}
theorem on (X:eN w z5) (hk:∀ b o,z5.get? b=some o->s.heap.get? b=some o) {x d:Addr} (ho:s.heap.get? x=some (instObj 762 d)) {Q:Option Value->Shared->Prop} {E:Value->Shared->Prop} (h:Q (some (.ref 268)) s) :
  wpAny (model prog w) A (specialOf (.ref x) "__iter__") Q E s:=by
 obtain ⟨K,X1,i1,i2⟩:=X.iter
 have L:Looks (model prog w) s.heap (specialOf (.ref x) "__iter__") (some (.ref 268)) :=
  (show Looks (model prog w) s.heap (typeOf (.ref x)) (.ref 762) from (Looks.ld ho).andThen .now).andThen (looks_findIn (X1.keeps hk) i1)
 exact L.here h
theorem yP (X:eN w z5) (hk:∀ b o,z5.get? b=some o->s.heap.get? b=some o) {x d:Addr} (ho:s.heap.get? x=some (instObj 762 d)) {refuse:Sem Value} {Q:Option Value->Shared->Prop} {E:Value->Shared->Prop}
  (h:wpAny (model prog w) A (call (.ref 268) [.ref x]) (fun v=>Q (some v)) E s):wpAny (model prog w) A (callSpecialIfBoundUnlessNone? (.ref x) "__iter__" refuse) Q E s:=by
 refine ag fun G0 hG0=>?_;obtain ⟨K,X1,i1,i2⟩:=X.iter;refine hG0 ?_
 obtain ⟨of,hof,hcls⟩:∃ of,s.heap.get? 268=some of/\of.cls=.type "function" := by
  obtain ⟨o,e1,e2⟩:=Option.map_eq_some_iff.mp (show (K.lookup 268).map (·.cls)=some (.type "function") from i2);exact ⟨o,hk _ _ (X1 _ _ e1),e2⟩
 simp only[callSpecialIfBoundUnlessNone?,bindSpecialIfBound?];refine wpAny_holding (wpAny_bind (wpAny_bind (on X hk ho ?_)));refine wpAny_bind (wpAny_askSetting (wpAny_ite ?_))
 have fin:wpAny (model prog w) A (if (Value.ref 268==Value.none)=true then (refuse>>=fun v=>pure (some v)) else (call (.ref 268) [.ref x]>>=fun v=>pure (some v))) Q E s:=by
  rw[if_neg (by decide)];exact wpAny_bind (wpAny_mono h (fun v s' h'=>wpAny_pure h') fun _ _ x=>x)
 split
 ·exact wpAny_bind (wpAny_bindSpecial_def hof hcls (wpAny_pure (by exact fin)))
 ·exact wpAny_tryCatch (wpAny_bind (wpAny_bindSpecial_def hof hcls (wpAny_pure (by exact fin))))
theorem AQ (X:eN w z5) (hk:∀ b o,z5.get? b=some o->s.heap.get? b=some o) {x d:Addr} (ho:s.heap.get? x=some (instObj 762 d)) {Q:Value->Shared->Prop} {E:Value->Shared->Prop}
  (h:wpAny (model prog w) A (call (.ref 268) [.ref x]) (fun it s'=>∃ a g,it=.ref a/\s'.heap.IsGen a g/\Q it s') E s):wpAny (model prog w) A (pyIter (.ref x)) Q E s:=by
 dsimp only[pyIter];refine wpAny_bind (on X hk ho ?_);show wpAny _ A (callSpecialIfBoundUnlessNone? (.ref x) "__iter__" _>>=_) Q E s;refine wpAny_bind (yP X hk ho (wpAny_mono h (fun v s' h'=>?_) fun _ _ x=>x));refine ag fun G0 hG0=>?_;obtain ⟨a,g,rfl,hg,hq⟩:=h';refine hG0 ?_;exact wpAny_bind (wpAny_specialOf hg.typeIs slot_gen_next.lookup (wpAny_pure hq))
theorem yj:bL.1=⟨[],[⟨⟨#[115,101,108,102]⟩,none,⟨193,17,193,21⟩⟩],none,[],[],none,[]⟩:=by kernel_rfl
theorem yk:gscope.names.all (fun x=>x.2 != .cell)=true:=by kernel_rfl
theorem AU:gscope.names.lookup ⟨#[115,101,108,102]⟩=some .local:=by decide +kernel
theorem C7:gscope.isGenerator=true:=by kernel_rfl
theorem AW (X:eN w z5) (hk:∀ b o,z5.get? b=some o->s.heap.get? b=some o) (hlim:z5.NoLimit) (hd:A.depth < 900) {x:Addr} {R:Result->Shared->Prop}
  (h:∀ (genv:Env) (h1:Heap) (k:Nat) (nm qn:Value),genv.scope=gscope->genv.globals=mainGlobals->genv.builtins=builtinsNs->genv.locals=s.heap.objs.size->h1.Ns genv.locals (fun y=>[((⟨#[115,101,108,102]⟩:Str),Value.ref x)].lookup y)->(∀ b o,s.heap.get? b=some o->h1.get? b=some o)->s.heap.objs.size<=h1.objs.size ->
   R (.ok (.ret (.ref h1.objs.size))) { s with gens:=s.gens.push (.fresh (.func bL.2.1 genv)),toks:=k,heap:=h1.push { cls:=.type "generator",data:=.fields #[.int s.gens.size 0,nm,qn] } }) :
  codeAny (model prog w) A (.call (.ref 268) ⟨[.ref x],[]⟩) R s:=by
 refine ag fun G0 hG0=>?_;obtain ⟨K,X1,q1,q2⟩:=X.gen;refine hG0 ?_;dsimp only[fnB] at q1;dsimp only[c9] at q2
 cases q:gS (K.lookup 268) with
 | none=>rw[q] at q1;exact noT q1
 | some x =>
  obtain ⟨oc,od,fd,osl⟩:=x;rw[q] at q1 q2;have q:K.lookup 268=some ⟨oc,od,.func fd,osl⟩:=lB q;dsimp only at q1 q2;simp only[Option.some.injEq,Prod.mk.injEq] at q2;refine ag fun G0 hG0=>?_;obtain ⟨p1,p2,p3⟩:=q2;obtain ⟨q1,dfl⟩:=Qx q1;obtain ⟨q1,cd⟩:=Qx q1;obtain ⟨gl,bl⟩:=Qx q1;have p3:fd.scope=gscope:=p3;obtain ⟨rr,hr⟩:=rK X1 dfl hk;refine hG0 ?_;refine codeAny_call_generator (body:=bL.2.1) (Nat.lt_trans hd (by decide)) (hk _ _ (X1 _ _ q)) rfl (by rw[p3];exact lT) (by rw[p3];exact C7) p2 (codeRec_of (X1.keeps hk) cd) ?_;refine qG (vs:=[.ref x]) (p1.trans yj) rfl (by simp) hr _ _ _ _ ?_;refine wpAny_newFunctionEnv (fun y hy=>by rw[p3] at hy;have:=List.all_eq_true.mp yk y hy;simpa using this) (fun y hy=>?_) (fun h' hns hsb=>?_) (by rw[p3];exact ox)
  ·rw[p3];simp only[List.map_cons,List.map_nil,List.zip_cons_cons,List.zip_nil_right,List.mem_singleton] at hy;subst hy;exact AU
  ·have up:∀ b o,s.heap.get? b=some o->h'.get? b=some o:=fun b o e=>hsb.extBut b o (Qh (Qg e)) (Qe _ e);refine ⟨hlim.keeps fun b o e=>up b o (hk b o e),h _ h' _ _ _ p3 (beq_iff_eq.mp gl) (beq_iff_eq.mp bl) rfl ?_ up ?_⟩
   ·exact hns
   ·rw[hsb.1,Qs];exact Nat.le_succ _
end
end TE
namespace TE
set_option backward.match.sparseCases false
set_option tactic.hygienic false
theorem xE {P:Params} {n:Nat} {ρ:Nat->Addr} {h h':Heap} {a:Addr} {x:AO} (hd:x≠.dead) (hk:∀ o,h.get? a=some o->h'.get? a=some o) (H:ORel P n ρ h a x):ORel P n ρ h' a x:=by
 cases x with
 | list xs=>obtain ⟨its,ep,e,q⟩:=H;exact ⟨its,ep,hk _ e,q⟩
 | snoc ys xs=>obtain ⟨its,ep,zs,e,z,q⟩:=H;exact ⟨its,ep,zs,hk _ e,z,q⟩
 | numl ns=>obtain ⟨its,ep,e,q⟩:=H;exact ⟨its,ep,hk _ e,q⟩
 | tuple xs=>obtain ⟨its,ep,e,q⟩:=H;exact ⟨its,ep,hk _ e,q⟩
 | dict es=>obtain ⟨ents,ep,e,q,z⟩:=H;exact ⟨ents,ep,hk _ e,q,z⟩
 | inst C d=>exact ⟨H.1,hk _ H.2⟩
 | meth f self=>obtain ⟨v,e,q⟩:=H;exact ⟨v,hk _ e,q⟩
 | ns loc=>obtain ⟨m,e,q⟩:=H;exact ⟨m,e.at hk,q⟩
 | cell v=>obtain ⟨o,v',e,d,q⟩:=H;exact ⟨o,v',hk _ e,d,q⟩
 | iter l i=>obtain ⟨b,q,e⟩:=H;exact ⟨b,q,e.at hk⟩
 | dead=>exact (hd rfl).elim
noncomputable def kc:List AO->Bool
 | []=>true
 | .dead::_=>false
 | _::r=>kc r
theorem pp:∀ {l:List AO} {i:Nat} {o:AO},kc l=true->l[i]?=some o->o≠.dead
 | [],_,_,_,h=>by cases h
 | a::r,0,o,e,h=>by
  obtain rfl:=Qb h
  rintro rfl
  exact noT e
 | a::r,i+1,o,e,h=>by
  refine pp (l:=r) (i:=i) ?_ h
  cases a<;>first | exact e | exact noT e
theorem Rel.keep' {P:Params} {z5 h h':Heap} {ρ:Nat->Addr} {σ:List AO} (R:Rel P z5 ρ σ h) (nd:kc σ=true) (hl:0 < σ.length) (hk:∀ b o,h.get? b=some o->h'.get? b=some o):Rel P z5 ρ σ h':=by
 have own:∀ i o,σ[i]?=some o->ORel P σ.length ρ h' (ρ i) o:=fun i o e=>xE (pp nd e) (hk _) (R.own i o e);exact ⟨Qf (R.high 0 hl) (Qk (own 0 _ (Qo hl)).lt),fun b o e=>hk b o (R.keep b o e),own,R.high,R.inj⟩
theorem q8 {F:List (Addr×Obj)} {k:Nat} {its:List It} {lo:AO} {R:List AO} {X:Str} {D K:Value} (H:Hold F k its lo R):kc (aI X D K lo R)=true:=by cases H<;>rfl
structure n3 (P:Params) (z5:Heap) (env:Env) (f:Fx) (X:Str) (D K:Value) (TK:Addr) (F0:List (Addr×Obj)) (z7:List Tok) (os0:OsState) (s':Shared):Prop where
 gens:s'.gens=#[.finished]
 os:s'.os=os0
 led:∃ (ρT ρL:Nat->Addr) (rc:Value) (ct:AV) (F:List (Addr×Obj)) (lo:AO) (R:List AO),Rel P z5 ρT (base f (.con rc) X (br X) 304 ct [] []) s'.heap/\ρT 1=TK/\gW P z5 env X D K F0 (bD z7 0) ρL F lo R s'.heap/\Disj (aI X D K lo R).length ρL (base f (.con rc) X (br X) 304 ct [] []).length ρT /\
  Kept F (base f (.con rc) X (br X) 304 ct [] []).length ρT s'.heap
section
variable {prog:Program} {w:World} {z5:Heap} {A:Around} {env genv:Env} {f:Fx} {X:Str} {D K:Value} {F0:List (Addr×Obj)} {z7:List Tok} {TK G:Addr} {nm qn:Value}
noncomputable def cZ (nm qn:Value):Obj:={ cls:=.type "generator",data:=.fields #[.int (0:Nat) 0,nm,qn] }
theorem A5 (EV:aR prog w z5 A env 0 lscope [(aD,1)] (lev fz)) (hA:A.handled=none) (hd:A.depth < 900) (hlim:z5.NoLimit) (hes:env.scope=lscope) (heg:env.globals=mainGlobals) (heb:env.builtins=builtinsNs)
  (hB:∀ n,n < z7.length->fM (tkN z7 n)/\(bD z7 (n+1)).length<=5000/\∀ i∈bD z7 (n+1),i.pl.length<=20000) (hG:(G,cZ nm qn)∈F0) {px:Pos} {os0:OsState} {R:Result->Shared->Prop}
  (hR:∀ s',n3 w.params z5 env f X D K TK F0 z7 os0 s'->R (.ok .next) s') {s:Shared}
  (h:∃ gs,s.gens=#[gs]/\s.os=os0/\gs.Goes (model prog w) A.in1 (RP w.params z5 f X genv TK (ex w.params z5 env X D K F0 z7)) (YP w.params z5 f X (tkN z7) genv TK (ex w.params z5 env X D K F0 z7)) z7.length (.send .none) (s.setGen 0 .running) /\
   ∃ (ρL:Nat->Addr) (F:List (Addr×Obj)) (lo:AO) (R:List AO),gW w.params z5 env X D K F0 (bD z7 z7.length) ρL F lo R s.heap) :
  codeAny (model prog w) A (.forLoop (.Name aD px) (.ref G) jm [] env) R s:=by
 refine codeAny_forLoop (fun n s=>n<=z7.length/\∃ gs,s.gens=#[gs]/\s.os=os0/\gs.Goes (model prog w) A.in1 (RP w.params z5 f X genv TK (ex w.params z5 env X D K F0 z7)) (YP w.params z5 f X (tkN z7) genv TK (ex w.params z5 env X D K F0 z7)) n (.send .none) (s.setGen 0 .running) /\
   ∃ (ρL:Nat->Addr) (F:List (Addr×Obj)) (lo:AO) (R:List AO),gW w.params z5 env X D K F0 (bD z7 n) ρL F lo R s.heap) ?_ z7.length ⟨Qa _,h⟩
 rintro n s ⟨hn,gs,g1,g2,g3,ρL,F,lo,RL,L⟩
 have hg:s.heap.IsGen G 0:=⟨_,nm,qn,L.kept.here _ (L.sub _ hG),rfl,rfl,rfl⟩
 have grun:(s.setGen 0 .running).gens=#[.running]:=by
  show s.gens.setIfInBounds 0 .running=_;rw[g1];rfl
 refine wpAny_pyNext_gen (P:=PP w.params z5 f X genv TK (ex w.params z5 env X D K F0 z7)) (Y:=YP w.params z5 f X (tkN z7) genv TK (ex w.params z5 env X D K F0 z7)) hA (hlim.keeps L.rel.keep) (Nat.lt_trans hd (by decide)) hg (gs:=gs) (by rw[g1];rfl) g3 (fun v s₁ gs' y=>?_) (fun s₁ hp h' hk=>?_)
 ·obtain ⟨ρ,rc,x,ct,ms,sm,hc,RT,h0,h1,z6,rfl,hP,wake,s'',nv⟩:=y
  cases n with
  | zero=>exact nv.elim
  | succ m =>
   dsimp only;have st:=qw (s:=s₁.setGen 0 gs') (px:=px) EV hes heg heb hB hc RT z6 hP;refine wpAny_mono st (fun _ s2 h2=>wpAny_mono h2 (fun fl s3 zz=>?_) fun _ _ x=>x.elim) fun _ _ x=>x.elim;obtain ⟨rfl,sm3,ρ'',ct'',r1,r2,r3,r4,r5⟩:=zz;have gg:s₁.gens=#[.running]:=sm.gens.trans grun
   have g3':s3.gens=#[gs']:=by
    rw[sm3.gens];show s₁.gens.setIfInBounds 0 gs'=_;rw[gg];rfl
   obtain ⟨q0,ρL',F',lo',R',L',_,_⟩:=id r5;refine ⟨m,Qt _,by exact q0,gs',g3',?_,wake (s3.setGen 0 .running) ρ'' ct'' r1 (r2.trans h0) (r3.trans h1) r4 r5,ρL',F',lo',R',L'⟩;have:(s₁.setGen 0 gs').os=s₁.os:=rfl;rw[sm3.os,this,sm.os];exact g2
 ·obtain ⟨hn0,sm,ρ,rc,ct,RT,h0,h1,q0,ρL',F',lo',R',L',D',K'⟩:=hp;refine wpAny_execs_nil (hR _ ⟨?_,?_,ρ,ρL',rc,ct,F',lo',R',RT.keep' rfl (by rw[di];exact Qn 9) hk,h1,⟨L'.rel.keep' (q8 L'.hold) (by unfold aI;simp) hk,L'.h0,L'.h1,⟨fun p hp=>hk _ _ (L'.kept.here p hp),L'.kept.apart⟩,L'.sub,L'.hold⟩,D',⟨fun p hp=>hk _ _ (K'.here p hp),K'.apart⟩⟩)
  ·show s₁.gens.setIfInBounds 0 .finished=_;rw[sm.gens.trans grun];rfl
  ·exact sm.os.trans g2
end
end TE
namespace TE
set_option tactic.hygienic false
noncomputable def t4:Pos:=⟨1245,8,1245,13⟩
noncomputable def GD:Expr:=.Name dQ ⟨1245,17,1245,26⟩
theorem GU:lst 6=.For (.Name aD t4) GD jm [] ⟨1245,4,1259,24⟩:=by kernel_rfl
theorem wo:lk lscope.names dQ=some .local:=by kernel_rfl
noncomputable def mF:List Nat:=[9,0,1,2,3,4,5,6,7,8]
theorem jF (ρ:Nat->Addr) (f:Fx) (X:Str):TE.pick ρ mF [] (dh f X++[.ns [(⟨#[115,101,108,102]⟩,.ptr 0)]])=gz f X:=by kernel_rfl
section
variable {prog:Program} {w:World} {z5:Heap} {K:Frag} {A:Around} {env:Env} {f:Fx} {X:Str} {D:Value} {F0:List (Addr×Obj)} {z7:List Tok} {TK:Addr} {s:Shared}
theorem Dp (hex:∃ Γ:Ctx,Γ.In A) (B:Bt prog w z5 K tab) (FX:eN w z5) (hA:A.handled=none) (hd:A.depth<=840) (hes:env.scope=lscope) (heg:env.globals=mainGlobals) (heb:env.builtins=builtinsNs)
  (hB:∀ n,n < z7.length->fM (tkN z7 n)/\(bD z7 (n+1)).length<=5000/\∀ i∈bD z7 (n+1),i.pl.length<=20000) (hz:X.length<=10240) (ok:∀ c∈X.cps.toList,cD c) (DR:eO (tkN z7) z7.length ⟨.data,.none,X.cps.toList⟩)
  {ρL ρT:Nat->Addr} {lo:AO} {R:List AO} (hg:s.gens=#[]) (L:gW w.params z5 env X D (.ref TK) F0 [] ρL F0 lo R s.heap) (RT:Rel w.params z5 ρT (dh f X) s.heap) (hTK:ρT 0=TK) (DD:Disj (aI X D (.ref TK) lo R).length ρL (dh f X).length ρT) (KT:Kept F0 (dh f X).length ρT s.heap) :
  wpAny (model prog w) A (exec (lst 6) env) (fun fl s'=>fl=.next/\∃ G nm qn,n3 w.params z5 env f X D (.ref TK) TK ((G,cZ nm qn)::F0) z7 s.os s') (fun _ _=>False) s:=by
 have EV:=sG (env:=env) B FX.fn (ww B hA) hA (by lia);have hkf:env.scope.kind=.function:=by rw[hes];exact ez
 rw[GU];refine ag fun G0 hG0=>?_;obtain ⟨m,n1,n2⟩:=L.rel.own 0 _ rfl;obtain ⟨v,hv,rfl⟩:=n2 dQ (.con (.ref TK)) (by kernel_rfl);obtain ⟨hdl,hio⟩:=RT.own 0 _ rfl;refine hG0 ?_;rw[hTK] at hio;refine wpAny_For (cU (by decide +kernel) hkf (dk hes wo) (L.h0▸n1) hv ?_) (fun _=>rfl);refine AQ FX L.rel.keep hio (wpAny_call (AW FX L.rel.keep B.lim (by lia) fun genv h1 k nm qn e1 e2 e3 e4 hns hk hsz=>?_));have gsz:s.gens.size=0:=by rw[hg];rfl
 have hobj:({ cls:=.type "generator",data:=.fields #[.int s.gens.size 0,nm,qn] }:Obj)=cZ nm qn:=by rw[gsz];rfl
 rw[hobj];have hk2:∀ b o,s.heap.get? b=some o->(h1.push (cZ nm qn)).get? b=some o:=fun b o e=>Qe _ (hk b o e);have hG:(h1.push (cZ nm qn)).get? h1.objs.size=some (cZ nm qn):=Qi _ rfl;refine ⟨h1.objs.size,0,rfl,⟨_,nm,qn,hG,rfl,rfl,rfl⟩,?_⟩
 have S:=Stp.new (t:=k) (o:=.ns [(⟨#[115,101,108,102]⟩,.ptr 0)]) (a:=genv.locals) (h':=h1.push (cZ nm qn)) RT (by rw[e4];exact Qa _) (by rw[Qs];lia) hk2 (by
  refine ⟨_,hns.push _,fun x av hx=>?_⟩;have hx:(match seq (⟨#[115,101,108,102]⟩:Str) x with | true=>some (AV.ptr 0) | false=>none)=some av:=hx
  cases q:seq (⟨#[115,101,108,102]⟩:Str) x with
  | false=>rw[q] at hx;exact non hx
  | true =>
   rw[q] at hx;obtain rfl:=Qb hx;rw[<- (bt _ _).mp q];refine ⟨.ref TK,by simp,by show 0 < (dh f X).length+1;exact Qn (dh f X).length,?_⟩;rw[da _ _ (by show 0 < 9;exact Qn 8),hTK])
 obtain ⟨RL,DL⟩:=L.rel.beside S DD;have MP:=Move.pick (m:=mF) (ks:=[]) S.rel rfl (by decide);rw[jF] at MP;have DL2:=DL.pick (m:=mF) (ks:=[]) rfl;rw[jF] at DL2;have lowL:∀ i,i < (aI X D (.ref TK) lo R).length->ρL i < h1.objs.size:=fun i hi=>Qd (L.rel.low hi) hsz;have lowF:∀ p∈F0,p.1 < h1.objs.size:=fun p hp=>Qd (Qg (L.kept.here p hp)) hsz
 have KL:Kept ((h1.objs.size,cZ nm qn)::F0) (aI X D (.ref TK) lo R).length ρL (h1.push (cZ nm qn)) :=
  Kept.cons ⟨fun p hp=>hk2 _ _ (L.kept.here p hp),L.kept.apart⟩ hG fun i hi=>Qh (lowL i hi)
 have K1:=(KT.step S).pick (m:=mF) (ks:=[]) rfl;rw[jF] at K1;have r0:bh (ext1 ρT (dh f X).length genv.locals) mF 0=genv.locals:=(cp (show mF[0]?=some 9 from rfl)).trans (dZ _ 9 _);have r1:bh (ext1 ρT (dh f X).length genv.locals) mF 1=TK:=(cp (show mF[1]?=some 0 from rfl)).trans ((da _ _ (by show 0 < 9;exact Qn 8)).trans hTK)
 have KTn:Kept ((h1.objs.size,cZ nm qn)::F0) (gz f X).length (bh (ext1 ρT (dh f X).length genv.locals) mF) (h1.push (cZ nm qn)) :=
  Kept.cons K1 hG fun i hi=>by
   have:=MP.rel.low hi;obtain ⟨j,j1,j2,j3⟩:=dX (ρ:=ext1 ρT (dh f X).length genv.locals) (m:=mF) (ks:=[]) (σ:=dh f X++[.ns [(⟨#[115,101,108,102]⟩,.ptr 0)]]) rfl (by rw[jF];exact hi);rw[j3]
   by_cases q:j < (dh f X).length
   ·rw[da _ _ q];exact Qh (Qd (RT.low q) hsz)
   ·have:j=(dh f X).length:=by rw[List.length_append] at j1;simp only[List.length_cons,List.length_nil] at j1;exact Nat.eq_of_lt_succ_of_not_lt j1 q
    rw[this,dZ,e4];exact Qh (Qd (by rw[<- e4];exact hns.lt) (Qa _))
 have LN:gW w.params z5 env X D (.ref TK) ((h1.objs.size,cZ nm qn)::F0) (bD z7 z7.length) ρL ((h1.objs.size,cZ nm qn)::F0) lo R (h1.push (cZ nm qn)) :=
  ⟨RL,L.h0,L.h1,KL,fun _ h=>h,by
   rw[AN];have H:=L.hold;generalize hi:([]:List It)=its at H ⊢
   cases H with
   | empty=>exact .empty
   | last _ _=>exact absurd hi.symm (by simp)⟩
 have dA:A.in1.depth<=850:=by show A.depth<=850;lia
 refine A5 (X:=X) (D:=D) (K:=.ref TK) (G:=h1.objs.size) (nm:=nm) (qn:=qn) (genv:=genv) (f:=f) (TK:=TK) (os0:=s.os) (F0:=(h1.objs.size,cZ nm qn)::F0) EV hA (by lia) B.lim hes heg heb hB (.head _) (fun s' e=>⟨rfl,h1.objs.size,nm,qn,e⟩) ⟨.fresh (.func bL.2.1 genv),by show s.gens.push _=_;rw[hg];rfl,rfl,⟨rfl,?_⟩,ρL,_,lo,R,LN⟩;refine yi (f:=f) B FX.fn hz ok (A:=A.in1) hA dA e1 e2 e3 xM (fun n ρ rc x ct ms s hc R h0 h1 z6 hΦ=>?_) DR ⟨rfl,rfl⟩ MP.rel r0 r1 ⟨Qa _,ρL,_,lo,R,LN,DL2,KTn⟩;refine ag fun G0 hG0=>?_;obtain ⟨_,s2,h2⟩:=pV hex (qw (px:=t4) EV hes heg heb hB hc R z6 hΦ);obtain ⟨fl,s3,_,_,ρ'',ct'',r1,r2,r3,r4,r5⟩:=pV hex h2;refine hG0 ?_;exact ⟨s3,ρ'',ct'',r1,r2.trans h0,r3.trans h1,r4,r5⟩
end
end TE
namespace TE
set_option backward.match.sparseCases false
set_option tactic.hygienic false
open PySem PySem.W PySem.Calls PyProof.Rows PySem.Spec PySem.SeqAt
noncomputable def dw:Str:=⟨#[114,111,119,115]⟩
noncomputable def El:Str:=⟨#[115,112,108,105,116]⟩
noncomputable def kX:Expr:=.Call (.Attribute (.Attribute (.Name dQ ⟨1261,26,1261,35⟩) ⟨#[115,116,114,101,97,109]⟩ ⟨1261,26,1261,42⟩) ⟨#[112,111,115,105,116,105,111,110]⟩ ⟨1261,26,1261,51⟩) [] [] ⟨1261,26,1261,53⟩
noncomputable def nu (p:Pos):Expr:=.Name dw p
noncomputable def AG:Expr:=.Call (.Name ju ⟨1261,58,1261,61⟩) [nu ⟨1261,62,1261,66⟩] [] ⟨1261,58,1261,67⟩
noncomputable def F6:Expr:=.Subscript (nu ⟨1261,73,1261,77⟩) (.UnaryOp .USub (.Constant (.int 1) 0 ⟨1261,79,1261,80⟩) ⟨1261,78,1261,80⟩) ⟨1261,73,1261,81⟩
noncomputable def AH:Expr:=.Call (.Name ju ⟨1261,69,1261,72⟩) [F6] [] ⟨1261,69,1261,82⟩
noncomputable def mV:Expr:=.Tuple [AG,AH] 0 ⟨1261,57,1261,83⟩
noncomputable def rq:Expr:=.Compare (.Name gx ⟨1261,11,1261,14⟩) [.Eq] [.Name cG ⟨1261,18,1261,21⟩] ⟨1261,11,1261,21⟩
noncomputable def t5:Expr:=.BoolOp .And [rq,.Compare kX [.Eq] [mV] ⟨1261,26,1261,83⟩] ⟨1261,11,1261,83⟩
noncomputable def mT:Expr:=.Call (.Attribute (.Name bX ⟨1260,11,1260,15⟩) El ⟨1260,11,1260,21⟩) [.Constant (.str ⟨#[10]⟩) 0 ⟨1260,22,1260,26⟩] [] ⟨1260,11,1260,27⟩
theorem GT:lst 7=.Assign [.Name dw ⟨1260,4,1260,8⟩] mT ⟨1260,4,1260,27⟩:=by kernel_rfl
theorem GS:lst 8=.Return (some t5) ⟨1261,4,1261,83⟩:=by kernel_rfl
noncomputable def pev:Ev:=ev tab (db tab gV kr 8) bu 0 lscope [] 40
noncomputable def kW (V:Value):AO:=.ns [(dQ,.ptr 2),(dw,.con V)]
noncomputable def iB (ρ:Nat->Addr) (f:Fx) (rc V:Value) (X:Str) (ct:AV):List AO:=kW V::d8 ρ (dv 1 10) (base f (.con rc) X (br X) 304 ct [] [])
noncomputable def ua (r:Option (AV×ES×List Prop)):Option (AO×AO×List Prop):=match r with
 | some (.ptr p,⟨hp,[]⟩,pc)=>(match Nat.blt p hp.length with
  | true=>some (atD hp p,atD hp 0,pc)
  | false=>none)
 | _=>none
theorem CB (ρ:Nat->Addr) (f:Fx) (rc V:Value) (X:Str) (ct:AV):ua (pev.e kX ⟨iB ρ f rc V X ct,[1]⟩)=some (.tuple [.sint (Txt.count X NL+Txt.count ⟨#[]⟩ NL+1),.sint (dx X+0)],kW V,[(0:Int)=((⟨#[]⟩:Str).length:Int)/\(⟨#[]⟩:Str).length<=aa,(0:Int)=((⟨#[]⟩:Str).length:Int)/\(⟨#[]⟩:Str).length<=aa,Txt.rfind ⟨#[]⟩ NL=-1]):=by kernel_rfl
theorem vC:lk lscope.names dw=some .local:=by kernel_rfl
theorem vB:lk lscope.names bX=some .local:=by kernel_rfl
theorem wr:lk lscope.names gx=some .local:=by kernel_rfl
theorem wu:lk lscope.names cG=some .local:=by kernel_rfl
noncomputable def m6:AO->Bool
 | .list []=>true
 | .ns _=>true
 | .inst _ _=>true
 | .dict _=>true
 | .meth _ _=>true
 | _=>false
theorem pj {P:Params} {n:Nat} {ρ:Nat->Addr} {h:Heap} {a:Addr} {o:AO} (hn:m6 o=true) (H:ORel P n ρ h a o) {its:Array Value} (hl:h.IsList a its):its.size=0:=by
 obtain ⟨ob,e,hc,ne,hd⟩:=hl
 cases o with
 | list xs =>
  cases xs with
  | nil =>
   obtain ⟨its',ep,e',q⟩:=H;rw[e] at e';obtain rfl:=Qb e';simp only at hd
   cases hd
   have:=q.length;simpa using this.symm
  | cons _ _=>exact noT hn
 | ns loc =>
  obtain ⟨m,⟨o',es,ep,e',d,_⟩,_⟩:=H;rw[e] at e';obtain rfl:=Qb e';rw[hd] at d;cases d
 | inst C d=>have:=H.2;rw[e] at this;obtain rfl:=Qb this;cases hd
 | dict es=>obtain ⟨ents,ep,e',_⟩:=H;rw[e] at e';obtain rfl:=Qb e';cases hd
 | meth f self=>obtain ⟨v,e',_⟩:=H;rw[e] at e';obtain rfl:=Qb e';cases hd
 | _=>exact noT hn
noncomputable def mw:List AO->Bool
 | []=>true
 | o::r=>m6 o&&mw r
theorem oN:∀ {l:List AO} {i:Nat} {o:AO},mw l=true->l[i]?=some o->m6 o=true
 | [],_,_,_,h=>non h
 | a::r,0,o,e,h=>by cases h;exact (Qx e).1
 | a::r,i+1,o,e,h=>oN (l:=r) (i:=i) (Qx e).2 h
mutual
theorem iU:∀ d:PyData,PySem.Spec.same d d=true
 | .none=>by simp[PySem.Spec.same]
 | .bool _=>by simp[PySem.Spec.same]
 | .int _=>by simp[PySem.Spec.same]
 | .str _=>by simp[PySem.Spec.same]
 | .list xs=>by rw[PySem.Spec.same];exact lj xs
 | .tuple xs=>by rw[PySem.Spec.same];exact lj xs
 | .dict kvs=>by rw[PySem.Spec.same];exact n4 kvs
theorem lj:∀ l:List PyData,PySem.Spec.sameAll l l=true
 | []=>by rw[PySem.Spec.sameAll]
 | a::r=>by rw[PySem.Spec.sameAll,iU a,lj r];rfl
theorem n4:∀ l:List (PyData×PyData),PySem.Spec.samePairs l l=true
 | []=>by rw[PySem.Spec.samePairs]
 | (a,b)::r=>by rw[PySem.Spec.samePairs,iU a,iU b,n4 r];rfl
end
theorem lm {f:α->PyData} (h:∀ x,noMix (f x) (f x)=true):∀ l:List α,noMixAll (l.map f) (l.map f)=true
 | []=>by rw[List.map_nil,noMixAll]
 | a::r=>by rw[List.map_cons,noMixAll,h a,lm h r];rfl
theorem vw (its:List It):noMix (.list (its.map It.data)) (.list (its.map It.data))=true:=by
 rw[noMix];refine lm (fun i=>?_) its;unfold It.data de;have hr:noMixAll (i.row.map fun p=>PyData.tuple [.str p.1,.str p.2]) (i.row.map fun p=>PyData.tuple [.str p.1,.str p.2])=true:=lm (fun p=>by simp[noMix,noMixAll]) _;simp[noMix,noMixAll,hr]
noncomputable def cm (s:Str):Prop:=PyData.strOk s=true
theorem lG {f:α->PyData}:∀ {l:List α},(∀ x∈l,(f x).canLay0=true)->PyData.canLayAll0 (l.map f)=true
 | [],_=>by rw[List.map_nil,PyData.canLayAll0]
 | a::r,h=>by rw[List.map_cons,PyData.canLayAll0,h a (.head _),lG fun x hx=>h x (.tail _ hx)];rfl
theorem ls {f:α->PyData} {n:Nat}:∀ {l:List α},(∀ x∈l,(f x).depth<=n)->PyData.depthAll (l.map f)<=n
 | [],_=>by simp[PyData.depthAll]
 | a::r,h=>by
  have h1:=h a (.head _);have h2:=ls (f:=f) (l:=r) fun x hx=>h x (.tail _ hx);simp only[List.map_cons,PyData.depthAll];exact Nat.max_le_of_le_of_le h1 h2
theorem uF {its:List It} (h:∀ i∈its,cm i.kd/\cm i.pl/\∀ p∈i.row,cm p.1/\cm p.2):shaped (.list (its.map It.data))=true:=by
 unfold shaped;rw[Bool.and_eq_true];constructor
 ·rw[PyData.canLay0];refine lG fun i hi=>?_;obtain ⟨h1,h2,h3⟩:=h i hi
  have hr:PyData.canLayAll0 (i.row.map fun p=>PyData.tuple [.str p.1,.str p.2])=true:=lG fun p hp=>by
   have:=h3 p hp;have a:=this.1;have b:=this.2;unfold cm at a b;simp[PyData.canLay0,PyData.canLayAll0,a,b]
  unfold cm at h1 h2;simp[It.data,de,PyData.canLay0,PyData.canLayAll0,h1,h2,hr]
 ·refine decide_eq_true ?_
  have:PyData.depthAll (its.map It.data)<=10:=ls fun i hi=>by
   have hr:PyData.depthAll (i.row.map fun p=>PyData.tuple [.str p.1,.str p.2])<=3:=ls fun p hp=>by simp[PyData.depth,PyData.depthAll]
   simp only[It.data,de,PyData.depth,PyData.depthAll];lia
  simp only[PyData.depth];lia
end TE
namespace TE
open PySem PySem.W PySem.Calls PyProof.Rows PySem.Spec PySem.SeqAt
section
variable {prog:Program} {w:World} {z5:Heap} {K:Frag} {A:Around} {env:Env} {s:Shared}
theorem Af (hkf:env.scope.kind=.function) (hes:env.scope=lscope) {m:Str->Option Value} (hns:s.heap.Ns env.locals m) {X:Str} {t:PySem.Tok} (hm:m bX=some (.str X t)) (hz:X.length<=10240) (hz2:(Builtin.Str.partsBetween X (Builtin.Str.occurrences X NL 0 X.length (X.length+1)) NL.length).length<=sizeLine)
  {Q:Value->Shared->Prop} {E:Value->Shared->Prop} (h:∀ D l h' k,l.map (·.1)=Txt.split X NL->(∀ b o,s.heap.get? b=some o->h'.get? b=some o)->h'.IsList D (strValues l).toArray->Q (.ref D) { s with heap:=h',toks:=k }) :
  wpAny (model prog w) A (eval mT env) Q E s:=by
 dsimp only[mT];rw[arm_eval_Call,j7 (o:=.Name bX ⟨1260,11,1260,15⟩) rfl];refine wpAny_bind (cU (by decide +kernel) hkf (dk hes vB) hns hm (wpAny_bind (wpAny_standAt ?_)));have few:methodCallForm ([Expr.Constant (.str ⟨#[10]⟩) 0 ⟨1260,22,1260,26⟩].length+([]:List Keyword).length) (backTo ⟨1260,11,1260,27⟩ (starEach [.Constant (.str ⟨#[10]⟩) 0 ⟨1260,22,1260,26⟩] env)) (backToKw ⟨1260,11,1260,27⟩ (keywordEach [] env))=true:=rfl
 have cw:(do
   let callPos <- methodCallPos true (.Name bX ⟨1260,11,1260,15⟩) env ⟨1260,11,1260,21⟩ ⟨1260,11,1260,27⟩
   callWith callPos · · (backTo ⟨1260,11,1260,27⟩ (starEach [.Constant (.str ⟨#[10]⟩) 0 ⟨1260,22,1260,26⟩] env)) (backToKw ⟨1260,11,1260,27⟩ (keywordEach [] env)):Value->List Value->Sem Value)=fun f first=>callWith ⟨1260,11,1260,27⟩ f first (backTo ⟨1260,11,1260,27⟩ (starEach [.Constant (.str ⟨#[10]⟩) 0 ⟨1260,22,1260,26⟩] env)) []:=by
  funext f first
  dsimp only[methodCallPos];rfl
 dsimp only[methodCall];rw[few];refine wpAny_bind (wpAny_holding ?_);refine GM.split ?_;have:=congrFun (congrFun cw (.builtin "str.split")) [.str X t];dsimp only at this ⊢;rw[this];refine callWith_builtin (ff ⟨1260,11,1260,27⟩ rfl) ?_
 suffices L:wpAny (model prog w) A (spliced (backTo ⟨1260,11,1260,27⟩ (starEach [.Constant (.str ⟨#[10]⟩) 0 ⟨1260,22,1260,26⟩] env)))
   (fun vs s'=>wpAny (model prog w) A (call (.builtin "str.split") ([.str X t]++vs)) Q E s') E s by
  rw[cf rfl] at L ⊢;exact evalArgs_plain L
 refine wpAny_items_cons (wpAny_Constant_str (wpAny_items_nil ?_)) (cf rfl []);refine SCH.split1 (s:={ s with toks:=s.toks+1 }) (y:=NL) (P:=fun h'=>∀ b o,s.heap.get? b=some o->h'.get? b=some o) (fun h' ob p b o e=>Qe _ (p b o e)) (fun _ _ e=>e) rfl (fun D l h' k e p hl=>h D l h' k e p hl) (cQ (by unfold aa;lia)) hz2
theorem vm {l:List (Str×PySem.Tok)} {i:Nat} {p:Str×PySem.Tok} (h:l[i]?=some p):(strValues l)[i]?=some (.str p.1 p.2):=by
 dsimp only[strValues];rw[List.getElem?_map,h];rfl
theorem iO (l:List (Str×PySem.Tok)):(strValues l).length=l.length:=by unfold strValues;simp
theorem Aj (B:Bs prog w z5 K tab) (hk:∀ b o,z5.get? b=some o->s.heap.get? b=some o) (hes:env.scope=lscope) (heg:env.globals=mainGlobals) (heb:env.builtins=builtinsNs) {m:Str->Option Value} (hns:s.heap.Ns env.locals m) {Dr:Addr} (hm:m dw=some (.ref Dr))
  {l:List (Str×PySem.Tok)} {x:Str} {t:PySem.Tok} (hl:s.heap.IsList Dr (strValues l).toArray) (hn:0 < l.length) (hz:l.length<=aa) (hlast:l[l.length - 1]?=some (x,t)) (hx:x.length<=aa) {Q:Value->Shared->Prop} {E:Value->Shared->Prop}
  (h:∀ T h' k,(∀ b o,s.heap.get? b=some o->h'.get? b=some o)->Reads h' (.ref T) (.tuple [.int l.length,.int x.length]) []->Q (.ref T) { s with heap:=h',toks:=k }):wpAny (model prog w) A (eval mV env) Q E s:=by
 have hkf:env.scope.kind=.function:=by rw[hes];exact ez
 have hbk:env.blockKind=.function:=by unfold Env.blockKind;rw[hes,ez];rfl
 have lenN:∀ {k:Nat} {p:Pos} {Q:Value->Shared->Prop} {E:Value->Shared->Prop},Q (.builtin "len") { s with toks:=k }->wpAny (model prog w) A (eval (.Name ju p) env) Q E { s with toks:=k }:=fun {k p Q E} hq =>
  f7 (s:={ s with toks:=k }) B hk (v:=.builtin "len") (.inr ⟨.len,by kernel_rfl,rfl⟩) (by decide +kernel) hkf hbk (dk hes oQ) heg heb hq
 have rowN:∀ {k:Nat} {p:Pos} {Q:Value->Shared->Prop} {E:Value->Shared->Prop},Q (.ref Dr) { s with toks:=k }->wpAny (model prog w) A (eval (nu p) env) Q E { s with toks:=k }:=fun {k p Q E} hq =>
  cU (s:={ s with toks:=k }) (by decide +kernel) hkf (dk hes vC) hns hm hq
 have hsz:(strValues l).toArray.size=l.length:=by rw[List.size_toArray,iO]
 have e0:s={ s with toks:=s.toks }:=rfl
 rw[e0];dsimp only[mV];refine wpAny_Tuple ?_;refine wpAny_items_cons (hU rfl (fun Q E hq=>lenN hq) (rowN ?_)) (cf rfl _);refine call_len_list (s:={ s with toks:=s.toks }) hl (by rw[hsz];unfold aa at hz;lia) ?_
 rw[hsz];refine wpAny_items_cons (hU rfl (fun Q E hq=>lenN hq) (Subscript_ (rowN ?_))) (cf rfl _);refine wpAny_UnaryOp (wpAny_Constant_int (P.neg_int ?_));refine tail_any (T := "list") (Heap.IsList.typeIs (s:={ s with toks:=_ }) hl) slot_list_getitem.lookup ?_ (iV (ix:=.UnaryOp .USub (.Constant (.int 1) 0 ⟨1261,79,1261,80⟩) ⟨1261,78,1261,80⟩) rfl _ _)
 refine wpAny_getItem_list_neg (s:={ s with toks:=_ }) hl (by decide) (by rw[hsz];lia) (by decide) (x:=.str x t) (by
  rw[hsz];have:(-1+(l.length:Int)).toNat=l.length - 1:=by lia
  rw[this,<- Qq];exact vm hlast) ?_
 refine P.len_str (s:={ s with toks:=_ }) (by unfold aa at hx;lia) (wpAny_items_nil ⟨pY,?_⟩)
 refine h _ _ _ (fun b o e=>Qe _ e) ?_;exact Reads.tuple (Qi _ rfl) rfl rfl (ReadsAll.cons (Reads.int _ _) (ReadsAll.cons (Reads.int _ _) ReadsAll.nil))
end
open PySem PySem.W PySem.Calls PyProof.Rows PySem.Spec PySem.SeqAt
theorem o6 {F:List (Addr×Obj)}:∀ {vs:List Value} {its:List It},All2 (fun v i=>ReadsF F v (It.data i)) vs its->∃ as,∀ h:Heap,(∀ p∈F,h.get? p.1=some p.2)->ReadsAll h vs (its.map It.data) as
 | [],[],_=>⟨[],fun _ _=>ReadsAll.nil⟩
 | v::vs,i::is,H=>by
  obtain ⟨as,ha⟩:=H.1;obtain ⟨bs,hb⟩:=o6 H.2;exact ⟨as++bs,fun h hh=>ReadsAll.cons (ha h hh) (hb h hh)⟩
 | [],_::_,H=>H.elim
 | _::_,[],H=>H.elim
theorem n8 {h:Heap} {us:List Value} {es:List PyData} {bs:List Addr} (H:ReadsAll h us es bs):∀ {vs:List Value} {ds:List PyData} {as:List Addr},ReadsAll h vs ds as->ReadsAll h (vs++us) (ds++es) (as++bs)
 | [],_,_,.nil=>H
 | _::_,_,_,.cons (as:=as) (bs:=cs) r k=>by
  rw[Qv];exact ReadsAll.cons r (n8 H k)
section
variable {P:Params} {z5 h:Heap} {ρ:Nat->Addr} {σ RR:List AO} {F:List (Addr×Obj)} {k q:Nat} {its:List It} {lo:AO}
theorem ow (R:Rel P z5 ρ σ h) (kp:∀ p∈F,h.get? p.1=some p.2) (H:Hold F k its lo RR) (hq:σ[q]?=some lo) (hk:∀ o,RR=[o]->σ[k]?=some o) :
  ∃ F1:List (Addr×Obj),(∀ p∈F1,h.get? p.1=some p.2/\(p∈F\/∃ i,(i=q\/i=k)/\i < σ.length/\p.1=ρ i))/\ReadsF F1 (.ref (ρ q)) (.list (its.map It.data)):=by
 have ql:q < σ.length:=(Qy hq).1
 cases H with
 | empty =>
  obtain ⟨vs,ep,e1,e2⟩:=R.own q _ hq
  have e3:vs.toList=[]:=by
   generalize vs.toList=l at e2
   cases l with
   | nil=>rfl
   | cons _ _=>exact e2.elim
  refine ⟨[(ρ q,({ cls:=.type "list",data:=.seq vs ep }:Obj))],fun p hp=>?_,[ρ q],fun h' hh=>Reads.list (n:=ep) (hh _ (.head _)) rfl rfl ?_⟩
  ·rw[List.mem_singleton] at hp;subst hp;exact ⟨e1,.inr ⟨q,.inl rfl,ql,rfl⟩⟩
  ·show ReadsAll h' vs.toList _ _;rw[e3];exact ReadsAll.nil
 | last hr hys =>
  rename_i ys its it rr;have hk:=hk _ rfl;have kl:k < σ.length:=(Qy hk).1;refine ag fun G0 hG0=>?_;obtain ⟨vs,ep,zs,e1,e2,e3⟩:=R.own q _ hq
  have e4:zs=[.ref (ρ k)]:=by
   match zs,e3 with
   | [v],e3=>obtain ⟨⟨_,rfl⟩,_⟩:=e3;rfl
   | [],e3=>exact e3.elim
   | _::_::_,e3=>exact e3.2.elim
  obtain ⟨o,o1,o2⟩:=ou R hk;obtain ⟨as,ha⟩:=o2 F _ hr;obtain ⟨bs,hb⟩:=o6 hys;refine hG0 ?_;refine ⟨(ρ q,({ cls:=.type "list",data:=.seq vs ep }:Obj))::(ρ k,o)::F,fun p hp=>?_,ρ q::(bs++(as++[])),fun h' hh=>Reads.list (as:=bs++(as++[])) (n:=ep) (hh _ (.head _)) rfl rfl ?_⟩
  ·rcases Qz hp with rfl | hp
   ·exact ⟨e1,.inr ⟨q,.inl rfl,ql,rfl⟩⟩
   ·rcases Qz hp with rfl | hp
    ·exact ⟨o1,.inr ⟨k,.inr rfl,kl,rfl⟩⟩
    ·exact ⟨kp _ hp,.inl hp⟩
  ·show ReadsAll h' vs.toList _ _;rw[e2,e4,List.map_append];exact n8 (ReadsAll.cons (ha h' fun p hp=>hh p (.tail _ hp)) ReadsAll.nil) (hb h' fun p hp=>hh p (.tail _ (.tail _ hp)))
theorem v6 {l:List (Str×PySem.Tok)} {a:Addr}:Value.ref a ∉ strValues l:=fun h=>by
 dsimp only[strValues] at h;obtain ⟨p,_,e⟩:=List.mem_map.mp h
 cases e
theorem yr {K D:Value} {X:Str} {l:List (Str×PySem.Tok)} {a:Addr} (R:Rel P z5 ρ (aI X D K lo RR) h) (H:Hold F 3 its lo RR) (hl:h.IsList a (strValues l).toArray) (hn:0 < l.length):∀ i,i < (aI X D K lo RR).length->ρ i≠a:=by
 rintro i hi rfl
 have hl':=hl;obtain ⟨ob,e,hc,ne,hd⟩:=hl
 match i,hi with
 | 0,_ =>
  obtain ⟨m,⟨o',es,ep,e',d,_⟩,_⟩:=R.own 0 _ rfl;rw[e] at e';obtain rfl:=Qb e';rw[hd] at d;cases d
 | 1,_ =>
  obtain ⟨o',v,e',d,_⟩:=R.own 1 _ rfl;rw[e] at e';obtain rfl:=Qb e';rw[hd] at d;cases d
 | 2,_ =>
  have O:=R.own 2 lo rfl
  cases H with
  | empty =>
   have:=pj (o:=.list []) rfl O hl';rw[List.size_toArray,iO] at this;exact Qh hn (id (Eq.symm this))
  | last hr hys =>
   obtain ⟨vs,ep,zs,e1,e2,e3⟩:=O;rw[e] at e1;obtain rfl:=Qb e1
   have hd:vs=(strValues l).toArray:=by
    simp only[Data.seq.injEq] at hd;exact hd.1
   match zs,e3 with
   | [v],e3 =>
    obtain ⟨⟨_,rfl⟩,_⟩:=e3;refine v6 (l:=l) (a:=ρ 3) ?_;have:strValues l=vs.toList:=by rw[hd]
    rw[this,e2];simp
   | [],e3=>exact e3.elim
   | _::_::_,e3=>exact e3.2.elim
 | i+3,hi =>
  cases H with
  | empty=>exact absurd hi (by show ¬ i+3 < 3;exact of_decide_eq_false rfl)
  | last hr hys =>
   match i,hi with
   | 0,_ =>
    obtain ⟨vs,ep,e1,_⟩:=R.own 3 _ rfl;rw[e] at e1;obtain rfl:=Qb e1;exact absurd (show Value.type "tuple" = .type "list" from hc) (by decide)
   | i+1,hi=>exact absurd hi (by show ¬ i+4 < 4;exact of_decide_eq_false rfl)
end
noncomputable def nX (X:Str) (D K V:Value) (lo:AO) (R:List AO):List AO:=.ns [(bX,.sstr X),(cG,.con D),(gx,.ptr 2),(dQ,.con K),(dw,.con V)]::.cell none::lo::R
theorem An (X:Str) (D K V:Value) (lo:AO) (R:List AO):putName 0 lscope [(aD,1)] dw (.con V) ⟨aI X D K lo R,[]⟩=some ((),⟨nX X D K V lo R,[]⟩,[]):=by kernel_rfl
theorem wh (ρ:Nat->Addr) (f:Fx) (rc V:Value) (X:Str) (ct:AV):mw (iB ρ f rc V X ct)=true:=by kernel_rfl
section
variable {prog:Program} {w:World} {z5:Heap} {K:Frag} {A:Around} {env:Env} {f:Fx} {X:Str} {D:Value} {F0:List (Addr×Obj)} {z7:List Tok} {TK:Addr} {os0:OsState} {s:Shared} {its:List It}
theorem CR (B:Bt prog w z5 K tab) (FX:eN w z5) (hA:A.handled=none) (hd:A.depth<=840) (hes:env.scope=lscope) (heg:env.globals=mainGlobals) (heb:env.builtins=builtinsNs)
  (EF:n3 w.params z5 env f X D (.ref TK) TK F0 z7 os0 s) (hits:bD z7 0=its) (hdue:ReadsF F0 D (.list (its.map It.data))) (hsh:shaped (.list (its.map It.data))=true) (hz:X.length<=10240)
  (hz2:(Builtin.Str.partsBetween X (Builtin.Str.occurrences X NL 0 X.length (X.length+1)) NL.length).length<=sizeLine)
  {init:List Str} {last:Str} (hsp:Txt.split X NL=init++[last]) (hc:(init.length:Int)=Txt.count X NL) (hl:(last.length:Int)=dx X) (hi:init.length<=20000) (hll:last.length<=20000) (hu:A.units+64 < cLine) :
  wpAny (model prog w) A (execs [lst 7,lst 8] env) (fun fl s'=>fl=.ret (.bool true)/\s'.gens=#[.finished]/\s'.os=os0/\∀ b o,z5.get? b=some o->s'.heap.get? b=some o) (fun _ _=>False) s:=by
 refine ag fun G0 hG0=>?_;obtain ⟨hg,ho,ρT,ρL,rc,ct,F,lo,RL,RT,hT1,L,DD,KT⟩:=EF;rw[hits] at L;have hkf:env.scope.kind=.function:=by rw[hes];exact ez
 obtain ⟨m,n1,n2⟩:=L.rel.own 0 _ rfl;obtain ⟨v,hv,tx,rfl⟩:=n2 bX (.sstr X) (by kernel_rfl);refine hG0 ?_;rw[GT];refine wpAny_execs_cons (wpAny_Assign_Name (Af hkf hes (L.h0▸n1) hv hz hz2 fun RW l h1 k1 hl1 hk1 hRW=>?_));have R1:=L.rel.keep' (q8 L.hold) (by unfold aI;simp) hk1;have T1:=RT.keep' rfl (by rw[di];exact Qn 9) hk1;have K1:Kept F (aI X D (.ref TK) lo RL).length ρL h1:=⟨fun p hp=>hk1 _ _ (L.kept.here p hp),L.kept.apart⟩;have l3:3<=(aI X D (.ref TK) lo RL).length:=by unfold aI;simp only[List.length_cons];exact Nat.le_add_left 3 RL.length
 have hE:EnvR (aI X D (.ref TK) lo RL).length ρL env 0 lscope [(aD,1)]:=h9 hes heg heb L.h0 L.h1 (by exact Qk l3)
 refine wpAny_mono ((iR (es:=⟨aI X D (.ref TK) lo RL,[]⟩) (s:={ s with heap:=h1,toks:=k1 }) R1 hE dw (a:=.con (.ref RW)) rfl).go (An X D (.ref TK) (.ref RW) lo RL) (fun _ h=>noM h)
  (Q:=fun _ s2=>∃ ρ1,Stp w.params z5 ρL (aI X D (.ref TK) lo RL) { s with heap:=h1,toks:=k1 } ρ1 (nX X D (.ref TK) (.ref RW) lo RL) s2) (E:=fun _ _=>False) fun _ s2 ρ1 S _=>⟨ρ1,S⟩) (fun _ s2 zz=>?_) fun _ _ x=>x
 obtain ⟨ρ1,S⟩:=zz;obtain ⟨T2,D2⟩:=T1.beside S DD.symm;have K2:=K1.step S;have e1:∀ j,j < 3->ρ1 j=ρL j:=fun j hj=>S.ext j (by exact Qd hj l3);have lR:(nX X D (.ref TK) (.ref RW) lo RL).length=(aI X D (.ref TK) lo RL).length:=rfl
 have lsz:((strValues l).toArray).size=init.length+1:=by
  rw[List.size_toArray,iO];have:=congrArg List.length hl1;rw[List.length_map,hsp,List.length_append] at this;simpa using this
 have lpos:0 < l.length:=by rw[List.size_toArray,iO] at lsz;exact Nat.lt_of_sub_eq_succ lsz
 have llen:l.length=init.length+1:=by rw[List.size_toArray,iO] at lsz;exact lsz
 have hRW2:s2.heap.IsList RW (strValues l).toArray:=by
  have ap:=yr R1 L.hold hRW lpos;obtain ⟨ob,e,r⟩:=hRW;exact ⟨ob,S.other _ _ ap e,r⟩
 refine wpAny_execs_cons ?_;rw[GS];refine wpAny_Return_some ?_;dsimp only[t5,rq];refine ag fun G0 hG0=>?_;obtain ⟨m2,q1,q2⟩:=S.rel.own 0 _ rfl;obtain ⟨vg,hvg,_,rfl⟩:=q2 gx (.ptr 2) (by kernel_rfl);obtain ⟨vd,hvd,hvD⟩:=q2 cG (.con D) (by kernel_rfl);have hvD:vd=D:=hvD;rw[hvD] at hvd;have q1:s2.heap.Ns env.locals m2:=by rw[<- L.h0,<- e1 0 (by exact Qn 2)];exact q1
 have hold:∃ as,Reads s2.heap (.ref (ρ1 2)) (.list (its.map It.data)) as:=by
  obtain ⟨F1,f1,as,f2⟩:=ow (q:=2) S.rel K2.here L.hold rfl (fun o e=>by rw[e];rfl);exact ⟨as,f2 _ fun p hp=>(f1 p hp).1⟩
 obtain ⟨as,ra⟩:=hold;obtain ⟨bs,rb⟩:=hdue;refine hG0 ?_;refine BoolOp_and (wpAny_Compare1 (cU (by decide +kernel) hkf (dk hes wr) q1 hvg (cU (by decide +kernel) hkf (dk hes wu) q1 hvd (eq_dataH_same ra (rb _ fun p hp=>K2.here p (L.sub p hp)) hsh hsh hu (vw its) ?_))) (by rfl));rw[iU];refine wpAny_truthy_bool ?_;rw[if_pos rfl];refine BoolOp_one (wpAny_Compare1 ?_ (by rfl));have P1:=S.rel.pick (m:=[0]) (ks:=[]) rfl (by decide);have DP:=(D2.pick (m:=[0]) (ks:=[]) rfl).symm;have RJ:Rel w.params z5 (c6 1 (bh ρ1 [0]) ρT) (.ns [(bX,.sstr X),(cG,.con D),(gx,.con (.ref (ρ1 2))),(dQ,.con (.ref TK)),(dw,.con (.ref RW))]::d8 ρT (dv 1 10) (base f (.con rc) X (br X) 304 ct [] [])) s2.heap:=P1.join T2 DP (by rw[di];decide)
 have RP:Rel w.params z5 (c6 1 (bh ρ1 [0]) ρT) (iB ρT f rc (.ref RW) X ct) s2.heap:=by
  refine RJ.weak1 (i:=0) (o':=kW (.ref RW)) rfl fun a O=>?_;obtain ⟨m,o1,o2⟩:=O;refine ⟨m,o1,fun x av hx=>?_⟩;have hx:(match seq dQ x with | true=>some (AV.ptr 2) | false=>match seq dw x with | true=>some (AV.con (.ref RW)) | false=>none)=some av:=hx
  cases g1:seq dQ x with
  | true =>
   rw[g1] at hx;obtain rfl:=Qb hx;rw[<- (bt _ _).mp g1];refine ag fun G0 hG0=>?_;obtain ⟨v,c1,rfl⟩:=o2 dQ (.con (.ref TK)) (by kernel_rfl);refine hG0 ?_;refine ⟨_,c1,by show 2 < 11;exact Nat.lt_of_sub_eq_succ rfl,?_⟩;have:=d6 (ρ₁:=bh ρ1 [0]) (ρ₂:=ρT) 1 1;rw[this,hT1]
  | false =>
   rw[g1] at hx
   cases g2:seq dw x with
   | true =>
    rw[g2] at hx;obtain rfl:=Qb hx;rw[<- (bt _ _).mp g2];obtain ⟨v,c1,c2⟩:=o2 dw (.con (.ref RW)) (by kernel_rfl);exact ⟨_,c1,c2⟩
   | false=>rw[g2] at hx;exact non hx
 have r0:c6 1 (bh ρ1 [0]) ρT 0=env.locals:=(dj (by decide)).trans ((cp (show [0][0]?=some 0 from rfl)).trans ((e1 0 (by exact Qn 2)).trans L.h0))
 have hEP:EnvR (iB ρT f rc (.ref RW) X ct).length (c6 1 (bh ρ1 [0]) ρT) env 0 lscope [] :=
  ⟨hes,ez,pq,by show 0 < 11;exact Qn 10,r0.symm,heg,heb,fun x i h=>non h⟩
 have EP:aR prog w z5 A env 0 lscope [] pev:=gt B (n:=8) (gE B (i0 B FX.fn) (jK B FX.fn) FX.fn 8) (jS (fun f g h=>(jK B FX.fn f g h).1) FX.fn 8) pk ⟨hA,by lia⟩ 40;have pr:=CB ρT f rc (.ref RW) X ct;dsimp only[ua] at pr
 cases g:pev.e kX ⟨iB ρT f rc (.ref RW) X ct,[1]⟩ with
 | none=>rw[g] at pr;exact non pr
 | some y =>
  refine ag fun G0 hG0=>?_;obtain ⟨av,⟨hp,dec⟩,pc⟩:=y;refine hG0 ?_;rw[g] at pr
  cases av with
  | ptr p =>
   cases dec with
   | cons _ _=>exact non pr
   | nil =>
    dsimp only at pr
    cases g2:Nat.blt p hp.length with
    | false=>rw[g2] at pr;exact non pr
    | true =>
     rw[g2] at pr;simp only[Option.some.injEq,Prod.mk.injEq] at pr;obtain ⟨pr1,pr2,pr3⟩:=pr
     have z8:∀ p∈pc,p:=by
      rw[pr3];intro p hp;simp only[List.mem_cons,List.not_mem_nil,or_false] at hp;rcases hp with rfl | rfl | rfl
      ·exact ⟨rfl,by decide⟩
      ·exact ⟨rfl,by decide⟩
      ·decide +kernel
     refine ((EP.e (es:=⟨iB ρT f rc (.ref RW) X ct,[1]⟩) RP hEP kX).go g z8 fun b s3 ρ3 S3 r3=>?_);have p3:p < hp.length:=Qc g2;obtain ⟨_,rfl⟩:=r3
     obtain ⟨vs,ep,o1,o2⟩:ORel w.params hp.length ρ3 s3.heap (ρ3 p) (.tuple [.sint (Txt.count X NL+Txt.count ⟨#[]⟩ NL+1),.sint (dx X+0)]):=by
      have:=S3.rel.own p _ (gd p3);rw[pr1] at this;exact this
     have hp0:0 < hp.length:=Nat.lt_of_le_of_lt (Qu _) p3
     obtain ⟨m3,u1,u2⟩:ORel w.params hp.length ρ3 s3.heap (ρ3 0) (kW (.ref RW)):=by
      have:=S3.rel.own 0 _ (gd hp0);rw[pr2] at this;exact this
     refine ag fun G0 hG0=>?_;obtain ⟨vr,hvr,hvR⟩:=u2 dw (.con (.ref RW)) (by kernel_rfl);have hvR:vr=.ref RW:=hvR;rw[hvR] at hvr;have u1:s3.heap.Ns env.locals m3:=by rw[<- r0,<- S3.ext 0 (by show 0 < 11;exact Qn 10)];exact u1
     have hRW3:s3.heap.IsList RW (strValues l).toArray:=by
      have hl2:=hRW2;obtain ⟨ob,e,r⟩:=hRW2;refine ⟨ob,S3.other _ _ (fun i hi z=>?_) e,r⟩;have O:=RP.own i _ (Qo hi);rw[z] at O;have:=pj (oN (wh ρT f rc (.ref RW) X ct) (Qo hi)) O hl2;lia
     have hlast:∃ t,l[l.length - 1]?=some (last,t):=by
      have h1:(l.map (·.1))[l.length - 1]?=some last:=by
       rw[hl1,hsp,Qr (by simp[*]),show l.length - 1 - init.length=0 by simp[*]];rfl
      rw[List.getElem?_map] at h1
      cases q:l[l.length - 1]? with
      | none=>rw[q] at h1;exact non h1
      | some y=>rw[q] at h1;obtain ⟨y1,y2⟩:=y;obtain rfl:=Qb h1;exact ⟨y2,rfl⟩
     obtain ⟨t,hlast⟩:=hlast;refine hG0 ?_;refine Aj B.toBs S3.rel.keep hes heg heb u1 hvr hRW3 lpos (by rw[llen];unfold aa;lia) hlast (by unfold aa;lia) fun T h4 k4 hk4 rT=>?_
     have rP:Reads h4 (.ref (ρ3 p)) (.tuple [.int (Txt.count X NL+Txt.count ⟨#[]⟩ NL+1),.int (dx X+0)]) []:=by
      refine Reads.tuple (hk4 _ _ o1) rfl rfl ?_;show ReadsAll h4 vs.toList _ _
      match hvs:vs.toList,o2 with
      | [v1,v2],o2 =>
       obtain ⟨⟨t1,rfl⟩,⟨t2,rfl⟩,_⟩:=o2;exact ReadsAll.cons (Reads.int _ _) (ReadsAll.cons (Reads.int _ _) ReadsAll.nil)
      | [],o2=>exact o2.elim
      | [_],o2=>exact o2.2.elim
      | _::_::_::_,o2=>exact o2.2.2.elim
     have ec:Txt.count (⟨#[]⟩:Str) NL=0:=by decide +kernel
     have e1:(Txt.count X NL+Txt.count ⟨#[]⟩ NL+1:Int)=(l.length:Int):=by rw[ec,llen];simp[*]
     have e2:(dx X+0:Int)=(last.length:Int):=by lia
     rw[e1,e2] at rP
     have sh2:shaped (.tuple [.int (l.length:Int),.int (last.length:Int)])=true:=by
      simp[shaped,PyData.canLay0,PyData.canLayAll0,PyData.depth,PyData.depthAll]
     refine eq_dataH_same (s:={ s3 with heap:=h4,toks:=k4 }) rP rT sh2 sh2 hu (by simp[noMix,noMixAll]) ?_
     rw[iU];refine ⟨rfl,?_,?_,fun b o e=>hk4 _ _ (S3.rel.keep b o e)⟩
     ·exact S3.gens.trans (S.gens.trans hg)
     ·exact S3.os.trans (S.os.trans ho)
  | _=>exact non pr
end
end TE
namespace TE
set_option tactic.hygienic false
noncomputable def sN:Str:=⟨#[110]⟩
noncomputable def fy:Str:=⟨#[115,99,114,105,112,116]⟩
noncomputable def tapeScope:Scope:={ kind:=.function,names:=[(⟨#[46,48]⟩,.local),(sN,.local)],isGenerator:=false,isCoroutine:=false }
noncomputable def jI:Expr:=.Subscript (.Name fy ⟨1211,30,1211,36⟩) (.Slice none (some (.Constant (.int 40) 0 ⟨1211,38,1211,40⟩)) none ⟨1211,37,1211,40⟩) ⟨1211,30,1211,41⟩
noncomputable def mo:Expr:=.BinOp (.Name sN ⟨1211,12,1211,13⟩) .Mod (.Constant (.int 5040) 0 ⟨1211,16,1211,20⟩) ⟨1211,12,1211,20⟩
noncomputable def tapeC:Expr:=.ListComp mo [⟨.Name sN ⟨1211,25,1211,26⟩,jI,[],0⟩] tapeScope ⟨1211,11,1211,42⟩
noncomputable def tapeP:Pos:=⟨1211,4,1211,8⟩
theorem GW:lst 0=.Assign [.Name bv tapeP] tapeC ⟨1211,4,1211,42⟩:=by kernel_rfl
theorem li:lk lscope.names fy=some .local:=by kernel_rfl
section
variable {prog:Program} {w:World} {z5:Heap} {K:Frag} {A:Around} {env:Env} {s:Shared}
theorem uH {M:Model} {Q Q2:Value->Shared->Prop} {E:Value->Shared->Prop} (h:wpAny M A (newList []) Q E s) (k:∀ s',Q (.ref s.heap.objs.size) s'->Q2 (.ref s.heap.objs.size) s'):wpAny M A (newList []) Q2 E s :=
 fun Γ p hΓ=>(wpAny_newObj_type (M:=M) (A:=A) (E:=E) (k _ (h Γ p hΓ))) Γ p hΓ
theorem uN:closureFor tapeScope env=pure []:=by
 dsimp only[closureFor,tapeScope];simp only[List.forIn_cons,List.forIn_nil];rfl
theorem pK:∀ {ns:List Int} {vs ys:List Value},IntsAre vs ns->Paired (fun v y=>∀ i t,v=.int i t->∃ u,y=.int (Int.fmod i 5040) u) vs ys->All2 (fun i v=>∃ t,v=Value.int i t) (ns.map fun i=>Int.fmod i 5040) ys
 | _,_,_,.nil,.nil=>trivial
 | _,_,_,.cons i t h,.cons p q=>⟨p _ _ rfl,pK h q⟩
theorem ro:∀ {ns:List Int} {vs:List Value} {j:Nat} {v:Value},IntsAre vs ns->vs[j]?=some v->∃ i t,v=.int i t
 | _,_,0,_,.cons i t _,h=>by cases h;exact ⟨i,t,rfl⟩
 | _,_,j+1,_,.cons _ _ k,h=>ro (j:=j) k h
 | _,_,_,_,.nil,h=>non h
theorem Cn (hA:A.handled=none) (hes:env.scope=lscope) {m:Str->Option Value} (hns:s.heap.Ns env.locals m) {Ls:Addr} {vs:List Value} {ns:List Int} (hm:m fy=some (.ref Ls)) (hl:s.heap.IsList Ls vs.toArray) (hv:IntsAre vs ns) (hn:ns.length<=63)
  {Q:Flow->Shared->Prop} {E:Value->Shared->Prop}
  (h:∀ D h' k its,s.heap.objs.size<=D->D≠env.locals->h'.PlainList D its->All2 (fun i v=>∃ t,v=Value.int i t) ((ns.take 40).map fun i=>Int.fmod i 5040) its.toList->h'.Ns env.locals (fun z=>if z=bv then some (.ref D) else m z) ->
   (∀ b o,b≠env.locals->s.heap.get? b=some o->h'.get? b=some o)->s.heap.objs.size<=h'.objs.size->Q .next { s with heap:=h',toks:=k }) :
  wpAny (model prog w) A (exec (lst 0) env) Q E s:=by
 have hkf:env.scope.kind=.function:=by rw[hes];exact ez
 have vl:=hv.length;have hbk:env.blockKind=.function:=by unfold Env.blockKind;rw[hes,ez];rfl
 have hkt:=dk hes or
 have hsw:swapsWith tapeC (some (.Name bv tapeP)) 1211 env=pure true:=by
  show (pure (env.blockKind==.function&&env.kindOf bv==some .local&&tapeP.line==tapeC.pos.line&&!(tapeScope.names.any fun (n,k)=>n==bv&&(k==.local||k==.cell))):Sem Bool)=pure true;rw[hbk,hkt];exact congrArg pure (by decide +kernel)
 rw[GW];unfold tapeC at hsw ⊢;rw[exec_Assign_Name_used _ _ _ _ hsw];refine wpAny_bind (wpAny_standAt (wpAny_bind ?_));show wpAny _ A (do let _ <- comprehension (.ListComp mo [⟨.Name sN ⟨1211,25,1211,26⟩,jI,[],0⟩] tapeScope ⟨1211,11,1211,42⟩) tapeScope env _ (newList []) false (eval jI env) (some (assign (.Name bv tapeP) env))) _ _ s
 refine wpAny_bind (wpAny_mono (wpAny_comprehension_free (cl:=[]) (use:=some (assign (.Name bv tapeP) env)) (Q:=fun _ s'=>Q .next s') rfl (fun _=>rfl) uN rfl (by decide +kernel)
  ?_) (fun _ s' hq=>wpAny_pure (wpAny_pure hq)) fun _ _ e=>e)
 dsimp only[jI];refine Subscript_ (cU (by decide +kernel) hkf (dk hes li) hns hm (wpAny_Slice ?_));rw[evalPart_none];refine wpAny_pure ?_;rw[evalPart_some];refine wpAny_Constant_int (wpAny_pure ?_);have hl1:(s.heap.push { cls:=.type "slice",data:=.fields #[.none,.int 40 s.toks,.none] }).IsList Ls vs.toArray:=hl.push _;refine tail_any (ops:=[.ref s.heap.objs.size,.ref Ls]) hl1.typeIs slot_list_getitem.lookup ?_ rfl;refine wpAny_getItem_list_slice (s:={ s with heap:=s.heap.push { cls:=.type "slice",data:=.fields #[.none,.int 40 s.toks,.none] },toks:=s.toks+1 }) (hsz:=cQ (by rw[List.size_toArray];unfold aa;lia)) hl1 (Heap.IsSliceOf.new ..) .none (.int 40 s.toks) .none (by simp) ?_
 have hi:=slice_ints_uptoW hv (y:=40) (by decide);have hsl:(slicePick vs.toArray none (some 40) none).size<=63:=Qf (slicePick_size_le vs.toArray none (some 40) none) (by rw[List.size_toArray,vl];exact hn);generalize slicePick vs.toArray none (some 40) none=sl at hi hsl;generalize hh1:s.heap.push { cls:=.type "slice",data:=.fields #[.none,.int 40 s.toks,.none] }=h1;have k1:∀ b o,s.heap.get? b=some o->h1.get? b=some o:=fun b o e=>hh1▸Qe _ e;have z1:s.heap.objs.size<=h1.objs.size:=by rw[<- hh1,Qs];exact Nat.le_add_right s.heap.objs.size 1
 have hl2:(h1.push { cls:=.type "list",data:=.seq sl }).IsList h1.objs.size sl:=⟨_,Qi _ rfl,rfl,_,rfl⟩;refine wpAny_pyIter_list (s:={ s with heap:=h1.push { cls:=.type "list",data:=.seq sl },toks:=s.toks+1 }) hl2 ?_
 generalize hh2:h1.push { cls:=.type "list",data:=.seq sl }=h2 at hl2;have k2:∀ b o,h1.get? b=some o->h2.get? b=some o:=fun b o e=>hh2▸Qe _ e;have z2:h2.objs.size=h1.objs.size+1:=by rw[<- hh2,Qs]
 generalize hh3:h2.push { cls:=.type "list_iterator",data:=.fields #[.ref h1.objs.size,.int 0 0] }=h3;have z3:h3.objs.size=h2.objs.size+1:=by rw[<- hh3,Qs]
 have k3:∀ b o,h2.get? b=some o->h3.get? b=some o:=fun b o e=>hh3▸Qe _ e;have st:h3.IsListIter h2.objs.size h1.objs.size 0/\h3.IsList h1.objs.size sl:=⟨⟨_,hh3▸Qi _ rfl,rfl,rfl⟩,hl2.at (k3 _)⟩;have hne:h1.objs.size≠h2.objs.size:=by exact Ne.symm (lstLive hl2)
 have z12:s.heap.objs.size<=h2.objs.size:=by rw[z2];exact Nat.le_succ_of_le z1
 have z13:s.heap.objs.size<=h3.objs.size:=by rw[z3];exact Nat.le_succ_of_le z12
 have lowI:∀ b o,s.heap.get? b=some o->b ∉ [h2.objs.size]:=fun b o e hm=>by
  have:=Qg e;rw[List.mem_singleton] at hm;rw[hm] at this;exact absurd this (Nat.not_lt.mpr z12)
 have k0:∀ b o,s.heap.get? b=some o->h3.get? b=some o:=fun b o e=>k3 b o (k2 b o (k1 b o e))
 refine uH (s:={ s with heap:=h3,toks:=s.toks+1 }) (comp_block_walkC (s₂:={ s with heap:=h3,toks:=s.toks+1 }) (RR:=fun acc C r s'=>acc=.ref h3.objs.size->compPost (model prog w) A E (some (assign (.Name bv tapeP) env)) (fun _ s'=>Q .next s') acc C r s')
  (Walks.list hA h2.objs.size h1.objs.size hne sl) (cQ (by unfold aa;lia)) (fun _=>true) (fun v y=>∀ i t,v=.int i t->∃ u,y=.int (Int.fmod i 5040) u) (by decide) rfl (by decide +kernel) st ?_ ⟨?_,?_⟩ ?_)
  fun s' hw=>wpAny_mono hw (fun cenv s4 h4=>codeAny_mono h4 fun r s5 hr=>hr rfl) fun _ _ x=>x
 ·intro b hb;show b < h3.objs.size;simp only[List.mem_cons,List.not_mem_nil,or_false] at hb;have a1:h2.objs.size < h3.objs.size:=by rw[z3];exact Qt _
  have a2:h1.objs.size < h2.objs.size:=by rw[z2];exact Qt _
  rcases hb with hb | hb
  ·rw[hb];exact a1
  ·rw[hb];exact Nat.lt_trans a2 a1
 ·intro C i v s3 m3 E' _ _ _ _ _ _;exact wpAny_pure ⟨rfl,jC s3 s3.toks⟩
 ·intro C i v s3 m3 E' hC hv2 _ hn3 hm3 hk3 _;obtain ⟨j,t,rfl⟩:=ro hi (by rw[Qq];exact hv2);dsimp only[mo];refine wpAny_BinOp (cU (env:=compEnvC tapeScope [] C env) (by decide +kernel) rfl rfl hn3 hm3 (wpAny_Constant_int (mod_int (by decide) ⟨fun i t e=>?_,jC s3 _⟩)))
  cases e
  exact ⟨_,rfl⟩
 ·intro D C h' tk m' ys vs' hD hC hDC hnC hlD hplD hlen hP hF hk hacc;have hDs:D=h3.objs.size:=by simpa using hacc
  have hns3:h3.Ns env.locals m:=hns.at fun o e=>k0 _ o e
  have hLI:env.locals ∉ [h2.objs.size]:=by
   refine ag fun G0 hG0=>?_;obtain ⟨o,_,_,ho,_⟩:=hns;refine hG0 ?_;exact lowI _ _ ho
  have hLC:env.locals≠C:=by
   rintro rfl
   obtain ⟨o,_,_,ho,_⟩:=hns3;rw[hC] at ho;exact non ho
  have hLD:env.locals≠D:=by
   rintro rfl
   obtain ⟨o,_,_,ho,_⟩:=hns3;rw[hD] at ho;exact non ho
  show wpAny _ A (assign (.Name bv tapeP) env (.ref D)) _ _ _;refine wpAny_assign_Name (wpAny_storeName_local hkt (hns3.at' fun o e=>hk _ o hLI e) (fun h4 hn4 hs4=>?_) (by rw[hkf];rfl));refine ⟨m',hnC.sameBut hs4 (Ne.symm hLC),fun h5 hs5=>?_⟩;rw[List.filter_eq_self.mpr fun _ _=>rfl] at hF;have hpl5:=(hplD.extBut hs4.extBut (Ne.symm hLD)).extBut hs5.extBut hDC
  have evs:vs'=sl.toList:=by
   refine List.ext_getElem (by rw[hlen];exact (Qw).symm) fun j j1 j2=>?_;have:=hP j _ (Qo j1);rw[<- Qq,Qo j2] at this;exact (Qb this).symm
  refine h D h5 _ ys (by rw[hDs];exact z13) (Ne.symm hLD) hpl5 (pK (vs:=vs') ?_ hF) (hn4.sameBut hs5 hLC) (fun b o hb e=>?_) ?_
  ·rw[evs];exact hi
  ·have e3:=k0 b o e;refine hs5.extBut b o (by rintro rfl;rw[hC] at e3;exact non e3) (hs4.extBut b o hb (hk b o (lowI _ _ e) e3))
  ·obtain ⟨n,e⟩:=hpl5;have:=Qg e;rw[hDs] at this;exact Qf z13 (Qk this)
end
end TE
namespace TE
set_option tactic.hygienic false
open PySem PySem.W PySem.Calls PyProof.Rows PySem.Spec PySem.SeqAt
structure ml (X:Str) (its:List It):Prop where
 toks:∃ z7:List Tok,z7.foldl eat []=its/\(∀ n,n < z7.length->fM (tkN z7 n)/\(bD z7 (n+1)).length<=5000/\∀ i∈bD z7 (n+1),i.pl.length<=20000)/\eO (tkN z7) z7.length ⟨.data,.none,X.cps.toList⟩
 size:X.length<=10240
 ok:∀ c∈X.cps.toList,cD c
 shape:shaped (.list (its.map It.data))=true
 parts:(Builtin.Str.partsBetween X (Builtin.Str.occurrences X NL 0 X.length (X.length+1)) NL.length).length<=sizeLine
 rows:∃ (init:List Str) (last:Str),Txt.split X NL=init++[last]/\(init.length:Int)=Txt.count X NL/\(last.length:Int)=dx X/\init.length<=20000/\last.length<=20000
noncomputable def kn (ns:List Int):List AO:=[.ns [(bv,.ptr 2)],.cell none,.numl ns]
noncomputable def rN (ns:List Int):List AO:=[.ns [(bv,.ptr 2),(bX,.str ⟨#[]⟩),(cG,.ptr 3)],.cell none,.numl ns,.list []]
noncomputable def s8 (ns:List Int):List AO:=[.ns [(bv,.ptr 2),(bX,.str ⟨#[]⟩)],.cell none,.numl ns]
theorem GL (ns:List Int):(lev bu).s (lst 1) ⟨kn ns,[]⟩=some (.next,⟨s8 ns,[]⟩,[]):=by kernel_rfl
theorem GK (ns:List Int):(lev bu).s (lst 2) ⟨s8 ns,[]⟩=some (.next,⟨rN ns,[]⟩,[]):=by kernel_rfl
noncomputable def mS (v D:Value) (X:Str):List AO:=[.ns [(bv,.con v),(bX,.sstr X),(cG,.con D)],.cell none]
noncomputable def nT (v D:Value) (X:Str):List AO:=[.ns [(bv,.con v),(bX,.sstr X),(cG,.con D),(gx,.ptr 2)],.cell none,.list []]
theorem GJ (v D:Value) (X:Str):(lev bu).s (lst 4) ⟨mS v D X,[]⟩=some (.next,⟨nT v D X,[]⟩,[]):=by kernel_rfl
noncomputable def gF (v D:Value) (X:Str):List AO:=match (lev bu).s (lst 5) ⟨nT v D X,[]⟩ with
 | some (_,⟨hp,_⟩,_)=>hp
 | none=>[]
theorem GI (v D:Value) (X:Str):(lev bu).s (lst 5) ⟨nT v D X,[]⟩=some (.next,⟨gF v D X,[]⟩,[]):=by kernel_rfl
theorem oY (v D:Value) (X:Str):(gF v D X).length=19:=by kernel_rfl
theorem oZ (ρ:Nat->Addr) (v D:Value) (X:Str):slim bx (TE.pick ρ [0,1,2] [] (gF v D X))=aI X D (.ref (ρ 4)) (.list []) []:=by kernel_rfl
noncomputable def mTk:List Nat:=[4,3,7,6,16,18,13,12,9]
theorem xl (ρ:Nat->Addr) (v D:Value) (X:Str):TE.pick ρ mTk [6,12] (gF v D X)=dh ⟨.ref (ρ 17),.ref (ρ 10)⟩ X:=by kernel_rfl
theorem wH (ρ:Nat->Addr) (X:Str) (ns:List Int) (lo:AO) (R:List AO):TE.pick ρ [0,1] [] (aw X ns lo R)=mS (.ref (ρ 2)) (.ref (ρ 3)) X:=by kernel_rfl
theorem xQ:aV.2.1=[lst 0,lst 1,lst 2,lst 3,lst 4,lst 5,lst 6,lst 7,lst 8]:=by kernel_rfl
section
variable {prog:Program} {w:World} {z5:Heap} {K:Frag} {A:Around} {env:Env} {s:Shared}
theorem jM {ρ:Nat->Addr} {σ σ':List AO} {x:Stmt} {l:List Stmt} {Q:Flow->Shared->Prop} (EV:aR prog w z5 A env 0 lscope [(aD,1)] (lev bu)) (hR:Rel w.params z5 ρ σ s.heap) (hE:EnvR σ.length ρ env 0 lscope [(aD,1)]) (run:(lev bu).s x ⟨σ,[]⟩=some (.next,⟨σ',[]⟩,[]))
  (h:∀ s' ρ',Stp w.params z5 ρ σ s ρ' σ' s'->wpAny (model prog w) A (execs l env) Q (fun _ _=>False) s'):wpAny (model prog w) A (execs (x::l) env) Q (fun _ _=>False) s :=
 wpAny_execs_cons ((EV.s (es:=⟨σ,[]⟩) hR hE x).go run (fun _ h=>noM h) fun b s1 ρ1 S r=>by
  have r:b=.next:=r;subst r;exact h _ _ S)
theorem AI (hex:∃ Γ:PySem.Ctx,Γ.In A) (B:Bt prog w z5 K tab) (B2:Bs prog w z5 [] nN) (FX:eN w z5) (hA:A.handled=none) (hd:A.depth<=840) (hu:A.units+64 < cLine) (hes:env.scope=lscope) (heg:env.globals=mainGlobals) (heb:env.builtins=builtinsNs)
  {ρ:Nat->Addr} {ns:List Int} (hR:Rel w.params z5 ρ (kn ns) s.heap) (h0:ρ 0=env.locals) (h1:env.cells.lookup aD=some (ρ 1)) (hg:s.gens=#[]) (hn:ns.length<=1000) {X:Str} {its:List It} (hb:dl (min 10 ns.length) ⟨#[]⟩ ns []=(X,its)) (PL:ml X its) :
  wpAny (model prog w) A (execs [lst 1,lst 2,lst 3,lst 4,lst 5,lst 6,lst 7,lst 8] env) (fun fl s'=>fl=.ret (.bool true)/\s'.gens=#[.finished]/\s'.os=s.os/\∀ b o,z5.get? b=some o->s'.heap.get? b=some o) (fun _ _=>False) s:=by
 have EV:=sG (env:=env) B FX.fn pk hA (by lia);have hE:EnvR (kn ns).length ρ env 0 lscope [(aD,1)]:=h9 hes heg heb h0 h1 (by show 2<=3;exact Qc rfl);refine jM EV hR hE (GL ns) fun s1 ρ1 S1=>?_;refine jM EV S1.rel (S1.env hE) (GK ns) fun s2 ρ2 S2=>?_;have S02:=S1.trans S2;have e2:∀ j,j < 3->ρ2 j=ρ j:=fun j hj=>S02.ext j hj
 have R2:Rel w.params z5 ρ2 (aw ⟨#[]⟩ ns (.list []) []) s2.heap:=by
  refine S2.rel.weak1 (i:=0) (o':=.ns [(bv,.ptr 2),(bX,.sstr ⟨#[]⟩),(cG,.ptr 3)]) rfl fun a O=>?_;obtain ⟨m,o1,o2⟩:=O;refine ⟨m,o1,fun x av hx=>?_⟩;have hx:(match seq bv x with | true=>some (AV.ptr 2) | false=>match seq bX x with | true=>some (AV.sstr ⟨#[]⟩) | false=>match seq cG x with | true=>some (AV.ptr 3) | false=>none)=some av:=hx
  have o2':∀ av',(match seq bv x with | true=>some (AV.ptr 2) | false=>match seq bX x with | true=>some (AV.str ⟨#[]⟩) | false=>match seq cG x with | true=>some (AV.ptr 3) | false=>none)=some av'->∃ v,m x=some v/\VRel (rN ns).length ρ2 av' v:=fun av' h=>o2 x av' h
  cases g1:seq bv x with
  | true=>rw[g1] at hx o2';exact o2' _ hx
  | false =>
   rw[g1] at hx o2'
   cases g2:seq bX x with
   | true =>
    rw[g2] at hx o2';obtain rfl:=Qb hx;obtain ⟨v,c1,c2⟩:=o2' (.str ⟨#[]⟩) rfl;exact ⟨v,c1,c2⟩
   | false=>rw[g2] at hx o2';exact o2' _ hx
 refine wpAny_execs_cons (wpAny_mono (yy B2 EV hA hes heg heb ((e2 0 (by exact Qn 2)).trans h0) (by rw[h1,e2 1 (by exact Nat.one_lt_succ_succ 1)]) hn R2) (fun fl s3 zz=>?_) fun _ _ x=>x);obtain ⟨hf,ns',BS⟩:=zz;refine ag fun G0 hG0=>?_;subst hf;rw[hb] at BS;dsimp only at BS;obtain ⟨g3,o3,d3,ρ3,F3,lo,RL,R3,e3,K3,H3,_⟩:=BS;refine hG0 ?_;obtain ⟨F,f1,f2⟩:=ow (q:=3) R3 K3.here H3 rfl (fun o e=>by rw[e];rfl);have R4:=R3.pick (m:=[0,1]) (ks:=[]) rfl (by decide)
 have K4:Kept F (TE.pick ρ3 [0,1] [] (aw X ns' lo RL)).length (bh ρ3 [0,1]) s3.heap:=⟨fun p hp=>(f1 p hp).1,fun p hp i hi z=>by
  obtain ⟨k,k1,k2,k3⟩:=dX (ρ:=ρ3) (m:=[0,1]) (ks:=[]) (σ:=aw X ns' lo RL) rfl hi;rw[k3] at z;rcases (f1 p hp).2 with h | ⟨j,j1,j2,j3⟩
  ·exact K3.apart p h k k1 z
  ·rw[j3] at z;have:=R3.inj k j k1 j2 z;subst this
   have:k=0\/k=1:=by
    have:=Ql k2;simpa using this
   lia⟩
 rw[wH] at R4 K4
 have hE4:EnvR (mS (.ref (ρ3 2)) (.ref (ρ3 3)) X).length (bh ρ3 [0,1]) env 0 lscope [(aD,1)] :=
  h9 hes heg heb ((cp (show [0,1][0]?=some 0 from rfl)).trans ((e3 0 (by exact Qn 3)).trans ((e2 0 (by omega)).trans h0))) (by rw[h1,cp (show [0,1][1]?=some 1 from rfl),e3 1 (by exact Nat.one_lt_succ_succ 2),e2 1 (by omega)]) (by show 2<=2;exact Qc rfl)
 generalize ρ3 2=v at R4 K4 hE4;generalize ρ3 3=D at R4 K4 hE4 f2;refine jM EV R4 hE4 (GJ (.ref v) (.ref D) X) fun s4 ρ4 S4=>?_;refine jM EV S4.rel (S4.env hE4) (GI (.ref v) (.ref D) X) fun s5 ρ5 S5=>?_;have K5:=(K4.step S4).step S5;have hE5:=S5.env (S4.env hE4);have fL:bB [0,1,2] (gF (.ref v) (.ref D) X).length=true:=by rw[oY];rfl
 have fT:bB mTk (gF (.ref v) (.ref D) X).length=true:=by rw[oY];rfl
 have RL5:=Rel.slim (names:=bx) (S5.rel.pick (ks:=[]) fL (by decide));have RT5:=S5.rel.pick (ks:=[6,12]) fT (by decide);have DD:=o9 (ks:=[]) (ks':=[6,12]) S5.rel fL fT (by decide);have KL:=K5.pick (ks:=[]) fL;have KT:=K5.pick (ks:=[6,12]) fT;have ll:(TE.pick ρ5 [0,1,2] [] (gF (.ref v) (.ref D) X)).length=(aI X (.ref D) (.ref (ρ5 4)) (.list []) []).length:=by rw[<- hJ (names:=bx),oZ]
 rw[oZ] at RL5;rw[xl] at RT5 DD KT;rw[ll] at DD KL;obtain ⟨z7,hf,hB,DR⟩:=PL.toks;have hg5:s5.gens=#[]:=S5.gens.trans (S4.gens.trans (g3.trans (S02.gens.trans hg)));have ho5:s5.os=s.os:=S5.os.trans (S4.os.trans (o3.trans S02.os))
 have L:gW w.params z5 env X (.ref D) (.ref (ρ5 4)) F [] (bh ρ5 [0,1,2]) F (.list []) [] s5.heap :=
  ⟨RL5,(cp (show [0,1,2][0]?=some 0 from rfl)).trans hE5.hloc.symm,by
   rw[cp (show [0,1,2][1]?=some 1 from rfl)];exact (hE5.hcells aD 1 (by kernel_rfl)).2,KL,fun _ h=>h,.empty⟩
 refine wpAny_execs_cons (wpAny_mono (Dp hex B FX hA hd hes heg heb hB PL.size PL.ok DR hg5 L RT5 (cp (show mTk[0]?=some 4 from rfl)) DD KT) (fun fl s6 zz=>?_) fun _ _ x=>x);obtain ⟨hf6,G,nm,qn,EF⟩:=zz;refine ag fun G0 hG0=>?_;subst hf6;obtain ⟨init,last,q1,q2,q3,q4,q5⟩:=PL.rows;refine hG0 ?_;refine wpAny_mono (CR B FX hA hd hes heg heb EF ((AP z7).trans hf) (f2.mono fun p hp=>.tail _ hp) PL.shape PL.size PL.parts q1 q2 q3 q4 q5 hu) (fun fl s7 ⟨r1,r2,r3,r4⟩=>⟨r1,r2,r3.trans ho5,r4⟩) fun _ _ x=>x
end
end TE
namespace TE
set_option tactic.hygienic false
theorem oM:∀ ns:List Int,ofPys (ns.map PyData.int)=ns.map WData.int
 | []=>rfl
 | n::r=>congrArg (WData.int n::·) (oM r)
theorem CP {h:Heap} {vs:List Value} {ns:List Int} {as:List Addr} (r:ReadsAll h vs [.list (ns.map PyData.int)] as):∃ L ws,vs=[.ref L]/\h.IsList L ws.toArray/\IntsAre ws ns:=by
 cases r with
 | cons r q =>
  cases q
  cases r with
  | list g c dd k=>exact ⟨_,_,rfl,⟨_,g,c,_,by simpa using dd⟩,(readsAll_intsAre k).1⟩
theorem qZ {b:Bool} {C:Prop} (e:b=false) (h:b=true):C:=absurd (e.symm.trans h) Bool.false_ne_true
theorem CA (xs:List WData) (h:WTm.holds [] (.and (.not (.lt (.lit (.int 63)) (.len (.arg 0)))) (.lit (.bool true))) { args:=[.list xs] }=true):xs.length<=63:=by
 have h:(match (match (some (WData.bool (!decide ((63:Int) < xs.length))):Option WData) with
  | some (WData.bool false)=>some (WData.bool false)
  | some (WData.bool true)=>some (WData.bool true)
  | _=>none:Option WData) with | some (WData.bool true)=>true | _=>false)=true:=h
 by_cases q:(63:Int) < xs.length
 ·rw[decide_eq_true q] at h;exact noT h
 ·exact Int.ofNat_le.mp (Int.not_lt.mp q)
theorem DS {args:List WData} (h:PySem.Challenge.rw_te0022_01.row.toRowW.claim.pre args=true):∃ ns:List Int,args=ofPys [.list (ns.map PyData.int)]/\ns.length<=63:=by
 obtain ⟨h1,h2⟩:=pre_splitW h;obtain ⟨d,r,rfl,a,b⟩:=hasAllW_cons (R:=[]) (e:=.list .int) (es:=[]) h1
 have hr:r=[]:=by
  cases r with
  | nil=>rfl
  | cons d r=>exact qZ (show WShape.hasAll [] (d::r) []=false by kernel_rfl) b
 subst hr
 cases d with
 | list xs =>
  have a:(WShape.hasItems [] xs .int||false)=true:=a;rw[Bool.or_false] at a;obtain ⟨ns,rfl⟩:=items_int a;refine ⟨ns,by show [WData.list (ns.map .int)]=[WData.list (ofPys (ns.map PyData.int))];rw[oM],?_⟩;rw[<- List.length_map (f:=WData.int)];generalize ns.map WData.int=xs at h2 a;exact CA xs h2
 | _=>exact qZ (by kernel_rfl) a
theorem Du {d:DefRec} {kwd:List (Str×Expr)} (h:defOf qv PySem.Challenge.rw_te0022_01.row.name=some (d,kwd)):d.params=aV.1/\d.body=aV.2.1/\d.scope=aV.2.2/\kwd=[]:=by
 have e:(defOf qv PySem.Challenge.rw_te0022_01.row.name).map (fun x=>(x.1.params,x.1.body,x.1.scope,x.2))=some (aV.1,aV.2.1,aV.2.2,[]):=by kernel_rfl
 rw[h] at e;simp only[Option.map_some,Option.some.injEq,Prod.mk.injEq] at e;exact e
theorem xu (args:List WData):PySem.Challenge.rw_te0022_01.row.toRowW.claim.post args (.bool true) args=true:=by
 have e:(WShape.has [] (.bool true) .bool&&WTm.holds [] (.eq .res (.lit (.bool true))) { args:=args,res:=some (.bool true),after:=args })=true:=by kernel_rfl
 exact e
theorem vv:aV.1.defaults=[]:=by kernel_rfl
theorem BC {name:Str} {pm cd doc:Value} {v:Value}:bindArgs (docDef name aV.1 aV.2.1 aV.2.2 pm cd doc) ⟨[v],[]⟩=pure [(fy,v)]:=by
 unfold docDef;rfl
theorem xR (n:Nat):cellsFrom n lscope.names []=[(aD,n)]:=by kernel_rfl
theorem law_walk (plain:∀ ns:List Int,ns.length<=40->ml (dl (min 10 ns.length) ⟨#[]⟩ ns []).1 (dl (min 10 ns.length) ⟨#[]⟩ ns []).2):∀ d kwd,defOf qv PySem.Challenge.rw_te0022_01.row.name=some (d,kwd) ->
  WalkO qv loose (fun _ _=>True) (fun w h=>Facts w.params h) PySem.Challenge.rw_te0022_01.row.toRowW d kwd fun f vs=>PySem.call f vs:=by
 intro d kwd hd w s₀ s₁ mg mb G FF a o pm cd doc dV kV ho hod hcd hdf hmg hgens args vals as hpre hlay hrd hwell hsys;obtain ⟨d1,d2,d3,rfl⟩:=Du hd;have FX:=C9 FF;obtain ⟨ns,rfl,hn⟩:=DS hpre;obtain ⟨L,vs,rfl,hl,hi⟩:=CP (readsAll_of_readsAllW _ hrd)
 have hdV:dV=.none:=by
  rcases hdf.pos with h | h
  ·exact h.2
  ·exact absurd (d1▸vv) h.1
 have hkV:kV=.none:=by
  rcases hdf.kw with h | h
  ·exact h.2
  ·exact absurd rfl h.1
 subst hdV hkV;rw[d1,d2,d3] at hod;have hod:o.data=.func (docDef d.name aV.1 aV.2.1 aV.2.2 pm cd doc):=hod
 refine wpAny_call (codeAny_call_cells (fd:=docDef d.name aV.1 aV.2.1 aV.2.2 pm cd doc) (by decide +kernel) ho hod G.T.nolimit hcd rfl BC rfl (fun x hx=>by
  rw[List.mem_singleton] at hx;subst hx;exact .inl (by show lscope.names.lookup fy=_;rw[<- lp];exact li)) (fun s2 X=>?_))
 have dep:(callerA.deeper (callEnvC (docDef d.name aV.1 aV.2.1 aV.2.2 pm cd doc) s₁.heap.objs.size a)).depth<=840:=by show 1+claimMargin+1<=840;decide
 generalize hA':callerA.deeper (callEnvC (docDef d.name aV.1 aV.2.1 aV.2.2 pm cd doc) s₁.heap.objs.size a)=A at dep;have hAh:A.handled=none:=by rw[<- hA'];rfl
 have hAu:A.units+64 < cLine:=by rw[<- hA'];show 4+3+64 < cLine;decide
 have hcl:(callEnvC (docDef d.name aV.1 aV.2.1 aV.2.2 pm cd doc) s₁.heap.objs.size a).cells=[(aD,s₁.heap.objs.size+1)]:=xR _;have hes:(callEnvC (docDef d.name aV.1 aV.2.1 aV.2.2 pm cd doc) s₁.heap.objs.size a).scope=lscope:=rfl;have heg:(callEnvC (docDef d.name aV.1 aV.2.1 aV.2.2 pm cd doc) s₁.heap.objs.size a).globals=mainGlobals:=rfl;have heb:(callEnvC (docDef d.name aV.1 aV.2.1 aV.2.2 pm cd doc) s₁.heap.objs.size a).builtins=builtinsNs:=rfl;have hel:(callEnvC (docDef d.name aV.1 aV.2.1 aV.2.2 pm cd doc) s₁.heap.objs.size a).locals=s₁.heap.objs.size:=rfl;generalize callEnvC (docDef d.name aV.1 aV.2.1 aV.2.2 pm cd doc) s₁.heap.objs.size a=env at X hes heg heb hel hcl;rw[xQ];obtain ⟨h2,k2,rfl,_⟩:=X.done;have hkd:env.kindOf fy=some .local:=dk hes li;have hns:=X.toInCall.ns;have hcel:=X.cell aD (s₁.heap.objs.size+1) (by rw[hcl];rfl)
 have hm:bindL env.kindOf [(fy,.ref L)] (fun _=>none)=fun y=>if y=fy then some (.ref L) else none:=by
  show (if env.kindOf fy=some .local then _ else _)=_
  rw[if_pos hkd]
 rw[hm] at hns;have hs2:s₁.heap.objs.size < h2.objs.size:=by rw[<- hel];exact hns.lt
 refine fun Γ p hΓ=>?_;refine (wpAny_execs_cons (Cn (s:={ s₁ with heap:=h2,toks:=k2 }) hAh hes hns (by simp) (hl.at fun o e=>X.toInCall.keep _ o e) hi (by omega) fun D h3 k3 its z1 z2 hpl hv hn3 hk3 z3=>?_)) Γ p hΓ
 have hcl1:env.cells.lookup aD=some (s₁.heap.objs.size+1):=by rw[hcl];rfl
 have z1:h2.objs.size<=D:=z1;have z3:h2.objs.size<=h3.objs.size:=z3;have hk3:∀ b o,b≠env.locals->h2.get? b=some o->h3.get? b=some o:=hk3;obtain ⟨co,c1,c2⟩:=hcel;have c3:h3.get? (s₁.heap.objs.size+1)=some co:=hk3 _ _ (by rw[hel];exact Nat.succ_ne_self _) c1;obtain ⟨en,e1⟩:=hpl
 have hD1:D≠s₁.heap.objs.size+1:=by
  rintro rfl
  rw[c3] at e1;obtain rfl:=Qb e1;cases c2
 have RT:Rel w.params s₁.heap (fun i=>if i=0 then s₁.heap.objs.size else if i=1 then s₁.heap.objs.size+1 else D) (kn ((ns.take 40).map fun i=>Int.fmod i 5040)) h3:=by
  refine ⟨by lia,fun b o e=>hk3 b o (by rw[hel];exact Qh (Qg e)) (X.toInCall.keep b o e),fun i o e=>?_,fun i hi=>?_,fun i j hi hj e=>?_⟩
  ·match i,e with
   | 0,e =>
    obtain rfl:=Qb e;refine ⟨_,hel▸hn3,fun x av hx=>?_⟩;have hx:(match seq bv x with | true=>some (AV.ptr 2) | false=>none)=some av:=hx
    cases q:seq bv x with
    | true=>rw[q] at hx;obtain rfl:=Qb hx;exact ⟨.ref D,by rw[<- (bt _ _).mp q];simp,by show 2 < 3;exact Nat.lt_add_one 2,rfl⟩
    | false=>rw[q] at hx;exact non hx
   | 1,e=>obtain rfl:=Qb e;exact ⟨co,_,c3,c2,fun _ h=>non h⟩
   | 2,e=>obtain rfl:=Qb e;exact ⟨its,en,e1,hv⟩
   | i+3,e=>exact absurd (Qy e).1 (by show ¬ i+3 < 3;exact of_decide_eq_false rfl)
  ·match i,hi with
   | 0,_=>exact Qa _
   | 1,_=>exact Nat.le_succ _
   | 2,_=>exact Qf (Qk hs2) z1
   | i+3,hi=>exact absurd hi (by show ¬ i+3 < 3;exact of_decide_eq_false rfl)
  ·match i,j,hi,hj,e with
   | 0,0,_,_,_=>rfl
   | 1,1,_,_,_=>rfl
   | 2,2,_,_,_=>rfl
   | 0,1,_,_,e=>exact absurd e (Qh (Qt _))
   | 1,0,_,_,e=>exact absurd e.symm (Qh (Qt _))
   | 0,2,_,_,e=>exact absurd (e.symm.trans hel.symm) z2
   | 2,0,_,_,e=>exact absurd (e.trans hel.symm) z2
   | 1,2,_,_,e=>exact absurd e.symm hD1
   | 2,1,_,_,e=>exact absurd e hD1
   | i+3,_,hi,_,_=>exact absurd hi (by show ¬ i+3 < 3;exact of_decide_eq_false rfl)
   | _,j+3,_,hj,_=>exact absurd hj (by show ¬ j+3 < 3;exact of_decide_eq_false rfl)
 have hlen:((ns.take 40).map fun i=>Int.fmod i 5040).length<=40:=by simp;exact Nat.min_le_left 40 ns.length
 refine wpAny_mono (AI (ρ:=fun i=>if i=0 then s₁.heap.objs.size else if i=1 then s₁.heap.objs.size+1 else D) (s:={ s₁ with heap:=h3,toks:=k3 }) ⟨Γ,hΓ⟩ (Gm FX G.T.nolimit G.T.g G.T.b) ⟨G.T.nolimit,FX.cobj,mg,mb,G.T.g,G.T.b,fun _ _ hx=>rs FX G.T.g G.T.b hx⟩ FX hAh dep hAu hes heg heb RT hel.symm hcl1 hgens (by lia) rfl (plain _ hlen)) (fun fl s' zz=>?_) fun _ _ x=>x.elim
 obtain ⟨rfl,q2,q3,q4⟩:=zz
 exact ⟨.inl ⟨.bool true,.bool true,[],rfl,fun _=>rfl,.bool true,xu _,fun _=>⟨List.nodup_nil,fun _ h=>noM h⟩⟩,.of_keep q4,q3,fun y hy=>by
  rw[q2] at hy;have:y=.finished:=by simpa using hy
  rw[this];rfl⟩
end TE
namespace TE
set_option tactic.hygienic false
inductive DL:List Tok->MS->Prop
 | eof:DL [] ⟨.data,.none,[]⟩
 | step {st:St} {cur:Cur} {c:Nat} {r:List Nat} {ms:MS} {o:Option Tok} {ts:List Tok}:bj st cur c r=some (ms,o)->DL ts ms->DL (o.toList++ts) ⟨st,cur,c::r⟩
noncomputable def eo:Nat->MS->Option (MS×List Tok)
 | 0,ms=>some (ms,[])
 | _+1,⟨_,_,[]⟩=>none
 | n+1,⟨st,cur,c::r⟩=>match bj st cur c r with
  | some (ms,o)=>(match eo n ms with
   | some (m,ts)=>some (m,o.toList++ts)
   | none=>none)
  | none=>none
theorem jY:∀ {n:Nat} {ms ms':MS} {ts us:List Tok},eo n ms=some (ms',ts)->DL us ms'->DL (ts++us) ms
 | 0,ms,ms',ts,us,h,d=>by cases h;exact d
 | n+1,⟨st,cur,[]⟩,_,_,_,h,_=>by cases h
 | n+1,⟨st,cur,c::r⟩,ms',ts,us,h,d=>by
  dsimp only[eo] at h
  cases q:bj st cur c r with
  | none=>rw[q] at h;cases h
  | some y =>
   obtain ⟨ms,o⟩:=y;rw[q] at h;dsimp only at h
   cases q2:eo n ms with
   | none=>rw[q2] at h;cases h
   | some z =>
    obtain ⟨m,vs⟩:=z;rw[q2] at h;cases h
    rw[Qv];exact DL.step q (jY q2 d)
end TE
namespace TE
set_option tactic.hygienic false
theorem DL.drives {tk:Nat->Tok} {ts:List Tok} {ms:MS} (d:DL ts ms):csz ms.cur+ms.rest.length+stw ms.st<=1000->(∀ n,n < ts.length->tk n=ts.reverse.getD n .err)->eO tk ts.length ms:=by
 induction d with
 | eof=>intro _ _;exact .eof rfl
 | @step st cur c r ms o ts h d ih =>
  intro hz ht;have hz:csz cur+(r.length+1)+stw st<=1000:=hz;have hs:=(mr h).size;have hg:Go ⟨st,cur,c::r⟩ ms o:=⟨show csz cur<=1000 by lia,c,r,rfl,h⟩
  cases o with
  | none=>exact .quiet hg (ih (by omega) ht)
  | some t =>
   have ht:∀ n,n < ts.length+1->tk n=(ts.reverse++[t]).getD n .err:=fun n hn=>by
    have:=ht n hn;rw[this];show (t::ts).reverse.getD n .err=_;rw[List.reverse_cons]
   refine .emit hg ?_ (ih (by omega) fun n hn=>?_)
   ·show tk ts.length=t;rw[ht ts.length (by exact Nat.lt_add_one ts.length),Qp,Qr (by simp)];simp
   ·rw[ht n (by exact Nat.lt_add_right 1 hn),Qp,List.getElem?_append_left (by simpa using hn),Qp]
noncomputable def wt (t:Tok):Nat:=match nq t with
 | some i=>i.pl.length
 | none=>0
noncomputable def bK:List Tok->Nat
 | []=>0
 | t::r=>wt t+bK r
theorem iX:∀ {l r:List Tok},bK (l++r)=bK l+bK r
 | [],r=>by simp[bK]
 | t::l,r=>by rw[List.cons_append,bK,bK,iX];exact Eq.symm (Nat.add_assoc (wt t) (bK l) (bK r))
theorem lZ:∀ {l:List Tok},bK l.reverse=bK l
 | []=>rfl
 | t::l=>by rw[List.reverse_cons,iX,lZ,bK,bK,bK];exact Nat.add_comm (bK l) (wt t+0)
theorem oX:∀ {l:List Tok} {n:Nat},bK (l.drop n)<=bK l
 | _,0=>Qa _
 | [],_+1=>Qa _
 | t::l,n+1=>by
  have:=oX (l:=l) (n:=n);rw[List.drop_succ_cons,bK];exact Nat.le_add_left_of_le this
theorem qO {b k:Nat} {i:It} (hi:i.pl.length<=k):∀ {its:List It},(∀ x∈its,x.pl.length<=b)->∀ x∈aG its i,x.pl.length<=b+k
 | [],_,x,hx=>by
  have hx:x∈[i]:=hx;rw[List.mem_singleton] at hx;subst hx;exact Nat.le_add_left_of_le hi
 | [l],h,x,hx=>by
  have hx:x∈(if l.kd=ay/\i.kd=ay then [⟨ay,l.pl++i.pl,[],false⟩] else [l,i]):=hx
  have hl:=h l (.head _)
  split at hx
  ·rw[List.mem_singleton] at hx;subst hx;show (l.pl++i.pl).length<=_;rw[bM];exact Nat.add_le_add hl hi
  ·rcases Qz hx with rfl | hx
   ·exact Nat.le_add_right_of_le hl
   ·rw[List.mem_singleton] at hx;subst hx;exact Nat.le_add_left_of_le hi
 | a::c::r,h,x,hx=>by
  have hx:x∈a::aG (c::r) i:=hx;rcases Qz hx with rfl | hx
  ·have:=h x (.head _);exact Nat.le_add_right_of_le this
  ·exact qO hi (fun y hy=>h y (.tail _ hy)) x hx
theorem ry:∀ {ts:List Tok} {its:List It} {b:Nat},(∀ x∈its,x.pl.length<=b)->(ts.foldl eat its).length<=its.length+ts.length/\∀ x∈ts.foldl eat its,x.pl.length<=b+bK ts
 | [],its,b,h=>⟨Qa _,h⟩
 | t::ts,its,b,h=>by
  have h1:(eat its t).length<=its.length+1/\∀ x∈eat its t,x.pl.length<=b+wt t:=by
   dsimp only[eat,wt]
   cases nq t with
   | none=>exact ⟨Nat.le_succ _,h⟩
   | some i=>exact ⟨ma,qO (Qa _) h⟩
  obtain ⟨h2,h3⟩:=ry (ts:=ts) h1.2;rw[List.foldl_cons,bK];exact ⟨by simp only[List.length_cons];lia,fun x hx=>by have:=h3 x hx;lia⟩
theorem vY {z7:List Tok} (ok:∀ t∈z7,fM t) (h1:z7.length<=5000) (h2:bK z7<=20000) :
  ∀ n,n < z7.length->fM (tkN z7 n)/\(bD z7 (n+1)).length<=5000/\∀ i∈bD z7 (n+1),i.pl.length<=20000:=fun n hn=>by
 have hr:n < z7.reverse.length:=by simpa using hn
 obtain ⟨b1,b2⟩:=ry (ts:=(z7.reverse.drop (n+1)).reverse) (its:=[]) (b:=0) fun _ h=>nomatch h;have e1:bK (z7.reverse.drop (n+1)).reverse<=bK z7:=by rw[lZ,<- lZ (l:=z7)];exact oX
 refine ⟨?_,?_,fun i hi=>?_⟩
 ·dsimp only[tkN];rw[Qp,Qo hr];exact ok _ (List.mem_reverse.mp (List.getElem_mem hr))
 ·dsimp only[bD];refine Qf b1 ?_;simp only[List.length_nil,List.length_reverse,List.length_drop];omega
 ·dsimp only[bD] at hi;have:=b2 i hi;lia
noncomputable def txI (u:Str):It:=⟨ay,u,[],false⟩
theorem o7 {its:List It} {a b:Str}:aG (aG its (txI a)) (txI b)=aG its (txI (a++b)):=by
 rcases List.eq_nil_or_concat its with rfl | ⟨l,x,rfl⟩
 ·show aG ([]++[txI a]) (txI b)=[txI (a++b)];rw[fZ,if_pos ⟨rfl,rfl⟩];rfl
 ·rw[List.concat_eq_append,fZ,fZ]
  by_cases h:x.kd=ay
  ·rw[if_pos ⟨h,rfl⟩,if_pos ⟨h,rfl⟩,fZ,if_pos ⟨rfl,rfl⟩];show l++[⟨ay,(x.pl++a)++b,[],false⟩]=l++[⟨ay,x.pl++(a++b),[],false⟩];rw[eA]
  ·rw[if_neg (fun z=>h z.1),if_neg (fun z=>h z.1),fZ,if_pos ⟨rfl,rfl⟩];rfl
noncomputable def txc (c:Nat):Prop:=c≠60/\c≠38/\c≠0
structure Stands (pt:List Tok) (it:It) (n:Nat):Prop where
 eat:∀ its,pt.foldl eat its=aG its it
 ok:∀ t∈pt,fM t
 len:pt.length<=n
 sum:bK pt<=n
structure TagPiece (cps:List Nat) (it:It):Prop where
 head:cps.head?=some 60
 run:∃ pt:List Tok,Stands pt it cps.length/\∀ us r,DL us ⟨.data,.none,r⟩->DL (pt++us) ⟨.data,.none,cps++r⟩
inductive gf (cps:List Nat) (it:It):Prop
 | text:cps≠[]->(∀ c∈cps,txc c)->it=txI (mkS cps)->gf cps it
 | tag:TagPiece cps it->gf cps it
noncomputable def cx:List (List Nat×It)->List Nat
 | []=>[]
 | p::r=>p.1++cx r
theorem rV {p:Nat->Bool}:∀ {u r:List Nat},(∀ c∈u,p c=true)->(r=[]\/∃ c r',r=c::r'/\p c=false)->(u++r).takeWhile p=u/\(u++r).dropWhile p=r
 | [],r,_,h=>by
  rcases h with rfl | ⟨c,r',rfl,e⟩
  ·exact ⟨rfl,rfl⟩
  ·simp[List.takeWhile,List.dropWhile,e]
 | c::u,r,hu,h=>by
  have h1:=hu c (.head _);obtain ⟨a,b⟩:=rV (u:=u) (r:=r) (fun c hc=>hu c (.tail _ hc)) h;simp[List.takeWhile,List.dropWhile,h1,a,b]
theorem rU {p:Nat->Bool}:∀ {u r:List Nat},(r=[]\/∃ c r',r=c::r'/\p c=false)->(u++r).takeWhile p=u.takeWhile p/\(u++r).dropWhile p=u.dropWhile p++r
 | [],r,h=>by
  rcases h with rfl | ⟨c,r',rfl,e⟩
  ·exact ⟨rfl,rfl⟩
  ·simp[List.takeWhile,List.dropWhile,e]
 | c::u,r,h=>by
  obtain ⟨a,b⟩:=rU (u:=u) (r:=r) h
  cases q:p c with
  | true=>simp[List.takeWhile,List.dropWhile,q,a,b]
  | false=>simp[List.takeWhile,List.dropWhile,q]
theorem D6 {c:Nat} (h:txc c):(aA ⟨#[c]⟩ txL==false)=true:=by
 obtain ⟨h1,h2,h3⟩:=h
 cases q:aA ⟨#[c]⟩ txL with
 | false=>rfl
 | true =>
  rw[fh] at q;dsimp only[txL] at q;simp only[List.mem_cons,List.not_mem_nil,or_false,ka] at q;lia
theorem F4:(aA ⟨#[60]⟩ txL==false)=false:=by decide +kernel
theorem sp_in {c:Nat}:(aA ⟨#[c]⟩ ah==true)=true↔aO c:=by
 rw[beq_iff_eq,fh,mU]
theorem sJ {r:List Nat} (h:r=[]\/r.head?=some 60) {p:Nat->Bool} (e:p 60=false):r=[]\/∃ c r',r=c::r'/\p c=false:=by
 rcases h with h | h
 ·exact .inl h
 ·cases r with
  | nil=>cases h
  | cons c r'=>cases h;exact .inr ⟨60,r',rfl,e⟩
theorem i8 (a b:List Nat):mkS (a++b)=mkS a++mkS b:=jU (by rw[bU];simp[mkS])
theorem p0 {u r:List Nat} (h0:u≠[]) (hu:∀ c∈u,txc c) (hz:u.length<=20000) (hr:r=[]\/r.head?=some 60) :
  ∃ pt:List Tok,Stands pt (txI (mkS u)) u.length/\∀ us,DL us ⟨.data,.none,r⟩->DL (pt++us) ⟨.data,.none,u++r⟩:=by
 have plain:∀ (c:Nat) (v:List Nat),(∀ x∈c::v,txc x)->¬ aO c->∀ us,DL us ⟨.data,.none,r⟩->DL (.text 1 (mkS (c::v))::us) ⟨.data,.none,c::v++r⟩:=fun c v hv hs us d=>by
  have hc:=hv c (.head _);refine ag fun G0 hG0=>?_;obtain ⟨e1,e2⟩:=rV (p:=fun c=>aA ⟨#[c]⟩ txL==false) (u:=v) (r:=r) (fun x hx=>D6 (hv x (.tail _ hx))) (sJ hr F4)
  have h:bj .data .none c (v++r)=some (⟨.data,.none,r⟩,some (.text 1 (mkS (c::v)))):=by
   unfold bj aQ;dsimp only;rw[if_neg hc.1,if_neg (by obtain ⟨_,a,b⟩:=hc;exact not_or_intro a b),if_neg hs,e1,e2];exact congrArg (fun s=>some ((⟨.data,.none,r⟩:MS),some (Tok.text 1 s))) (i8 [c] v).symm
  refine hG0 ?_;exact DL.step h d
 match u,h0 with
 | c::v,_ =>
  have hc:=hu c (.head _)
  by_cases hs:aO c
  ·refine ag fun G0 hG0=>?_;obtain ⟨e1,e2⟩:=rU (p:=fun c=>aA ⟨#[c]⟩ ah==true) (u:=v) (r:=r) (sJ hr (by decide +kernel))
   have h:bj .data .none c (v++r)=some (⟨.data,.none,(aN v).2++r⟩,some (.text 2 (mkS (c::(aN v).1)))):=by
    unfold bj;dsimp only;rw[if_neg hc.1,if_neg (by obtain ⟨_,a,b⟩:=hc;exact not_or_intro a b),if_pos hs];dsimp only[aN];rw[e1,e2];exact congrArg (fun s=>some ((⟨.data,.none,v.dropWhile (fun c=>aA ⟨#[c]⟩ ah==true)++r⟩:MS),some (Tok.text 2 s))) (i8 [c] _).symm
   refine hG0 ?_;have ev:(aN v).1++(aN v).2=v:=List.takeWhile_append_dropWhile;have hlen:(aN v).1.length+(aN v).2.length=v.length:=by rw[<- List.length_append,ev]
   simp only[List.length_cons] at hz
   cases q:(aN v).2 with
   | nil =>
    rw[q,List.append_nil] at ev;rw[q,ev] at h
    exact ⟨[.text 2 (mkS (c::v))],⟨fun its=>rfl,fun t ht=>by
     rw[List.mem_singleton] at ht;subst ht;exact ⟨.inr rfl,by rw[eH];simp only[List.length_cons];omega⟩,by simp,by show (mkS (c::v)).length+0<=_;rw[eH];exact Qa _⟩,fun us d=>DL.step h d⟩
   | cons d w =>
    rw[q] at ev h hlen;simp only[List.length_cons] at hlen
    have hd:¬ aO d:=by
     have:∀ {p:Nat->Bool} {l:List Nat},l.dropWhile p=d::w->p d=false:=fun {p l}=>by
      induction l with
      | nil=>intro h;cases h
      | cons a l ih =>
       intro h
       cases z:p a with
       | true=>simp[List.dropWhile,z] at h;exact ih h
       | false=>simp[List.dropWhile,z] at h;rw[<- h.1];exact z
     have:=this q;intro hsp;rw[sp_in.mpr hsp] at this
     cases this
    have hw:∀ x∈d::w,txc x:=fun x hx=>hu x (.tail _ (by rw[<- ev];exact Qj _ hx));refine ⟨[.text 2 (mkS (c::(aN v).1)),.text 1 (mkS (d::w))],⟨fun its=>?_,fun t ht=>?_,by simp;lia,?_⟩,fun us dd=>DL.step h (plain d w hw hd us dd)⟩
    ·show aG (aG its (txI _)) (txI _)=_;rw[o7,<- i8,List.cons_append,ev]
    ·rcases Qz ht with rfl | ht
     ·exact ⟨.inr rfl,by rw[eH];simp only[List.length_cons];lia⟩
     ·rw[List.mem_singleton] at ht;subst ht;exact ⟨.inl rfl,by rw[eH];simp only[List.length_cons];lia⟩
    ·show (mkS (c::(aN v).1)).length+((mkS (d::w)).length+0)<=_;rw[eH,eH];simp only[List.length_cons];lia
  ·simp only[List.length_cons] at hz
   exact ⟨[.text 1 (mkS (c::v))],⟨fun its=>rfl,fun t ht=>by
    rw[List.mem_singleton] at ht;subst ht;exact ⟨.inl rfl,by rw[eH];simp only[List.length_cons];omega⟩,by simp,by show (mkS (c::v)).length+0<=_;rw[eH];exact Qa _⟩,plain c v hu hs⟩
theorem jA:∀ (ps:List (List Nat×It)) (u:List Nat) (its:List It),(∀ p∈ps,gf p.1 p.2)->(∀ c∈u,txc c)->u.length+(cx ps).length<=20000 ->
  ∃ z7:List Tok,z7.foldl eat its=ps.foldl (fun a p=>aG a p.2) (if u=[] then its else aG its (txI (mkS u)))/\(∀ t∈z7,fM t)/\z7.length<=u.length+(cx ps).length/\bK z7<=u.length+(cx ps).length/\DL z7 ⟨.data,.none,u++cx ps⟩
 | [],u,its,_,hu,hz=>by
  by_cases h0:u=[]
  ·subst h0;exact ⟨[],rfl,(fun _ h=>nomatch h),Qu _,Qu _,.eof⟩
  ·obtain ⟨pt,S,d⟩:=p0 (r:=[]) h0 hu (by exact hz) (.inl rfl);refine ⟨pt,?_,S.ok,Qf S.len (Nat.le_add_right _ _),Qf S.sum (Nat.le_add_right _ _),?_⟩
   ·rw[if_neg h0];exact S.eat its
   ·have:=d [] .eof;rw[List.append_nil] at this;exact this
 | p::ps,u,its,hp,hu,hz=>by
  have hz:u.length+(p.1++cx ps).length<=20000:=hz;rw[List.length_append] at hz;have hp2:∀ q∈ps,gf q.1 q.2:=fun q hq=>hp q (.tail _ hq);have fl:(cx (p::ps)).length=p.1.length+(cx ps).length:=List.length_append
  cases hp p (.head _) with
  | text h0 ht hi =>
   refine ag fun G0 hG0=>?_;obtain ⟨z7,a1,a2,a3,a4,a5⟩:=jA ps (u++p.1) its hp2 (fun c hc=>(QA hc).elim (hu c) (ht c)) (by rw[List.length_append];lia);refine hG0 ?_;rw[List.length_append] at a3 a4;refine ⟨z7,?_,a2,by lia,by lia,by rw[Qv] at a5;exact a5⟩;rw[a1,List.foldl_cons,if_neg (by simp[h0])]
   congr 1
   rw[hi]
   by_cases hu0:u=[]
   ·rw[if_pos hu0,hu0,List.nil_append]
   ·rw[if_neg hu0,o7,i8]
  | tag T =>
   obtain ⟨pt,S,d⟩:=T.run
   by_cases hu0:u=[]
   ·refine ag fun G0 hG0=>?_;obtain ⟨z7,a1,a2,a3,a4,a5⟩:=jA ps [] (aG its p.2) hp2 (fun _ h=>nomatch h) (by simp;omega);refine hG0 ?_;simp only[List.length_nil,Nat.zero_add] at a3 a4;have l1:=S.len;have l2:=S.sum;refine ⟨pt++z7,?_,fun t ht=>(QA ht).elim (S.ok t) (a2 t),by rw[List.length_append];lia,by rw[iX];lia,?_⟩
    ·rw[List.foldl_append,S.eat,a1,if_pos hu0,if_pos rfl,List.foldl_cons]
    ·rw[hu0];exact d _ _ a5
   ·refine ag fun G0 hG0=>?_;obtain ⟨z7,a1,a2,a3,a4,a5⟩:=jA ps [] (aG (aG its (txI (mkS u))) p.2) hp2 (fun _ h=>nomatch h) (by simp;omega);refine hG0 ?_;simp only[List.length_nil,Nat.zero_add] at a3 a4
    obtain ⟨pu,SU,du⟩:=p0 (r:=p.1++cx ps) hu0 hu (by lia) (.inr (by
     have:=T.head
     cases hq:p.1 with
     | nil=>rw[hq] at this;cases this
     | cons c r=>rw[hq] at this;exact this))
    have l1:=S.len;have l2:=S.sum;have m1:=SU.len;have m2:=SU.sum;refine ⟨pu++(pt++z7),?_,fun t ht=>(QA ht).elim (SU.ok t) fun ht=>(QA ht).elim (S.ok t) (a2 t),by rw[List.length_append,List.length_append];lia,by rw[iX,iX];lia,du _ (d _ _ a5)⟩;rw[List.foldl_append,List.foldl_append,SU.eat,S.eat,a1,if_pos rfl,if_neg hu0,List.foldl_cons]
end TE
namespace TE
set_option tactic.hygienic false
theorem TagPiece.mk' {cps:List Nat} {it:It} {pt:List Tok} (n:Nat) (h:cps.head?=some 60) (S:Stands pt it cps.length) (run:∀ r,eo n ⟨.data,.none,cps++r⟩=some (⟨.data,.none,r⟩,pt)):TagPiece cps it :=
 ⟨h,pt,S,fun us r d=>jY (run r) d⟩
noncomputable def nw (t:Str):It:=⟨cY,t,[],false⟩
theorem Stands.note {t:Str} {n:Nat} (h:t.length+1<=n):Stands [.note t] (nw t) n :=
 ⟨fun _=>rfl,fun t ht=>by rw[List.mem_singleton] at ht;subst ht;trivial,by simp;exact Nat.one_le_of_lt h,by show t.length+0<=n;exact Qk h⟩
theorem Stands.note2 {t:Str} {n:Nat} (h:t.length+2<=n):Stands [.err,.note t] (nw t) n :=
 ⟨fun _=>rfl,fun t ht=>by
  rcases Qz ht with rfl | ht
  ·trivial
  ·rw[List.mem_singleton] at ht;subst ht;trivial,by simp;exact Nat.le_of_add_left_le h,by show 0+(t.length+0)<=n;lia⟩
theorem vu:∀ t∈lawNotes,TagPiece ((sCo++t)++sCc).cps.toList (nw t):=by
 intro t ht;unfold lawNotes at ht;simp only[List.mem_cons,List.not_mem_nil,or_false] at ht;rcases ht with rfl | rfl | rfl | rfl | rfl
 ·exact .mk' 6 rfl (.note (by decide)) fun r=>by kernel_rfl
 ·exact .mk' 8 rfl (.note (by decide)) fun r=>by kernel_rfl
 ·exact .mk' 11 rfl (.note (by decide)) fun r=>by kernel_rfl
 ·exact .mk' 10 rfl (.note2 (by decide)) fun r=>by kernel_rfl
 ·exact .mk' 8 rfl (.note (by decide)) fun r=>by kernel_rfl
theorem vh:∀ t∈lawTexts,gf t.cps.toList (txI t):=by
 intro t ht;unfold lawTexts at ht;simp only[List.mem_cons,List.not_mem_nil,or_false] at ht
 have k:∀ {s:Str},s.cps.toList≠[]->(s.cps.toList.all fun c=>decide (c≠60/\c≠38/\c≠0))=true->gf s.cps.toList (txI s):=fun h1 h2 =>
  .text h1 (fun c hc=>show c≠60/\c≠38/\c≠0 from of_decide_eq_true (List.all_eq_true.mp h2 c hc)) rfl
 rcases ht with rfl | rfl | rfl | rfl | rfl<;>exact k (by decide) (by decide +kernel)
noncomputable def nV (t:Str):It:=⟨cc,ac t,[],false⟩
theorem Stands.endt {t:Str} {n:Nat} (h:t.length+1<=n):Stands [.endt (ac t)] (nV t) n :=
 ⟨fun _=>rfl,fun t ht=>by rw[List.mem_singleton] at ht;subst ht;trivial,by simp;exact Nat.one_le_of_lt h,by show (ac t).length+0<=n;rw[j0];exact Qk h⟩
theorem wE:∀ t∈lawNames,TagPiece ((sLtS++t)++sGt).cps.toList (nV t)/\TagPiece ((sLtS++t)++sSpGt).cps.toList (nV t):=by
 intro t ht;unfold lawNames at ht;simp only[List.mem_cons,List.not_mem_nil,or_false] at ht;rcases ht with rfl | rfl | rfl | rfl | rfl
 ·exact ⟨.mk' 4 rfl (.endt (by decide)) fun r=>by kernel_rfl,.mk' 5 rfl (.endt (by decide)) fun r=>by kernel_rfl⟩
 ·exact ⟨.mk' 6 rfl (.endt (by decide)) fun r=>by kernel_rfl,.mk' 7 rfl (.endt (by decide)) fun r=>by kernel_rfl⟩
 ·exact ⟨.mk' 5 rfl (.endt (by decide)) fun r=>by kernel_rfl,.mk' 6 rfl (.endt (by decide)) fun r=>by kernel_rfl⟩
 ·exact ⟨.mk' 5 rfl (.endt (by decide)) fun r=>by kernel_rfl,.mk' 6 rfl (.endt (by decide)) fun r=>by kernel_rfl⟩
 ·exact ⟨.mk' 6 rfl (.endt (by decide)) fun r=>by kernel_rfl,.mk' 7 rfl (.endt (by decide)) fun r=>by kernel_rfl⟩
theorem xK:∀ t∈lawNames,∀ us r,DL us ⟨.tagName,.start t [],r⟩->DL us ⟨.data,.none,(sLt++t).cps.toList++r⟩:=by
 intro t ht us r d;unfold lawNames at ht;simp only[List.mem_cons,List.not_mem_nil,or_false] at ht;have k:∀ {n:Nat} {ms ms':MS},eo n ms=some (ms',[])->DL us ms'->DL us ms:=fun h d=>jY h d;rcases ht with rfl | rfl | rfl | rfl | rfl
 ·exact k (n:=2) (by kernel_rfl) d
 ·exact k (n:=4) (by kernel_rfl) d
 ·exact k (n:=3) (by kernel_rfl) d
 ·exact k (n:=3) (by kernel_rfl) d
 ·exact k (n:=4) (by kernel_rfl) d
noncomputable def jws:List (Nat×Nat):=[(0,0),(0,1),(0,2),(1,0),(1,1),(1,2),(2,0),(2,1),(2,2),(3,0),(3,1),(3,2),(4,0),(4,1),(4,2),(5,0),(5,1),(5,2)]
noncomputable def eV (key:Str):Nat×Nat->Str
 | (0,2)=>key
 | _=>ac key
noncomputable def eU:Nat×Nat->St
 | (0,2)=>.attrN
 | (1,1)=>.uq
 | _=>.aftAV
noncomputable def jp (ks:Nat):Nat×Nat->Nat
 | (0,2)=>ks
 | (1,1)=>ks+2
 | (3,_)=>ks+6
 | (0,0)=>ks+3
 | (0,_)=>ks+5
 | (_,0)=>ks+4
 | _=>ks+6
theorem Gy (nm:Str) (r:List Nat):jws.map (fun p=>[32,62].map fun d=>eo (jp 1 p) ⟨.attrN,.start nm [(ao 104,⟨#[]⟩)],((bm p.1 p.2 kHref).1.cps.toList.drop 1)++d::r⟩) =
  jws.map (fun p=>[32,62].map fun d=>some (⟨eU p,.start nm [(eV kHref p,vals.getD p.1 ⟨#[]⟩)],d::r⟩,[])):=by kernel_rfl
theorem Gx (nm x1:Str) (r:List Nat):jws.map (fun p=>[32,62].map fun d=>eo (jp 0 p) ⟨.attrN,.start nm [(ac kHref,x1),(ao 66,⟨#[]⟩)],((bm p.1 p.2 kB).1.cps.toList.drop 1)++d::r⟩) =
  jws.map (fun p=>[32,62].map fun d=>some (⟨eU p,.start nm [(ac kHref,x1),(eV kB p,vals.getD p.1 ⟨#[]⟩)],d::r⟩,[])):=by kernel_rfl
theorem Gw (nm x1 x2:Str) (r:List Nat):jws.map (fun p=>[32,62].map fun d=>eo (jp 3 p) ⟨.attrN,.start nm [(ac kHref,x1),(ac kB,x2),(ao 100,⟨#[]⟩)],((bm p.1 p.2 kDC).1.cps.toList.drop 1)++d::r⟩) =
  jws.map (fun p=>[32,62].map fun d=>some (⟨eU p,.start nm [(ac kHref,x1),(ac kB,x2),(eV kDC p,vals.getD p.1 ⟨#[]⟩)],d::r⟩,[])):=by kernel_rfl
end TE
namespace TE
set_option tactic.hygienic false
inductive bY:St->List (Str×Str)->List (Str×Str)->Prop
 | tag:bY .tagName [] []
 | av {p:Str×Str} {l:List (Str×Str)}:bY .aftAV (p::l) (p::l)
 | uq {p:Str×Str} {l:List (Str×Str)}:bY .uq (p::l) (p::l)
 | an {p:Str×Str} {l:List (Str×Str)}:fresh (p::l)=true->bY .attrN (p::l) (cq (p::l))
theorem DL.quiet {st:St} {cur:Cur} {c:Nat} {r:List Nat} {ms:MS} {us:List Tok} (h:bj st cur c r=some (ms,none)) (d:DL us ms):DL us ⟨st,cur,c::r⟩:=DL.step h d
theorem DL.emit {st:St} {cur:Cur} {c:Nat} {r:List Nat} {ms:MS} {t:Tok} {us:List Tok} (h:bj st cur c r=some (ms,some t)) (d:DL us ms):DL (t::us) ⟨st,cur,c::r⟩:=DL.step h d
section
variable {st:St} {raw low:List (Str×Str)} {nm:Str} {c:Nat} {r:List Nat} {us:List Tok}
theorem wK {l:List (Str×Str)} (hl:l.length<=2) (hc:aS c):bj .befAN (.start nm l) c r=some (⟨.attrN,.start nm (l++[(ao c,⟨#[]⟩)]),r⟩,none):=by
 unfold bj;dsimp only;rw[if_neg (by unfold aS at hc;exact nL hc rfl),if_pos hc,if_pos hl]
theorem wO {p:Str×Str} {l:List (Str×Str)} (hl:l.length<=1) (hc:aS c):bj .aftAN (.start nm (p::l)) c r=some (⟨.attrN,.start nm (p::l++[(ao c,⟨#[]⟩)]),r⟩,none):=by
 unfold bj;dsimp only;rw[if_neg (by lia),if_neg (by unfold aS at hc;exact nL hc rfl),if_neg (by unfold aS at hc;exact nL hc rfl),if_pos hc,if_pos hl]
theorem ln (p:Str×Str):∀ l:List (Str×Str),∃ q l',cq (p::l)=q::l'/\l'.length=l.length
 | []=>⟨_,[],rfl,rfl⟩
 | q::r=>by
  obtain ⟨a,b,e,h⟩:=ln q r;refine ⟨p,a::b,?_,by simp[h]⟩;show p::cq (q::r)=_;rw[e]
theorem oF (R:bY st raw low) (hl:raw.length<=3):∃ st',(st'=.befAN\/(st'=.aftAN/\low≠[]))/\bj st (.start nm raw) 32 r=some (⟨st',.start nm low,r⟩,none):=by
 cases R with
 | tag=>exact ⟨.befAN,.inl rfl,rfl⟩
 | @av p l =>
  refine ⟨.befAN,.inl rfl,?_⟩;unfold bj;dsimp only;rw[if_neg (by simp only[List.length_cons] at hl;omega),if_pos (by decide)]
 | @uq p l =>
  refine ⟨.befAN,.inl rfl,?_⟩;unfold bj;dsimp only;rw[if_neg (by simp only[List.length_cons] at hl;omega),if_pos (by decide)]
 | @an p l hf =>
  obtain ⟨q,l',e,_⟩:=ln p l;refine ⟨.aftAN,.inr ⟨rfl,by rw[e];exact List.cons_ne_nil _ _⟩,?_⟩;unfold bj;dsimp only;rw[if_neg (by simp only[List.length_cons] at hl;exact Nat.not_le_of_lt hl),if_neg (by decide),if_neg (by decide),if_neg (by decide),if_pos (by decide),if_pos hf]
theorem jB (R:bY st raw low):low.length=raw.length:=by
 cases R with
 | tag=>rfl
 | av=>rfl
 | uq=>rfl
 | @an p l _ =>
  obtain ⟨q,l',e,h⟩:=ln p l;rw[e];simp[h]
theorem xJ (R:bY st raw low) (hl:raw.length<=2) (hc:aS c) (d:DL us ⟨.attrN,.start nm (low++[(ao c,⟨#[]⟩)]),r⟩):DL us ⟨st,.start nm raw,32::c::r⟩:=by
 obtain ⟨st',h,hs⟩:=oF (nm:=nm) (r:=c::r) R (by exact Nat.le_succ_of_le hl);have ll:=jB R;refine DL.quiet hs ?_;rcases h with rfl | ⟨rfl,hn⟩
 ·exact DL.quiet (wK (by exact le_of_eq_of_le ll hl) hc) d
 ·cases low with
  | nil=>exact absurd rfl hn
  | cons q l=>exact DL.quiet (wO (by simp only[List.length_cons] at ll;lia) hc) d
theorem wb (hd:ci low=true):bj .selfC (.start nm low) 62 r=some (⟨.data,.none,r⟩,some (.start (ac nm) low true)):=by
 unfold bj;dsimp only;rw[if_pos ⟨rfl,hd⟩]
theorem Bn (R:bY st raw low) (hl:raw.length<=3) (hd:ci low=true) (d:DL us ⟨.data,.none,r⟩):DL (.start (ac nm) low true::us) ⟨st,.start nm raw,32::47::62::r⟩:=by
 obtain ⟨st',h,hs⟩:=oF (nm:=nm) (r:=47::62::r) R hl;have ll:=jB R;refine DL.quiet hs ?_
 have e:bj st' (.start nm low) 47 (62::r)=some (⟨.selfC,.start nm low,62::r⟩,none):=by
  rcases h with rfl | ⟨rfl,hn⟩
  ·unfold bj;dsimp only;rw[if_pos rfl,if_pos (by exact le_of_eq_of_le ll hl)]
  ·cases low with
   | nil=>exact absurd rfl hn
   | cons q l =>
    unfold bj;dsimp only;rw[if_neg (by simp only[List.length_cons] at ll;lia),if_neg (by decide),if_pos rfl]
 exact DL.quiet e (DL.emit (wb hd) d)
theorem Bo (R:bY st raw low) (hl:raw.length<=3) (hd:ci low=true) (d:DL us ⟨.data,.none,r⟩):DL (.start (ac nm) low false::us) ⟨st,.start nm raw,62::r⟩:=by
 have e:bj st (.start nm raw) 62 r=some (⟨.data,.none,r⟩,some (.start (ac nm) low false)):=by
  cases R with
  | tag=>rfl
  | @av p l =>
   unfold bj;dsimp only;rw[if_neg (by simp only[List.length_cons] at hl;omega),if_neg (by decide),if_pos ⟨rfl,hd⟩]
  | @uq p l =>
   unfold bj;dsimp only;rw[if_neg (by simp only[List.length_cons] at hl;omega),if_neg (by decide),if_pos ⟨rfl,hd⟩]
  | @an p l hf =>
   unfold bj;dsimp only;rw[if_neg (by simp only[List.length_cons] at hl;omega),if_neg (by decide),if_neg (by decide),if_pos rfl,if_pos ⟨hf,hd⟩]
 exact DL.emit e d
theorem wJ {key v:Str} {pre:List (Str×Str)} {p:Nat×Nat} (hf:p=(0,2)->fresh (pre++[(key,v)])=true) (hlast:cq (pre++[(key,v)])=pre++[(ac key,v)]) :
  bY (eU p) (pre++[(eV key p,v)]) (pre++[(ac key,v)]):=by
 have hn:∀ k:Str,∃ q l,pre++[(k,v)]=q::l:=fun k=>by
  cases pre with
  | nil=>exact ⟨_,_,rfl⟩
  | cons a b=>exact ⟨_,_,rfl⟩
 have av:bY .aftAV (pre++[(ac key,v)]) (pre++[(ac key,v)]):=by
  obtain ⟨q,l,e⟩:=hn (ac key);rw[e];exact .av
 have uq:bY .uq (pre++[(ac key,v)]) (pre++[(ac key,v)]):=by
  obtain ⟨q,l,e⟩:=hn (ac key);rw[e];exact .uq
 have cb:p=(0,2)\/(eU p=.uq/\eV key p=ac key)\/(eU p=.aftAV/\eV key p=ac key):=by
  dsimp only[eU,eV]
  match p with
  | (0,2)=>exact .inl rfl
  | (1,1)=>exact .inr (.inl ⟨rfl,rfl⟩)
  | (0,0)=>exact .inr (.inr ⟨rfl,rfl⟩)
  | (0,1)=>exact .inr (.inr ⟨rfl,rfl⟩)
  | (0,_+3)=>exact .inr (.inr ⟨rfl,rfl⟩)
  | (1,0)=>exact .inr (.inr ⟨rfl,rfl⟩)
  | (1,_+2)=>exact .inr (.inr ⟨rfl,rfl⟩)
  | (_+2,_)=>exact .inr (.inr ⟨rfl,rfl⟩)
 rcases cb with rfl | ⟨e1,e2⟩ | ⟨e1,e2⟩
 ·rw[<- hlast];have:=hf rfl;obtain ⟨q,l,e⟩:=hn key;show bY .attrN (pre++[(key,v)]) _;rw[e] at this ⊢;exact .an this
 ·rw[e1,e2];exact uq
 ·rw[e1,e2];exact av
theorem CU {j w:Nat} (hj:j < 6) (hw:w < 3):(j,w)∈jws:=by
 have:∀ j,j < 6->∀ w,w < 3->(j,w)∈jws:=by decide
 exact this j hj w hw
theorem mi {key:Str} {pre:List (Str×Str)} {c0:Nat} {ks:Nat} (hk:key.cps.toList.head?=some c0) (hc:aS c0) (hp:pre.length<=2)
  (body:∀ (nm:Str) (r:List Nat),jws.map (fun p=>[32,62].map fun d=>eo (jp ks p) ⟨.attrN,.start nm (pre++[(ao c0,⟨#[]⟩)]),((bm p.1 p.2 key).1.cps.toList.drop 1)++d::r⟩) =
   jws.map (fun p=>[32,62].map fun d=>some (⟨eU p,.start nm (pre++[(eV key p,vals.getD p.1 ⟨#[]⟩)]),d::r⟩,[])))
  (hf:fresh (pre++[(key,⟨#[]⟩)])=true) (hl:∀ v,cq (pre++[(key,v)])=pre++[(ac key,v)])
  (R:bY st raw pre) (n:Int) {d:Nat} (hd:d=32\/d=62):∃ st' raw',bY st' raw' (pre++[(ac key,(af n key).2)])/\∀ nm us r,DL us ⟨st',.start nm raw',d::r⟩->DL us ⟨st,.start nm raw,(sSp++(af n key).1).cps.toList++d::r⟩:=by
 have hj:(Int.fmod n 6).toNat < 6:=by
  have h1:=Int.fmod_nonneg_of_pos n (b:=6) (by decide);have h2:=Int.fmod_lt_of_pos n (b:=6) (by decide);simp[*]
 have hw:(Int.fmod (Int.fdiv n 6) 3).toNat < 3:=by
  have h1:=Int.fmod_nonneg_of_pos (Int.fdiv n 6) (b:=3) (by decide);have h2:=Int.fmod_lt_of_pos (Int.fdiv n 6) (b:=3) (by decide);simp[*]
 dsimp only[af];generalize (Int.fmod n 6).toNat=j at hj ⊢;generalize (Int.fmod (Int.fdiv n 6) 3).toNat=w at hw ⊢
 have hv:(bm j w key).2=vals.getD j ⟨#[]⟩:=by
  dsimp only[bm]
  repeat' split
  all_goals rfl
 have hh:∃ ct,(bm j w key).1.cps.toList=c0::ct:=by
  obtain ⟨kt,ek⟩:∃ kt,key.cps.toList=c0::kt:=by
   cases q:key.cps.toList with
   | nil=>rw[q] at hk;exact non hk
   | cons a b=>rw[q] at hk;obtain rfl:=Qb hk;exact ⟨b,rfl⟩
  dsimp only[bm]
  repeat' split
  all_goals simp only[bU,ek,List.cons_append]
  all_goals exact ⟨_,rfl⟩
 obtain ⟨ct,z6⟩:=hh;refine ⟨eU (j,w),pre++[(eV key (j,w),vals.getD j ⟨#[]⟩)],?_,fun nm us r dd=>?_⟩
 ·rw[hv];refine wJ (fun e=>?_) (hl _);have:j=0:=congrArg Prod.fst e;subst this;exact hf
 ·have b:=List.map_eq_map_iff.mp (body nm r) (j,w) (CU hj hw);dsimp only at b;rw[z6] at b;simp only[List.map_cons,List.map_nil,List.cons.injEq,and_true,List.drop_succ_cons,List.drop_zero] at b
  have run:eo (jp ks (j,w)) ⟨.attrN,.start nm (pre++[(ao c0,⟨#[]⟩)]),ct++d::r⟩=some (⟨eU (j,w),.start nm (pre++[(eV key (j,w),vals.getD j ⟨#[]⟩)]),d::r⟩,[]):=by
   rcases hd with rfl | rfl
   ·exact b.1
   ·exact b.2
  rw[bU,z6];have ll:=jB R;exact xJ R (by exact le_of_eq_of_le (id (Eq.symm ll)) hp) hc (jY run dd)
end
end TE
namespace TE
set_option tactic.hygienic false
theorem Cv (X:Str) (hz:X.length<=10240):∃ (init:List Str) (last:Str),Txt.split X NL=init++[last]/\(init.length:Int)=Txt.count X NL/\(last.length:Int)=dx X/\init.length<=20000/\last.length<=20000:=by
 have h1:=split_pos X NL;rcases List.eq_nil_or_concat (Txt.split X NL) with h | ⟨init,last,h⟩
 ·rw[h] at h1;cases h1
 ·rw[List.concat_eq_append] at h;have hl:((Txt.split X NL).length:Int)=1+Txt.count X NL:=by rw[show NL=⟨#[10]⟩ from rfl,split_len,count_cnt]
  rw[h,List.length_append] at hl;simp only[List.length_cons,List.length_nil] at hl;have hle:=split_le X NL;rw[h,List.length_append] at hle;simp only[List.length_cons,List.length_nil] at hle;have hfree:10 ∉ last.cps.toList:=StrLaws.split_free X 10 last (by show last∈Txt.split X NL;rw[h];simp);have hsh:last.length<=X.length:=part_short (x:=X) (y:=NL) (by rw[h];simp);have hj:=StrLaws.join_split X NL;rw[h,PyProof.Rows.FinIter.join_snoc] at hj;have at_iff:∀ i,StrLaws.At X NL X.length i↔X.cps.toList[i]?=some 10:=fun i=>StrLaws.subAt_one X 10 i
  have col:(last.length:Int)=dx X:=by
   have rw:=rfind_whole X NL;simp only[at_iff] at rw;unfold dx
   by_cases h0:init=[]
   ·rw[if_pos h0] at hj;subst hj;rcases rw with ⟨e,_⟩ | ⟨i,_,e,_⟩
    ·rw[if_pos e]
    ·exact absurd (Ql e) hfree
   ·rw[if_neg h0] at hj
    have hc:X.cps.toList=(Str.join NL init).cps.toList++10::last.cps.toList:=by
     rw[<- hj,bU,bU,Qv];rfl
    have hL:X.length=(Str.join NL init).length+1+last.length:=by
     have:=congrArg List.length hc;rw[List.length_append,List.length_cons] at this;show X.cps.toList.length=_;rw[this];show (Str.join NL init).cps.toList.length+(last.cps.toList.length+1)=(Str.join NL init).cps.toList.length+1+last.cps.toList.length;exact Eq.symm (Nat.succ_add_eq_add_succ (NL.join init).cps.toList.length last.cps.toList.length)
    have a0:X.cps.toList[(Str.join NL init).length]?=some 10:=by
     rw[hc,show (Str.join NL init).length=(Str.join NL init).cps.toList.length from rfl,Qr (Qa _),Nat.sub_self];rfl
    rcases rw with ⟨_,e⟩ | ⟨i,e1,e2,e3⟩
    ·exact absurd a0 (e _)
    ·have i1:¬ i < (Str.join NL init).length:=fun z=>e3 _ z a0
     have i2:¬ (Str.join NL init).length < i:=fun z=>by
      rw[show (Str.join NL init).length=(Str.join NL init).cps.toList.length from rfl] at z;rw[hc,Qr (Qk z)] at e2;obtain ⟨k,hk⟩:∃ k,i - (Str.join NL init).cps.toList.length=k+1:=⟨i - (Str.join NL init).cps.toList.length - 1,by lia⟩;rw[hk,List.getElem?_cons_succ] at e2;exact hfree (Ql e2)
     rw[e1,if_neg (by simp)];lia
  exact ⟨init,last,h,by lia,col,by lia,by lia⟩
theorem Au (X:Str) (hz:X.length<=10240):(Builtin.Str.partsBetween X (Builtin.Str.occurrences X NL 0 X.length (X.length+1)) NL.length).length<=sizeLine:=by
 rw[len_partsBetween];have:=StrLaws.occ_length_le X NL 0 X.length (X.length+1);unfold sizeLine;lia
end TE
namespace TE
set_option tactic.hygienic false
open PySem PySem.W PySem.Calls PyProof.Rows PySem.SeqAt
noncomputable def fW (cl:Bool):Str:=if cl=true then sCl else sGt
theorem yw (cl:Bool):∃ d t,(d=32\/d=62)/\(fW cl).cps.toList=d::t:=by
 cases cl
 ·exact ⟨62,[],.inr rfl,rfl⟩
 ·exact ⟨32,[47,62],.inl rfl,rfl⟩
theorem ki {st:St} {raw low:List (Str×Str)} {nm:Str} {us:List Tok} {r:List Nat} (R:bY st raw low) (hl:raw.length<=3) (hd:ci low=true) (cl:Bool) (d:DL us ⟨.data,.none,r⟩) :
  DL (.start (ac nm) low cl::us) ⟨st,.start nm raw,(fW cl).cps.toList++r⟩:=by
 cases cl
 ·exact Bo R hl hd d
 ·exact Bn R hl hd d
theorem nK {n:Int} {d:Nat} (hd:d=32\/d=62):∃ st raw,bY st raw [(ac kHref,(af n kHref).2)]/\∀ nm us r,DL us ⟨st,.start nm raw,d::r⟩->DL us ⟨.tagName,.start nm [],(sSp++(af n kHref).1).cps.toList++d::r⟩ :=
 mi (pre:=[]) (c0:=104) (ks:=1) rfl (by decide) (by decide) Gy rfl (fun _=>rfl) .tag n hd
theorem tQ {x1:Str} {st:St} {raw:List (Str×Str)} (R:bY st raw [(ac kHref,x1)]) {n:Int} {d:Nat} (hd:d=32\/d=62) :
  ∃ st' raw',bY st' raw' [(ac kHref,x1),(ac kB,(af n kB).2)]/\∀ nm us r,DL us ⟨st',.start nm raw',d::r⟩->DL us ⟨st,.start nm raw,(sSp++(af n kB).1).cps.toList++d::r⟩ :=
 mi (pre:=[(ac kHref,x1)]) (c0:=66) (ks:=0) rfl (by decide) (by simp) (fun nm r=>Gx nm x1 r) (by kernel_rfl) (fun _=>rfl) R n hd
theorem GB {x1 x2:Str} {st:St} {raw:List (Str×Str)} (R:bY st raw [(ac kHref,x1),(ac kB,x2)]) {n:Int} {d:Nat} (hd:d=32\/d=62) :
  ∃ st' raw',bY st' raw' [(ac kHref,x1),(ac kB,x2),(ac kDC,(af n kDC).2)]/\∀ nm us r,DL us ⟨st',.start nm raw',d::r⟩->DL us ⟨st,.start nm raw,(sSp++(af n kDC).1).cps.toList++d::r⟩ :=
 mi (pre:=[(ac kHref,x1),(ac kB,x2)]) (c0:=100) (ks:=3) rfl (by decide) (by simp) (fun nm r=>Gw nm x1 x2 r) (by kernel_rfl) (fun _=>rfl) R n hd
theorem lK {st:St} {raw low:List (Str×Str)} (R:bY st raw low) {n:Nat} (h:low.length<=n):raw.length<=n:=by rw[<- jB R];exact h
theorem xm {nm:Str} {m:Nat} (hm:m<=3) (ns:List Int) (cl:Bool) {us:List Tok} {r:List Nat} (d:DL us ⟨.data,.none,r⟩) :
  DL (.start (ac nm) (bb (lawKeys.take m) ns) cl::us) ⟨.tagName,.start nm [],(cW (lawKeys.take m) ns++fW cl).cps.toList++r⟩:=by
 obtain ⟨c,t,hc,ec⟩:=yw cl;have cons:∀ x:Str,(sSp++x).cps.toList=32::x.cps.toList:=fun x=>by rw[bU];rfl
 match m,hm with
 | 0,_ =>
  show DL (.start (ac nm) [] cl::us) ⟨.tagName,.start nm [],((⟨#[]⟩:Str)++fW cl).cps.toList++r⟩;rw[eF];exact ki .tag (by decide) rfl cl d
 | 1,_ =>
  refine ag fun G0 hG0=>?_;obtain ⟨s1,w1,R1,k1⟩:=nK (n:=hd ns) hc;refine hG0 ?_;show DL (.start (ac nm) [_] cl::us) ⟨.tagName,.start nm [],((sSp++(af (hd ns) kHref).1)++⟨#[]⟩++fW cl).cps.toList++r⟩;rw[dI,bU,Qv,ec];refine k1 nm _ (t++r) ?_;have:=ki (nm:=nm) R1 (lK R1 (by simp)) rfl cl d;rw[ec] at this;exact this
 | 2,_ =>
  refine ag fun G0 hG0=>?_;obtain ⟨s1,w1,R1,k1⟩:=nK (n:=hd ns) (d:=32) (.inl rfl);obtain ⟨s2,w2,R2,k2⟩:=tQ R1 (n:=hd ns.tail) hc;refine hG0 ?_;show DL (.start (ac nm) [_,_] cl::us) ⟨.tagName,.start nm [],((sSp++(af (hd ns) kHref).1)++((sSp++(af (hd ns.tail) kB).1)++⟨#[]⟩)++fW cl).cps.toList++r⟩;have e1:=cons (af (hd ns.tail) kB).1;generalize sSp++(af (hd ns) kHref).1=a0 at k1 ⊢;generalize sSp++(af (hd ns.tail) kB).1=a1 at k2 e1 ⊢;rw[dI,bU,bU,Qv,Qv,ec,e1];refine k1 nm _ _ ?_;have:=k2 nm _ (t++r) (ec▸ki (nm:=nm) R2 (lK R2 (by simp)) (by kernel_rfl) cl d);rw[e1] at this;exact this
 | 3,_ =>
  refine ag fun G0 hG0=>?_;obtain ⟨s1,w1,R1,k1⟩:=nK (n:=hd ns) (d:=32) (.inl rfl);obtain ⟨s2,w2,R2,k2⟩:=tQ R1 (n:=hd ns.tail) (d:=32) (.inl rfl);obtain ⟨s3,w3,R3,k3⟩:=GB R2 (n:=hd ns.tail.tail) hc;refine hG0 ?_;show DL (.start (ac nm) [_,_,_] cl::us) ⟨.tagName,.start nm [],((sSp++(af (hd ns) kHref).1)++((sSp++(af (hd ns.tail) kB).1)++((sSp++(af (hd ns.tail.tail) kDC).1)++⟨#[]⟩))++fW cl).cps.toList++r⟩;have e1:=cons (af (hd ns.tail) kB).1;have e2:=cons (af (hd ns.tail.tail) kDC).1;generalize sSp++(af (hd ns) kHref).1=a0 at k1 ⊢;generalize sSp++(af (hd ns.tail) kB).1=a1 at k2 e1 ⊢;generalize sSp++(af (hd ns.tail.tail) kDC).1=a2 at k3 e2 ⊢;rw[dI,bU,bU,bU,Qv,Qv,Qv,ec,e1,e2];refine k1 nm _ _ ?_;have h3:=k3 nm _ (t++r) (ec▸ki (nm:=nm) R3 (lK R3 (by simp)) (by kernel_rfl) cl d);rw[e2] at h3;have h2:=k2 nm _ _ h3;rw[e1] at h2;exact h2
 | m+4,hm=>exact absurd hm (by simp)
theorem gK {l:List Str} (hl:l.length=5) (ns:List Int):wd l ns∈l:=by
 have h:=pG ns;unfold wd;rw[Qp,Qo (by simp[*])];exact List.getElem_mem _
theorem CT (ns:List Int):(kN ns).toNat<=3:=by
 rcases iZ ns with h | h | h | h<;>rw[h]<;>decide
theorem oB:∀ (ks:List Str) (ns:List Int),(bb ks ns).length=ks.length
 | [],_=>rfl
 | _::r,ns=>by show (bb r ns.tail).length+1=r.length+1;rw[oB]
theorem vn (ns:List Int) (h:kN ns=0):TagPiece (aE ns).cps.toList (aH ns):=by
 have ep:aE ns=(sLt++wd lawNames ns)++(cW (bA ns) ns.tail.tail++fW (decide (clN ns=1))):=by
  unfold aE fW;rw[if_pos h]
  by_cases q:clN ns=1
  ·rw[if_pos q,if_pos (decide_eq_true q)]
  ·rw[if_neg q,if_neg (by simp[q])]
 have ei:aH ns=⟨aF,ac (wd lawNames ns),bb (bA ns) ns.tail.tail,decide (clN ns=1)⟩:=by
  unfold aH;rw[if_pos h]
 rw[ep,ei];have hk:=CT ns.tail;refine ⟨?_,[.start (ac (wd lawNames ns)) (bb (bA ns) ns.tail.tail) (decide (clN ns=1))],⟨fun _=>rfl,fun t ht=>?_,?_,?_⟩,fun us r d=>?_⟩
 ·rw[bU,bU];rfl
 ·rw[List.mem_singleton] at ht;subst ht;show (bb (bA ns) ns.tail.tail).length<=3;rw[oB];unfold bA;rw[List.length_take];exact Nat.min_le_right (kN ns.tail).toNat lawKeys.length
 ·rw[bU,bU,List.length_append,List.length_append];show 1<=1+_+_;lia
 ·show (ac (wd lawNames ns)).length+0<=((sLt++wd lawNames ns)++_).length;rw[j0,bM,bM];lia
 ·rw[bU,Qv];exact xK _ (gK rfl ns) _ _ (xm hk ns.tail.tail _ d)
theorem Ar (ns:List Int):gf (aE ns).cps.toList (aH ns):=by
 by_cases h0:kN ns=0
 ·exact .tag (vn ns h0)
 ·unfold aE aH;rw[if_neg h0,if_neg h0]
  by_cases h1:kN ns=1
  ·rw[if_pos h1,if_pos h1];have:=wE _ (gK (l:=lawNames) rfl ns)
   split
   ·exact .tag this.2
   ·exact .tag this.1
  ·rw[if_neg h1,if_neg h1]
   by_cases h2:kN ns=2
   ·rw[if_pos h2,if_pos h2];exact .tag (vu _ (gK rfl ns))
   ·rw[if_neg h2,if_neg h2];exact vh _ (gK rfl ns)
end TE
namespace TE
set_option tactic.hygienic false
open PySem PySem.W PySem.Calls PyProof.Rows PySem.SeqAt
noncomputable def bW (s:Str):Prop:=∀ c∈s.cps.toList,cD c
theorem cz {a b:Str} (ha:bW a) (hb:bW b):bW (a++b):=fun c hc=>by
 rw[bU] at hc;exact (QA hc).elim (ha c) (hb c)
theorem ph:bW ⟨#[]⟩:=fun _ h=>noM h
theorem fj {l:List Str} (h:(l.all fun s=>s.cps.toList.all fun c=>decide (c=10\/(32<=c/\c < 127)))=true):∀ s∈l,bW s:=fun s hs c hc=>by
 have:=List.all_eq_true.mp (List.all_eq_true.mp h s hs) c hc;exact show c=10\/(32<=c/\c < 127) from of_decide_eq_true this
theorem CE (j:Nat):bW (vals.getD j ⟨#[]⟩):=by
 rw[Qp]
 cases h:vals[j]? with
 | none=>exact ph
 | some s =>
  have:=Ql h;exact fj (l:=vals) (by decide +kernel) s this
theorem qW {key:Str} (hk:bW key) (n:Int):bW (af n key).1/\bW (af n key).2:=by
 have w:∀ s∈[(⟨#[61,39]⟩:Str),⟨#[39]⟩,⟨#[61]⟩,⟨#[32,61,32,34]⟩,⟨#[34]⟩],bW s:=fj (by decide +kernel);dsimp only[af,bm];have v:=CE (Int.fmod n 6).toNat
 split
 ·exact ⟨cz (cz (cz hk (w _ (by simp))) v) (w _ (by simp)),v⟩
 ·split
  ·exact ⟨cz (cz hk (w _ (by simp))) v,v⟩
  ·split
   ·exact ⟨hk,v⟩
   ·exact ⟨cz (cz (cz hk (w _ (by simp))) v) (w _ (by simp)),v⟩
theorem qS:∀ (ks:List Str) (ns:List Int),(∀ k∈ks,bW k)->bW (cW ks ns)
 | [],_,_=>ph
 | k::r,ns,h=>cz (cz (fj (l:=[sSp]) (by decide +kernel) _ (.head _)) (qW (h k (.head _)) (hd ns)).1) (qS r ns.tail fun x hx=>h x (.tail _ hx))
theorem jN {ns:List Int}:bW (wd lawNames ns):=fj (l:=lawNames) (by decide +kernel) _ (gK rfl ns)
theorem qs {ns:List Int}:bW (wd lawNotes ns):=fj (l:=lawNotes) (by decide +kernel) _ (gK rfl ns)
theorem qr {ns:List Int}:bW (wd lawTexts ns):=fj (l:=lawTexts) (by decide +kernel) _ (gK rfl ns)
theorem qV:∀ k∈lawKeys,bW k:=fj (by decide +kernel)
theorem Az (ns:List Int):bW (aE ns):=by
 have w:∀ s∈[sLt,sSp,sCl,sGt,sLtS,sSpGt,sCo,sCc],bW s:=fj (by decide +kernel);dsimp only[aE]
 split
 ·refine cz (cz (w _ (by simp)) jN) (cz (qS _ _ fun k hk=>qV k (List.mem_of_mem_take hk)) ?_)
  split<;>exact w _ (by simp)
 ·split
  ·split<;>exact cz (cz (w _ (by simp)) jN) (w _ (by simp))
  ·split
   ·exact cz (cz (w _ (by simp)) qs) (w _ (by simp))
   ·exact qr
noncomputable def iF (i:It):Prop:=cm i.kd/\cm i.pl/\∀ p∈i.row,cm p.1/\cm p.2
theorem lM {s:Str} (h:∀ c∈s.cps.toList,c < 0x110000):cm s:=by
 show s.cps.all (· < 0x110000)=true;rw[<- Array.all_toList,List.all_eq_true];exact fun c hc=>decide_eq_true (h c hc)
theorem pg {s:Str} (h:cm s):∀ c∈s.cps.toList,c < 0x110000:=by
 have h:s.cps.all (· < 0x110000)=true:=h;rw[<- Array.all_toList,List.all_eq_true] at h;exact fun c hc=>of_decide_eq_true (h c hc)
theorem wl {a b:Str} (ha:cm a) (hb:cm b):cm (a++b):=lM fun c hc=>by
 rw[bU] at hc;exact (QA hc).elim (pg ha c) (pg hb c)
theorem gB {s:Str} (h:bW s):cm s:=lM fun c hc=>by
 have:=h c hc;dsimp only[cD] at this;lia
theorem lA {s:Str} (h:bW s):cm (ac s):=lM fun c hc=>by
 have hc:c∈s.cps.toList.map bS:=by
  dsimp only[ac] at hc;simpa using hc
 obtain ⟨a,ha,rfl⟩:=List.mem_map.mp hc;have:=h a ha;dsimp only[cD] at this;dsimp only[bS]
 split<;>lia
theorem su:∀ (ks:List Str) (ns:List Int),(∀ k∈ks,bW k)->∀ p∈bb ks ns,cm p.1/\cm p.2
 | [],_,_,_,h=>nomatch h
 | k::r,ns,h,p,hp=>by
  have hp:p∈(ac k,(af (hd ns) k).2)::bb r ns.tail:=hp;rcases Qz hp with rfl | hp
  ·exact ⟨lA (h k (.head _)),gB (qW (h k (.head _)) _).2⟩
  ·exact su r ns.tail (fun x hx=>h x (.tail _ hx)) p hp
theorem CF (ns:List Int):iF (aH ns):=by
 have w:∀ s∈[aF,cc,cY,ay],bW s:=fj (by decide +kernel);dsimp only[aH]
 split
 ·exact ⟨gB (w _ (by simp)),lA jN,su _ _ fun k hk=>qV k (List.mem_of_mem_take hk)⟩
 ·split
  ·exact ⟨gB (w _ (by simp)),lA jN,fun _ h=>noM h⟩
  ·split
   ·exact ⟨gB (w _ (by simp)),gB qs,fun _ h=>noM h⟩
   ·exact ⟨gB (w _ (by simp)),gB qr,fun _ h=>noM h⟩
theorem qT {i:It} (hi:iF i):∀ {its:List It},(∀ x∈its,iF x)->∀ x∈aG its i,iF x
 | [],_,x,hx=>by
  have hx:x∈[i]:=hx;rw[List.mem_singleton] at hx;subst hx;exact hi
 | [l],h,x,hx=>by
  have hx:x∈(if l.kd=ay/\i.kd=ay then [⟨ay,l.pl++i.pl,[],false⟩] else [l,i]):=hx
  have hl:=h l (.head _)
  split at hx
  ·rename_i q;rw[List.mem_singleton] at hx;subst hx;exact ⟨q.1▸hl.1,wl hl.2.1 hi.2.1,fun _ h=>noM h⟩
  ·rcases Qz hx with rfl | hx
   ·exact hl
   ·rw[List.mem_singleton] at hx;subst hx;exact hi
 | a::c::r,h,x,hx=>by
  have hx:x∈a::aG (c::r) i:=hx;rcases Qz hx with rfl | hx
  ·exact h x (.head _)
  ·exact qT hi (fun y hy=>h y (.tail _ hy)) x hx
noncomputable def pcs:Nat->List Int->List (List Nat×It)
 | 0,_=>[]
 | m+1,ns=>((aE ns).cps.toList,aH ns)::pcs m (aJ ns)
theorem qE:∀ (m:Nat) (T:Str) (ns:List Int) (its:List It),dl m T ns its=(T++mkS (cx (pcs m ns)),(pcs m ns).foldl (fun a p=>aG a p.2) its)
 | 0,T,_,its=>by
  show (T,its)=(T++⟨#[]⟩,its);rw[dI]
 | m+1,T,ns,its=>by
  show dl m (T++aE ns) (aJ ns) (aG its (aH ns))=_;rw[qE m];show (T++aE ns++mkS (cx (pcs m (aJ ns))),_)=(T++mkS ((aE ns).cps.toList++cx (pcs m (aJ ns))),_);rw[i8,eA];rfl
theorem r7:∀ (m:Nat) (ns:List Int),(∀ p∈pcs m ns,gf p.1 p.2)/\(cx (pcs m ns)).length<=100 * m/\∀ c∈cx (pcs m ns),cD c
 | 0,_=>⟨fun _ h=>(nomatch h),Qa _,fun _ h=>(nomatch h)⟩
 | m+1,ns=>by
  obtain ⟨a,b,c⟩:=r7 m (aJ ns);refine ⟨fun p hp=>?_,?_,fun x hx=>?_⟩
  ·have hp:p∈((aE ns).cps.toList,aH ns)::pcs m (aJ ns):=hp;rcases Qz hp with rfl | hp
   ·exact Ar ns
   ·exact a p hp
  ·show ((aE ns).cps.toList++cx (pcs m (aJ ns))).length<=_;have:(aE ns).cps.toList.length<=100:=o8 ns;rw[List.length_append];lia
  ·have hx:x∈(aE ns).cps.toList++cx (pcs m (aJ ns)):=hx;exact (QA hx).elim (Az ns x) (c x)
theorem qy:∀ (m:Nat) (ns:List Int) (its:List It),(∀ i∈its,iF i)->∀ i∈(pcs m ns).foldl (fun a p=>aG a p.2) its,iF i
 | 0,_,_,h=>h
 | m+1,ns,its,h=>qy m (aJ ns) (aG its (aH ns)) (qT (CF ns) h)
theorem plain_law (ns:List Int):ml (dl (min 10 ns.length) ⟨#[]⟩ ns []).1 (dl (min 10 ns.length) ⟨#[]⟩ ns []).2:=by
 have hm:min 10 ns.length<=10:=Nat.min_le_left _ _;generalize min 10 ns.length=m at hm ⊢;rw[qE,eF];refine ag fun G0 hG0=>?_;obtain ⟨h1,h2,h3⟩:=r7 m ns;have hz:(mkS (cx (pcs m ns))).length<=1000:=by rw[eH];lia
 obtain ⟨z7,a1,a2,a3,a4,a5⟩:=jA (pcs m ns) [] [] h1 (fun _ h=>noM h) (by simp;lia);refine hG0 ?_;simp only[List.length_nil,Nat.zero_add] at a3 a4;dsimp only;refine ⟨⟨z7,a1,vY a2 (by lia) (by lia),?_⟩,by omega,h3,uF (qy m ns [] fun _ h=>noM h),Au _ (by omega),Cv _ (by omega)⟩;refine DL.drives a5 ?_ fun _ _=>rfl;show 0+(cx (pcs m ns)).length+0<=1000;lia
end TE
theorem PySem.Challenge.cw_te0022_01_holds : PySem.Challenge.rw_te0022_01.Holds :=
 PySem.W.holds_law TE.said_law fun said=>TE.skel said (TE.law_walk fun ns _=>TE.plain_law ns)
