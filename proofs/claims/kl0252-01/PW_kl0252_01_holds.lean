import PyProof.Rows.All
import Wide.All
import OpenK.AllK
import Wide.FinOn
import PySem.Challenge.RW_kl0252_01
set_option bootstrap.genMatcherCode false
set_option genSizeOf false
set_option genInjectivity false
set_option tactic.hygienic false
set_option linter.all false
set_option Elab.async false
set_option maxRecDepth 10000
set_option maxHeartbeats 4000000
open PySem PySem.W PySem.Calls PyProof.Rows
namespace Mine
section
inductive Atom where
 | int (i:Int)
 | str (x:Str)
inductive DV where
 | numd (g:Int->Option Str)
 | kwd (l:List (Str×Atom))
inductive AV where
 | none
 | bool (b:Bool)
 | int (i:Int)
 | str (s:Str)
 | tup (l:List AV)
 | lst (l:List AV)
 | dct (d:DV)
 | loc (n:Nat)
 | val (v:Value)
 | clo (k:Nat) (cs:List Nat)
inductive AObj where
 | cel (v:Option AV)
 | lst (l:List AV)
 | ite (l:List AV) (i:Nat)
 | gone
inductive Lb where
 | cell (a:Addr)
 | obj (a:Addr)
 | dead
noncomputable abbrev St:=List AObj
structure Lbl where
 lab:List Lb
 hid:List (Bool×Addr)
noncomputable def lbA:Lb->Option Addr
 | .cell a=>some a
 | .obj a=>some a
 | .dead=>Option.none
noncomputable def adr (α:Lbl) (n:Nat):Option Addr:=(α.lab[n]?).bind lbA
noncomputable def Lab (α:Lbl) (a:Addr):Prop:=∃ n,adr α n=some a
noncomputable def Hid (α:Lbl) (a:Addr):Prop:=∃ fr:Bool,(fr,a)∈α.hid
noncomputable def Frm (α:Lbl) (a:Addr):Prop:=(true,a)∈α.hid
noncomputable def Liv (α:Lbl) (a:Addr):Prop:=Lab α a\/Hid α a
structure CloT where
 name:Str
 qual:Str
 params:Arguments
 body:FuncBody
 scope:Scope
 free:List Str
noncomputable abbrev cloFn (t:CloT) (cl:List (Str×Addr)) (doc pm cdv ct:Value):FuncData:=
 { name:=t.name,qualname:=t.qual,params:=t.params,body:=t.body,scope:=t.scope,globals:=mainGlobals,closure:=cl,defaults:=.none,kwdefaults:=.none,doc:=doc,pyModule:=pm,annotations:=Option.none,code:=cdv,closureTuple:=ct,builtins:=builtinsNs }
structure BC where
 prog:Program
 w:World
 K:Frag
 base:Heap
 p:Program
 loose:List Str
 mean:ExcName->Option Value
 mg:Str->Option Value
 mb:Str->Option Value
 tabs:List (Addr×Addr)
 tq:Nat->Nat->Str
 clo:Nat->Option CloT
 inK:K.In base
 top:Top p loose mean mg mb base
 hidden:∀ q∈tabs,base.get? q.2=Option.none
 code:∀ q∈tabs,CodeHd base q.1 q.2
section
variable (B:BC)
noncomputable def Tab (a:Addr):Prop:=∃ q∈B.tabs,q.2=a
noncomputable def Frz (α:Lbl) (a:Addr):Prop:=¬ Liv α a/\¬ Tab B a
noncomputable def ClosOk (α:Lbl) (free:List Str) (cs:List Nat) (cl:List (Str×Addr)):Prop:=
 ∀ (j:Nat) (x:Str),free[j]?=some x->∃ (ad:Addr) (n:Nat),cl.lookup x=some ad/\cs[j]?=some n/\α.lab[n]?=some (Lb.cell ad)
noncomputable def CloAt (α:Lbl) (h:Heap) (k:Nat) (cs:List Nat) (a:Addr):Prop:=
 ∃ (t:CloT) (o:Obj) (cl:List (Str×Addr)) (doc pm ct:Value) (c:Addr),B.clo k=some t/\h.get? a=some o/\o.cls=.type "function"/\o.data=.func (cloFn t cl doc pm (.ref c) ct)/\
  Frz B α c/\h.CodeRec (.ref c) t.qual/\ClosOk α t.free cs cl
noncomputable def AtomIs:Atom->Value->Prop
 | .int i,v=>∃ t,v=.int i t
 | .str x,v=>∃ t,v=.str x t
noncomputable def KwsAre:List (Str×Atom)->List DictEntry->Prop
 | [],es=>es=[]
 | (n,a)::l,es=>∃ t v r,es=⟨PyData.keyHash B.w.params n,.str n t,v⟩::r/\AtomIs a v/\KwsAre l r
noncomputable def DctAt (h:Heap) (d:DV) (a:Addr):Prop:=match d with
 | .numd g=>∃ f,h.MapOf (intKind B.prog B.w) a f/\(∃ o,h.get? a=some o/\o.dict=Option.none/\(a==sysModules)=false)/\
  ∀ k,match g k with | some y=>∃ t,f k=some (.str y t) | Option.none=>f k=Option.none
 | .kwd l=>∃ es ep,h.get? a=some { cls:=.type "dict",data:=.dict es ep }/\KwsAre B l es.toList/\(a==sysModules)=false
mutual
noncomputable def Rel (α:Lbl) (h:Heap):AV->Value->Prop
 | .none,v=>v=.none
 | .bool b,v=>v=.bool b
 | .int i,v=>∃ t,v=.int i t
 | .str x,v=>∃ t,v=.str x t
 | .tup l,v=>∃ a vs,v=.ref a/\Frz B α a/\IsTup h a vs.toArray/\RelL α h l vs
 | .lst l,v=>∃ a vs,v=.ref a/\Frz B α a/\h.PlainList a vs.toArray/\RelL α h l vs
 | .dct l,v=>∃ a,v=.ref a/\Frz B α a/\DctAt B h l a
 | .loc n,v=>∃ a,v=.ref a/\(α.lab[n]?=some (Lb.obj a)\/α.lab[n]?=some Lb.dead)
 | .val u,v=>v=u
 | .clo k cs,v=>∃ a,v=.ref a/\Frz B α a/\CloAt B α h k cs a
noncomputable def RelL (α:Lbl) (h:Heap):List AV->List Value->Prop
 | [],vs=>vs=[]
 | x::l,vs=>∃ v r,vs=v::r/\Rel α h x v/\RelL α h l r
end
noncomputable def ORelO (α:Lbl) (h:Heap):Option AV->Option Value->Prop
 | some v,some w=>Rel B α h v w
 | Option.none,Option.none=>True
 | _,_=>False
noncomputable def ORel (α:Lbl) (h:Heap):AObj->Lb->Prop
 | .cel v,.cell a=>∃ o w,h.get? a=some o/\o.data=.cell w/\ORelO B α h v w
 | .lst l,.obj a=>∃ vs,h.PlainList a (vs:List Value).toArray/\RelL B α h l vs
 | .ite l i,.obj a=>∃ la vs,h.IsListIter a la i/\Frz B α la/\h.PlainList la (vs:List Value).toArray/\RelL B α h l vs
 | .gone,.dead=>True
 | _,_=>False
noncomputable def exo (o:Obj):Bool:=match o.data with
 | .fields vs=>(match o.cls with
  | .type c=>c=="traceback"||c=="StopIteration"||c=="ZeroDivisionError"
  | _=>false)&&(match (vs[1]?:Option Value) with
  | some (.str _ _)=>false
  | _=>true)
 | _=>false
structure Step (ex:List Addr) (α:Lbl) (h:Heap) (α':Lbl) (h':Heap):Prop where
 keep:∀ b o,¬ Lab α b->¬ Tab B b->b∉ex->(exo o=false\/B.base.get? b≠Option.none\/Hid α b)->h.get? b=some o->∃ sl,h'.get? b=some { o with slots:=sl }/\(¬ Frm α b->sl=o.slots)
 dom:∀ b,h.get? b≠Option.none->h'.get? b≠Option.none
 ext:α.lab.length<=α'.lab.length
 old:∀ n:Nat,n<α.lab.length->α'.lab[n]?=α.lab[n]?\/((∃ a,α.lab[n]?=some (Lb.obj a))/\α'.lab[n]?=some Lb.dead)
 new:∀ n a,α.lab.length<=n->adr α' n=some a->h.get? a=Option.none
 hidOld:∀ p∈α.hid,p∈α'.hid
 hidNew:∀ p∈α'.hid,p∈α.hid\/h.get? p.2=Option.none
noncomputable def FramesOk (α:Lbl) (fs:List Env) (h:Heap):Prop:=
 ∀ env∈fs,env.scope.kind≠ .module/\∃ L o es n,env.frame=some L/\Frm α L/\h.get? L=some o/\o.data=.dict es n
noncomputable def CodesOk (α:Lbl) (h:Heap) (l:List Value):Prop:=∀ (pos:Pos) (cv:Value),codeAmong pos l=some cv->∃ c,cv=.ref c/\Frz B α c/\h.CodeRec (.ref c) (B.tq pos.line pos.col)
noncomputable def TabOk (α:Lbl) (h:Heap) (a:Addr):Prop:=∃ ps:Array Value,h.get? a=some (tabObj ps)/\TriplesOk ps.toList/\CodesOk B α h ps.toList
structure Wd (α:Lbl) (σ:St) (fs:List Env) (h:Heap):Prop where
 stays:B.base.StaysIn h
 len:α.lab.length=σ.length
 objs:∀ (n:Nat) (ao:AObj) (lb:Lb),σ[n]?=some ao->α.lab[n]?=some lb->ORel B α h ao lb
 inj:∀ i j a,adr α i=some a->adr α j=some a->i=j
 alone:∀ a,Hid α a->¬ Lab α a
 apart:∀ a,Liv α a->B.base.get? a=Option.none/\¬ Tab B a
 there:∀ a,Liv α a->h.get? a≠Option.none
 tabs:∀ q∈B.tabs,TabOk B α h q.2
 frames:FramesOk α fs h
inductive HK where
 | no
 | any
 | exc (a:Addr)
noncomputable def HK.says (hk:HK) (A:Around):Prop:=match hk with
 | .no=>A.handled=Option.none
 | .any=>True
 | .exc a=>A.handled=some (.ref a)
structure Amb (A:Around) (fs:List Env) (k:Nat) (hnd:HK):Prop where
 frames:A.frames=some fs
 depth:A.depth+k<recursionLimit
 units:A.units+8*k+100<cLine
 handled:hnd.says A
structure AFr where
 ρ:List (Option AV)
 χ:List Nat
 hnd:HK
structure Sc where
 scope:Scope
 loc:List Str
 cel:List Str
 code:Option Addr:=Option.none
 qual:Str:=⟨#[]⟩
noncomputable def LocOk (α:Lbl) (h:Heap) (loc:List Str) (ρ:List (Option AV)) (m:Str->Option Value):Prop:=
 ∀ (i:Nat) (x:Str) (v:AV),loc[i]?=some x->ρ[i]?=some (some v)->∃ w,m x=some w/\Rel B α h v w
noncomputable def HndAt (α:Lbl) (h:Heap) (a:Addr):Prop:=
 Hid α a/\¬ Frm α a/\∃ o vs,h.get? a=some o/\o.data=.fields vs/\vs[2]?=some .none/\(o.cls=.type "StopIteration"\/o.cls=.type "ZeroDivisionError")/\∃ t,vs[0]?=some (.ref t)/\IsTup h t #[]/\Frz B α t
structure FrOk (κ:Sc) (fr:AFr) (env:Env) (α:Lbl) (h:Heap):Prop where
 scope:env.scope=κ.scope
 kind:κ.scope.kind=.function
 nodup:κ.loc.Nodup
 globals:env.globals=mainGlobals
 builtins:env.builtins=builtinsNs
 locs:∃ m,h.Ns env.locals m/\LocOk B α h κ.loc fr.ρ m
 here:Hid α env.locals
 cells:∀ (j:Nat) (x:Str),κ.cel[j]?=some x->∃ (ad:Addr) (n:Nat),env.cells.lookup x=some ad/\fr.χ[j]?=some n/\α.lab[n]?=some (Lb.cell ad)
 handled:∀ a,fr.hnd=.exc a->HndAt B α h a/\a≠env.locals
 made:∀ c,κ.code=some c->env.code=.ref c/\env.qual=κ.qual
end
section
variable {B:BC} {ex:List Addr} {α α' α₁ α₂:Lbl} {h h' h₁ h₂:Heap} {σ σ':St} {fs:List Env}
theorem adr_of_get {n:Nat} {lb:Lb} (e:α.lab[n]?=some lb):adr α n=lbA lb:=by unfold adr;rw [e];rfl
theorem Frm.hid {a:Addr} (x:Frm α a):Hid α a:=⟨true,x⟩
theorem Hid.liv {a:Addr} (x:Hid α a):Liv α a:=.inr x
theorem adr_lt {n:Nat} {a:Addr} (e:adr α n=some a):n<α.lab.length:=by
 unfold adr at e
 cases q:α.lab[n]? with
 | none=>rw [q] at e;injection e
 | some lb=>exact (List.getElem?_eq_some_iff.mp q).1
theorem Step.adr_old (S:Step B ex α h α' h') {n:Nat} (hn:n<α.lab.length) {a:Addr} (e:adr α' n=some a):adr α n=some a:=by
 rcases S.old n hn with q | ⟨_,q⟩
 ·unfold adr at e ⊢;rw [q] at e;exact e
 ·rw [adr_of_get q] at e;injection e
theorem Step.lab (S:Step B ex α h α' h') {b:Addr} (hb:h.get? b≠none) (x:Lab α' b):Lab α b:=by
 obtain ⟨n,e⟩:=x
 rcases Nat.lt_or_ge n α.lab.length with hn | hn
 ·exact ⟨n,S.adr_old hn e⟩
 ·exact absurd (S.new n b hn e) hb
theorem Step.hid (S:Step B ex α h α' h') {b:Addr} (x:Hid α b):Hid α' b:=let ⟨fr,e⟩:=x;⟨fr,S.hidOld _ e⟩
theorem Step.hidBack (S:Step B ex α h α' h') {b:Addr} (hb:h.get? b≠none) (x:Hid α' b):Hid α b:=by
 obtain ⟨fr,e⟩:=x
 rcases S.hidNew _ e with q | q
 ·exact ⟨fr,q⟩
 ·exact absurd q hb
theorem Step.frm (S:Step B ex α h α' h') {b:Addr} (x:Frm α b):Frm α' b:=S.hidOld _ x
theorem Step.frmBack (S:Step B ex α h α' h') {b:Addr} (hb:h.get? b≠none) (x:Frm α' b):Frm α b:=by
 rcases S.hidNew _ x with q | q
 ·exact q
 ·exact absurd q hb
theorem Step.liv (S:Step B ex α h α' h') {b:Addr} (hb:h.get? b≠none) (x:Liv α' b):Liv α b:=x.imp (S.lab hb) (S.hidBack hb)
theorem Step.cell (S:Step B ex α h α' h') {n:Nat} {a:Addr} (e:α.lab[n]?=some (Lb.cell a)):α'.lab[n]?=some (Lb.cell a):=by
 have hn:=(List.getElem?_eq_some_iff.mp e).1
 rcases S.old n hn with q | ⟨⟨a,q⟩,_⟩
 ·exact q.trans e
 ·rw [e] at q;rcases q
theorem Step.refl (B:BC) (ex:List Addr) (α:Lbl) (h:Heap):Step B ex α h α h where
 keep:=λ b o z z z z e=>⟨o.slots,e,λ z=>rfl⟩
 dom:=λ z e=>e
 ext:=Nat.le_refl _
 old:=λ z z=>.inl rfl
 new:=λ n a hn e=>absurd (adr_lt e) (Nat.not_lt.mpr hn)
 hidOld:=λ z e=>e
 hidNew:=λ z e=>.inl e
theorem Step.trans (S:Step B ex α h α₁ h₁) (T:Step B ex α₁ h₁ α₂ h₂):Step B ex α h α₂ h₂ where
 keep:=λ b o hl ht he hx e=>by
  obtain ⟨sl,e1,k1⟩:=S.keep b o hl ht he hx e
  have hb:h.get? b≠none:=by rw [e];exact λ q=>nomatch q
  have hx1:exo { o with slots:=sl }=false\/B.base.get? b≠Option.none\/Hid α₁ b:=hx.imp id λ q=>q.imp id S.hid
  obtain ⟨sl',e2,k2⟩:=T.keep b _ (λ x=>hl (S.lab hb x)) ht he hx1 e1
  refine ⟨sl',e2,λ q=>?_⟩
  rw [k2 (λ x=>q (S.frmBack hb x)),k1 q]
 dom:=λ b e=>T.dom b (S.dom b e)
 ext:=Nat.le_trans S.ext T.ext
 old:=λ n hn=>by
  rcases T.old n (Nat.lt_of_lt_of_le hn S.ext) with q | ⟨⟨a,q⟩,q'⟩
  ·rw [q];exact S.old n hn
  ·rcases S.old n hn with r | ⟨_,r⟩
   ·exact .inr ⟨⟨a,r▸q⟩,q'⟩
   ·rw [r] at q;rcases q
 new:=λ n a hn e=>by
  rcases Nat.lt_or_ge n α₁.lab.length with h1 | h1
  ·exact S.new n a hn (T.adr_old h1 e)
  ·have:=T.new n a h1 e
   cases q:h.get? a with
   | none=>rfl
   | some o=>exact absurd this (S.dom a (by rw [q];exact λ q=>nomatch q))
 hidOld:=λ p e=>T.hidOld p (S.hidOld p e)
 hidNew:=λ p e=>by
  rcases T.hidNew p e with q | q
  ·exact S.hidNew p q
  ·right
   cases r:h.get? p.2 with
   | none=>rfl
   | some o=>exact absurd q (S.dom _ (by rw [r];exact λ q=>nomatch q))
theorem Step.keepF (S:Step B ex α h α' h') {b:Addr} {o:Obj} (hf:Frz B α b) (he:b∉ex) (e:h.get? b=some o) (hx:exo o=false):h'.get? b=some o:=by
 obtain ⟨sl,e1,k⟩:=S.keep b o (λ x=>hf.1 (.inl x)) hf.2 he (.inl hx) e
 rw [k λ x=>hf.1 x.hid.liv] at e1
 exact e1
theorem Step.frz (S:Step B ex α h α' h') {b:Addr} {o:Obj} (hf:Frz B α b) (e:h.get? b=some o):Frz B α' b:=
 ⟨λ x=>hf.1 (S.liv (by rw [e];exact λ q=>nomatch q) x),hf.2⟩
noncomputable def ExOk (ex:List Addr) (α:Lbl):Prop:=∀ a∈ex,Liv α a
theorem ExOk.frz {b:Addr} (hx:ExOk ex α) (hf:Frz B α b):b∉ex:=λ q=>hf.1 (hx b q)
theorem ExOk.nil:ExOk [] α:=λ z h=>nomatch h
structure Mov (B:BC) (α:Lbl) (h:Heap) (α':Lbl) (h':Heap):Prop where
 frz:∀ {b:Addr} {o:Obj},Frz B α b->h.get? b=some o->exo o=false->Frz B α' b
 keepF:∀ {b:Addr} {o:Obj},Frz B α b->h.get? b=some o->exo o=false->h'.get? b=some o
 old:∀ n:Nat,n<α.lab.length->α'.lab[n]?=α.lab[n]?\/((∃ a,α.lab[n]?=some (Lb.obj a))/\α'.lab[n]?=some Lb.dead)
theorem Step.mov (S:Step B ex α h α' h') (hx:ExOk ex α):Mov B α h α' h':=⟨λ hf e z=>S.frz hf e,λ hf e q=>S.keepF hf (hx.frz hf) e q,S.old⟩
theorem Mov.cell (S:Mov B α h α' h') {n:Nat} {a:Addr} (e:α.lab[n]?=some (Lb.cell a)):α'.lab[n]?=some (Lb.cell a):=by
 have hn:=(List.getElem?_eq_some_iff.mp e).1
 rcases S.old n hn with q | ⟨⟨a,q⟩,_⟩
 ·exact q.trans e
 ·rw [e] at q;rcases q
theorem Mov.closOk (S:Mov B α h α' h') {free:List Str} {cs:List Nat} {cl:List (Str×Addr)} (x:ClosOk α free cs cl):ClosOk α' free cs cl:=λ j y e=>
 let ⟨ad,n,a,b,c⟩:=x j y e;⟨ad,n,a,b,S.cell c⟩
theorem Mov.cloAt (S:Mov B α h α' h') {k:Nat} {cs:List Nat} {a:Addr} (hf:Frz B α a) (x:CloAt B α h k cs a):CloAt B α' h' k cs a:=by
 obtain ⟨t,o,cl,doc,pm,ct,c,h1,h2,h3,h4,h5,⟨c',oc,vs,u,e1,e2,e3,e4⟩,h7⟩:=x
 (injection e1 with e1;subst e1)
 have q1:=S.keepF h5 e2 (by unfold exo;rw [e3];simp [e4])
 exact ⟨t,o,cl,doc,pm,ct,c,h1,S.keepF hf h2 (by unfold exo;rw [h4]),h3,h4,S.frz h5 e2 (by unfold exo;rw [e3];simp [e4]),⟨c,_,vs,u,rfl,q1,e3,e4⟩,S.closOk h7⟩
mutual
theorem Rel.mov (S:Mov B α h α' h'):∀ (x:AV) (v:Value),Rel B α h x v->Rel B α' h' x v
 | .none,v,r=>r
 | .bool b,v,r=>r
 | .int i,v,r=>r
 | .str y,v,r=>r
 | .tup l,v,r=>by
  obtain ⟨a,vs,e,hf,⟨o,ho,hc,hd⟩,hl⟩:=r
  have hx:exo o=false:=by obtain ⟨n,hd⟩:=hd;unfold exo;rw [hd]
  exact ⟨a,vs,e,S.frz hf ho hx,⟨o,S.keepF hf ho hx,hc,hd⟩,RelL.mov S l vs hl⟩
 | .lst l,v,r=>by
  obtain ⟨a,vs,e,hf,⟨n,ho⟩,hl⟩:=r
  exact ⟨a,vs,e,S.frz hf ho rfl,⟨n,S.keepF hf ho rfl⟩,RelL.mov S l vs hl⟩
 | .dct g,v,r=>by
  induction g with
  | numd g=>
   obtain ⟨a,e,hf,f,⟨o,es,ep,ho,hc,hd⟩,⟨o',ho',hd'⟩,hg⟩:=r
   have hx:exo o=false:=by unfold exo;rw [hd.1]
   have k:=S.keepF hf ho hx
   rw [ho] at ho';obtain rfl:=Option.some.inj ho'
   exact ⟨a,e,S.frz hf ho hx,f,⟨o,es,ep,k,hc,hd⟩,⟨o,k,hd'⟩,hg⟩
  | kwd l=>
   obtain ⟨a,e,hf,es,ep,ho,hd⟩:=r
   exact ⟨a,e,S.frz hf ho rfl,es,ep,S.keepF hf ho rfl,hd⟩
 | .loc n,v,r=>by
  obtain ⟨a,e,hn⟩:=r
  refine ⟨a,e,?_⟩
  rcases hn with hn | hn
  ·have hl:=(List.getElem?_eq_some_iff.mp hn).1
   rcases S.old n hl with q | ⟨_,q⟩
   ·exact .inl (q.trans hn)
   ·exact .inr q
  ·have hl:=(List.getElem?_eq_some_iff.mp hn).1
   rcases S.old n hl with q | ⟨_,q⟩
   ·exact .inr (q.trans hn)
   ·exact .inr q
 | .val u,v,r=>r
 | .clo k cs,v,r=>by
  obtain ⟨a,e,hf,x⟩:=r
  have ⟨_,_,_,_,_,_,_,_,ho,_,hd,_⟩:=x
  exact ⟨a,e,S.frz hf ho (by unfold exo;rw [hd]),S.cloAt hf x⟩
theorem RelL.mov (S:Mov B α h α' h'):∀ (l:List AV) (vs:List Value),RelL B α h l vs->RelL B α' h' l vs
 | [],vs,r=>r
 | x::l,vs,r=>by
  obtain ⟨v,r',e,h1,h2⟩:=r
  exact ⟨v,r',e,Rel.mov S x v h1,RelL.mov S l r' h2⟩
end
theorem Rel.step (S:Step B ex α h α' h') (hx:ExOk ex α) (x:AV) (v:Value) (r:Rel B α h x v):Rel B α' h' x v:=Rel.mov (S.mov hx) x v r
theorem RelL.step (S:Step B ex α h α' h') (hx:ExOk ex α) (l:List AV) (vs:List Value) (r:RelL B α h l vs):RelL B α' h' l vs:=RelL.mov (S.mov hx) l vs r
theorem CodesOk.mov (S:Mov B α h α' h') {l:List Value} (x:CodesOk B α h l):CodesOk B α' h' l:=λ pos cv e=>by
 obtain ⟨c,rfl,hf,⟨c',oc,vs,u,e1,e2,e3,e4⟩⟩:=x pos cv e
 rcases e1
 exact ⟨c,rfl,S.frz hf e2 (by unfold exo;rw [e3];simp [e4]),c,_,vs,u,rfl,S.keepF hf e2 (by unfold exo;rw [e3];simp [e4]),e3,e4⟩
theorem TabOk.mov (S:Mov B α h α' h') {a:Addr} (k:∀ o,h.get? a=some o->h'.get? a=some o) (x:TabOk B α h a):TabOk B α' h' a:=by
 obtain ⟨ps,e,t,c⟩:=x
 exact ⟨ps,k _ e,t,c.mov S⟩
theorem RelL.length:∀ {l:List AV} {vs:List Value},RelL B α h l vs->vs.length=l.length
 | [],vs,r=>by rw [show vs=[] from r];rfl
 | x::l,vs,r=>by
  obtain ⟨v,r',e,_,h2⟩:=r
  rw [e,List.length_cons,List.length_cons,RelL.length h2]
theorem RelL.get:∀ {l:List AV} {vs:List Value},RelL B α h l vs->∀ {i:Nat} {x:AV},l[i]?=some x->∃ v,vs[i]?=some v/\Rel B α h x v
 | [],_,_,i,_,e=>by simp at e
 | y::l,vs,r,i,x,e=>by
  obtain ⟨v,r',e1,h1,h2⟩:=r
  subst e1
  induction i with
  | zero=>simp at e;subst e;exact ⟨v,rfl,h1⟩
  | succ i=>
   have e':l[i]?=some x:=by simpa using e
   obtain ⟨u,q1,q2⟩:=RelL.get h2 e'
   exact ⟨u,by simpa using q1,q2⟩
theorem RelL.append:∀ {l:List AV} {vs:List Value} {l':List AV} {vs':List Value},RelL B α h l vs->RelL B α h l' vs'->RelL B α h (l++l') (vs++vs')
 | [],vs,_,_,r,r'=>by rw [show vs=[] from r];exact r'
 | x::l,vs,_,_,r,r'=>by
  obtain ⟨v,q,e,h1,h2⟩:=r
  subst e
  simp only [List.cons_append,RelL]
  exact ⟨v,_,rfl,h1,RelL.append h2 r'⟩
theorem RelL.one {x:AV} {v:Value} (r:Rel B α h x v):RelL B α h [x] [v]:=⟨v,[],rfl,r,rfl⟩
theorem RelL.nil:RelL B α h [] []:=rfl
theorem RelL.cons {x:AV} {v:Value} {l:List AV} {vs:List Value} (r:Rel B α h x v) (q:RelL B α h l vs):RelL B α h (x::l) (v::vs):=⟨v,vs,rfl,r,q⟩
theorem RelL.take:∀ {l:List AV} {vs:List Value} (n:Nat),RelL B α h l vs->RelL B α h (l.take n) (vs.take n)
 | _,_,0,_=>by simp only [List.take_zero];exact RelL.nil
 | [],vs,n+1,r=>by rw [show vs=[] from r];simp;exact RelL.nil
 | x::l,vs,n+1,r=>by
  obtain ⟨v,q,e,h1,h2⟩:=r
  subst e
  simp only [List.take_succ_cons]
  exact RelL.cons h1 (RelL.take n h2)
theorem RelL.drop:∀ {l:List AV} {vs:List Value} (n:Nat),RelL B α h l vs->RelL B α h (l.drop n) (vs.drop n)
 | _,_,0,r=>by simpa using r
 | [],vs,n+1,r=>by rw [show vs=[] from r];simp;exact RelL.nil
 | x::l,vs,n+1,r=>by
  obtain ⟨v,q,e,h1,h2⟩:=r
  subst e
  simp only [List.drop_succ_cons]
  exact RelL.drop n h2
theorem RelL.set:∀ {l:List AV} {vs:List Value} (n:Nat) {x:AV} {v:Value},RelL B α h l vs->Rel B α h x v->RelL B α h (l.set n x) (vs.set n v)
 | [],vs,n,_,_,r,_=>by rw [show vs=[] from r];simp;exact RelL.nil
 | y::l,vs,0,x,v,r,q=>by
  obtain ⟨w,q',e,h1,h2⟩:=r
  subst e
  exact RelL.cons q h2
 | y::l,vs,n+1,x,v,r,q=>by
  obtain ⟨w,q',e,h1,h2⟩:=r
  subst e
  exact RelL.cons h1 (RelL.set n h2 q)
theorem RelL.reverse {l:List AV} {vs:List Value} (r:RelL B α h l vs):RelL B α h l.reverse vs.reverse:=by
 induction l generalizing vs with
 | nil=>rw [show vs=[] from r];exact RelL.nil
 | cons x l ih=>
  obtain ⟨v,q,e,h1,h2⟩:=r
  subst e
  rw [List.reverse_cons,List.reverse_cons]
  exact (ih h2).append (RelL.one h1)
theorem ORelO.mov (S:Mov B α h α' h') {a:Option AV} {w:Option Value} (r:ORelO B α h a w):ORelO B α' h' a w:=by
 rcases a<;>rcases w<;>simp only [ORelO] at r ⊢
 exact Rel.mov S _ _ r
theorem FramesOk.step (S:Step B ex α h α' h') (x:FramesOk α fs h) (hx:∀ env∈fs,∀ L,env.frame=some L->L∈ex->∃ o es n,h'.get? L=some o/\o.data=.dict es n) (ht:∀ a,Hid α a->¬ Tab B a) (ha:∀ a,Hid α a->¬ Lab α a):FramesOk α' fs h':=λ env he=>by
 obtain ⟨hk,L,o,es,n,hf,hh,ho,hd⟩:=x env he
 by_cases hL:L∈ex
 ·obtain ⟨o',es',n',a,c⟩:=hx env he L hf hL
  exact ⟨hk,L,o',es',n',hf,S.frm hh,a,c⟩
 ·obtain ⟨sl,e,_⟩:=S.keep L o (ha L hh.hid) (ht L hh.hid) hL (.inr (.inr hh.hid)) ho
  exact ⟨hk,L,_,es,n,hf,S.frm hh,e,hd⟩
theorem Wd.hidTab (W:Wd B α σ fs h):∀ a,Hid α a->¬ Tab B a:=λ a x=>(W.apart a x.liv).2
theorem LocOk.step (S:Step B ex α h α' h') (hx:ExOk ex α) {loc:List Str} {ρ:List (Option AV)} {m:Str->Option Value} (x:LocOk B α h loc ρ m):LocOk B α' h' loc ρ m:=λ i y v e1 e2=>
 let ⟨w,a,b⟩:=x i y v e1 e2;⟨w,a,Rel.step S hx _ _ b⟩
theorem Ns.slots {a:Addr} {m:Str->Option Value} (x:h.Ns a m) (k:∀ o,h.get? a=some o->∃ sl,h'.get? a=some { o with slots:=sl }):h'.Ns a m:=by
 obtain ⟨o,es,ep,ho,hd,r⟩:=x
 obtain ⟨sl,e⟩:=k o ho
 exact ⟨_,es,ep,e,hd,r⟩
theorem HndAt.step {a:Addr} (S:Step B ex α h α' h') (W:Wd B α σ fs h) (hx:a∉ex) (he:ExOk ex α) (x:HndAt B α h a):HndAt B α' h' a:=by
 obtain ⟨x1,x2,o,vs,ho,hd,h2,hc,t,ht,⟨ot,hot,hct,n,hdt⟩,hft⟩:=x
 obtain ⟨sl,e,k⟩:=S.keep a o (W.alone _ x1) (W.hidTab _ x1) hx (.inr (.inr x1)) ho
 rw [k x2] at e
 exact ⟨S.hid x1,λ q=>x2 (S.frmBack (by rw [ho];exact λ z=>nomatch z) q),o,vs,e,hd,h2,hc,t,ht,⟨ot,S.keepF hft (he.frz hft) hot (by unfold exo;rw [hdt]),hct,n,hdt⟩,S.frz hft hot⟩
theorem FrOk.step {κ:Sc} {fr:AFr} {env:Env} (S:Step B [] α h α' h') (W:Wd B α σ fs h) (x:FrOk B κ fr env α h):FrOk B κ fr env α' h' where
 scope:=x.scope
 kind:=x.kind
 nodup:=x.nodup
 globals:=x.globals
 builtins:=x.builtins
 locs:=by
  obtain ⟨m,hn,hl⟩:=x.locs
  refine ⟨m,Ns.slots hn λ o ho=>?_,hl.step S ExOk.nil⟩
  obtain ⟨sl,e,_⟩:=S.keep _ o (W.alone _ x.here) (W.hidTab _ x.here) (λ q=>nomatch q) (.inr (.inr x.here)) ho
  exact ⟨sl,e⟩
 here:=S.hid x.here
 cells:=λ j y e=>let ⟨ad,n,a,b,c⟩:=x.cells j y e;⟨ad,n,a,b,S.cell c⟩
 handled:=λ a e=>⟨(x.handled a e).1.step S W (λ q=>nomatch q) ExOk.nil,(x.handled a e).2⟩
 made:=x.made
end
end
section
noncomputable def Full (h h':Heap):Prop:=∀ b o,h.get? b=some o->h'.get? b=some o
theorem Full.refl (h:Heap):Full h h:=λ z z e=>e
theorem Full.push (h:Heap) (o:Obj):Full h (h.push o):=λ z z e=>Heap.get?_push_of_some o e
theorem Full.trans {a b c:Heap} (x:Full a b) (y:Full b c):Full a c:=λ p o e=>y p o (x p o e)
noncomputable abbrev Lbl.push (α:Lbl) (lb:Lb):Lbl:=⟨α.lab++[lb],α.hid⟩
noncomputable abbrev Lbl.hide (α:Lbl) (fr:Bool) (a:Addr):Lbl:=⟨α.lab,(fr,a)::α.hid⟩
noncomputable abbrev Lbl.un (α β:Lbl):Lbl:=⟨α.lab,β.hid⟩
section
variable {B:BC} {ex:List Addr} {α α' α₁ α₂:Lbl} {h h' h₁ h₂:Heap} {σ σ' σ₂:St} {fs:List Env}
theorem some_ne_none {β:Type} {x:Option β} {y:β} (e:x=some y):x≠none:=by rw [e];exact λ q=>nomatch q
theorem Step.full (k:Full h h'):Step B ex α h α h' where
 keep:=λ b o z z z z e=>⟨o.slots,k b o e,λ z=>rfl⟩
 dom:=λ b e=>by
  cases q:h.get? b with
  | none=>exact absurd q e
  | some o=>exact some_ne_none (k b o q)
 ext:=Nat.le_refl _
 old:=λ z z=>.inl rfl
 new:=λ n a hn e=>absurd (adr_lt e) (Nat.not_lt.mpr hn)
 hidOld:=λ z e=>e
 hidNew:=λ z e=>.inl e
theorem ORel.mov (S:Mov B α h α' h') {ao:AObj} {lb:Lb} (k:∀ a o,(lb=.cell a\/lb=.obj a)->h.get? a=some o->h'.get? a=some o) (r:ORel B α h ao lb):ORel B α' h' ao lb:=by
 induction ao with
 | cel v=>
  induction lb with
  | cell a=>
   obtain ⟨o,w,ho,hd,hr⟩:=r
   exact ⟨_,w,k a o (.inl rfl) ho,hd,hr.mov S⟩
  | _=>exact r.elim
 | lst l=>
  induction lb with
  | obj a=>
   obtain ⟨vs,⟨n,ho⟩,hr⟩:=r
   exact ⟨vs,⟨n,k a _ (.inr rfl) ho⟩,hr.mov S⟩
  | _=>exact r.elim
 | ite l i=>
  induction lb with
  | obj a=>
   obtain ⟨la,vs,⟨o,ho,hc,hd⟩,hf,⟨nl,hol⟩,hr⟩:=r
   exact ⟨la,vs,⟨_,k a o (.inr rfl) ho,hc,hd⟩,S.frz hf hol rfl,⟨nl,S.keepF hf hol rfl⟩,hr.mov S⟩
  | _=>exact r.elim
 | gone=>rcases lb<;>first | exact r.elim | exact trivial
theorem ORel.stay (S:Step B ex α h α' h') (hx:ExOk ex α) {ao:AObj} {lb:Lb} (k:∀ a o,(lb=.cell a\/lb=.obj a)->h.get? a=some o->h'.get? a=some o) (r:ORel B α h ao lb):ORel B α' h' ao lb:=ORel.mov (S.mov hx) k r
theorem Wd.staysIn (W:Wd B α σ fs h) (S:Step B ex α h α' h') (hx:ExOk ex α):B.base.StaysIn h':=λ b o e=>by
 have hb:¬ Liv α b:=λ q=>by rw [(W.apart b q).1] at e;injection e
 have ht:¬ Tab B b:=λ ⟨q,hq,e2⟩=>by rw [<- e2,B.hidden q hq] at e;injection e
 obtain ⟨sl,e1,k⟩:=S.keep b o (λ x=>hb (.inl x)) ht (λ q=>hb (hx b q)) (.inr (.inl (some_ne_none e))) (W.stays b o e)
 rw [k λ x=>hb x.hid.liv] at e1
 exact e1
theorem Wd.staysSame (W:Wd B α σ fs h) {α':Lbl} (k:∀ a,Liv α' a->h.get? a=none\/Liv α a):∀ a,Liv α' a->B.base.get? a=none/\¬ Tab B a:=λ a x=>by
 rcases k a x with e | e
 ·refine ⟨?_,λ ⟨q,hq,e2⟩=>?_⟩
  ·cases r:B.base.get? a with
   | none=>rfl
   | some o=>exact absurd e (some_ne_none (W.stays a o r))
  ·obtain ⟨ps,e1,_⟩:=W.tabs q hq
   rw [e2,e] at e1;injection e1
 ·exact W.apart a e
theorem Wd.full (W:Wd B α σ fs h) (k:Full h h'):Wd B α σ fs h' where
 stays:=λ b o e=>k b o (W.stays b o e)
 len:=W.len
 objs:=λ n ao lb e1 e2=>ORel.stay (Step.full (ex:=[]) k) ExOk.nil (λ a o z e=>k a o e) (W.objs n ao lb e1 e2)
 inj:=W.inj
 alone:=W.alone
 apart:=W.apart
 there:=λ a e=>(Step.full (B:=B) (ex:=[]) (α:=α) k).dom a (W.there a e)
 tabs:=λ q hq=>(W.tabs q hq).mov ((Step.full (B:=B) (ex:=[]) k).mov ExOk.nil) (k _)
 frames:=W.frames.step (Step.full (B:=B) (ex:=[]) k) (λ z z z z q=>nomatch q) W.hidTab W.alone
theorem Wd.fresh (W:Wd B α σ fs h) {a:Addr} (e:h.get? a=none):B.base.get? a=none/\¬ Tab B a:=W.staysSame (α':=α.hide false a) (λ b x=>by
 rcases x with x | ⟨fr,x⟩
 ·exact .inr (.inl x)
 ·rcases List.mem_cons.mp x with q | q
  ·rcases q;exact .inl e
  ·exact .inr (.inr ⟨fr,q⟩)) a (.inr ⟨false,List.mem_cons_self⟩)
theorem Wd.notLive (W:Wd B α σ fs h) {a:Addr} (e:h.get? a=none):¬ Liv α a:=λ q=>W.there a q e
theorem adr_push {n:Nat} {lb:Lb}:adr (α.push lb) n=if n<α.lab.length then adr α n else if n=α.lab.length then lbA lb else none:=by
 unfold adr
 show ((α.lab++[lb])[n]?).bind lbA=_
 by_cases h1:n<α.lab.length
 ·rw [if_pos h1,List.getElem?_append_left h1]
 ·rw [if_neg h1,List.getElem?_append_right (Nat.le_of_not_lt h1)]
  by_cases h2:n=α.lab.length
  ·subst h2;simp
  ·rw [if_neg h2]
   have:n - α.lab.length≠0:=by lia
   cases q:n - α.lab.length with
   | zero=>exact absurd q this
   | succ m=>simp
theorem Step.newLab (k:Full h h') {lb:Lb} {a:Addr} (hlb:lbA lb=some a) (hn:h.get? a=none):Step B ex α h (α.push lb) h' where
 keep:=λ b o z z z z e=>⟨o.slots,k b o e,λ z=>rfl⟩
 dom:=(Step.full (B:=B) (ex:=ex) (α:=α) k).dom
 ext:=by show α.lab.length<=(α.lab++[lb]).length;rw [List.length_append];lia
 old:=λ n hn=>.inl (List.getElem?_append_left hn)
 new:=λ n b h1 e=>by
  rw [adr_push,if_neg (Nat.not_lt.mpr h1)] at e
  split at e
  ·rw [hlb] at e;(injection e with e;subst e);exact hn
  ·injection e
 hidOld:=λ z e=>e
 hidNew:=λ z e=>.inl e
theorem Lab.push {lb:Lb} {a b:Addr} (hlb:lbA lb=some a) (x:Lab (α.push lb) b):Lab α b\/b=a:=by
 obtain ⟨n,e⟩:=x
 rw [adr_push] at e
 split at e
 ·exact .inl ⟨n,e⟩
 ·split at e
  ·rw [hlb] at e;obtain rfl:=Option.some.inj e;exact .inr rfl
  ·injection e
theorem Wd.newLab (W:Wd B α σ fs h) (k:Full h h') {lb:Lb} {a:Addr} {ao:AObj} (hlb:lbA lb=some a) (hn:h.get? a=none) (ht:h'.get? a≠none) (r:ORel B (α.push lb) h' ao lb):Wd B (α.push lb) (σ++[ao]) fs h' where
 stays:=λ b o e=>k b o (W.stays b o e)
 len:=by show (α.lab++[lb]).length=_;rw [List.length_append,List.length_append,W.len];rfl
 objs:=λ n ao' lb' e1 e2=>by
  have e2:(α.lab++[lb])[n]?=some lb':=e2
  by_cases hl:n<α.lab.length
  ·rw [List.getElem?_append_left hl] at e2
   rw [List.getElem?_append_left (W.len▸hl)] at e1
   exact ORel.stay (Step.newLab (ex:=[]) k hlb hn) ExOk.nil (λ a o z e=>k a o e) (W.objs n ao' lb' e1 e2)
  ·have hl2:=(List.getElem?_eq_some_iff.mp e2).1
   rw [List.length_append] at hl2
   have:n=α.lab.length:=by simp at hl2;lia
   subst this
   rw [List.getElem?_append_right (Nat.le_refl _)] at e2
   rw [W.len,List.getElem?_append_right (Nat.le_refl _)] at e1
   simp at e1 e2
   subst e1 e2
   exact r
 inj:=λ i j b e1 e2=>by
  rw [adr_push] at e1 e2
  split at e1<;>split at e2
  ·exact W.inj i j b e1 e2
  ·split at e2
   ·rw [hlb] at e2;obtain rfl:=Option.some.inj e2;exact absurd hn (W.there a (.inl ⟨i,e1⟩))
   ·injection e2
  ·split at e1
   ·rw [hlb] at e1;obtain rfl:=Option.some.inj e1;exact absurd hn (W.there a (.inl ⟨j,e2⟩))
   ·injection e1
  ·split at e1<;>split at e2<;>first | lia | cases e1 | cases e2
 alone:=λ b x y=>by
  rcases Lab.push hlb y with y | rfl
  ·exact W.alone b x y
  ·exact W.there b (.inr x) hn
 apart:=W.staysSame λ b x=>by
  rcases x with x | x
  ·rcases Lab.push hlb x with y | rfl
   ·exact .inr (.inl y)
   ·exact .inl hn
  ·exact .inr (.inr x)
 there:=λ b x=>by
  rcases x with x | x
  ·rcases Lab.push hlb x with y | rfl
   ·exact (Step.full (B:=B) (ex:=[]) (α:=α) k).dom b (W.there b (.inl y))
   ·exact ht
  ·exact (Step.full (B:=B) (ex:=[]) (α:=α) k).dom b (W.there b (.inr x))
 tabs:=λ q hq=>(W.tabs q hq).mov ((Step.newLab (B:=B) (ex:=[]) k hlb hn).mov ExOk.nil) (k _)
 frames:=W.frames.step (Step.newLab (B:=B) (ex:=[]) k hlb hn) (λ z z z z q=>nomatch q) W.hidTab W.alone
theorem Step.newHid (k:Full h h') {fr:Bool} {a:Addr} (hn:h.get? a=none):Step B ex α h (α.hide fr a) h' where
 keep:=λ b o z z z z e=>⟨o.slots,k b o e,λ z=>rfl⟩
 dom:=(Step.full (B:=B) (ex:=ex) (α:=α) k).dom
 ext:=Nat.le_refl _
 old:=λ z z=>.inl rfl
 new:=λ n a hn e=>absurd (adr_lt (α:=α) e) (Nat.not_lt.mpr hn)
 hidOld:=λ z e=>List.mem_cons_of_mem _ e
 hidNew:=λ p e=>by
  rcases List.mem_cons.mp e with rfl | e
  ·exact .inr hn
  ·exact .inl e
theorem Hid.hide {fr:Bool} {a b:Addr} (x:Hid (α.hide fr a) b):b=a\/Hid α b:=by
 obtain ⟨f,x⟩:=x
 rcases List.mem_cons.mp x with q | q
 ·rcases q;exact .inl rfl
 ·exact .inr ⟨f,q⟩
theorem hid_self {fr:Bool} {a:Addr}:Hid (α.hide fr a) a:=⟨fr,List.mem_cons_self⟩
theorem Wd.newHid (W:Wd B α σ fs h) (k:Full h h') {fr:Bool} {a:Addr} (hn:h.get? a=none) (ht:h'.get? a≠none):Wd B (α.hide fr a) σ fs h' where
 stays:=λ b o e=>k b o (W.stays b o e)
 len:=W.len
 objs:=λ n ao lb e1 e2=>ORel.stay (Step.newHid (ex:=[]) k hn) ExOk.nil (λ a o z e=>k a o e) (W.objs n ao lb e1 e2)
 inj:=W.inj
 alone:=λ b x y=>by
  rcases Hid.hide x with rfl | x
  ·exact W.there b (.inl y) hn
  ·exact W.alone b x y
 apart:=W.staysSame λ b x=>by
  rcases x with x | x
  ·exact .inr (.inl x)
  ·rcases Hid.hide x with rfl | x
   ·exact .inl hn
   ·exact .inr (.inr x)
 there:=λ b x=>by
  rcases x with x | x
  ·exact (Step.full (B:=B) (ex:=[]) (α:=α) k).dom b (W.there b (.inl x))
  ·rcases Hid.hide x with rfl | x
   ·exact ht
   ·exact (Step.full (B:=B) (ex:=[]) (α:=α) k).dom b (W.there b (.inr x))
 tabs:=λ q hq=>(W.tabs q hq).mov ((Step.newHid (B:=B) (ex:=[]) k hn).mov ExOk.nil) (k _)
 frames:=W.frames.step (Step.newHid (B:=B) (ex:=[]) k hn) (λ z z z z q=>nomatch q) W.hidTab W.alone
theorem Liv.un {a:Addr} (hk:∀ p∈α.hid,p∈α'.hid) (x:Liv (α'.un α) a):Liv α' a:=x.imp id λ ⟨f,q⟩=>⟨f,hk _ q⟩
theorem Frz.un {a:Addr} (hk:∀ p∈α.hid,p∈α'.hid) (x:Frz B α' a):Frz B (α'.un α) a:=⟨λ q=>x.1 (q.un hk),x.2⟩
theorem Step.updLab {n:Nat} {a:Addr} (e:α.lab[n]?=some (.cell a)\/α.lab[n]?=some (.obj a)) (k:Heap.ExtBut a h h') (ht:h'.get? a≠none):Step B ex α h α h' where
 keep:=λ b o hl z z z q=>by
  have hb:b≠a:=by
   rintro rfl;exact hl ⟨n,by rcases e with e | e<;>rw [adr_of_get e]<;>rfl⟩
  exact ⟨o.slots,k b o hb q,λ z=>rfl⟩
 dom:=λ b q=>by
  by_cases hb:b=a
  ·subst hb;exact ht
  ·cases r:h.get? b with
   | none=>exact absurd r q
   | some o=>exact some_ne_none (k b o hb r)
 ext:=Nat.le_refl _
 old:=λ z z=>.inl rfl
 new:=λ n a hn e=>absurd (adr_lt e) (Nat.not_lt.mpr hn)
 hidOld:=λ z e=>e
 hidNew:=λ z e=>.inl e
theorem Wd.updLab (W:Wd B α σ fs h) {n:Nat} {a:Addr} {lb:Lb} {ao:AObj} (e:α.lab[n]?=some lb) (hlb:lb=.cell a\/lb=.obj a) (k:Heap.ExtBut a h h') (ht:h'.get? a≠none) (r:ORel B α h' ao lb):Wd B α (σ.set n ao) fs h':=by
 have e':α.lab[n]?=some (.cell a)\/α.lab[n]?=some (.obj a):=hlb.imp (λ q=>by rw [<- q];exact e) (λ q=>by rw [<- q];exact e)
 have ha:adr α n=some a:=by rw [adr_of_get e];rcases hlb with q | q<;>rw [q]<;>rfl
 have S:Step B [] α h α h':=Step.updLab e' k ht
 refine ⟨W.staysIn S ExOk.nil,by rw [List.length_set];exact W.len,λ m ao' lb' e1 e2=>?_,W.inj,W.alone,W.apart,λ b q=>S.dom b (W.there b q),λ q hq=>?_,W.frames.step S (λ u u u u q=>nomatch q) W.hidTab W.alone⟩
 ·by_cases hm:m=n
  ·subst hm
   rw [e] at e2;obtain rfl:=Option.some.inj e2
   have hl:m<σ.length:=W.len▸(List.getElem?_eq_some_iff.mp e).1
   rw [List.getElem?_set_self hl] at e1
   obtain rfl:=Option.some.inj e1
   exact r
  ·rw [List.getElem?_set_ne (Ne.symm hm)] at e1
   refine ORel.stay S ExOk.nil (λ b o hb q=>k b o (λ z=>?_) q) (W.objs m ao' lb' e1 e2)
   subst z
   exact hm (W.inj m n b (by rw [adr_of_get e2];rcases hb with hb | hb<;>rw [hb]<;>rfl) ha)
 ·exact (W.tabs q hq).mov (S.mov ExOk.nil) λ o x=>k _ o (λ z=>(W.apart a (.inl ⟨n,ha⟩)).2 ⟨q,hq,z⟩) x
theorem Step.updHid {a:Addr} (ha:a∈ex) (k:Heap.ExtBut a h h') (ht:h'.get? a≠none):Step B ex α h α h' where
 keep:=λ b o hl u hx u q=>⟨o.slots,k b o (λ z=>hx (z▸ha)) q,λ u=>rfl⟩
 dom:=λ b q=>by
  by_cases hb:b=a
  ·subst hb;exact ht
  ·cases r:h.get? b with
   | none=>exact absurd r q
   | some o=>exact some_ne_none (k b o hb r)
 ext:=Nat.le_refl _
 old:=λ u u=>.inl rfl
 new:=λ n a hn e=>absurd (adr_lt e) (Nat.not_lt.mpr hn)
 hidOld:=λ u e=>e
 hidNew:=λ u e=>.inl e
theorem ExOk.one {a:Addr} (e:Hid α a):ExOk [a] α:=λ b hb=>by simp at hb;subst hb;exact e.liv
theorem Wd.updHid (W:Wd B α σ fs h) {a:Addr} (e:Hid α a) (k:Heap.ExtBut a h h') (ht:h'.get? a≠none)
  (hf:∀ env∈fs,env.frame=some a->∃ o es n,h'.get? a=some o/\o.data=.dict es n):Wd B α σ fs h':=by
 have S:Step B [a] α h α h':=Step.updHid List.mem_cons_self k ht
 refine ⟨W.staysIn S (ExOk.one e),W.len,λ m ao' lb' e1 e2=>?_,W.inj,W.alone,W.apart,λ b q=>S.dom b (W.there b q),λ q hq=>?_,W.frames.step S (λ env he L hL hx=>?_) W.hidTab W.alone⟩
 ·refine ORel.stay S (ExOk.one e) (λ b o hb q=>k b o (λ z=>?_) q) (W.objs m ao' lb' e1 e2)
  subst z
  exact W.alone b e ⟨m,by rw [adr_of_get e2];rcases hb with hb | hb<;>rw [hb]<;>rfl⟩
 ·exact (W.tabs q hq).mov (S.mov (ExOk.one e)) λ o x=>k _ o (λ z=>(W.apart a e.liv).2 ⟨q,hq,z⟩) x
 ·simp at hx;subst hx;exact hf env he hL
end
end
section
noncomputable abbrev PX:=String->St->Prop
noncomputable abbrev PK:=AV->St->Prop
noncomputable abbrev PE:=AFr->St->PK->PX->Prop
section
variable (B:BC)
noncomputable def SStep (ex:List Addr) (α:Lbl) (s:Shared) (α':Lbl) (s':Shared):Prop:=(∃ h' tk,s'={ s with heap:=h',toks:=tk })/\Step B ex α s.heap α' s'.heap
inductive XN (h₀:Heap) (α:Lbl) (h:Heap) (e:Addr) (vs:Array Value):Prop
 | mk (T:Addr) (oT:Obj) (ts:Array Value) (x:Value) (y:Addr) (z:vs[1]?=some (.ref T)) (z:h₀.get? T=Option.none) (z:B.base.get? T=Option.none) (z:Frz B α T) (z:T≠e) (z:h.get? T=some oT) (z:oT.cls=.type "traceback") (z:oT.data=.fields ts) (z:ts[1]?=some (.ref y)) (z:ts[3]?=some x) (z:x=.none\/∃ i,x=rawInt i)
inductive XRel (h₀:Heap) (α:Lbl) (h:Heap) (e:Addr) (c:String):Prop
 | mk (z:h₀.get? e=Option.none) (z:B.base.get? e=Option.none) (z:Frz B α e) (z:c="StopIteration"\/c="ZeroDivisionError") (oe:Obj) (vs:Array Value) (z:h.get? e=some oe) (z:oe.cls=.type c) (z:oe.data=.fields vs) (z:vs.size=6/\vs[2]?=some .none)
  (z:∃ t,vs[0]?=some (.ref t)/\IsTup h t #[]/\Frz B α t/\h₀.get? t=Option.none) (z:vs[1]?=some .none\/XN B h₀ α h e vs)
inductive PostV (ex:List Addr) (α:Lbl) (fs:List Env) (s:Shared) (K:PK) (v:Value) (s':Shared):Prop
 | mk (α':Lbl) (σ':St) (av:AV) (z:SStep B ex α s α' s') (z:Wd B α' σ' fs s'.heap) (z:Rel B α' s'.heap av v) (z:K av σ')
inductive PostX (ex:List Addr) (α:Lbl) (fs:List Env) (s:Shared) (X:PX) (x:Value) (s':Shared):Prop
 | mk (α':Lbl) (σ':St) (e:Addr) (c:String) (z:x=.ref e) (z:SStep B ex α s α' s') (z:Wd B α' σ' fs s'.heap) (z:XRel B s.heap α' s'.heap e c) (z:X c σ')
noncomputable def JE (κ:Sc) (k:Nat) (e:Expr) (f:PE):Prop:=
 ∀ (A:Around) (fs:List Env) (env:Env) (fr:AFr) (α:Lbl) (σ:St) (K:PK) (X:PX) (s:Shared),
  Amb A fs k fr.hnd->Wd B α σ fs s.heap->FrOk B κ fr env α s.heap->f fr σ K X->
  wpAny (model B.prog B.w) A (eval e env) (PostV B [] α fs s K) (PostX B [] α fs s X) s
end
section
variable {B:BC} {ex:List Addr} {α α' α₁ α₂:Lbl} {s s' s₁ s₂:Shared} {σ σ' σ₁ σ₂:St} {fs:List Env} {A:Around} {κ:Sc} {k:Nat}
theorem SStep.refl (B:BC) (ex:List Addr) (α:Lbl) (s:Shared):SStep B ex α s α s:=⟨⟨s.heap,s.toks,rfl⟩,Step.refl B ex α s.heap⟩
theorem SStep.trans (x:SStep B ex α s α₁ s₁) (y:SStep B ex α₁ s₁ α₂ s₂):SStep B ex α s α₂ s₂:=by
 obtain ⟨⟨h1,t1,e1⟩,S⟩:=x
 obtain ⟨⟨h2,t2,e2⟩,T⟩:=y
 refine ⟨⟨h2,t2,?_⟩,S.trans T⟩
 rw [e2,e1]
theorem SStep.full {h':Heap} {tk:Nat} (k:Full s.heap h'):SStep B ex α s α { s with heap:=h',toks:=tk }:=⟨⟨h',tk,rfl⟩,Step.full k⟩
theorem SStep.of {h':Heap} {tk:Nat} (S:Step B ex α s.heap α' h'):SStep B ex α s α' { s with heap:=h',toks:=tk }:=⟨⟨h',tk,rfl⟩,S⟩
theorem Step.widen {h h':Heap} {ex':List Addr} (S:Step B ex α h α' h') (hx:∀ a∈ex,a∈ex'):Step B ex' α h α' h':=
 ⟨λ b o hl ht he hz e=>S.keep b o hl ht (λ q=>he (hx b q)) hz e,S.dom,S.ext,S.old,S.new,S.hidOld,S.hidNew⟩
theorem SStep.widen {ex':List Addr} (S:SStep B ex α s α' s') (hx:∀ a∈ex,a∈ex'):SStep B ex' α s α' s':=⟨S.1,S.2.widen hx⟩
theorem none_of_dom {h h':Heap} {a:Addr} (d:∀ b,h.get? b≠none->h'.get? b≠none) (e:h'.get? a=none):h.get? a=none:=by
 cases q:h.get? a with
 | none=>rfl
 | some o=>exact absurd e (d a (some_ne_none q))
theorem XRel.back {h₀ h₁ h:Heap} {e:Addr} {c:String} (d:∀ b,h₀.get? b≠none->h₁.get? b≠none) (x:XRel B h₁ α h e c):XRel B h₀ α h e c:=by
 obtain ⟨a,b,b',b'',oe,vs,h1,h2,h3,h4,⟨t,t1,t2,t3,t4⟩,h5⟩:=x
 refine ⟨none_of_dom d a,b,b',b'',oe,vs,h1,h2,h3,h4,⟨t,t1,t2,t3,none_of_dom d t4⟩,h5.imp id λ x=>?_⟩
 obtain ⟨T,oT,ts,x,y,q1,q2,q3,q4,q5,q6,q7,q8,q9,q10,q11⟩:=x
 exact ⟨T,oT,ts,x,y,q1,none_of_dom d q2,q3,q4,q5,q6,q7,q8,q9,q10,q11⟩
theorem PostV.seq {K:PK} {v:Value} (S:SStep B ex α s α₁ s₁) (p:PostV B ex α₁ fs s₁ K v s'):PostV B ex α fs s K v s':=
 by obtain ⟨α',σ',av,S',W,r,k⟩:=p;exact ⟨α',σ',av,S.trans S',W,r,k⟩
theorem PostX.seq {X:PX} {v:Value} (S:SStep B ex α s α₁ s₁) (p:PostX B ex α₁ fs s₁ X v s'):PostX B ex α fs s X v s':=
 by obtain ⟨α',σ',e,c,q,S',W',x,r⟩:=p;exact ⟨α',σ',e,c,q,S.trans S',W',x.back S.2.dom,r⟩
theorem PostX.widen {ex':List Addr} {X:PX} {v:Value} (hx:∀ a∈ex,a∈ex') (p:PostX B ex α fs s X v s'):PostX B ex' α fs s X v s':=
 by obtain ⟨α',σ',e,c,q,S',W',x,r⟩:=p;exact ⟨α',σ',e,c,q,S'.widen hx,W',x,r⟩
theorem PostV.full {K:PK} {v:Value} {av:AV} {h':Heap} {tk:Nat} (W:Wd B α σ fs s.heap) (k:Full s.heap h') (r:Rel B α h' av v) (hk:K av σ):PostV B ex α fs s K v { s with heap:=h',toks:=tk }:=
 ⟨α,σ,av,SStep.full k,W.full k,r,hk⟩
theorem PostV.here {K:PK} {v:Value} {av:AV} {tk:Nat} (W:Wd B α σ fs s.heap) (r:Rel B α s.heap av v) (hk:K av σ):PostV B ex α fs s K v { s with toks:=tk }:=
 PostV.full (h':=s.heap) W (Full.refl _) r hk
theorem PostV.now {K:PK} {v:Value} {av:AV} (W:Wd B α σ fs s.heap) (r:Rel B α s.heap av v) (hk:K av σ):PostV B ex α fs s K v s:=
 ⟨α,σ,av,SStep.refl B ex α s,W,r,hk⟩
theorem Rel.full {h h':Heap} (k:Full h h') {av:AV} {v:Value} (r:Rel B α h av v):Rel B α h' av v:=Rel.step (Step.full (ex:=[]) k) ExOk.nil av v r
theorem RelL.full {h h':Heap} (k:Full h h') {l:List AV} {vs:List Value} (r:RelL B α h l vs):RelL B α h' l vs:=RelL.step (Step.full (ex:=[]) k) ExOk.nil l vs r
theorem FrOk.full {h h':Heap} {fr:AFr} {env:Env} (k:Full h h') (W:Wd B α σ fs h) (F:FrOk B κ fr env α h):FrOk B κ fr env α h':=F.step (Step.full k) W
theorem rel_int {h:Heap} (i:Int) (t:Tok):Rel B α h (.int i) (.int i t):=⟨t,rfl⟩
theorem rel_bool {h:Heap} (b:Bool):Rel B α h (.bool b) (.bool b):=rfl
theorem rel_str {h:Heap} (x:Str) (t:Tok):Rel B α h (.str x) (.str x t):=⟨t,rfl⟩
theorem rel_none {h:Heap}:Rel B α h .none .none:=rfl
theorem rel_val {h:Heap} (v:Value):Rel B α h (.val v) v:=rfl
theorem Wd.frzNew (W:Wd B α σ fs s.heap) {a:Addr} (e:s.heap.get? a=none):Frz B α a:=⟨W.notLive e,(W.fresh e).2⟩
theorem Wd.frzSize (W:Wd B α σ fs s.heap):Frz B α s.heap.objs.size:=W.frzNew (Heap.get?_none_of_le (Nat.le_refl _))
theorem rel_newTup {l:List AV} {vs:List Value} (W:Wd B α σ fs s.heap) (r:RelL B α s.heap l vs):
  Rel B α (s.heap.push { cls:=.type "tuple",data:=.seq vs.toArray }) (.tup l) (.ref s.heap.objs.size):=by
 exact ⟨_,vs,rfl,W.frzSize,⟨_,Heap.get?_push_size _ rfl,rfl,0,rfl⟩,r.full (Full.push _ _)⟩
theorem rel_newLst {l:List AV} {vs:List Value} (W:Wd B α σ fs s.heap) (r:RelL B α s.heap l vs):
  Rel B α (s.heap.push { cls:=.type "list",data:=.seq vs.toArray }) (.lst l) (.ref s.heap.objs.size):=by
 exact ⟨_,vs,rfl,W.frzSize,⟨0,Heap.get?_push_size _ rfl⟩,r.full (Full.push _ _)⟩
noncomputable def E.c (v:AV):PE:=λ z σ K z=>K v σ
theorem JE.int {i n pos}:JE B κ k (.Constant (.int i) n pos) (E.c (.int i)):=λ A fs env fr α σ K X s amb W F hf=>
 wpAny_Constant_int (PostV.here W (rel_int i _) hf)
theorem JE.str {x n pos}:JE B κ k (.Constant (.str x) n pos) (E.c (.str x)):=λ A fs env fr α σ K X s amb W F hf=>
 wpAny_Constant_str (PostV.here W (rel_str x _) hf)
theorem JE.bool {x n pos}:JE B κ k (.Constant (.bool x) n pos) (E.c (.bool x)):=λ A fs env fr α σ K X s amb W F hf=>
 wpAny_Constant_bool (PostV.now W (rel_bool x) hf)
theorem JE.cNone {n pos}:JE B κ k (.Constant .none n pos) (E.c .none):=λ A fs env fr α σ K X s amb W F hf=>
 wpAny_Constant_none (PostV.now W rel_none hf)
noncomputable def E.loc (i:Nat):PE:=λ fr σ K z=>∃ v,fr.ρ[i]?=some (some v)/\K v σ
theorem JE.loc {i:Nat} {x:Str} {pos} (hi:κ.loc[i]?=some x) (hl:κ.scope.names.lookup x=some .local) (hd:(x==("__debug__":Str))=false):JE B κ k (.Name x pos) (E.loc i):=λ A fs env fr α σ K X s amb W F hf=>by
 obtain ⟨v,hv,hk⟩:=hf
 obtain ⟨m,hn,hm⟩:=F.locs
 obtain ⟨w,e,r⟩:=hm i x v hi hv
 refine wpAny_Name (wpAny_loadName_local (by rw [F.scope];exact F.kind) (by unfold Env.kindOf;rw [F.scope];exact hl) hn e (PostV.now W r hk)) hd
noncomputable def E.cel (j:Nat):PE:=λ fr σ K z=>∃ n v,fr.χ[j]?=some n/\σ[n]?=some (.cel (some v))/\K v σ
theorem cell_value (W:Wd B α σ fs s.heap) {n:Nat} {ad:Addr} {v:AV} (e1:σ[n]?=some (.cel (some v))) (e2:α.lab[n]?=some (.cell ad)):∃ w,s.heap.IsCell ad (some w)/\Rel B α s.heap v w:=by
 obtain ⟨o,w,ho,hd,hr⟩:=W.objs n _ _ e1 e2
 induction w with
 | none=>exact hr.elim
 | some w=>exact ⟨w,⟨o,ho,hd⟩,hr⟩
theorem JE.cel {j:Nat} {x:Str} {pos} (hj:κ.cel[j]?=some x) (hl:κ.scope.names.lookup x=some .cell\/κ.scope.names.lookup x=some .free) (hd:(x==("__debug__":Str))=false) (hc:(x==("__classdict__":Str))=false):
  JE B κ k (.Name x pos) (E.cel j):=λ A fs env fr α σ K X s amb W F hf=>by
 obtain ⟨n,v,hn,hv,hk⟩:=hf
 obtain ⟨ad,n',e1,e2,e3⟩:=F.cells j x hj
 rw [hn] at e2;obtain rfl:=Option.some.inj e2
 obtain ⟨w,hw,r⟩:=cell_value W hv e3
 have hkd:env.scope.kind=.function:=by rw [F.scope];exact F.kind
 rcases hl with hl | hl
 ·exact wpAny_Name (wpAny_loadName_cell hkd (by unfold Env.kindOf;rw [F.scope];exact hl) e1 hw (PostV.now W r hk)) hd
 ·exact wpAny_Name (wpAny_loadName_free hkd (by unfold Env.kindOf;rw [F.scope];exact hl) e1 hw (PostV.now W r hk) hc) hd
theorem global_value {env:Env} {fr:AFr} {x:Str} {v:Value} {Q:Value->Shared->Prop} {E:Value->Shared->Prop} {pos} (W:Wd B α σ fs s.heap) (F:FrOk B κ fr env α s.heap) (hl:κ.scope.names.lookup x=some .globalImplicit)
  (hd:(x==("__debug__":Str))=false) (hv:nsIn B.K mainGlobals x=some (some v)) (h:Q v s):wpAny (model B.prog B.w) A (eval (.Name x pos) env) Q E s:=
 Name_function_global (by rw [F.scope];exact F.kind) (by unfold Env.kindOf;rw [F.scope];exact hl) (loadGlobal_global (by rw [F.globals];exact B.top.g.keeps W.stays) (mg_of B.inK B.top.g hv) h) hd
theorem builtin_value {env:Env} {fr:AFr} {x:Str} {v:Value} {Q:Value->Shared->Prop} {E:Value->Shared->Prop} {pos} (W:Wd B α σ fs s.heap) (F:FrOk B κ fr env α s.heap) (hl:κ.scope.names.lookup x=some .globalImplicit)
  (hd:(x==("__debug__":Str))=false) (hn:nsIn B.K mainGlobals x=some none) (hv:bootBuiltins x=some v) (hne:x≠"__name__") (h:Q v s):wpAny (model B.prog B.w) A (eval (.Name x pos) env) Q E s:=
 Name_function_global (by rw [F.scope];exact F.kind) (by unfold Env.kindOf;rw [F.scope];exact hl)
  (loadGlobal_builtin (by rw [F.globals];exact B.top.g.keeps W.stays) (mg_none_of B.inK B.top.g hn) (by rw [F.builtins];exact B.top.b.keeps W.stays) ((B.top.builtins x hne).trans hv) h) hd
theorem JE.gint {x:Str} {i:Int} {t:Tok} {pos} (hl:κ.scope.names.lookup x=some .globalImplicit) (hd:(x==("__debug__":Str))=false) (hv:nsIn B.K mainGlobals x=some (some (.int i t))):JE B κ k (.Name x pos) (E.c (.int i)):=
 λ A fs env fr α σ K X s amb W F hf=>global_value W F hl hd hv (PostV.now W (rel_int i t) hf)
theorem JE.gstr {x:Str} {y:Str} {t:Tok} {pos} (hl:κ.scope.names.lookup x=some .globalImplicit) (hd:(x==("__debug__":Str))=false) (hv:nsIn B.K mainGlobals x=some (some (.str y t))):JE B κ k (.Name x pos) (E.c (.str y)):=
 λ A fs env fr α σ K X s amb W F hf=>global_value W F hl hd hv (PostV.now W (rel_str y t) hf)
theorem JE.gval {x:Str} {v:Value} {pos} (hl:κ.scope.names.lookup x=some .globalImplicit) (hd:(x==("__debug__":Str))=false) (hv:nsIn B.K mainGlobals x=some (some v)):JE B κ k (.Name x pos) (E.c (.val v)):=
 λ A fs env fr α σ K X s amb W F hf=>global_value W F hl hd hv (PostV.now W (rel_val v) hf)
theorem JE.bval {x:Str} {v:Value} {pos} (hl:κ.scope.names.lookup x=some .globalImplicit) (hd:(x==("__debug__":Str))=false) (hn:nsIn B.K mainGlobals x=some none) (hv:bootBuiltins x=some v) (hne:x≠"__name__"):
  JE B κ k (.Name x pos) (E.c (.val v)):=
 λ A fs env fr α σ K X s amb W F hf=>builtin_value W F hl hd hn hv hne (PostV.now W (rel_val v) hf)
theorem JE.use {e:Expr} {f:PE} (je:JE B κ k e f) {env:Env} {fr:AFr} {K:PK} {X:PX} {Q:Value->Shared->Prop} {E:Value->Shared->Prop} (amb:Amb A fs k fr.hnd) (W:Wd B α σ fs s.heap) (F:FrOk B κ fr env α s.heap)
  (hf:f fr σ K X)
  (h:∀ v s₁ α₁ σ₁ av,SStep B [] α s α₁ s₁->Wd B α₁ σ₁ fs s₁.heap->Rel B α₁ s₁.heap av v->K av σ₁->FrOk B κ fr env α₁ s₁.heap->Q v s₁)
  (hE:∀ x s₁,PostX B [] α fs s X x s₁->E x s₁):wpAny (model B.prog B.w) A (eval e env) Q E s:=
 wpAny_mono (je A fs env fr α σ K X s amb W F hf) (λ v s₁ ⟨α₁,σ₁,av,S,W₁,r,hk⟩=>h v s₁ α₁ σ₁ av S W₁ r hk (F.step S.2 W)) hE
noncomputable def VOp (B:BC) (A:Around) (α:Lbl) (s:Shared) (t:Sem Value) (P:AV->Prop):Prop:=
 ∀ (Q E:Value->Shared->Prop),(∀ c u h' tk,Full s.heap h'->Rel B α h' c u->P c->Q u { s with heap:=h',toks:=tk })->wpAny (model B.prog B.w) A t Q E s
noncomputable def E.bin (op:AV->AV->(AV->Prop)->Prop) (f g:PE):PE:=λ fr σ K X=>f fr σ (λ a σ₁=>g fr σ₁ (λ b σ₂=>op a b (λ c=>K c σ₂)) X) X
noncomputable def OpOk (B:BC) (op:Operator) (o:AV->AV->(AV->Prop)->Prop):Prop:=
 ∀ (A:Around) (fs:List Env) (α:Lbl) (σ:St) (s:Shared) (a b:AV) (u v:Value) (P:AV->Prop),Wd B α σ fs s.heap->Rel B α s.heap a u->Rel B α s.heap b v->o a b P->VOp B A α s (binaryOp op u v) P
theorem JE.bin {op:Operator} {o:AV->AV->(AV->Prop)->Prop} (ho:OpOk B op o) {l r:Expr} {pos} {f g:PE} (jl:JE B κ k l f) (jr:JE B κ k r g):JE B κ k (.BinOp l op r pos) (E.bin o f g):=λ A fs env fr α σ K X s amb W F hf=>by
 refine wpAny_BinOp (jl.use amb W F hf (λ u s₁ α₁ σ₁ a S₁ W₁ r₁ h₁ F₁=>?_) λ z z p=>p)
 refine jr.use amb W₁ F₁ h₁ (λ v s₂ α₂ σ₂ b S₂ W₂ r₂ h₂ F₂=>?_) λ z z p=>p.seq S₁
 refine ho A fs α₂ σ₂ s₂ a b u v _ W₂ (Rel.step S₂.2 ExOk.nil _ _ r₁) r₂ h₂ _ _ λ c w h' tk k' r' hc=>?_
 exact PostV.seq (S₁.trans S₂) (PostV.full W₂ k' r' hc)
end
end
section
noncomputable abbrev OpS:=AV->AV->(AV->Prop)->Prop
noncomputable def int2 {β:Type} (f:Int->Int->β->Prop) (x y:AV) (P:β):Prop:=match x with
 | .int a=>(match y with
  | .int b=>f a b P
  | _=>False)
 | _=>False
noncomputable def opAdd:OpS:=λ x y P=>match x with
 | .int a=>(match y with
  | .int b=>P (.int (a+b))
  | .bool b=>P (.int (a+if b=true then (1:Int) else 0))
  | _=>False)
 | .str a=>(match y with
  | .str b=>a.length+b.length<=sizeLine/\P (.str (a++b))
  | _=>False)
 | .lst a=>(match y with
  | .lst b=>a.length+b.length<=sizeLine/\P (.lst (a++b))
  | _=>False)
 | _=>False
noncomputable def opSub:OpS:=int2 λ a b P=>P (.int (a - b))
noncomputable def opMul:OpS:=λ x y P=>match x with
 | .int a=>(match y with
  | .int b=>IntMulOk a b/\P (.int (a*b))
  | .bool b=>P (.int (a*if b=true then (1:Int) else 0))
  | _=>False)
 | .lst l=>(match y with
  | .int n=>0<=n/\n<2^20/\l.length=1/\P (.lst (List.replicate n.toNat l).flatten)
  | _=>False)
 | _=>False
noncomputable def opDiv:OpS:=int2 λ a b P=>b≠0/\Builtin.divisionGoesByPylong a b=false/\P (.int (a.fdiv b))
noncomputable def opMod:OpS:=int2 λ a b P=>b≠0/\P (.int (a.fmod b))
noncomputable def opPow:OpS:=int2 λ a n P=>0<=n/\(Builtin.Int.intBits a:Int)*n<=2^27/\P (.int (a^n.toNat))
noncomputable def opShl:OpS:=int2 λ a n P=>0<=n/\(Builtin.Int.intBits a:Int)+n<=2^27/\P (.int (a*2^n.toNat))
noncomputable def opShr:OpS:=int2 λ a n P=>0<=n/\P (.int (a.fdiv (2^n.toNat)))
noncomputable def opAnd:OpS:=int2 λ a b P=>P (.int (Builtin.bitAnd a b))
noncomputable def opOr:OpS:=int2 λ a b P=>P (.int (Builtin.bitOr a b))
noncomputable def opXor:OpS:=int2 λ a b P=>P (.int (Builtin.bitXor a b))
section
variable {B:BC} {ex:List Addr} {α α' α₁ α₂:Lbl} {s s' s₁ s₂:Shared} {σ σ' σ₁ σ₂:St} {fs:List Env} {A:Around} {κ:Sc} {k:Nat}
theorem VOp.int {t:Sem Value} {i:Int} {P:AV->Prop} (hp:P (.int i))
  (h:∀ (Q E:Value->Shared->Prop),Q (.int i s.toks) { s with toks:=s.toks+1 }->wpAny (model B.prog B.w) A t Q E s):VOp B A α s t P:=
 λ Q E hQ=>h Q E (hQ _ _ s.heap _ (Full.refl _) (rel_int i _) hp)
theorem rel_int_inv {h:Heap} {i:Int} {v:Value} (r:Rel B α h (.int i) v):∃ t,v=.int i t:=r
theorem rel_bool_inv {h:Heap} {i:Bool} {v:Value} (r:Rel B α h (.bool i) v):v=.bool i:=r
theorem rel_str_inv {h:Heap} {i:Str} {v:Value} (r:Rel B α h (.str i) v):∃ t,v=.str i t:=r
theorem rel_lst_inv {h:Heap} {l:List AV} {v:Value} (r:Rel B α h (.lst l) v):∃ a vs,v=.ref a/\Frz B α a/\h.PlainList a vs.toArray/\RelL B α h l vs:=r
theorem rel_tup_inv {h:Heap} {l:List AV} {v:Value} (r:Rel B α h (.tup l) v):∃ a vs,v=.ref a/\Frz B α a/\IsTup h a vs.toArray/\RelL B α h l vs:=r
theorem Rel.int_elim {h:Heap} {i:Int} {v:Value} {C:Value->Prop} (r:Rel B α h (.int i) v) (k:∀ t,C (.int i t)):C v:=let ⟨t,e⟩:=rel_int_inv r;e▸k t
theorem int2_elim {β:Type} {f:Int->Int->β->Prop} {h:Heap} {x y:AV} {u v:Value} {P:β} {C:Value->Value->Prop} (ra:Rel B α h x u) (rb:Rel B α h y v) (k:int2 f x y P) (hC:∀ a b t t',f a b P->C (.int a t) (.int b t')):C u v:=by
 rcases x<;>try exact k.elim
 rcases y<;>try exact k.elim
 exact ra.int_elim (C:=λ u=>C u v) λ t=>rb.int_elim λ t'=>hC _ _ _ _ k
theorem OpOk.int2 {op:Operator} {f:Int->Int->(AV->Prop)->Prop} (r:Int->Int->Int) (hf:∀ a b P,f a b P->P (.int (r a b))) (ho:∀ (A:Around) (s:Shared) (a b:Int) (t t':Tok) (P:AV->Prop) (Q E:Value->Shared->Prop),f a b P->Q (.int (r a b) s.toks) { s with toks:=s.toks+1 }->wpAny (model B.prog B.w) A (binaryOp op (.int a t) (.int b t')) Q E s):OpOk B op (Mine.int2 f):=
 λ A fs α σ s a b u v P W ra rb h=>int2_elim (C:=λ u v=>VOp B A α s (binaryOp op u v) P) ra rb h λ a b t t' h=>VOp.int (hf a b P h) λ Q E hq=>ho A s a b t t' P Q E h hq
set_option tactic.hygienic true in
theorem add_ok:OpOk B .Add opAdd:=λ A fs α σ s a b u v P W ra rb h=>by
 cases a<;>try exact h.elim
 case int i=>
  cases b<;>try exact h.elim
  ·obtain ⟨t,rfl⟩:=rel_int_inv ra;rcases rel_bool_inv rb
   exact VOp.int h λ Q E hq=>add_int_bool hq
  ·obtain ⟨t,rfl⟩:=rel_int_inv ra;obtain ⟨t',rfl⟩:=rel_int_inv rb
   exact VOp.int h λ Q E hq=>PyProof.Rows.add_int hq
 case str x=>
  rcases b<;>try exact h.elim
  obtain ⟨t,rfl⟩:=rel_str_inv ra;obtain ⟨t',rfl⟩:=rel_str_inv rb
  exact λ Q E hq=>PyProof.Rows.add_str (hsz:=h.1) λ t' tk=>hq _ _ s.heap tk (Full.refl _) (rel_str _ t') h.2
 case lst l=>
  rcases b<;>try exact h.elim
  rename_i m
  obtain ⟨x,vs,rfl,_,⟨n,hx⟩,hr⟩:=rel_lst_inv ra
  obtain ⟨y,ws,rfl,_,⟨n',hy⟩,hr'⟩:=rel_lst_inv rb
  intro Q E hq
  have e:vs.toArray++ws.toArray=(vs++ws).toArray:=by simp
  refine concat_meets ⟨_,hx,rfl⟩ ⟨_,hy,rfl⟩ noFill_list_add seq_list_add PySem.F.slot_list_add PySem.F.entry_list_add (PySem.F.args_list_add_2 _ _)
   (list_addW x y vs.toArray ws.toArray n n' none none #[] #[] (by simpa [hr.length,hr'.length] using h.1)) ⟨hx,hy,?_⟩
  rw [e]
  exact hq _ _ _ s.toks (Full.push _ _) (rel_newLst W (hr.append hr')) h.2
theorem sub_ok:OpOk B .Sub opSub:=OpOk.int2 (λ a b=>a - b) (λ z z z h=>h) λ z z z z z z z z z h hq=>PyProof.Rows.sub_int hq
set_option tactic.hygienic true in
theorem mul_ok:OpOk B .Mult opMul:=λ A fs α σ s a b u v P W ra rb h=>by
 cases a<;>try exact h.elim
 case int i=>
  cases b<;>try exact h.elim
  ·obtain ⟨t,rfl⟩:=rel_int_inv ra;cases rel_bool_inv rb
   exact VOp.int h λ Q E hq=>IntBool.mul_int_bool hq
  ·obtain ⟨t,rfl⟩:=rel_int_inv ra;obtain ⟨t',rfl⟩:=rel_int_inv rb
   exact VOp.int h.2 λ Q E hq=>PyProof.Rows.mul_int hq h.1
 case lst l=>
  rcases b<;>try exact h.elim
  rename_i x
  obtain ⟨t,rfl⟩:=rel_int_inv rb
  obtain ⟨y,vs,rfl,_,⟨n,hy⟩,hr⟩:=rel_lst_inv ra
  obtain ⟨h0,h1,h2,h3⟩:=h
  have hl:vs.length=1:=by rw [hr.length,h2]
  intro Q E hq
  refine wpAny_binaryOp_repeat_ref (T:="list") (U:="int") (by decide) ⟨_,hy,rfl⟩ (λ s'=>typeIs_int s' x t) noFill_list_mul PySem.F.fills_int_mul PySem.F.slot_int_rmul repeat_list PySem.F.slot_int_index.lookup
   (call_meets PySem.F.slot_int_rmul (typeIs_int s x t) PySem.F.entry_int_rmul (PySem.F.args_int_rmul_2 _ _) (int___rmul___int_list x t y vs.toArray n)
    ⟨hy,rfl,⟨_,hy,rfl⟩,call_meets PySem.F.slot_list_mul ⟨_,hy,rfl⟩ PySem.F.entry_list_mul (PySem.F.args_list_mul_2 _ _)
     (AutoListH.list___mul___list_int_3 y vs.toArray n x t (by have e1:decide (-(2^63:Int)<=x)=true:=decide_eq_true (by lia);have e2:decide (x<2^63)=true:=decide_eq_true (by lia);unfold Builtin.List.listFitsIndex;rw [e1,e2];decide) (by rw [List.size_toArray,hl];lia) (by unfold Builtin.List.listTooLong;rw [List.size_toArray,hl,sizeLine_eq];have e3:decide (1*x.toNat>16777216)=false:=decide_eq_false (by lia);rw [e3];exact Bool.false_ne_true))
     ⟨hy,?_⟩⟩)
  have e:(List.foldl (λ x1 x2=>x1++x2) #[] (List.replicate (if vs.toArray.isEmpty=true then 0 else x.toNat) vs.toArray))=(List.replicate x.toNat vs).flatten.toArray:=by
   have hne:vs.toArray.isEmpty=false:=by simp;intro q;rw [q] at hl;injection hl
   rw [hne]
   simp only [Bool.false_eq_true,if_false]
   rw [listMul_foldl]
   simp
  rw [e]
  have hrep:RelL B α s.heap (List.replicate x.toNat l).flatten (List.replicate x.toNat vs).flatten:=by
   generalize x.toNat=m
   induction m with
   | zero=>exact RelL.nil
   | succ m ih=>rw [List.replicate_succ,List.replicate_succ,List.flatten_cons,List.flatten_cons];exact hr.append ih
  exact hq _ _ _ s.toks (Full.push _ _) (rel_newLst W hrep) h3
theorem div_ok:OpOk B .FloorDiv opDiv:=OpOk.int2 (λ a b=>a.fdiv b) (λ z z z h=>h.2.2) λ z z z z z z z z z h hq=>PyProof.Rows.floordiv_int h.1 hq (.inl h.2.1)
theorem mod_ok:OpOk B .Mod opMod:=OpOk.int2 (λ a b=>a.fmod b) (λ z z z h=>h.2) λ z z z z z z z z z h hq=>PyProof.Rows.mod_int' h.1 hq
theorem pow_ok:OpOk B .Pow opPow:=OpOk.int2 (λ a n=>a^n.toNat) (λ z z z h=>h.2.2) λ z z z z z z z z z h hq=>PyProof.Rows.pow_int h.1 h.2.1 hq
theorem shl_ok:OpOk B .LShift opShl:=OpOk.int2 (λ a n=>a*2^n.toNat) (λ z z z h=>h.2.2) λ z z z z z z z z z h hq=>PyProof.Rows.lshift_int h.1 h.2.1 hq
theorem shr_ok:OpOk B .RShift opShr:=OpOk.int2 (λ a n=>a.fdiv (2^n.toNat)) (λ z z z h=>h.2) λ z z z z z z z z z h hq=>PyProof.Rows.rshift_int h.1 hq
theorem and_ok:OpOk B .BitAnd opAnd:=OpOk.int2 Builtin.bitAnd (λ z z z h=>h) λ z z z z z z z z z h hq=>PyProof.Rows.and_int hq
theorem or_ok:OpOk B .BitOr opOr:=OpOk.int2 Builtin.bitOr (λ z z z h=>h) λ z z z z z z z z z h hq=>PyProof.Rows.or_int hq
theorem xor_ok:OpOk B .BitXor opXor:=OpOk.int2 Builtin.bitXor (λ z z z h=>h) λ z z z z z z z z z h hq=>PyProof.Rows.xor_int hq
end
end
section
noncomputable abbrev PB:=Bool->St->Prop
noncomputable abbrev PT:=AFr->St->PB->PX->Prop
section
variable (B:BC)
inductive PostB (α:Lbl) (fs:List Env) (s:Shared) (K:PB) (b:Bool) (s':Shared):Prop
 | mk (α':Lbl) (σ':St) (z:SStep B [] α s α' s') (z:Wd B α' σ' fs s'.heap) (z:K b σ')
noncomputable def JT (κ:Sc) (k:Nat) (e:Expr) (t:PT):Prop:=
 ∀ (A:Around) (fs:List Env) (env:Env) (fr:AFr) (α:Lbl) (σ:St) (K:PB) (X:PX) (s:Shared),
  Amb A fs k fr.hnd->Wd B α σ fs s.heap->FrOk B κ fr env α s.heap->t fr σ K X->
  wpAny (model B.prog B.w) A (isTrue e env (eval e env)) (PostB B α fs s K) (PostX B [] α fs s X) s
end
section
variable {B:BC} {ex:List Addr} {α α' α₁ α₂:Lbl} {s s' s₁ s₂:Shared} {σ σ' σ₁ σ₂:St} {fs:List Env} {A:Around} {κ:Sc} {k:Nat}
theorem PostB.seq {K:PB} {b:Bool} (S:SStep B [] α s α₁ s₁) (p:PostB B α₁ fs s₁ K b s'):PostB B α fs s K b s':=
 by obtain ⟨α',σ',S',W',r⟩:=p;exact ⟨α',σ',S.trans S',W',r⟩
theorem PostB.full {K:PB} {b:Bool} {h':Heap} {tk:Nat} (W:Wd B α σ fs s.heap) (k:Full s.heap h') (hk:K b σ):PostB B α fs s K b { s with heap:=h',toks:=tk }:=
 ⟨α,σ,SStep.full k,W.full k,hk⟩
theorem PostB.toks {K:PB} {b:Bool} {tk:Nat} (W:Wd B α σ fs s.heap) (hk:K b σ):PostB B α fs s K b { s with toks:=tk }:=PostB.full (h':=s.heap) W (Full.refl _) hk
theorem PostB.now {K:PB} {b:Bool} (W:Wd B α σ fs s.heap) (hk:K b σ):PostB B α fs s K b s:=⟨α,σ,SStep.refl B [] α s,W,hk⟩
theorem JT.use {e:Expr} {t:PT} (jt:JT B κ k e t) {env:Env} {fr:AFr} {K:PB} {X:PX} {Q:Bool->Shared->Prop} {E:Value->Shared->Prop} (amb:Amb A fs k fr.hnd) (W:Wd B α σ fs s.heap) (F:FrOk B κ fr env α s.heap)
  (hf:t fr σ K X)
  (h:∀ b s₁ α₁ σ₁,SStep B [] α s α₁ s₁->Wd B α₁ σ₁ fs s₁.heap->K b σ₁->FrOk B κ fr env α₁ s₁.heap->Q b s₁)
  (hE:∀ x s₁,PostX B [] α fs s X x s₁->E x s₁):wpAny (model B.prog B.w) A (isTrue e env (eval e env)) Q E s:=
 wpAny_mono (jt A fs env fr α σ K X s amb W F hf) (λ b s₁ ⟨α₁,σ₁,S,W₁,hk⟩=>h b s₁ α₁ σ₁ S W₁ hk (F.step S.2 W)) hE
mutual
noncomputable def toPD:AV->Option PyData
 | .none=>some .none
 | .bool b=>some (.bool b)
 | .int i=>some (.int i)
 | .str x=>some (.str x)
 | .tup l=>(toPDs l).map PyData.tuple
 | .lst l=>(toPDs l).map PyData.list
 | _=>Option.none
noncomputable def toPDs:List AV->Option (List PyData)
 | []=>some []
 | x::l=>match toPD x,toPDs l with
  | some d,some ds=>some (d::ds)
  | _,_=>Option.none
end
mutual
theorem Rel.reads {h:Heap}:∀ (x:AV) (v:Value) (d:PyData),toPD x=some d->Rel B α h x v->∃ as,Reads h v d as
 | .none,v,d,e,r=>by
  obtain rfl:=Option.some.inj e;obtain rfl:=(show v=.none from r);exact ⟨_,.none⟩
 | .bool b,v,d,e,r=>by
  (injection e with e;subst e);obtain rfl:=(show v=.bool b from r);exact ⟨_,.bool b⟩
 | .int i,v,d,e,r=>by
  (injection e with e;subst e);obtain ⟨t,rfl⟩:=r;exact ⟨_,.int i t⟩
 | .str x,v,d,e,r=>by
  (injection e with e;subst e);obtain ⟨t,rfl⟩:=r;exact ⟨_,.str x t⟩
 | .tup l,v,d,e,r=>by
  obtain ⟨ds,e1,rfl⟩:=Option.map_eq_some_iff.mp (show (toPDs l).map PyData.tuple=some d from e)
  obtain ⟨a,vs,rfl,_,⟨o,ho,hc,n,hd⟩,hr⟩:=rel_tup_inv r
  obtain ⟨as,q⟩:=RelL.reads l vs ds e1 hr
  exact ⟨as,.tuple ho hc hd (by simpa using q)⟩
 | .lst l,v,d,e,r=>by
  obtain ⟨ds,e1,rfl⟩:=Option.map_eq_some_iff.mp (show (toPDs l).map PyData.list=some d from e)
  obtain ⟨a,vs,rfl,_,⟨n,ho⟩,hr⟩:=rel_lst_inv r
  obtain ⟨as,q⟩:=RelL.reads l vs ds e1 hr
  exact ⟨a::as,.list ho rfl rfl (by simpa using q)⟩
 | .dct g,v,d,e,r=>nomatch (show (none:Option PyData)=some d from e)
 | .loc n,v,d,e,r=>nomatch (show (none:Option PyData)=some d from e)
 | .val u,v,d,e,r=>nomatch (show (none:Option PyData)=some d from e)
 | .clo k cs,v,d,e,r=>nomatch (show (none:Option PyData)=some d from e)
theorem RelL.reads {h:Heap}:∀ (l:List AV) (vs:List Value) (ds:List PyData),toPDs l=some ds->RelL B α h l vs->∃ as,ReadsAll h vs ds as
 | [],vs,ds,e,r=>by
  obtain rfl:=Option.some.inj e;obtain rfl:=(show vs=[] from r);exact ⟨_,.nil⟩
 | x::l,vs,ds,e,r=>by
  have e:(match toPD x,toPDs l with
   | some d,some ds=>some (d::ds)
   | _,_=>none)=some ds:=e
  obtain ⟨v,r',rfl,h1,h2⟩:=r
  cases q1:toPD x with
  | none=>rw [q1] at e;injection e
  | some d=>
   cases q2:toPDs l with
   | none=>rw [q1,q2] at e;injection e
   | some ds'=>
    rw [q1,q2] at e
    (injection e with e;subst e)
    obtain ⟨as,p1⟩:=Rel.reads x v d q1 h1
    obtain ⟨bs,p2⟩:=RelL.reads l r' ds' q2 h2
    exact ⟨as++bs,.cons p1 p2⟩
end
noncomputable abbrev CmpS:=AV->AV->(Bool->Prop)->Prop
noncomputable def CmpOk (B:BC) (op:CmpOp) (o:CmpS):Prop:=
 ∀ (A:Around) (fs:List Env) (α:Lbl) (σ:St) (s:Shared) (a b:AV) (u v:Value) (P:Bool->Prop) (Q E:Value->Shared->Prop),A.units+80<cLine->Wd B α σ fs s.heap->Rel B α s.heap a u->Rel B α s.heap b v->o a b P->
  (∀ c h' tk,Full s.heap h'->P c->Q (.bool c) { s with heap:=h',toks:=tk })->wpAny (model B.prog B.w) A (compareOp op u v) Q E s
noncomputable def cmpLt:CmpS:=int2 λ a b P=>P (decide (a<b))
noncomputable def cmpLe:CmpS:=int2 λ a b P=>P (decide (a<=b))
noncomputable def cmpGt:CmpS:=int2 λ a b P=>P (decide (b<a))
noncomputable def cmpGe:CmpS:=int2 λ a b P=>P (decide (b<=a))
noncomputable def cmpEq:CmpS:=λ a b P=>∃ d e,toPD a=some d/\toPD b=some e/\SeqAt.shaped d=true/\SeqAt.shaped e=true/\P (PyData.eqv d e)
noncomputable def cmpNe:CmpS:=λ a b P=>∃ d e,toPD a=some d/\toPD b=some e/\SeqAt.shaped d=true/\SeqAt.shaped e=true/\P (!PyData.eqv d e)
noncomputable def isVal (u v:Value) (P:Bool->Prop):Prop:=match u with
 | .ref a=>v=.ref a/\P true
 | _=>False
noncomputable def isAV (x y:AV) (P:Bool->Prop):Prop:=match x with
 | .bool a=>(match y with
  | .bool b=>P (a==b)
  | _=>False)
 | .val u=>(match y with
  | .val v=>isVal u v P
  | _=>False)
 | _=>False
noncomputable def cmpIs:CmpS:=isAV
noncomputable def cmpIsNot:CmpS:=λ a b P=>isAV a b λ c=>P (!c)
noncomputable def toInts:List AV->Option (List Int)
 | []=>some []
 | .int i::l=>(toInts l).map (i::·)
 | _=>Option.none
noncomputable def cmpIn:CmpS:=λ x y P=>match x with
 | .int i=>(match y with
  | .tup l=>∃ ns,toInts l=some ns/\P (ns.any (·==i))
  | .lst l=>∃ ns,toInts l=some ns/\P (ns.any (·==i))
  | _=>False)
 | _=>False
set_option tactic.hygienic true in
theorem RelL.ints {h:Heap}:∀ {l:List AV} {vs:List Value} {ns:List Int},toInts l=some ns->RelL B α h l vs->IntsAre vs ns
 | [],vs,ns,e,r=>by
  obtain rfl:=Option.some.inj e;obtain rfl:=(show vs=[] from r);exact .nil
 | x::l,vs,ns,e,r=>by
  obtain ⟨v,r',rfl,h1,h2⟩:=r
  rcases x<;>try (injection (show (none:Option (List Int))=some ns from e))
  rename_i i
  obtain ⟨ns',e',rfl⟩:=Option.map_eq_some_iff.mp (show (toInts l).map (i::·)=some ns from e)
  obtain ⟨t,rfl⟩:=rel_int_inv h1
  exact .cons _ t (RelL.ints e' h2)
theorem here_full (Q:Value->Shared->Prop) {c:Bool} {P:Bool->Prop} (hp:P c) (hQ:∀ c h' tk,Full s.heap h'->P c->Q (.bool c) { s with heap:=h',toks:=tk }):Q (.bool c) s:=hQ c s.heap s.toks (Full.refl _) hp
noncomputable def onInt (f:Int->Prop) (x:AV):Prop:=match x with
 | .int i=>f i
 | _=>False
noncomputable def onStr (f:Str->Prop) (x:AV):Prop:=match x with
 | .str i=>f i
 | _=>False
noncomputable def onLst (f:List AV->Prop) (x:AV):Prop:=match x with
 | .lst i=>f i
 | _=>False
noncomputable def onLoc (f:Nat->Prop) (x:AV):Prop:=match x with
 | .loc i=>f i
 | _=>False
theorem onInt_elim {f:Int->Prop} {h:Heap} {x:AV} {u:Value} {C:Value->Prop} (r:Rel B α h x u) (k:onInt f x) (hC:∀ i t,f i->C (.int i t)):C u:=by
 rcases x<;>try exact k.elim
 exact r.int_elim λ t=>hC _ t k
theorem onStr_elim {f:Str->Prop} {h:Heap} {x:AV} {u:Value} {C:Value->Prop} (r:Rel B α h x u) (k:onStr f x) (hC:∀ i t,f i->C (.str i t)):C u:=by
 rcases x<;>try exact k.elim
 obtain ⟨t,rfl⟩:=rel_str_inv r
 exact hC _ t k
theorem onLst_inv {f:List AV->Prop} {x:AV} (k:onLst f x):∃ l,x=.lst l/\f l:=by
 rcases x<;>first | exact k.elim | exact ⟨_,rfl,k⟩
theorem onLoc_inv {f:Nat->Prop} {x:AV} (k:onLoc f x):∃ l,x=.loc l/\f l:=by
 rcases x<;>first | exact k.elim | exact ⟨_,rfl,k⟩
noncomputable def a0 (p:Prop) (l:List AV):Prop:=match l with
 | []=>p
 | _=>False
noncomputable def a1 (f:AV->Prop) (l:List AV):Prop:=match l with
 | x::l=>a0 (f x) l
 | _=>False
noncomputable def a2 (f:AV->AV->Prop) (l:List AV):Prop:=match l with
 | x::l=>a1 (f x) l
 | _=>False
noncomputable def a3 (f:AV->AV->AV->Prop) (l:List AV):Prop:=match l with
 | x::l=>a2 (f x) l
 | _=>False
theorem a0_elim {p:Prop} {h:Heap} {l:List AV} {vs:List Value} {C:List Value->Prop} (r:RelL B α h l vs) (k:a0 p l) (hC:p->C []):C vs:=by
 induction l with
 | nil=>exact (show vs=[] from r)▸hC k
 | cons=>exact k.elim
theorem a1_elim {f:AV->Prop} {h:Heap} {l:List AV} {vs:List Value} {C:List Value->Prop} (r:RelL B α h l vs) (k:a1 f l) (hC:∀ x v,Rel B α h x v->f x->C [v]):C vs:=by
 cases l with
 | nil=>exact k.elim
 | cons x l=>
  obtain ⟨v,vs,rfl,rx,r⟩:=r
  exact a0_elim (C:=λ vs=>C (v::vs)) r k (hC x v rx)
theorem a2_elim {f:AV->AV->Prop} {h:Heap} {l:List AV} {vs:List Value} {C:List Value->Prop} (r:RelL B α h l vs) (k:a2 f l) (hC:∀ x y u v,Rel B α h x u->Rel B α h y v->f x y->C [u,v]):C vs:=by
 cases l with
 | nil=>exact k.elim
 | cons x l=>
  obtain ⟨v,vs,rfl,rx,r⟩:=r
  exact a1_elim (C:=λ vs=>C (v::vs)) r k λ y w ry=>hC x y v w rx ry
theorem a3_elim {f:AV->AV->AV->Prop} {h:Heap} {l:List AV} {vs:List Value} {C:List Value->Prop} (r:RelL B α h l vs) (k:a3 f l) (hC:∀ x y z u v w,Rel B α h x u->Rel B α h y v->Rel B α h z w->f x y z->C [u,v,w]):C vs:=by
 cases l with
 | nil=>exact k.elim
 | cons x l=>
  obtain ⟨v,vs,rfl,rx,r⟩:=r
  exact a2_elim (C:=λ vs=>C (v::vs)) r k λ y z w w' ry rz=>hC x y z v w w' rx ry rz
theorem CmpOk.int2 {op:CmpOp} {r:Int->Int->Bool} (ho:∀ (A:Around) (s:Shared) (a b:Int) (t t':Tok) (Q E:Value->Shared->Prop),Q (.bool (r a b)) s->wpAny (model B.prog B.w) A (compareOp op (.int a t) (.int b t')) Q E s):CmpOk B op (Mine.int2 λ a b P=>P (r a b)):=
 λ A fs α σ s a b u v P Q E hu W ra rb h hQ=>int2_elim (C:=λ u v=>wpAny (model B.prog B.w) A (compareOp op u v) Q E s) ra rb h λ a b t t' h=>ho A s a b t t' Q E (here_full Q h hQ)
theorem lt_ok:CmpOk B .Lt cmpLt:=CmpOk.int2 λ z z z z z z z z hq=>PyProof.Rows.lt_int hq
theorem le_ok:CmpOk B .LtE cmpLe:=CmpOk.int2 λ z z z z z z z z hq=>PyProof.Rows.le_int hq
theorem gt_ok:CmpOk B .Gt cmpGt:=CmpOk.int2 (r:=λ a b=>decide (b<a)) λ z z z z z z z z hq=>PyProof.Rows.gt_int hq
theorem ge_ok:CmpOk B .GtE cmpGe:=CmpOk.int2 (r:=λ a b=>decide (b<=a)) λ z z z z z z z z hq=>PyProof.Rows.ge_int hq
theorem eq_ok:CmpOk B .Eq cmpEq:=λ A fs α σ s a b u v P Q E hu W ra rb h hQ=>by
 obtain ⟨d,e,h1,h2,h3,h4,h5⟩:=h
 obtain ⟨as,r1⟩:=Rel.reads a u d h1 ra
 obtain ⟨bs,r2⟩:=Rel.reads b v e h2 rb
 exact eq_dataH r1 r2 h3 h4 (by lia) (here_full Q h5 hQ)
theorem ne_ok:CmpOk B .NotEq cmpNe:=λ A fs α σ s a b u v P Q E hu W ra rb h hQ=>by
 obtain ⟨d,e,h1,h2,h3,h4,h5⟩:=h
 obtain ⟨as,r1⟩:=Rel.reads a u d h1 ra
 obtain ⟨bs,r2⟩:=Rel.reads b v e h2 rb
 exact ne_dataH r1 r2 h3 h4 (by lia) (here_full Q h5 hQ)
set_option tactic.hygienic true in
theorem is_elim {h:Heap} {x y:AV} {u v:Value} {P:Bool->Prop} {C:Value->Value->Prop} (ra:Rel B α h x u) (rb:Rel B α h y v) (k:isAV x y P) (h1:∀ a b,P (a==b)->C (.bool a) (.bool b)) (h2:∀ a,P true->C (.ref a) (.ref a)):C u v:=by
 rcases x<;>try exact k.elim
 case bool a=>
  rcases y<;>try exact k.elim
  obtain rfl:=rel_bool_inv ra;obtain rfl:=rel_bool_inv rb
  exact h1 _ _ k
 case val w=>
  rcases y<;>try exact k.elim
  obtain rfl:=(show u=w from ra);obtain rfl:=(show v=_ from rb)
  induction u<;>try exact k.elim
  obtain ⟨rfl,h⟩:=k
  exact h2 _ h
theorem eq_bools (x y:Bool):(Value.bool x==Value.bool y)=(x==y):=by rcases x<;>rcases y<;>rfl
theorem is_ok:CmpOk B .Is cmpIs:=λ A fs α σ s a b u v P Q E hu W ra rb h hQ=>
 is_elim (C:=λ u v=>wpAny (model B.prog B.w) A (compareOp .Is u v) Q E s) ra rb h (λ a b h=>wpAny_is_plain (by rfl) (by rw [eq_bools];exact here_full Q h hQ)) λ a h=>wpAny_is_ref_self (here_full Q h hQ)
theorem isNot_ok:CmpOk B .IsNot cmpIsNot:=λ A fs α σ s a b u v P Q E hu W ra rb h hQ=>
 is_elim (C:=λ u v=>wpAny (model B.prog B.w) A (compareOp .IsNot u v) Q E s) ra rb h (λ a b h=>wpAny_isNot_plain (by rfl) (by rw [eq_bools];exact here_full Q h hQ)) λ a h=>wpAny_isNot_ref_self (here_full Q h hQ)
set_option tactic.hygienic true in
theorem in_ok:CmpOk B .In cmpIn:=λ A fs α σ s a b u v P Q E hu W ra rb h hQ=>by
 rcases a<;>try exact h.elim
 refine ra.int_elim (C:=λ u=>wpAny (model B.prog B.w) A (compareOp .In u v) Q E s) λ t=>?_
 rcases b<;>try exact h.elim
 case tup l=>
  obtain ⟨ns,e,hp⟩:=h
  obtain ⟨x,vs,rfl,_,hx,hr⟩:=rel_tup_inv rb
  exact in_tuple_ints hx (by simpa using hr.ints e) (here_full Q hp hQ)
 case lst l=>
  obtain ⟨ns,e,hp⟩:=h
  obtain ⟨x,vs,rfl,_,hx,hr⟩:=rel_lst_inv rb
  exact in_list_ints hx.isList (hr.ints e) (here_full Q hp hQ)
theorem Amb.room {fr:AFr} (amb:Amb A fs k fr.hnd):A.units+80<cLine:=by have:=amb.units;lia
noncomputable def T.cmp (o:CmpS) (f g:PE):PT:=λ fr σ K X=>f fr σ (λ a σ₁=>g fr σ₁ (λ b σ₂=>o a b (λ c=>K c σ₂)) X) X
theorem JT.cmp {op:CmpOp} {o:CmpS} (ho:CmpOk B op o) {l r:Expr} {pos} {f g:PE} (jl:JE B κ k l f) (jr:JE B κ k r g) (hm:behindInMarks op r=false):JT B κ k (.Compare l [op] [r] pos) (T.cmp o f g):=λ A fs env fr α σ K X s amb W F hf=>by
 refine wpAny_isTrue_Compare1 (jl.use amb W F hf (λ u s₁ α₁ σ₁ a S₁ W₁ r₁ h₁ F₁=>?_) λ z z p=>p) hm
 refine jr.use amb W₁ F₁ h₁ (λ v s₂ α₂ σ₂ b S₂ W₂ r₂ h₂ F₂=>?_) λ z z p=>p.seq S₁
 refine ho A fs α₂ σ₂ s₂ a b u v _ _ _ amb.room W₂ (Rel.step S₂.2 ExOk.nil _ _ r₁) r₂ h₂ λ c h' tk k' hc=>?_
 exact wpAny_truthy_bool (PostB.seq (S₁.trans S₂) (PostB.full W₂ k' hc))
noncomputable def E.cmp (o:CmpS) (f g:PE):PE:=λ fr σ K X=>f fr σ (λ a σ₁=>g fr σ₁ (λ b σ₂=>o a b (λ c=>K (.bool c) σ₂)) X) X
theorem JE.cmp {op:CmpOp} {o:CmpS} (ho:CmpOk B op o) {l r:Expr} {pos} {f g:PE} (jl:JE B κ k l f) (jr:JE B κ k r g) (hm:behindInMarks op r=false):JE B κ k (.Compare l [op] [r] pos) (E.cmp o f g):=λ A fs env fr α σ K X s amb W F hf=>by
 refine wpAny_Compare1 (jl.use amb W F hf (λ u s₁ α₁ σ₁ a S₁ W₁ r₁ h₁ F₁=>?_) λ z z p=>p) hm
 refine jr.use amb W₁ F₁ h₁ (λ v s₂ α₂ σ₂ b S₂ W₂ r₂ h₂ F₂=>?_) λ z z p=>p.seq S₁
 refine ho A fs α₂ σ₂ s₂ a b u v _ _ _ amb.room W₂ (Rel.step S₂.2 ExOk.nil _ _ r₁) r₂ h₂ λ c h' tk k' hc=>?_
 exact PostV.seq (S₁.trans S₂) (PostV.full W₂ k' (rel_bool c) hc)
end
end
section
noncomputable def pyClip (v:Option Int) (d n:Nat):Nat:=match v with
 | none=>d
 | some i=>(max 0 (min (if i<0 then i+n else i) n)).toNat
noncomputable def pySlice {β:Type} (l:List β) (lo hi:Option Int):List β:=(l.drop (pyClip lo 0 l.length)).take (pyClip hi l.length l.length - pyClip lo 0 l.length)
theorem clip_le (v:Option Int) (d n:Nat) (hd:d<=n):pyClip v d n<=n:=by
 unfold pyClip
 induction v with
 | none=>exact hd
 | some i=>dsimp only;split<;>lia
theorem pick_range {β:Type} (l:List β) (a:Nat):∀ k:Nat,a+k<=l.length->((List.range k).map λ j:Nat=>((a:Int)+1*(j:Int)).toNat).filterMap (l[·]?)=(l.drop a).take k
 | 0,_=>by simp
 | k+1,h=>by
  rw [List.range_succ,List.map_append,List.filterMap_append,pick_range l a k (by lia)]
  have e:((a:Int)+1*(k:Int)).toNat=a+k:=by lia
  have hl:a+k<l.length:=by lia
  simp only [List.map_cons,List.map_nil,List.filterMap_cons,List.filterMap_nil,e,List.getElem?_eq_getElem hl]
  have hd:k<(l.drop a).length:=by rw [List.length_drop];lia
  rw [List.take_succ_eq_append_getElem hd,List.getElem_drop]
theorem sliceRange_pick {β:Type} (l:List β) (A C:Nat) (hC:C<=l.length):(sliceRange (A:Int) (C:Int) 1).filterMap (l[·]?)=(l.drop A).take (C - A):=by
 unfold sliceRange
 simp only [show (1:Int)>0 from by decide,if_true]
 by_cases h:(A:Int)<C
 ·rw [if_pos h]
  have e:(((C:Int) - A+1 - 1)/1).toNat=C - A:=by simp
  rw [e]
  exact pick_range l A (C - A) (by lia)
 ·rw [if_neg h]
  have:C - A=0:=by lia
  rw [this]
  simp
theorem bounds_eq (lo hi:Option Int) (n:Nat):sliceBounds lo hi none n=((pyClip lo 0 n:Int),(pyClip hi n n:Int),1):=by
 unfold sliceBounds pyClip
 cases lo<;>rcases hi<;>simp<;>(try split)<;>(try split)<;>(try constructor)<;>lia
theorem slicePick_eq (items:Array Value) (lo hi:Option Int):slicePick items lo hi none=(pySlice items.toList lo hi).toArray:=by
 unfold slicePick pySlice
 rw [bounds_eq]
 have e:(λ i:Nat=>items[i]?)=λ i:Nat=>items.toList[i]?:=by funext i;simp
 show (List.filterMap (λ i:Nat=>items[i]?) _).toArray=_
 rw [e,Array.length_toList,sliceRange_pick _ _ _ (by rw [Array.length_toList];exact clip_le _ _ _ (Nat.le_refl _))]
theorem strIdx_eq (lo hi:Option Int) (n:Nat):Builtin.Str.strSliceIndices lo hi 1 n=sliceRange (pyClip lo 0 n:Int) (pyClip hi n n:Int) 1:=by
 unfold Builtin.Str.strSliceIndices pyClip
 cases lo<;>cases hi<;>simp<;>(try split)<;>(try split)<;>congr 1<;>lia
noncomputable def ofL (l:List Nat):Str:=⟨l.toArray⟩
theorem ofL_len (l:List Nat):(ofL l).length=l.length:=by simp [ofL,Str.length]
theorem ofL_toList (x:Str):ofL x.cps.toList=x:=by induction x;simp [ofL]
theorem pySlice_full {β:Type} (l:List β) (lo hi:Option Int) (h:(pySlice l lo hi).length=l.length):pySlice l lo hi=l:=by
 unfold pySlice at h ⊢
 have h1:=clip_le lo 0 l.length (Nat.zero_le _)
 have h2:=clip_le hi l.length l.length (Nat.le_refl _)
 generalize pyClip lo 0 l.length=a at*
 generalize pyClip hi l.length l.length=b at*
 rw [List.length_take,List.length_drop] at h
 by_cases hl:l.length=0
 ·have:l=[]:=List.length_eq_zero_iff.mp hl
  subst this;simp
 ·have ha:a=0:=by lia
  have hb:b=l.length:=by lia
  subst ha hb
  simp
section
variable {B:BC} {ex:List Addr} {α α' α₁ α₂:Lbl} {s s' s₁ s₂:Shared} {σ σ' σ₁ σ₂:St} {fs:List Env} {A:Around} {κ:Sc} {k:Nat}
set_option tactic.hygienic true in
theorem sliceMade_post {x:Str} {t:Tok} {l u:Option (Int×Tok)} {Q:Value->Shared->Prop} (hx:x.length<=sizeLine) (h:∀ t' tk,Q (.str (ofL (pySlice x.cps.toList (l.map (·.1)) (u.map (·.1)))) t') { s with toks:=tk }):
  (sliceMade x t l u none).post Q s:=by
 have e:(slicePicked x l u none).filterMap (x.cps[·]?)=pySlice x.cps.toList (l.map (·.1)) (u.map (·.1)):=by
  unfold slicePicked
  show List.filterMap _ (Builtin.Str.strSliceIndices (l.map (·.1)) (u.map (·.1)) 1 x.length)=_
  rw [strIdx_eq]
  have e2:(λ i:Nat=>x.cps[i]?)=λ i:Nat=>x.cps.toList[i]?:=by funext i;simp
  rw [e2,show x.length=x.cps.toList.length from by simp [Str.length],sliceRange_pick _ _ _ (clip_le _ _ _ (Nat.le_refl _))]
  rfl
 have el:(slicePicked x l u none).length=(pySlice x.cps.toList (l.map (·.1)) (u.map (·.1))).length:=by
  rw [<- e]
  unfold slicePicked
  show (Builtin.Str.strSliceIndices (l.map (·.1)) (u.map (·.1)) 1 x.length).length=(List.filterMap _ (Builtin.Str.strSliceIndices (l.map (·.1)) (u.map (·.1)) 1 x.length)).length
  rw [strIdx_eq]
  have hn:pyClip (u.map (·.1)) x.length x.length<=x.length:=clip_le _ _ _ (Nat.le_refl _)
  generalize pyClip (u.map (·.1)) x.length x.length=c at*
  generalize pyClip (l.map (·.1)) 0 x.length=a at*
  have e2:(λ i:Nat=>x.cps[i]?)=λ i:Nat=>x.cps.toList[i]?:=by funext i;simp
  rw [e2,sliceRange_pick _ _ _ (by simpa [Str.length] using hn),List.length_take,List.length_drop]
  unfold sliceRange
  simp only [show (1:Int)>0 from by decide,if_true,List.length_map,List.length_range]
  have hl:x.cps.toList.length=x.length:=by simp [Str.length]
  have q:x.length=x.cps.size:=rfl
  split<;>simp<;>lia
 unfold sliceMade
 split
 ·rename_i hc
  have hc2:(slicePicked x l u none).length=x.length:=by simpa using hc
  have:pySlice x.cps.toList (l.map (·.1)) (u.map (·.1))=x.cps.toList:=pySlice_full _ _ _ (by rw [<- el,hc2];simp [Str.length])
  have h':=h t s.toks
  rw [this,ofL_toList] at h'
  exact h'
 ·rw [e]
  have hz:(ofL (pySlice x.cps.toList (l.map (·.1)) (u.map (·.1)))).length<=sizeLine:=by
   rw [ofL_len]
   unfold pySlice
   rw [List.length_take,List.length_drop]
   have hl:x.cps.toList.length=x.length:=by simp [Str.length]
   lia
  exact ⟨hz,h _ _⟩
end
end
section
noncomputable abbrev PKL:=List AV->St->Prop
noncomputable abbrev PL:=AFr->St->PKL->PX->Prop
section
variable (B:BC)
inductive PostL (α:Lbl) (fs:List Env) (s:Shared) (n:Nat) (K:PKL) (vs:List Value) (s':Shared):Prop
 | mk (α':Lbl) (σ':St) (l:List AV) (z:SStep B [] α s α' s') (z:Wd B α' σ' fs s'.heap) (z:RelL B α' s'.heap l vs) (z:l.length=n) (z:K l σ')
noncomputable def JL (κ:Sc) (k:Nat) (es:List Expr) (f:PL):Prop:=
 ∀ (A:Around) (fs:List Env) (env:Env) (fr:AFr) (α:Lbl) (σ:St) (K:PKL) (X:PX) (s:Shared) (pos:Pos),
  Amb A fs k fr.hnd->Wd B α σ fs s.heap->FrOk B κ fr env α s.heap->f fr σ K X->
  wpAny (model B.prog B.w) A (spliced (backTo pos (starEach es env))) (PostL B α fs s es.length K) (PostX B [] α fs s X) s
end
section
variable {B:BC} {ex:List Addr} {α α' α₁ α₂:Lbl} {s s' s₁ s₂:Shared} {σ σ' σ₁ σ₂:St} {fs:List Env} {A:Around} {κ:Sc} {k:Nat}
noncomputable def L.nil:PL:=λ fr σ K X=>K [] σ
noncomputable def L.cons (f:PE) (g:PL):PL:=λ fr σ K X=>f fr σ (λ a σ₁=>g fr σ₁ (λ l σ₂=>K (a::l) σ₂) X) X
theorem JL.nil:JL B κ k [] L.nil:=λ A fs env fr α σ K X s pos amb W F hf=>
 wpAny_items_nil ⟨α,σ,[],SStep.refl B [] α s,W,RelL.nil,rfl,hf⟩
theorem JL.cons {e:Expr} {es:List Expr} {f:PE} {g:PL} (je:JE B κ k e f) (jl:JL B κ k es g) (he:∀ env,starEach (e::es) env=(false,eval e env)::starEach es env):JL B κ k (e::es) (L.cons f g):=λ A fs env fr α σ K X s pos amb W F hf=>by
 refine wpAny_items_cons (je.use amb W F hf (λ v s₁ α₁ σ₁ a S₁ W₁ r₁ h₁ F₁=>?_) λ z z p=>p) (he env)
 refine wpAny_mono (jl A fs env fr α₁ σ₁ _ X s₁ pos amb W₁ F₁ h₁) (λ vs s₂ ⟨α₂,σ₂,l,S₂,W₂,r₂,hn,hk⟩=>?_) λ z z p=>p.seq S₁
 exact ⟨α₂,σ₂,a::l,S₁.trans S₂,W₂,RelL.cons (Rel.step S₂.2 ExOk.nil _ _ r₁) r₂,by rw [List.length_cons,hn,List.length_cons],hk⟩
theorem JL.use {es:List Expr} {f:PL} (jl:JL B κ k es f) {env:Env} {fr:AFr} {K:PKL} {X:PX} {pos:Pos} {Q:List Value->Shared->Prop} {E:Value->Shared->Prop} (amb:Amb A fs k fr.hnd) (W:Wd B α σ fs s.heap) (F:FrOk B κ fr env α s.heap)
  (hf:f fr σ K X)
  (h:∀ vs s₁ α₁ σ₁ l,SStep B [] α s α₁ s₁->Wd B α₁ σ₁ fs s₁.heap->RelL B α₁ s₁.heap l vs->l.length=es.length->K l σ₁->FrOk B κ fr env α₁ s₁.heap->Q vs s₁)
  (hE:∀ x s₁,PostX B [] α fs s X x s₁->E x s₁):wpAny (model B.prog B.w) A (spliced (backTo pos (starEach es env))) Q E s:=
 wpAny_mono (jl A fs env fr α σ K X s pos amb W F hf) (λ vs s₁ ⟨α₁,σ₁,l,S,W₁,r,hn,hk⟩=>h vs s₁ α₁ σ₁ l S W₁ r hn hk (F.step S.2 W)) hE
noncomputable def E.tup (f:PL):PE:=λ fr σ K X=>f fr σ (λ l σ'=>K (.tup l) σ') X
noncomputable def E.lst (f:PL):PE:=λ fr σ K X=>f fr σ (λ l σ'=>K (.lst l) σ') X
theorem JE.tup {es:List Expr} {n pos} {f:PL} (jl:JL B κ k es f) (hn:es.length<=100):JE B κ k (.Tuple es n pos) (E.tup f):=λ A fs env fr α σ K X s amb W F hf=>by
 refine wpAny_Tuple (jl.use amb W F hf (λ vs s₁ α₁ σ₁ l S₁ W₁ r₁ hl h₁ F₁=>⟨by rw [r₁.length,hl,sizeLine_eq];lia,?_⟩) λ z z p=>p)
 exact PostV.seq S₁ (PostV.full (tk:=s₁.toks) W₁ (Full.push _ _) (rel_newTup W₁ r₁) h₁)
theorem JE.lst {es:List Expr} {pos} {f:PL} (jl:JL B κ k es f) (hn:es.length<=100):JE B κ k (.List es pos) (E.lst f):=λ A fs env fr α σ K X s amb W F hf=>by
 refine wpAny_List (jl.use amb W F hf (λ vs s₁ α₁ σ₁ l S₁ W₁ r₁ hl h₁ F₁=>⟨by rw [r₁.length,hl,sizeLine_eq];lia,?_⟩) λ z z p=>p)
 exact PostV.seq S₁ (PostV.full (tk:=s₁.toks) W₁ (Full.push _ _) (rel_newLst W₁ r₁) h₁)
theorem PostV.newList {K:PK} {l:List AV} {vs:List Value} (W:Wd B α σ fs s.heap) (r:RelL B α s.heap l vs) (hk:K (.loc σ.length) (σ++[.lst l])):
  PostV B ex α fs s K (.ref s.heap.objs.size) { s with heap:=s.heap.push { cls:=.type "list",data:=.seq vs.toArray } }:=by
 have hn:s.heap.get? s.heap.objs.size=none:=Heap.get?_none_of_le (Nat.le_refl _)
 have ht:(s.heap.push { cls:=.type "list",data:=.seq vs.toArray }).get? s.heap.objs.size=some { cls:=.type "list",data:=.seq vs.toArray }:=Heap.get?_push_size _ rfl
 have S:Step B ex α s.heap (α.push (Lb.obj s.heap.objs.size)) (s.heap.push { cls:=.type "list",data:=.seq vs.toArray }):=Step.newLab (Full.push _ _) rfl hn
 have S':Step B [] α s.heap (α.push (Lb.obj s.heap.objs.size)) (s.heap.push { cls:=.type "list",data:=.seq vs.toArray }):=Step.newLab (Full.push _ _) rfl hn
 refine ⟨α.push (.obj s.heap.objs.size),σ++[.lst l],.loc σ.length,⟨⟨_,s.toks,rfl⟩,S⟩,W.newLab (lb:=Lb.obj s.heap.objs.size) (ao:=AObj.lst l) (Full.push _ _) rfl hn (some_ne_none ht) ⟨vs,⟨0,ht⟩,r.step S' ExOk.nil⟩,?_,hk⟩
 refine ⟨_,rfl,.inl ?_⟩
 show (α.lab++[Lb.obj s.heap.objs.size])[σ.length]?=_
 rw [<- W.len,List.getElem?_append_right (Nat.le_refl _),Nat.sub_self]
 rfl
noncomputable def E.new (f:PL):PE:=λ fr σ K X=>f fr σ (λ l σ'=>K (.loc σ'.length) (σ'++[.lst l])) X
theorem JE.new {es:List Expr} {pos} {f:PL} (jl:JL B κ k es f) (hn:es.length<=100):JE B κ k (.List es pos) (E.new f):=λ A fs env fr α σ K X s amb W F hf=>by
 refine wpAny_List (jl.use amb W F hf (λ vs s₁ α₁ σ₁ l S₁ W₁ r₁ hl h₁ F₁=>⟨by rw [r₁.length,hl,sizeLine_eq];lia,?_⟩) λ z z p=>p)
 exact PostV.seq S₁ (PostV.newList W₁ r₁ h₁)
noncomputable def truthS:AV->(Bool->Prop)->Prop
 | .bool b,P=>P b
 | .int i,P=>P (i !=0)
 | .str x,P=>x.length<=sizeLine/\P (x.length !=0)
 | .lst l,P=>l.length<=sizeLine/\P (!l.isEmpty)
 | .none,P=>P false
 | _,_=>False
set_option tactic.hygienic true in
theorem truth_ok {a:AV} {v:Value} {P:Bool->Prop} {Q:Bool->Shared->Prop} {E:Value->Shared->Prop} (r:Rel B α s.heap a v) (h:truthS a P) (hQ:∀ c tk,P c->Q c { s with toks:=tk }):wpAny (model B.prog B.w) A (truthy v) Q E s:=by
 rcases a<;>try exact h.elim
 case none=>obtain rfl:v=.none:=r;exact PyProof.Rows.truthy_none (hQ _ s.toks h)
 case bool b=>obtain rfl:=rel_bool_inv r;exact wpAny_truthy_bool (hQ _ s.toks h)
 case int i=>obtain ⟨t,rfl⟩:=rel_int_inv r;exact PyProof.Rows.truthy_int (hQ _ s.toks h)
 case str x=>
  obtain ⟨t,rfl⟩:=rel_str_inv r
  have hs:=h.1
  rw [sizeLine_eq] at hs
  refine PySem.P.truthy_str (by lia) ?_
  have e:((x.length:Int)!=0)=(x.length !=0):=by
   rw [Bool.eq_iff_iff];simp
  rw [e]
  exact hQ _ _ h.2
 case lst l=>
  obtain ⟨a,vs,rfl,_,hx,hr⟩:=rel_lst_inv r
  have hs:=h.1
  rw [sizeLine_eq] at hs
  refine wpAny_truthy_list hx.isList (by simp [hr.length];lia) ?_
  have e:(!vs.toArray.isEmpty)=!l.isEmpty:=by
   have:=hr.length
   rcases l<;>rcases vs<;>simp at this ⊢
  rw [e]
  exact hQ _ _ h.2
noncomputable def T.val (f:PE):PT:=λ fr σ K X=>f fr σ (λ a σ'=>truthS a λ b=>K b σ') X
theorem JT.val {e:Expr} {f:PE} (je:JE B κ k e f) (he:∀ env whole,isTrue e env whole=(do let v <- whole;standAt e.pos;holding [v] (truthy v))):JT B κ k e (T.val f):=λ A fs env fr α σ K X s amb W F hf=>by
 refine wpAny_isTrue_value (je.use amb W F hf (λ v s₁ α₁ σ₁ a S₁ W₁ r₁ h₁ F₁=>?_) λ z z p=>p) (he env _)
 exact truth_ok r₁ h₁ λ c tk hc=>PostB.seq S₁ (PostB.toks W₁ hc)
noncomputable def T.not (t:PT):PT:=λ fr σ K X=>t fr σ (λ b σ'=>K (!b) σ') X
theorem JT.not {e:Expr} {pos} {t:PT} (jt:JT B κ k e t):JT B κ k (.UnaryOp .Not e pos) (T.not t):=λ A fs env fr α σ K X s amb W F hf=>
 wpAny_isTrue_Not (wpAny_mono (jt A fs env fr α σ _ X s amb W F hf) (λ b s₁ p=>by obtain ⟨α',σ',S,W,k⟩:=p;exact ⟨α',σ',S,W,k⟩) λ z z p=>p)
noncomputable def JA (B:BC) (κ:Sc) (k:Nat) (op:BoolOp) (es:List Expr) (t:PT):Prop:=
 ∀ (A:Around) (fs:List Env) (env:Env) (fr:AFr) (α:Lbl) (σ:St) (K:PB) (X:PX) (s:Shared),
  Amb A fs k fr.hnd->Wd B α σ fs s.heap->FrOk B κ fr env α s.heap->t fr σ K X->
  wpAny (model B.prog B.w) A (allTrue op es env) (PostB B α fs s K) (PostX B [] α fs s X) s
noncomputable def T.c (b:Bool):PT:=λ z σ K z=>K b σ
noncomputable def T.and (t u:PT):PT:=λ fr σ K X=>t fr σ (λ b σ'=>(b=true->u fr σ' K X)/\(b=false->K false σ')) X
noncomputable def T.or (t u:PT):PT:=λ fr σ K X=>t fr σ (λ b σ'=>(b=false->u fr σ' K X)/\(b=true->K true σ')) X
theorem JA.andNil:JA B κ k .And [] (T.c true):=λ A fs env fr α σ K X s amb W F hf=>wpAny_allTrue_And_nil (PostB.now W hf)
theorem JA.orNil:JA B κ k .Or [] (T.c false):=λ A fs env fr α σ K X s amb W F hf=>wpAny_allTrue_Or_nil (PostB.now W hf)
theorem JA.and {e:Expr} {es:List Expr} {t u:PT} (jt:JT B κ k e t) (ja:JA B κ k .And es u):JA B κ k .And (e::es) (T.and t u):=λ A fs env fr α σ K X s amb W F hf=>by
 refine wpAny_allTrue_And_cons (jt.use amb W F hf (λ b s₁ α₁ σ₁ S₁ W₁ h₁ F₁=>?_) λ z z p=>p)
 cases b with
 | true=>exact wpAny_mono (ja A fs env fr α₁ σ₁ K X s₁ amb W₁ F₁ (h₁.1 rfl)) (λ z z p=>p.seq S₁) λ z z p=>p.seq S₁
 | false=>exact PostB.seq S₁ (PostB.now W₁ (h₁.2 rfl))
theorem JA.or {e:Expr} {es:List Expr} {t u:PT} (jt:JT B κ k e t) (ja:JA B κ k .Or es u):JA B κ k .Or (e::es) (T.or t u):=λ A fs env fr α σ K X s amb W F hf=>by
 refine wpAny_allTrue_Or_cons (jt.use amb W F hf (λ b s₁ α₁ σ₁ S₁ W₁ h₁ F₁=>?_) λ z z p=>p)
 cases b with
 | false=>exact wpAny_mono (ja A fs env fr α₁ σ₁ K X s₁ amb W₁ F₁ (h₁.1 rfl)) (λ z z p=>p.seq S₁) λ z z p=>p.seq S₁
 | true=>exact PostB.seq S₁ (PostB.now W₁ (h₁.2 rfl))
theorem JT.bool {op:BoolOp} {es:List Expr} {pos} {t:PT} (ja:JA B κ k op es t):JT B κ k (.BoolOp op es pos) t:=λ A fs env fr α σ K X s amb W F hf=>
 wpAny_isTrue_BoolOp (ja A fs env fr α σ K X s amb W F hf)
noncomputable def E.ite (t:PT) (f g:PE):PE:=λ fr σ K X=>t fr σ (λ b σ'=>(b=true->f fr σ' K X)/\(b=false->g fr σ' K X)) X
theorem JE.ite {e x y:Expr} {pos} {t:PT} {f g:PE} (jt:JT B κ k e t) (jf:JE B κ k x f) (jg:JE B κ k y g):JE B κ k (.IfExp e x y pos) (E.ite t f g):=λ A fs env fr α σ K X s amb W F hf=>by
 refine wpAny_IfExp (jt.use amb W F hf (λ b s₁ α₁ σ₁ S₁ W₁ h₁ F₁=>?_) λ z z p=>p)
 induction b with
 | true=>exact wpAny_mono (jf A fs env fr α₁ σ₁ K X s₁ amb W₁ F₁ (h₁.1 rfl)) (λ z z p=>p.seq S₁) λ z z p=>p.seq S₁
 | false=>exact wpAny_mono (jg A fs env fr α₁ σ₁ K X s₁ amb W₁ F₁ (h₁.2 rfl)) (λ z z p=>p.seq S₁) λ z z p=>p.seq S₁
noncomputable def JO (B:BC) (κ:Sc) (k:Nat) (op:BoolOp) (es:List Expr) (f:PE):Prop:=
 ∀ (A:Around) (fs:List Env) (env:Env) (fr:AFr) (α:Lbl) (σ:St) (K:PK) (X:PX) (s:Shared) (pos:Pos),
  Amb A fs k fr.hnd->Wd B α σ fs s.heap->FrOk B κ fr env α s.heap->f fr σ K X->
  wpAny (model B.prog B.w) A (boolOp pos op (evalEach es env)) (PostV B [] α fs s K) (PostX B [] α fs s X) s
noncomputable def E.and (f g:PE):PE:=λ fr σ K X=>f fr σ (λ a σ'=>truthS a λ b=>(b=true->g fr σ' K X)/\(b=false->K a σ')) X
noncomputable def E.or (f g:PE):PE:=λ fr σ K X=>f fr σ (λ a σ'=>truthS a λ b=>(b=false->g fr σ' K X)/\(b=true->K a σ')) X
theorem JO.one {op:BoolOp} {e:Expr} {f:PE} (je:JE B κ k e f):JO B κ k op [e] f:=λ A fs env fr α σ K X s pos amb W F hf=>je A fs env fr α σ K X s amb W F hf
theorem JO.and {e x:Expr} {es:List Expr} {f g:PE} (je:JE B κ k e f) (jo:JO B κ k .And (x::es) g):JO B κ k .And (e::x::es) (E.and f g):=λ A fs env fr α σ K X s pos amb W F hf=>by
 show wpAny _ A (do let v <- eval e env;standAt pos;let t <- holding [v] (truthy v);match BoolOp.And,t with | .And,false | .Or,true=>pure v | _,_=>boolOp pos .And (evalEach (x::es) env)) _ _ s
 refine wpAny_bind (je.use amb W F hf (λ v s₁ α₁ σ₁ a S₁ W₁ r₁ h₁ F₁=>wpAny_bind (wpAny_standAt (wpAny_bind (wpAny_holding (truth_ok r₁ h₁ λ c tk hc=>?_))))) λ z z p=>p)
 have W₂:Wd B α₁ σ₁ fs ({ s₁ with toks:=tk }:Shared).heap:=W₁
 have S₂:SStep B [] α s α₁ { s₁ with toks:=tk }:=S₁.trans (SStep.full (Full.refl _))
 cases c with
 | true=>exact wpAny_mono (jo A fs env fr α₁ σ₁ K X _ pos amb W₂ F₁ (hc.1 rfl)) (λ z z p=>p.seq S₂) λ z z p=>p.seq S₂
 | false=>exact wpAny_pure (PostV.seq S₂ (PostV.now W₂ r₁ (hc.2 rfl)))
theorem JO.or {e x:Expr} {es:List Expr} {f g:PE} (je:JE B κ k e f) (jo:JO B κ k .Or (x::es) g):JO B κ k .Or (e::x::es) (E.or f g):=λ A fs env fr α σ K X s pos amb W F hf=>by
 show wpAny _ A (do let v <- eval e env;standAt pos;let t <- holding [v] (truthy v);match BoolOp.Or,t with | .And,false | .Or,true=>pure v | _,_=>boolOp pos .Or (evalEach (x::es) env)) _ _ s
 refine wpAny_bind (je.use amb W F hf (λ v s₁ α₁ σ₁ a S₁ W₁ r₁ h₁ F₁=>wpAny_bind (wpAny_standAt (wpAny_bind (wpAny_holding (truth_ok r₁ h₁ λ c tk hc=>?_))))) λ z z p=>p)
 have W₂:Wd B α₁ σ₁ fs ({ s₁ with toks:=tk }:Shared).heap:=W₁
 have S₂:SStep B [] α s α₁ { s₁ with toks:=tk }:=S₁.trans (SStep.full (Full.refl _))
 cases c with
 | false=>exact wpAny_mono (jo A fs env fr α₁ σ₁ K X _ pos amb W₂ F₁ (hc.1 rfl)) (λ z z p=>p.seq S₂) λ z z p=>p.seq S₂
 | true=>exact wpAny_pure (PostV.seq S₂ (PostV.now W₂ r₁ (hc.2 rfl)))
theorem JE.boolop {op:BoolOp} {es:List Expr} {pos} {f:PE} (jo:JO B κ k op es f):JE B κ k (.BoolOp op es pos) f:=λ A fs env fr α σ K X s amb W F hf=>jo A fs env fr α σ K X s pos amb W F hf
noncomputable def E.not (f:PE):PE:=λ fr σ K X=>f fr σ (λ a σ'=>truthS a λ b=>K (.bool (!b)) σ') X
theorem JE.not {e:Expr} {pos} {f:PE} (je:JE B κ k e f):JE B κ k (.UnaryOp .Not e pos) (E.not f):=λ A fs env fr α σ K X s amb W F hf=>by
 refine wpAny_UnaryOp (je.use amb W F hf (λ v s₁ α₁ σ₁ a S₁ W₁ r₁ h₁ F₁=>not_of (truth_ok r₁ h₁ λ c tk hc=>?_)) λ z z p=>p)
 exact PostV.seq S₁ (PostV.here W₁ (rel_bool _) hc)
noncomputable def E.neg (f:PE):PE:=λ fr σ K X=>f fr σ (λ a σ'=>∃ i,a=.int i/\K (.int (-i)) σ') X
theorem JE.neg {e:Expr} {pos} {f:PE} (je:JE B κ k e f):JE B κ k (.UnaryOp .USub e pos) (E.neg f):=λ A fs env fr α σ K X s amb W F hf=>by
 refine wpAny_UnaryOp (je.use amb W F hf (λ v s₁ α₁ σ₁ a S₁ W₁ r₁ h₁ F₁=>?_) λ z z p=>p)
 obtain ⟨i,rfl,hk⟩:=h₁
 obtain ⟨t,rfl⟩:=rel_int_inv r₁
 exact PyProof.Rows.neg_int (PostV.seq S₁ (PostV.here W₁ (rel_int _ _) hk))
noncomputable def E.inv (f:PE):PE:=λ fr σ K X=>f fr σ (λ a σ'=>∃ i,a=.int i/\K (.int (Builtin.bitNot i)) σ') X
theorem JE.inv {e:Expr} {pos} {f:PE} (je:JE B κ k e f):JE B κ k (.UnaryOp .Invert e pos) (E.inv f):=λ A fs env fr α σ K X s amb W F hf=>by
 refine wpAny_UnaryOp (je.use amb W F hf (λ v s₁ α₁ σ₁ a S₁ W₁ r₁ h₁ F₁=>?_) λ z z p=>p)
 obtain ⟨i,rfl,hk⟩:=h₁
 obtain ⟨t,rfl⟩:=rel_int_inv r₁
 exact PyProof.Rows.invert_int (PostV.seq S₁ (PostV.here W₁ (rel_int _ _) hk))
end
end
section
inductive Tg where
 | loc (i:Nat)
 | cel (j:Nat)
noncomputable def bindT (t:Tg) (v:AV) (fr:AFr) (σ:St):AFr×St:=match t with
 | .loc i=>({ fr with ρ:=fr.ρ.set i (some v) },σ)
 | .cel j=>match fr.χ[j]? with
  | some n=>(fr,σ.set n (.cel (some v)))
  | none=>(fr,σ)
noncomputable def bindA:List (Tg×AV)->AFr->St->AFr×St
 | [],fr,σ=>(fr,σ)
 | (t,v)::r,fr,σ=>bindA r (bindT t v fr σ).1 (bindT t v fr σ).2
noncomputable def TgOk (κ:Sc) (x:Str):Tg->Prop
 | .loc i=>κ.loc[i]?=some x/\κ.scope.names.lookup x=some .local
 | .cel j=>κ.cel[j]?=some x/\κ.scope.names.lookup x=some .cell
section
variable {B:BC} {ex:List Addr} {α α' α₁ α₂:Lbl} {s s' s₁ s₂:Shared} {σ σ' σ₁ σ₂:St} {fs:List Env} {A:Around} {κ:Sc} {k:Nat}
theorem bindT_hnd (t:Tg) (v:AV) (fr:AFr) (σ:St):(bindT t v fr σ).1.hnd=fr.hnd/\(bindT t v fr σ).1.χ=fr.χ:=by
 unfold bindT
 cases t with
 | loc i=>exact ⟨rfl,rfl⟩
 | cel j=>dsimp only;split<;>exact ⟨rfl,rfl⟩
theorem bindA_nil {fr:AFr} {σ:St}:bindA [] fr σ=(fr,σ):=rfl
theorem bindA_hnd:∀ (l:List (Tg×AV)) (fr:AFr) (σ:St),(bindA l fr σ).1.hnd=fr.hnd/\(bindA l fr σ).1.χ=fr.χ
 | [],fr,σ=>⟨rfl,rfl⟩
 | (t,v)::r,fr,σ=>by
  have h1:=bindA_hnd r (bindT t v fr σ).1 (bindT t v fr σ).2
  have h2:=bindT_hnd t v fr σ
  exact ⟨h1.1.trans h2.1,h1.2.trans h2.2⟩
theorem store_ok {x:Str} {t:Tg} {env:Env} {fr:AFr} {av:AV} {v:Value} (ht:TgOk κ x t) (W:Wd B α σ fs s.heap) (F:FrOk B κ fr env α s.heap) (r:Rel B α s.heap av v) {Q:Unit->Shared->Prop} {E:Value->Shared->Prop}
  (h:∀ h' tk,Step B [env.locals] α s.heap α h'->Wd B α (bindT t av fr σ).2 fs h'->FrOk B κ (bindT t av fr σ).1 env α h'->Q () { s with heap:=h',toks:=tk }):
  wpAny (model B.prog B.w) A (storeName env x v) Q E s:=by
 have hkd:env.scope.kind=.function:=by rw [F.scope];exact F.kind
 induction t with
 | loc i=>
  obtain ⟨hi,hl⟩:=ht
  obtain ⟨m,hn,hm⟩:=F.locs
  refine wpAny_storeName_local (by unfold Env.kindOf;rw [F.scope];exact hl) hn (λ h' hn' hs=>?_) (by rw [hkd];rfl)
  have hd:h'.get? env.locals≠none:=by obtain ⟨o,_,_,e,_⟩:=hn';exact some_ne_none e
  have S:Step B [env.locals] α s.heap α h':=Step.updHid List.mem_cons_self hs.extBut hd
  refine h h' _ S (W.updHid F.here hs.extBut hd λ env' z z=>by obtain ⟨o,es,ep,e,hd',_⟩:=hn';exact ⟨o,es,ep,e,hd'⟩) ?_
  refine ⟨F.scope,F.kind,F.nodup,F.globals,F.builtins,⟨_,hn',λ i' y w e1 e2=>?_⟩,F.here,F.cells,λ a e=>?_,F.made⟩
  rotate_left
  ·have x:=F.handled a (by rw [<- e,(bindT_hnd _ _ _ _).1])
   exact ⟨x.1.step S W (by simp [x.2]) (ExOk.one F.here),x.2⟩
  dsimp only [bindT] at e2
  by_cases hii:i'=i
  ·subst hii
   rw [hi] at e1;obtain rfl:=Option.some.inj e1
   have hlt:i'<fr.ρ.length:=by
    rcases Nat.lt_or_ge i' fr.ρ.length with q | q
    ·exact q
    ·rw [List.getElem?_eq_none (by rw [List.length_set];exact q)] at e2;injection e2
   rw [List.getElem?_set_self hlt] at e2
   cases e2
   exact ⟨v,by simp,Rel.step S (ExOk.one F.here) _ _ r⟩
  ·rw [List.getElem?_set_ne (Ne.symm hii)] at e2
   obtain ⟨u,q1,q2⟩:=hm i' y w e1 e2
   have hyx:y≠x:=by
    rintro rfl
    have l1:=(List.getElem?_eq_some_iff.mp e1).1
    exact hii ((List.getElem?_inj l1 F.nodup).mp (e1.trans hi.symm))
   exact ⟨u,by rw [if_neg hyx];exact q1,Rel.step S (ExOk.one F.here) _ _ q2⟩
 | cel j=>
  obtain ⟨hj,hl⟩:=ht
  obtain ⟨ad,n,e1,e2,e3⟩:=F.cells j x hj
  have hnl:n<σ.length:=W.len▸(List.getElem?_eq_some_iff.mp e3).1
  have hc:∃ v₀,s.heap.IsCell ad v₀:=by
   have hr:=W.objs n _ _ (List.getElem?_eq_getElem hnl) e3
   cases q:σ[n] with
   | cel c=>rw [q] at hr;obtain ⟨o,w,ho,hd,_⟩:=hr;exact ⟨w,o,ho,hd⟩
   | _=>rw [q] at hr;exact hr.elim
  obtain ⟨v₀,hc⟩:=hc
  refine wpAny_storeName_cell hkd (by unfold Env.kindOf;rw [F.scope];exact hl) e1 hc λ h' hc' hs=>?_
  obtain ⟨o',ho',hd'⟩:=hc'
  have S:Step B [] α s.heap α h':=Step.updLab (.inl e3) hs.extBut (some_ne_none ho')
  have hb:bindT (.cel j) av fr σ=(fr,σ.set n (.cel (some av))):=by unfold bindT;dsimp only;rw [e2]
  have:=h h' s.toks (S.widen λ z q=>nomatch q)
  rw [hb] at this
  exact this (W.updLab e3 (.inl rfl) hs.extBut (some_ne_none ho') ⟨o',some v,ho',hd',Rel.step S ExOk.nil _ _ r⟩) (F.step S W)
noncomputable abbrev PN:=List (Option AV)->St->Prop
noncomputable abbrev PS:=AFr->St->PN->PK->PN->PX->Prop
noncomputable def FsOk (env:Env) (fs:List Env) (α:Lbl):Prop:=∃ outer,fs=env::outer/\env.frame=some env.locals/\Frm α env.locals
noncomputable def FlowOk (B:BC) (κ:Sc) (fr:AFr) (env:Env) (N:PN) (R:PK) (Bk:PN) (h':Heap) (α':Lbl) (σ':St) (f:Flow):Prop:=match f with
 | .next=>∃ ρ',FrOk B κ { fr with ρ:=ρ' } env α' h'/\N ρ' σ'
 | .brk=>∃ ρ',FrOk B κ { fr with ρ:=ρ' } env α' h'/\Bk ρ' σ'
 | .ret v=>∃ av,Rel B α' h' av v/\R av σ'
 | .cont=>False
inductive PostF (B:BC) (κ:Sc) (fr:AFr) (env:Env) (α:Lbl) (fs:List Env) (s:Shared) (N:PN) (R:PK) (Bk:PN) (f:Flow) (s':Shared):Prop
 | mk (α':Lbl) (σ':St) (z:SStep B [env.locals] α s α' s') (z:Wd B α' σ' fs s'.heap) (z:FlowOk B κ fr env N R Bk s'.heap α' σ' f)
noncomputable def J1 (B:BC) (κ:Sc) (k:Nat) (st:Stmt) (p:PS):Prop:=
 ∀ (A:Around) (fs:List Env) (env:Env) (fr:AFr) (α:Lbl) (σ:St) (N:PN) (R:PK) (Bk:PN) (X:PX) (s:Shared),
  Amb A fs k fr.hnd->Wd B α σ fs s.heap->FrOk B κ fr env α s.heap->FsOk env fs α->p fr σ N R Bk X->
  wpAny (model B.prog B.w) A (exec st env) (PostF B κ fr env α fs s N R Bk) (PostX B [env.locals] α fs s X) s
noncomputable def JS (B:BC) (κ:Sc) (k:Nat) (sts:List Stmt) (p:PS):Prop:=
 ∀ (A:Around) (fs:List Env) (env:Env) (fr:AFr) (α:Lbl) (σ:St) (N:PN) (R:PK) (Bk:PN) (X:PX) (s:Shared),
  Amb A fs k fr.hnd->Wd B α σ fs s.heap->FrOk B κ fr env α s.heap->FsOk env fs α->p fr σ N R Bk X->
  wpAny (model B.prog B.w) A (execs sts env) (PostF B κ fr env α fs s N R Bk) (PostX B [env.locals] α fs s X) s
theorem FsOk.step {env:Env} {h h':Heap} (S:Step B ex α h α' h') (x:FsOk env fs α):FsOk env fs α':=let ⟨o,a,b,c⟩:=x;⟨o,a,b,S.frm c⟩
theorem PostF.seq {fr:AFr} {env:Env} {N:PN} {R:PK} {Bk:PN} {f:Flow} {ρ:List (Option AV)} (S:SStep B [env.locals] α s α₁ s₁) (p:PostF B κ { fr with ρ:=ρ } env α₁ fs s₁ N R Bk f s'):PostF B κ fr env α fs s N R Bk f s':=by
 obtain ⟨α',σ',S',W',r⟩:=p
 refine ⟨α',σ',S.trans S',W',?_⟩
 rcases f<;>exact r
theorem PostF.seq' {fr:AFr} {env:Env} {N:PN} {R:PK} {Bk:PN} {f:Flow} (S:SStep B [env.locals] α s α₁ s₁) (p:PostF B κ fr env α₁ fs s₁ N R Bk f s'):PostF B κ fr env α fs s N R Bk f s':=PostF.seq (ρ:=fr.ρ) S p
theorem SStep.wide {env:Env} (S:SStep B [] α s α' s'):SStep B [env.locals] α s α' s':=S.widen λ z q=>nomatch q
theorem PostX.wide {env:Env} {X:PX} {x:Value} (p:PostX B [] α fs s X x s'):PostX B [env.locals] α fs s X x s':=PostX.widen (ex:=[]) (λ z q=>absurd q List.not_mem_nil) p
noncomputable def S.nil:PS:=λ fr σ N R Bk X=>N fr.ρ σ
noncomputable def S.cons (p q:PS):PS:=λ fr σ N R Bk X=>p fr σ (λ ρ' σ'=>q { fr with ρ:=ρ' } σ' N R Bk X) R Bk X
theorem JS.nil:JS B κ k [] S.nil:=λ A fs env fr α σ N R Bk X s amb W F G hf=>
 wpAny_execs_nil ⟨α,σ,SStep.refl B _ α s,W,fr.ρ,F,hf⟩
theorem JS.cons {st:Stmt} {sts:List Stmt} {p q:PS} (j:J1 B κ k st p) (js:JS B κ k sts q):JS B κ k (st::sts) (S.cons p q):=λ A fs env fr α σ N R Bk X s amb W F G hf=>by
 refine wpAny_execs_cons (wpAny_mono (j A fs env fr α σ _ R Bk X s amb W F G hf) (λ f s₁ p=>?_) λ z z p=>p)
 obtain ⟨α₁,σ₁,S₁,W₁,r⟩:=p
 induction f with
 | next=>
  obtain ⟨ρ',F',hn⟩:=r
  exact wpAny_mono (js A fs env { fr with ρ:=ρ' } α₁ σ₁ N R Bk X s₁ amb W₁ F' (G.step S₁.2) hn) (λ f s₂ p=>PostF.seq S₁ p) λ z z p=>p.seq S₁
 | brk=>exact ⟨α₁,σ₁,S₁,W₁,r⟩
 | ret v=>exact ⟨α₁,σ₁,S₁,W₁,r⟩
 | cont=>exact r.elim
noncomputable def S.set (t:Tg) (f:PE):PS:=λ fr σ N R Bk X=>f fr σ (λ a σ'=>N (bindT t a fr σ').1.ρ (bindT t a fr σ').2) X
theorem fr_of_bindT (t:Tg) (a:AV) (fr:AFr) (σ:St):(bindT t a fr σ).1={ fr with ρ:=(bindT t a fr σ).1.ρ }:=by
 have:=bindT_hnd t a fr σ
 rcases h:(bindT t a fr σ).1 with ⟨r,c,d⟩
 rw [h] at this
 obtain ⟨rfl,rfl⟩:=this
 rfl
noncomputable def S.ret (f:PE):PS:=λ fr σ N R Bk X=>f fr σ R X
theorem J1.ret {e:Expr} {pos} {f:PE} (je:JE B κ k e f):J1 B κ k (.Return (some e) pos) (S.ret f):=λ A fs env fr α σ N R Bk X s amb W F G hf=>
 wpAny_Return_some (je.use amb W F hf (λ v s₁ α₁ σ₁ a S₁ W₁ r₁ h₁ F₁=>⟨α₁,σ₁,S₁.wide,W₁,a,r₁,h₁⟩) λ z z p=>p.wide)
noncomputable def S.ret0:PS:=λ fr σ N R Bk X=>R .none σ
theorem J1.ret0 {pos}:J1 B κ k (.Return none pos) S.ret0:=λ A fs env fr α σ N R Bk X s amb W F G hf=>
 wpAny_Return_none ⟨α,σ,SStep.refl B _ α s,W,.none,rel_none,hf⟩
noncomputable def S.ite (t:PT) (p q:PS):PS:=λ fr σ N R Bk X=>t fr σ (λ b σ'=>(b=true->p fr σ' N R Bk X)/\(b=false->q fr σ' N R Bk X)) X
theorem J1.ite {e:Expr} {b c:List Stmt} {pos} {t:PT} {p q:PS} (jt:JT B κ k e t) (jb:JS B κ k b p) (jc:JS B κ k c q):J1 B κ k (.If e b c pos) (S.ite t p q):=λ A fs env fr α σ N R Bk X s amb W F G hf=>by
 refine wpAny_If (jt.use amb W F hf (λ b s₁ α₁ σ₁ S₁ W₁ h₁ F₁=>?_) λ z z p=>p.wide)
 induction b with
 | true=>exact wpAny_mono (jb A fs env fr α₁ σ₁ N R Bk X s₁ amb W₁ F₁ (G.step S₁.2) (h₁.1 rfl)) (λ z z p=>PostF.seq' S₁.wide p) λ z z p=>p.seq S₁.wide
 | false=>exact wpAny_mono (jc A fs env fr α₁ σ₁ N R Bk X s₁ amb W₁ F₁ (G.step S₁.2) (h₁.2 rfl)) (λ z z p=>PostF.seq' S₁.wide p) λ z z p=>p.seq S₁.wide
noncomputable def S.brk:PS:=λ fr σ N R Bk X=>Bk fr.ρ σ
theorem J1.brk {pos}:J1 B κ k (.Break pos) S.brk:=λ A fs env fr α σ N R Bk X s amb W F G hf=>
 wpAny_Break ⟨α,σ,SStep.refl B _ α s,W,fr.ρ,F,hf⟩
noncomputable def S.expr (f:PE):PS:=λ fr σ N R Bk X=>f fr σ (λ z σ'=>N fr.ρ σ') X
theorem J1.expr {e:Expr} {pos:Pos} {f:PE} (je:JE B κ k e f) (hs:∀ env,swapsWith e none pos.line env=pure false):J1 B κ k (.Expr e pos) (S.expr f):=λ A fs env fr α σ N R Bk X s amb W F G hf=>
 wpAny_Expr_any (je.use amb W F hf (λ v s₁ α₁ σ₁ a S₁ W₁ r₁ h₁ F₁=>⟨α₁,σ₁,S₁.wide,W₁,fr.ρ,F₁,h₁⟩) λ z z p=>p.wide)
  (by unfold interactive;rw [F.scope,F.kind];rfl) (hs env)
noncomputable def S.assert (t:PT):PS:=λ fr σ N R Bk X=>t fr σ (λ b σ'=>b=true/\N fr.ρ σ') X
theorem J1.assert {e:Expr} {m:Option Expr} {pos} {t:PT} (jt:JT B κ k e t):J1 B κ k (.Assert e m pos) (S.assert t):=λ A fs env fr α σ N R Bk X s amb W F G hf=>by
 refine wpAny_Assert_holds (jt.use amb W F hf (λ b s₁ α₁ σ₁ S₁ W₁ h₁ F₁=>?_) λ z z p=>p.wide)
 obtain ⟨rfl,hn⟩:=h₁
 exact ⟨rfl,α₁,σ₁,S₁.wide,W₁,fr.ρ,F₁,hn⟩
end
end
section
section
variable {B:BC} {ex:List Addr} {α α' α₁ α₂:Lbl} {s s' s₁ s₂:Shared} {σ σ' σ₁ σ₂:St} {fs:List Env} {A:Around} {κ:Sc} {k:Nat} {h₀ h h' h₁:Heap} {e:Addr} {c:String}
theorem exo_live {a:Addr} {lb:Lb} {n:Nat} (e2:α.lab[n]?=some lb) (hb:lb=.cell a\/lb=.obj a):Liv α a:=.inl ⟨n,by rw [adr_of_get e2];rcases hb with hb | hb<;>rw [hb]<;>rfl⟩
theorem Step.updExo {a:Addr} {o:Obj} (ho:h.get? a=some o) (hx:exo o=true) (hb:B.base.get? a=none) (hf:Frz B α a) (k:Heap.ExtBut a h h') (ht:h'.get? a≠none):Step B ex α h α h' where
 keep:=λ b o' hl z z q e=>by
  have hba:b≠a:=by
   rintro rfl
   rw [ho] at e;(injection e with e;subst e)
   rcases q with q | q | q
   ·rw [hx] at q;injection q
   ·exact q hb
   ·exact hf.1 q.liv
  exact ⟨o'.slots,k b o' hba e,λ z=>rfl⟩
 dom:=λ b q=>by
  by_cases hba:b=a
  ·subst hba;exact ht
  ·cases r:h.get? b with
   | none=>exact absurd r q
   | some o=>exact some_ne_none (k b o hba r)
 ext:=Nat.le_refl _
 old:=λ z z=>.inl rfl
 new:=λ n a hn e=>absurd (adr_lt e) (Nat.not_lt.mpr hn)
 hidOld:=λ z e=>e
 hidNew:=λ z e=>.inl e
theorem Wd.updExo {a:Addr} {o:Obj} (W:Wd B α σ fs h) (ho:h.get? a=some o) (hx:exo o=true) (hb:B.base.get? a=none) (hf:Frz B α a) (k:Heap.ExtBut a h h') (ht:h'.get? a≠none):Wd B α σ fs h':=by
 have S:Step B [] α h α h':=Step.updExo ho hx hb hf k ht
 refine ⟨W.staysIn S ExOk.nil,W.len,λ m ao' lb' e1 e2=>ORel.stay S ExOk.nil (λ b o' hb' q=>k b o' (λ z=>hf.1 (z▸exo_live e2 hb')) q) (W.objs m ao' lb' e1 e2),W.inj,W.alone,W.apart,λ b q=>S.dom b (W.there b q),λ q hq=>?_,W.frames.step S (λ u u u u q=>nomatch q) W.hidTab W.alone⟩
 exact (W.tabs q hq).mov (S.mov ExOk.nil) λ o x=>k _ o (λ z=>hf.2 ⟨q,hq,z⟩) x
theorem Step.slots {S:List Addr} (x:Heap.SlotsOnly S h h') (hS:∀ a∈S,Frm α a):Step B ex α h α h' where
 keep:=λ b o hl z z z e=>by
  by_cases hb:b∈S
  ·obtain ⟨sl,e'⟩:=x.2.2 b o e
   exact ⟨sl,e',λ q=>absurd (hS b hb) q⟩
  ·exact ⟨o.slots,(x.2.1 b hb).trans e,λ z=>rfl⟩
 dom:=λ b q=>by
  cases r:h.get? b with
  | none=>exact absurd r q
  | some o=>obtain ⟨sl,e'⟩:=x.2.2 b o r;exact some_ne_none e'
 ext:=Nat.le_refl _
 old:=λ z z=>.inl rfl
 new:=λ n a hn e=>absurd (adr_lt e) (Nat.not_lt.mpr hn)
 hidOld:=λ z e=>e
 hidNew:=λ z e=>.inl e
theorem Wd.slots {S:List Addr} (W:Wd B α σ fs h) (x:Heap.SlotsOnly S h h') (hS:∀ a∈S,Frm α a):Wd B α σ fs h':=by
 have T:Step B [] α h α h':=Step.slots x hS
 have hne:∀ (b:Addr) (n:Nat),(α.lab[n]?=some (.cell b)\/α.lab[n]?=some (.obj b))->b∉S:=λ b n hb hm=>W.alone b (hS b hm).hid ⟨n,by rcases hb with e | e<;>rw [adr_of_get e]<;>rfl⟩
 refine ⟨W.staysIn T ExOk.nil,W.len,λ m ao' lb' e1 e2=>ORel.stay T ExOk.nil (λ b o' hb' q=>(x.2.1 b (hne b m (hb'.imp (λ z=>by rw [<- z];exact e2) (λ z=>by rw [<- z];exact e2)))).trans q) (W.objs m ao' lb' e1 e2),W.inj,W.alone,W.apart,λ b q=>T.dom b (W.there b q),λ q hq=>?_,W.frames.step T (λ u u u u q=>nomatch q) W.hidTab W.alone⟩
 exact (W.tabs q hq).mov (T.mov ExOk.nil) λ o y=>(x.2.1 _ λ hm=>W.hidTab _ (hS _ hm).hid ⟨q,hq,rfl⟩).trans y
theorem FramesOk.fun (W:Wd B α σ fs h):h.FunFrames B.base fs:=by
 have key:∀ l:List Env,(∀ env∈l,env∈fs)->h.FunFrames B.base l:=by
  intro l
  induction l with
  | nil=>intro _;trivial
  | cons env r ih=>
   intro hm
   obtain ⟨hk,L,o,es,n,hf,hF,ho,hd⟩:=W.frames env (hm env (.head _))
   exact ⟨hk,⟨L,o,hf,(W.apart L hF.hid.liv).1,ho,λ vs q=>by rw [hd] at q;injection q⟩,ih λ e he=>hm e (.tail _ he)⟩
 exact key fs λ z he=>he
theorem frames_frm (W:Wd B α σ fs h):∀ a∈fs.filterMap (·.frame),Frm α a:=λ a ha=>by
 obtain ⟨env,he,hf⟩:=List.mem_filterMap.mp ha
 obtain ⟨_,L,_,_,_,hL,hF,_⟩:=W.frames env he
 rw [hf] at hL;obtain rfl:=Option.some.inj hL
 exact hF
theorem exo_exc {o:Obj} {vs:Array Value} (hc:o.cls=.type c) (hcc:c="StopIteration"\/c="ZeroDivisionError") (hd:o.data=.fields vs) (h1:vs[1]?=some .none\/∃ T,vs[1]?=some (.ref T)):exo o=true:=by
 unfold exo
 rw [hd,hc]
 rcases h1 with h1 | ⟨T,h1⟩<;>rcases hcc with rfl | rfl<;>simp [h1]
theorem exo_tb {o:Obj} {ts:Array Value} {y:Addr} (hc:o.cls=.type "traceback") (hd:o.data=.fields ts) (h1:ts[1]?=some (.ref y)):exo o=true:=by
 unfold exo
 rw [hd,hc]
 simp [h1]
theorem isTup_step (S:Step B [] α h α' h') {t:Addr} (hf:Frz B α t) (x:IsTup h t #[]):IsTup h' t #[]:=by
 obtain ⟨o,ho,hc,n,hd⟩:=x
 exact ⟨o,S.keepF hf (λ q=>nomatch q) ho (by unfold exo;rw [hd]),hc,n,hd⟩
theorem setFlight_ok {fl:Option Addr} {Q:Unit->Shared->Prop} {E:Value->Shared->Prop} (W:Wd B α σ fs s.heap) (x:XRel B h₀ α s.heap e c)
  (h:∀ h',Step B [] α s.heap α h'->Wd B α σ fs h'->XRel B h₀ α h' e c->Q () { s with heap:=h' }):wpAny (model B.prog B.w) A (setFlight (.ref e) fl) Q E s:=by
 obtain ⟨a,b,b',hcc,oe,vs,h1,h2,h3,h4,⟨t,t1,t2,t3,t4⟩,h5⟩:=id x
 unfold setFlight
 rcases h5 with h5 | ⟨T,oT,ts,y,z,q1,q2,q3,q4,q5,q6,q7,q8,q9,q10,q11⟩
 ·refine wpAny_bind (wpAny_field h1 h3 h5 ?_)
  rw [if_neg (by decide)]
  exact wpAny_pure (h s.heap (Step.refl _ _ _ _) W x)
 ·refine wpAny_bind (wpAny_field h1 h3 q1 ?_)
  rw [if_pos (show (Value.ref T !=Value.none)=true from by simp)]
  refine wpAny_setField q6 q8 (Array.getElem?_eq_some_iff.mp q10).1 ?_
  have hd:=Obj.data_mapFields q8 (·.setIfInBounds 3 (fl.elim Value.none λ f=>rawInt f))
  have hT:=Heap.get?_update_self (Obj.mapFields (·.setIfInBounds 3 (fl.elim Value.none λ f=>rawInt f))) q6 (Obj.isFreed_of_fields hd)
  have k:Heap.ExtBut T s.heap (s.heap.update T (Obj.mapFields (·.setIfInBounds 3 (fl.elim Value.none λ f=>rawInt f)))):=(Heap.SameBut.update ..).extBut
  have S:Step B [] α s.heap α _:=Step.updExo q6 (exo_tb q7 q8 q9) q3 q4 k (some_ne_none hT)
  refine h _ S (W.updExo q6 (exo_tb q7 q8 q9) q3 q4 k (some_ne_none hT)) ⟨a,b,b',hcc,oe,vs,k e oe (Ne.symm q5) h1,h2,h3,h4,⟨t,t1,isTup_step S t3 t2,t3,t4⟩,.inr ⟨T,_,_,(fl.elim Value.none λ f=>rawInt f),z,q1,q2,q3,q4,q5,hT,(Obj.cls_mapFields _ _).trans q7,hd,?_,?_,?_⟩⟩
  ·rw [Array.getElem?_setIfInBounds_ne (by decide)];exact q9
  ·rw [Array.getElem?_setIfInBounds_self_of_lt (Array.getElem?_eq_some_iff.mp q10).1]
  ·induction fl with
   | none=>exact .inl rfl
   | some f=>exact .inr ⟨_,rfl⟩
noncomputable def Noted (h:Heap) (e:Addr):Prop:=∃ oe vs T,h.get? e=some oe/\oe.data=.fields vs/\vs[1]?=some (.ref T)
theorem newEntry_ok {env:Env} {outer:List Env} {L:Addr} {hadNext:Bool} {head:Value} {Q:Unit->Shared->Prop} {E:Value->Shared->Prop} (hA:A.frames=some fs) (hfs:fs=env::outer) (hL:env.frame=some L) (W:Wd B α σ fs s.heap) (x:XRel B h₀ α s.heap e c) (d₀:∀ b,h₀.get? b≠none->s.heap.get? b≠none)
  (h:∀ h',Step B [] α s.heap α h'->Wd B α σ fs h'->XRel B h₀ α h' e c->Noted h' e->Q () { s with heap:=h' }):
  wpAny (model B.prog B.w) A (do let a <- frameOf env;let pl <- entryPlaceOf L hadNext;let b <- EntryCells.newEntry head a .none (rawInt L) .none pl;setField (.ref e) 1 b) Q E s:=by
 obtain ⟨a,b,b',hcc,oe,vs,h1,h2,h3,h4,⟨t,t1,t2,t3,t4⟩,h5⟩:=x
 refine wpAny_bind (wpAny_frameOf_fun (hfs▸hA) (hfs▸FramesOk.fun W) hL λ h₁ hs₁=>?_)
 have hfrm:∀ a∈(env::outer).filterMap (·.frame),Frm α a:=hfs▸frames_frm W
 have S₁:Step B [] α s.heap α h₁:=Step.slots hs₁ hfrm
 have W₁:Wd B α σ fs h₁:=W.slots hs₁ hfrm
 refine wpAny_bind (wpAny_entryPlaceOf λ pl hpl=>?_)
 unfold EntryCells.newEntry newFields
 refine wpAny_bind (wpAny_newObj_type ?_ (hpl.sizeOk5 _ _ _ _ _))
 have ne:∀ a,Frz B α a->a∉(env::outer).filterMap (·.frame):=λ a hf hm=>hf.1 (hfrm a hm).hid.liv
 have he₁:h₁.get? e=some oe:=(hs₁.2.1 e (ne e b')).trans h1
 generalize hO:({ cls:=.type "traceback",dict:=none,data:=.fields ([head,.ref L,.none,rawInt L,.none]++(if pl.isEmpty then List.replicate 6 Value.none else pl)).toArray }:Obj)=oT
 have S₂:Step B [] α h₁ α (h₁.push oT):=Step.full (Full.push _ _)
 have W₂:Wd B α σ fs (h₁.push oT):=W₁.full (Full.push _ _)
 have he₂:=Heap.get?_push_of_some oT he₁
 refine wpAny_setField he₂ h3 (by have:=h4.1;lia) ?_
 have hTe:h₁.objs.size≠e:=Nat.ne_of_gt (Heap.lt_size he₁)
 have hd₃:=Obj.data_mapFields h3 (·.setIfInBounds 1 (Value.ref h₁.objs.size))
 have he₃:=Heap.get?_update_self (Obj.mapFields (·.setIfInBounds 1 (Value.ref h₁.objs.size))) he₂ (Obj.isFreed_of_fields hd₃)
 have k:Heap.ExtBut e (h₁.push oT) ((h₁.push oT).update e (Obj.mapFields (·.setIfInBounds 1 (Value.ref h₁.objs.size)))):=(Heap.SameBut.update ..).extBut
 have hxe:exo oe=true:=exo_exc h2 hcc h3 (h5.imp id λ x=>by obtain ⟨T,_,_,_,_,q⟩:=x;exact ⟨T,q⟩)
 have S₃:Step B [] α (h₁.push oT) α _:=Step.updExo he₂ hxe b b' k (some_ne_none he₃)
 have W₃:=W₂.updExo he₂ hxe b b' k (some_ne_none he₃)
 have hT₂:(h₁.push oT).get? h₁.objs.size=some oT:=Heap.get?_push_size _ (by rw [<- hO];rfl)
 have hT₃:=k _ _ hTe hT₂
 have hn1:h₁.get? h₁.objs.size=none:=Heap.get?_none_of_le (Nat.le_refl _)
 have hn0:h₀.get? h₁.objs.size=none:=none_of_dom (λ b q=>S₁.dom b (d₀ b q)) hn1
 have S:=(S₁.trans S₂).trans S₃
 have h1v:(vs.setIfInBounds 1 (Value.ref h₁.objs.size))[1]?=some (.ref h₁.objs.size):=by
  rw [Array.getElem?_setIfInBounds_self_of_lt (by have:=h4.1;lia)]
 refine h _ S W₃ ⟨a,b,b',hcc,_,_,he₃,(Obj.cls_mapFields _ _).trans h2,hd₃,⟨by rw [Array.size_setIfInBounds];exact h4.1,by rw [Array.getElem?_setIfInBounds_ne (by decide)];exact h4.2⟩,⟨t,?_,isTup_step S t3 t2,t3,t4⟩,.inr ⟨h₁.objs.size,oT,_,rawInt L,L,h1v,hn0,(W₁.fresh hn1).1,⟨W₁.notLive hn1,(W₁.fresh hn1).2⟩,hTe,hT₃,by rw [<- hO],by rw [<- hO],?_,?_,.inr ⟨_,rfl⟩⟩⟩ ⟨_,_,_,he₃,hd₃,h1v⟩
 ·rw [Array.getElem?_setIfInBounds_ne (by decide)];exact t1
 ·simp
 ·simp
theorem note_ok {env:Env} {outer:List Env} {L:Addr} {Q:Unit->Shared->Prop} {E:Value->Shared->Prop} (hA:A.frames=some fs) (hfs:fs=env::outer) (hL:env.frame=some L) (W:Wd B α σ fs s.heap) (x:XRel B h₀ α s.heap e c) (d₀:∀ b,h₀.get? b≠none->s.heap.get? b≠none)
  (h:∀ h',Step B [] α s.heap α h'->Wd B α σ fs h'->XRel B h₀ α h' e c->Noted h' e->Q () { s with heap:=h' }):wpAny (model B.prog B.w) A (noteFrame (.ref e) env) Q E s:=by
 obtain ⟨a,b,b',hcc,oe,vs,h1,h2,h3,h4,⟨t,t1,t2,t3,t4⟩,h5⟩:=id x
 unfold noteFrame
 simp only [hL]
 rcases h5 with h5 | ⟨T,oT,ts,y,z,q1,q2,q3,q4,q5,q6,q7,q8,q9,q10,q11⟩
 ·refine wpAny_bind (wpAny_field h1 h3 h5 ?_)
  rw [if_neg (by decide)]
  exact newEntry_ok hA hfs hL W x d₀ h
 ·refine wpAny_bind (wpAny_field h1 h3 q1 ?_)
  rw [if_pos (show (Value.ref T !=Value.none)=true from by simp)]
  refine wpAny_bind (wpAny_field q6 q8 q10 ?_)
  by_cases hy:(y==rawInt L)=true
  ·rw [if_pos hy]
   exact wpAny_pure (h s.heap (Step.refl _ _ _ _) W x ⟨oe,vs,T,h1,h3,q1⟩)
  ·rw [if_neg hy]
   refine wpAny_bind (wpAny_setField q6 q8 (Array.getElem?_eq_some_iff.mp q10).1 ?_)
   have hd:=Obj.data_mapFields q8 (·.setIfInBounds 3 Value.none)
   have hT:=Heap.get?_update_self (Obj.mapFields (·.setIfInBounds 3 Value.none)) q6 (Obj.isFreed_of_fields hd)
   have k:Heap.ExtBut T s.heap (s.heap.update T (Obj.mapFields (·.setIfInBounds 3 Value.none))):=(Heap.SameBut.update ..).extBut
   have S:Step B [] α s.heap α _:=Step.updExo q6 (exo_tb q7 q8 q9) q3 q4 k (some_ne_none hT)
   have W':=W.updExo q6 (exo_tb q7 q8 q9) q3 q4 k (some_ne_none hT)
   have x':XRel B h₀ α (s.heap.update T (Obj.mapFields (·.setIfInBounds 3 Value.none))) e c:=⟨a,b,b',hcc,oe,vs,k e oe (Ne.symm q5) h1,h2,h3,h4,⟨t,t1,isTup_step S t3 t2,t3,t4⟩,.inr ⟨T,_,_,.none,z,q1,q2,q3,q4,q5,hT,(Obj.cls_mapFields _ _).trans q7,hd,by rw [Array.getElem?_setIfInBounds_ne (by decide)];exact q9,by rw [Array.getElem?_setIfInBounds_self_of_lt (Array.getElem?_eq_some_iff.mp q10).1],.inl rfl⟩⟩
   refine newEntry_ok (s:={ s with heap:=s.heap.update T (Obj.mapFields (·.setIfInBounds 3 Value.none)) }) hA hfs hL W' x' (λ b q=>S.dom b (d₀ b q)) λ h' S' W'' x'' n=>h h' (S.trans S') W'' x'' n
theorem leaving_ok {env:Env} {outer:List Env} {L:Addr} {Q:Unit->Shared->Prop} {E:Value->Shared->Prop} (hA:A.frames=some fs) (hfs:fs=env::outer) (hL:env.frame=some L) (W:Wd B α σ fs s.heap) (x:XRel B h₀ α s.heap e c) (d₀:∀ b,h₀.get? b≠none->s.heap.get? b≠none)
  (h:∀ h',Step B [] α s.heap α h'->Wd B α σ fs h'->XRel B h₀ α h' e c->Q () { s with heap:=h' }):wpAny (model B.prog B.w) A (leaving env (.ref e)) Q E s:=by
 unfold leaving
 refine wpAny_bind (note_ok hA hfs hL W x d₀ λ h₁ S₁ W₁ x₁ z=>?_)
 exact setFlight_ok (s:={ s with heap:=h₁ }) W₁ x₁ λ h₂ S₂ W₂ x₂=>h h₂ (S₁.trans S₂) W₂ x₂
theorem backIn_ok {env:Env} {X:PX} {x:Value} {α₀:Lbl} {s₀:Shared} (hA:A.frames=some fs) (G:FsOk env fs α₀) (p:PostX B [env.locals] α₀ fs s₀ X x s):
  notedBy (model B.prog B.w) A env (λ e s'=>cameBackBy (model B.prog B.w) A env (PostX B [env.locals] α₀ fs s₀ X) e s') x s:=by
 obtain ⟨α',σ',e,c,rfl,S,W,r,hx⟩:=p
 obtain ⟨outer,hfs,hL,_⟩:=G
 unfold notedBy
 refine note_ok hA hfs hL W r S.2.dom λ h₁ S₁ W₁ x₁ hn=>?_
 unfold cameBackBy
 obtain ⟨oe,vs,T,q1,q2,q3⟩:=hn
 refine wpAny_bind (wpAny_field q1 q2 q3 ?_)
 rw [if_neg (show ¬ ((Value.ref T==Value.none)=true) from by simp)]
 refine setFlight_ok (s:={ s with heap:=h₁ }) W₁ x₁ λ h₂ S₂ W₂ x₂=>?_
 exact ⟨α',σ',e,c,rfl,S.trans (SStep.of (tk:=s.toks) ((S₁.trans S₂).widen λ z q=>nomatch q)),W₂,x₂,hx⟩
end
end
section
section
variable {B:BC} {ex I:List Addr} {α α' α₁ α₂:Lbl} {s s' s₁ s₂:Shared} {σ σ' σ₁ σ₂:St} {fs:List Env} {A:Around} {κ:Sc} {k:Nat} {h₀ h h' h₁:Heap}
noncomputable def Own (α:Lbl) (I:List Addr):Prop:=∀ a∈I,Hid α a/\¬ Frm α a
theorem Own.step (S:Step B ex α h α' h') (W:Wd B α σ fs h) (x:Own α I):Own α' I:=λ a ha=>
 ⟨S.hid (x a ha).1,λ q=>(x a ha).2 (S.frmBack (W.there a (x a ha).1.liv) q)⟩
theorem Own.exOk (x:Own α I):ExOk I α:=λ a ha=>(x a ha).1.liv
theorem Step.shrink (S:Step B (I++ex) α h α' h') (fr:∀ a∈I,h.get? a=none):Step B ex α h α' h':=
 ⟨λ b o hl ht he hx e=>S.keep b o hl ht (λ q=>by
  rcases List.mem_append.mp q with q | q
  ·rw [fr b q] at e;injection e
  ·exact he q) hx e,S.dom,S.ext,S.old,S.new,S.hidOld,S.hidNew⟩
theorem SStep.shrink (S:SStep B (I++ex) α s α' s') (fr:∀ a∈I,s.heap.get? a=none):SStep B ex α s α' s':=⟨S.1,S.2.shrink fr⟩
theorem Step.updOwn (k:∀ b o,b∉I->h.get? b=some o->h'.get? b=some o) (ht:∀ a∈I,h'.get? a≠none):Step B I α h α h' where
 keep:=λ b o hl z hx z q=>⟨o.slots,k b o hx q,λ z=>rfl⟩
 dom:=λ b q=>by
  by_cases hb:b∈I
  ·exact ht b hb
  ·cases r:h.get? b with
   | none=>exact absurd r q
   | some o=>exact some_ne_none (k b o hb r)
 ext:=Nat.le_refl _
 old:=λ z z=>.inl rfl
 new:=λ n a hn e=>absurd (adr_lt e) (Nat.not_lt.mpr hn)
 hidOld:=λ z e=>e
 hidNew:=λ z e=>.inl e
theorem Wd.updOwn (W:Wd B α σ fs h) (x:Own α I) (k:∀ b o,b∉I->h.get? b=some o->h'.get? b=some o) (ht:∀ a∈I,h'.get? a≠none):Wd B α σ fs h':=by
 have S:Step B I α h α h':=Step.updOwn k ht
 refine ⟨W.staysIn S x.exOk,W.len,λ m ao' lb' e1 e2=>?_,W.inj,W.alone,W.apart,λ b q=>S.dom b (W.there b q),λ q hq=>?_,W.frames.step S (λ env he L hL hx=>?_) W.hidTab W.alone⟩
 ·refine ORel.stay S x.exOk (λ b o hb q=>k b o (λ z=>?_) q) (W.objs m ao' lb' e1 e2)
  exact W.alone b (x b z).1 ⟨m,by rw [adr_of_get e2];rcases hb with hb | hb<;>rw [hb]<;>rfl⟩
 ·exact (W.tabs q hq).mov (S.mov x.exOk) λ o y=>k _ o (λ z=>(W.apart _ (x _ z).1.liv).2 ⟨q,hq,rfl⟩) y
 ·obtain ⟨_,L',_,_,_,hL',hF,_⟩:=W.frames env he
  rw [hL] at hL';obtain rfl:=Option.some.inj hL'
  exact absurd hF (x _ hx).2
theorem Step.drop (S:Step B ex α h α₁ h₁) (fr:∀ a∈I,h.get? a=none) (k:∀ b o,b∉I->h₁.get? b=some o->h'.get? b=some o):Step B ex α h (α₁.un α) h' where
 keep:=λ b o hl ht he hx e=>by
  obtain ⟨sl,e1,k1⟩:=S.keep b o hl ht he hx e
  exact ⟨sl,k b _ (λ q=>by rw [fr b q] at e;injection e) e1,k1⟩
 dom:=λ b e=>by
  have h1:=S.dom b e
  cases q:h₁.get? b with
  | none=>exact absurd q h1
  | some o=>exact some_ne_none (k b o (λ z=>e (fr b z)) q)
 ext:=S.ext
 old:=S.old
 new:=S.new
 hidOld:=λ u e=>e
 hidNew:=λ u e=>.inl e
theorem Wd.drop (W:Wd B α σ fs h) (S:Step B ex α h α₁ h₁) (W₁:Wd B α₁ σ₁ fs h₁) (x:Own α₁ I) (fr:∀ a∈I,h.get? a=none) (k:∀ b o,b∉I->h₁.get? b=some o->h'.get? b=some o)
  (hx:∀ env∈fs,∀ L,env.frame=some L->L∈ex->∃ o es n,h₁.get? L=some o/\o.data=.dict es n):Wd B (α₁.un α) σ₁ fs h':=by
 have hk:=S.hidOld
 have hI:∀ a∈I,¬ Lab α₁ a:=λ a ha q=>W₁.alone a (x a ha).1 q
 have M:Mov B α₁ h₁ (α₁.un α) h':=⟨λ hf u u=>hf.un hk,λ {b o} hf e u=>k b o (λ z=>hf.1 (x b z).1.liv) e,λ n hn=>.inl rfl⟩
 have T:=Step.drop S fr k
 refine ⟨λ b o e=>?_,W₁.len,λ m ao lb e1 e2=>?_,W₁.inj,λ a ⟨f,y⟩=>W₁.alone a ⟨f,hk _ y⟩,λ a y=>W₁.apart a (y.un hk),λ a y=>?_,λ q hq=>?_,W.frames.step T (λ env he L hL hx'=>?_) W.hidTab W.alone⟩
 ·exact k b o (λ z=>by have:=(W₁.apart b (x b z).1.liv).1;rw [e] at this;injection this) (W₁.stays b o e)
 ·refine (W₁.objs m ao lb e1 e2).mov M λ a o hb e=>k a o (λ z=>?_) e
  exact hI a z ⟨m,by have e2':α₁.lab[m]?=some lb:=e2;rw [adr_of_get e2'];rcases hb with hb | hb<;>rw [hb]<;>rfl⟩
 ·have hn:a∉I:=λ z=>by
   rcases y with y | y
   ·exact hI a z y
   ·exact W.there a (.inr y) (fr a z)
  cases e:h₁.get? a with
  | none=>exact absurd e (W₁.there a (y.un hk))
  | some o=>exact some_ne_none (k a o hn e)
 ·exact (W₁.tabs q hq).mov M λ o y=>k _ o (λ z=>(W₁.apart _ (x _ z).1.liv).2 ⟨q,hq,rfl⟩) y
 ·obtain ⟨o,es,n,ho,hd⟩:=hx env he L hL hx'
  refine ⟨o,es,n,k L o (λ z=>?_) ho,hd⟩
  obtain ⟨_,L',_,_,_,hL',hF,_⟩:=W₁.frames env he
  rw [hL] at hL';(injection hL' with hL';subst hL')
  exact (x L z).2 hF
noncomputable def HndR (A:Around) (h:Heap):Prop:=A.handled=none\/∃ a o vs,A.handled=some (.ref a)/\h.get? a=some o/\o.data=.fields vs/\vs[2]?=some .none
noncomputable def NextOk (b:Bool) (A:Around) (I:List Addr) (h:Heap):Prop:=match b with
 | true=>HndR A h/\∀ a,A.handled=some (.ref a)->a∉I
 | false=>A.handled=none
set_option tactic.hygienic true in
structure Iter (B:BC) (b:Bool) (P:List AV->Lbl->Heap->Prop) (I:List Addr) (it:Addr) (tgt:Expr):Prop where
 step:∀ {ex rem α h α' h' σ fs},P rem α h->Own α I->(∀ a∈I,a∉ex)->ExOk ex α->Wd B α σ fs h->Step B ex α h α' h'->P rem α' h'
 next:∀ {rem:List AV} {A:Around} {fs α σ} {s:Shared} {Q:Option Value->Shared->Prop} {E:Value->Shared->Prop},NextOk b A I s.heap->P rem α s.heap->Own α I->Wd B α σ fs s.heap->
  (match rem with
   | []=>∀ h',(∀ c o,c∉I->s.heap.get? c=some o->h'.get? c=some o)->Q none { s with heap:=h' }
   | x::r=>∀ v h' tk,Step B I α s.heap α h'->Wd B α σ fs h'->P r α h'->Rel B α h' x v->Q (some v) { s with heap:=h',toks:=tk })->
  wpAny (model B.prog B.w) A (pyNext (.ref it)) (λ r s₁=>match r with
   | none=>Q none s₁
   | some v=>wpAny (model B.prog B.w) A (letOwnedTupleGo tgt (.ref it) v) (λ z s₂=>Q (some v) s₂) E s₁) E s
 self:∀ {rem:List AV} {A:Around} {α} {s:Shared} {Q:Value->Shared->Prop} {E:Value->Shared->Prop},P rem α s.heap->Q (.ref it) s->wpAny (model B.prog B.w) A (pyIter (.ref it)) Q E s
theorem Own.keep (x:Own α I) (W:Wd B α σ fs h) (S:Step B ex α h α' h') {a:Addr} (ha:a∈I) (hn:a∉ex) {o:Obj} (e:h.get? a=some o):h'.get? a=some o:=by
 obtain ⟨sl,e1,k⟩:=S.keep a o (W.alone _ (x a ha).1) (W.hidTab _ (x a ha).1) hn (.inr (.inr (x a ha).1)) e
 rw [k (x a ha).2] at e1
 exact e1
theorem drop_cons {β:Type} {l:List β} {i:Nat} {x:β} {r:List β} (e:x::r=l.drop i):l[i]?=some x/\r=l.drop (i+1):=by
 have h1:(l.drop i)[0]?=some x:=by rw [<- e];rfl
 rw [List.getElem?_drop,Nat.add_zero] at h1
 refine ⟨h1,?_⟩
 have:(l.drop i).drop 1=r:=by rw [<- e];rfl
 rw [<- this,List.drop_drop,Nat.add_comm]
theorem drop_nil {β:Type} {l:List β} {i:Nat} (e:[]=l.drop i):l[i]?=none:=by
 have h1:(l.drop i)[0]?=none:=by rw [<- e];rfl
 rwa [List.getElem?_drop,Nat.add_zero] at h1
noncomputable def FLst (B:BC) (α:Lbl) (h:Heap) (l:Addr) (all:List AV):Prop:=∃ vs:List Value,Frz B α l/\h.PlainList l vs.toArray/\RelL B α h all vs
theorem FLst.mov (S:Mov B α h α' h') {l:Addr} {all:List AV} (x:FLst B α h l all):FLst B α' h' l all:=by
 obtain ⟨vs,hf,⟨n,ho⟩,r⟩:=x
 exact ⟨vs,S.frz hf ho rfl,⟨n,S.keepF hf ho rfl⟩,r.mov S⟩
theorem FLst.ne (x:FLst B α h₀ k all) (y:Own α I) {a:Addr} (ha:a∈I):k≠a:=by
 rintro rfl
 obtain ⟨_,hf,_⟩:=x
 exact hf.1 (y _ ha).1.liv
theorem none_of_len {l:List AV} {vs:List Value} (r:RelL B α h l vs) {i:Nat} (e:l[i]?=none):vs.toArray[i]?=none:=by
 rw [List.getElem?_eq_none_iff] at e
 rw [List.getElem?_toArray,List.getElem?_eq_none_iff,r.length]
 exact e
theorem some_of_rel {l:List AV} {vs:List Value} (r:RelL B α h l vs) {i:Nat} {x:AV} (e:l[i]?=some x):∃ v,vs.toArray[i]?=some v/\Rel B α h x v:=by
 obtain ⟨v,e1,e2⟩:=r.get e
 exact ⟨v,by rw [List.getElem?_toArray];exact e1,e2⟩
noncomputable def PList (B:BC) (l it:Addr) (all:List AV) (rem:List AV) (α:Lbl) (h:Heap):Prop:=∃ i,h.IsListIter it l i/\rem=all.drop i/\FLst B α h l all
set_option tactic.hygienic true in
theorem iterList {tgt:Expr} (ht:∀ it v,letOwnedTupleGo tgt it v=pure ()) (l it:Addr) (all:List AV):Iter B false (PList B l it all) [it] it tgt where
 step:=λ {ex rem α h α' h' σ fs} ⟨i,⟨o,ho,hc⟩,e,x⟩ hO hn he W S=>⟨i,⟨o,hO.keep W S List.mem_cons_self (hn _ List.mem_cons_self) ho,hc⟩,e,x.mov (S.mov he)⟩
 next:=λ {rem A fs α σ s Q E} hh ⟨i,hit,e,x⟩ hO W hQ=>by
  obtain ⟨vs,hf,hp,r⟩:=id x
  have hl:=hp.isList
  have hne:l≠it:=x.ne hO List.mem_cons_self
  induction rem with
  | nil=>exact wpAny_pyNext_list_end hh hit hl (none_of_len r (drop_nil e)) λ h' hk=>hQ h' λ c o hc e=>hk c o (by simpa using hc) e
  | cons y rr=>
   obtain ⟨e1,e2⟩:=drop_cons e
   obtain ⟨v,hv,rv⟩:=some_of_rel r e1
   refine wpAny_pyNext_list_item hit hl hv λ h' hit' hs=>?_
   dsimp only
   rw [ht]
   have hk:∀ b o,b∉[it]->s.heap.get? b=some o->h'.get? b=some o:=λ b o hb e=>hs.extBut b o (by simpa using hb) e
   obtain ⟨oi,hoi,hci⟩:=id hit'
   have hd:∀ a∈[it],h'.get? a≠none:=by simp [hoi]
   have S:Step B [it] α s.heap α h':=Step.updOwn hk hd
   exact wpAny_pure (hQ v h' s.toks S (W.updOwn hO hk hd) ⟨i+1,hit',e2,x.mov (S.mov hO.exOk)⟩ (rv.step S hO.exOk))
 self:=λ {rem A α s Q E} ⟨i,hit,_⟩ h=>wpAny_pyIter_listiter hit h
end
end
section
section
variable {B:BC} {ex I:List Addr} {α α' α₁ α₂:Lbl} {s s' s₁ s₂:Shared} {σ σ' σ₁ σ₂:St} {fs:List Env} {A:Around} {κ:Sc} {k:Nat} {h₀ h h' h₁:Heap} {prog:Program} {w:World}
theorem HndR.full (x:HndR A h) (k:Full h h'):HndR A h':=x.imp id λ ⟨a,o,vs,e,ho,r⟩=>⟨a,o,vs,e,k _ _ ho,r⟩
theorem entry_unchain:entryFor table "proto.unchain"=some Builtin.«proto.unchain»:=entryFor_of_tree (by kernel_rfl)
theorem stop_ok {β:Type} {Q:β->Shared->Prop} {E:Value->Shared->Prop} (hr:HndR A s.heap)
  (hE:∀ h' c,(A.handled=none->c=.none)->Full s.heap h'->h'.get? s.heap.objs.size=some { cls:=.type "tuple",data:=.seq #[] }->
   h'.get? (s.heap.objs.size+1)=some { cls:=.type "StopIteration",data:=.fields #[.ref s.heap.objs.size,.none,c,.none,.bool false,.none] }->E (.ref (s.heap.objs.size+1)) { s with heap:=h' }):
  wpAny (model prog w) A (newExc (.type "StopIteration") [] >>= λ e=>(raiseNew e:Sem β)) Q E s:=by
 refine wpAny_bind ?_
 simp only [newExc,newTuple]
 refine wpAny_bind (wpAny_newObj_type ?_ (by size_fits))
 refine wpAny_bind (m:=firstArgMember _ _) (wpAny_of_eq (a:=Value.none) (by first | rfl | (simp only [firstArgMember];rfl)) ?_)
 refine wpAny_newObj_type ?_ (by size_fits)
 simp only [raiseNew]
 generalize hH:(Heap.push (Heap.push s.heap _) _)=H
 have hfull:Full s.heap H:=by rw [<- hH];exact (Full.push _ _).trans (Full.push _ _)
 have ht:H.get? s.heap.objs.size=some { cls:=.type "tuple",data:=.seq #[] }:=by rw [<- hH];exact Heap.get?_push_of_some _ (Heap.get?_push_size _ rfl)
 have hs:(s.heap.push { cls:=.type "tuple",dict:=none,data:=.seq ([]:List Value).toArray }).objs.size=s.heap.objs.size+1:=Heap.size_push ..
 have he:H.get? (s.heap.objs.size+1)=some { cls:=.type "StopIteration",data:=.fields #[.ref s.heap.objs.size,.none,.none,.none,.bool false,.none] }:=by
  rw [<- hH,<- hs];exact Heap.get?_push_size _ rfl
 have hn:s.heap.get? s.heap.objs.size=none:=Heap.get?_none_of_le (Nat.le_refl _)
 rw [hs]
 refine wpAny_bind (wpAny_handled ?_)
 rcases hr with hr | ⟨a,o,vs,e1,e2,e3,e4⟩
 ·rw [hr]
  exact wpAny_bind (wpAny_pure (wpAny_throw (hE H _ (λ z=>rfl) hfull ht he)))
 ·rw [e1]
  have hne:a≠s.heap.objs.size+1:=Nat.ne_of_lt (Nat.lt_succ_of_lt (Heap.lt_size e2))
  dsimp only
  rw [if_pos (show (Value.ref a !=Value.ref (s.heap.objs.size+1))=true from by simp [hne])]
  refine wpAny_bind (wpAny_holding (runValue_entry entry_unchain ?_))
  show wpAny _ _ (field (.ref a) 2 >>= _) _ _ _
  refine wpAny_bind (wpAny_field (hfull _ _ e2) e3 e4 ?_)
  rw [if_pos (show (Value.none==Value.none)=true from rfl)]
  refine wpAny_bind (wpAny_pure (wpAny_pure ⟨_,rfl,?_⟩))
  have hd:=Obj.data_mapFields (o:={ cls:=.type "StopIteration",data:=.fields #[.ref s.heap.objs.size,.none,.none,.none,.bool false,.none] }) rfl (·.setIfInBounds 2 (.ref a))
  have hH':=Heap.get?_update_self (Obj.mapFields (·.setIfInBounds 2 (.ref a))) he (Obj.isFreed_of_fields hd)
  have hk:Heap.SameBut (s.heap.objs.size+1) H (H.update (s.heap.objs.size+1) (Obj.mapFields (·.setIfInBounds 2 (.ref a)))):=Heap.SameBut.update ..
  unfold updateField
  refine wpAny_bind (wpAny_bind (wpAny_load he ?_))
  dsimp only
  rw [if_pos (by simp)]
  refine wpAny_update he (wpAny_throw (hE _ (.ref a) (λ q=>by rw [e1] at q;injection q) (λ b o e=>hk.extBut b o (Nat.ne_of_lt (Nat.lt_succ_of_lt (Heap.lt_size e))) (hfull b o e)) (hk.extBut _ _ (Nat.ne_of_lt (Nat.lt_succ_self _)) ht) ?_))
  exact hH'
theorem listEnd {it l:Addr} {i:Nat} {items} {E:Value->Shared->Prop} (hr:HndR A s.heap) (hit:s.heap.IsListIter it l i) (hl:s.heap.IsList l items) (hx:items[i]?=none)
  (hnot:∀ a,A.handled=some (.ref a)->a≠it)
  (hE:∀ h' c,(∀ b o,b≠it->s.heap.get? b=some o->h'.get? b=some o)->h'.get? (s.heap.objs.size+1)=some { cls:=.type "StopIteration",data:=.fields #[.ref s.heap.objs.size,.none,c,.none,.bool false,.none] }->E (.ref (s.heap.objs.size+1)) { s with heap:=h' }) {Q:Value->Shared->Prop}:
  wpAny (model prog w) A (Builtin.SmallTypes.nextOf (.ref it)) Q E s:=by
 obtain ⟨o,ho,hc,hd⟩:=id hit
 obtain ⟨ol,hol,_,nl,hdl⟩:=hl
 unfold Builtin.SmallTypes.nextOf
 refine wpAny_bind (wpAny_callSpecial?_slot (name:=Str.ofString "__next__") hit.typeIs slot_listiter_next
  (wpAny_call_entry slot_listiter_next hit.typeIs entry_listiter_next ?_ (args_listiter_next _)))
 show wpAny _ _ (field (.ref it) 0 >>= _) _ _ s
 refine wpAny_bind (wpAny_field ho hd (x:=.ref l) rfl ?_)
 show wpAny _ _ (if (Value.ref l==Value.none)=true then _ else _) _ _ s
 rw [if_neg (show ¬ ((Value.ref l==Value.none)=true) from Bool.false_ne_true)]
 show wpAny _ _ (field (.ref it) 1 >>= _) _ _ s
 refine wpAny_bind (wpAny_field ho hd (x:=.int i 0) rfl ?_)
 show wpAny _ _ (seqItems? (.ref l) >>= _) _ _ s
 refine wpAny_bind (wpAny_seqItems hol hdl ?_)
 simp only [Int.toNat_natCast,hx]
 refine wpAny_bind (wpAny_rule (wpAny_bind (wpAny_setField ho hd (by simp) ?_)))
 generalize hH:s.heap.update it _=H
 have hk:Heap.SameBut it s.heap H:=by rw [<- hH];exact Heap.SameBut.update ..
 have hr':HndR A.in1 H:=by
  rcases hr with hr | ⟨a,o,vs,e1,e2,e3⟩
  ·exact .inl hr
  ·exact .inr ⟨a,o,vs,e1,hk.extBut _ _ (hnot a e1) e2,e3⟩
 refine stop_ok (s:={ s with heap:=H }) hr' λ h' c z hf ht he=>?_
 have hz:({ s with heap:=H }:Shared).heap.objs.size=s.heap.objs.size:=hk.1
 rw [hz] at he ⊢
 exact hE h' c (λ b o hb e=>hf b o (hk.extBut b o hb e)) he
theorem enumEnd {e it l:Addr} {i:Int} {j:Nat} {items} {old:Value} {Q:Option Value->Shared->Prop} {E:Value->Shared->Prop} (hr:HndR A s.heap) (he:IsEnum s.heap e it i old) (hit:s.heap.IsListIter it l j) (hl:s.heap.IsList l items) (hx:items[j]?=none)
  (hnot:∀ a,A.handled=some (.ref a)->a≠it) (hQ:∀ h',(∀ b o,b≠it->s.heap.get? b=some o->h'.get? b=some o)->Q none { s with heap:=h' }):wpAny (model prog w) A (pyNext (.ref e)) Q E s:=by
 have hT:s.TypeIs (.ref e) "enumerate":=⟨_,he,rfl⟩
 unfold pyNext
 refine wpAny_bind (wpAny_attempt (wpAny_callSpecial?_slot (name:=Str.ofString "__next__") hT F.slot_enumerate_next
  (wpAny_call_entry F.slot_enumerate_next hT F.entry_enumerate_next ?_ (F.args_enumerate_next_1 _))))
 show wpAny _ _ (field (.ref e) 2 >>= _) _ _ _
 refine wpAny_bind (wpAny_field he rfl (x:=.ref it) rfl ?_)
 refine wpAny_bind (listEnd (A:=A.in1) hr hit hl hx hnot λ h' c hk hc=>?_)
 exact wpAny_bind (wpAny_isInstance (T:="StopIteration") (b:=true) ⟨_,hc,rfl⟩ isSubtype_stop (wpAny_pure (hQ _ hk)))
theorem unpackT {items:Array Value} {t:Addr} {Q:List Value->Shared->Prop} {E:Value->Shared->Prop} (hr:HndR A s.heap) (ht:s.heap.IsTuple t items)
  (hQ:∀ h',(∀ b o,s.heap.get? b=some o->h'.get? b=some o)->Q items.toList { s with heap:=h' }):wpAny (model prog w) A (unpackItems (.ref t) items.size none) Q E s:=by
 have hlt:t≠s.heap.objs.size:=by obtain ⟨o,ho,_⟩:=ht;exact Nat.ne_of_lt (Heap.lt_size ho)
 unfold unpackItems
 refine wpAny_bind ?_
 unfold notIterableAtAll
 refine wpAny_bind (wpAny_specialOf ht.typeIs F.slot_tuple_iter.lookup ?_)
 refine wpAny_pure ?_
 simp only [Bool.false_eq_true,if_false]
 refine wpAny_bind (wpAny_holding (wpAny_pyIter_tuple ht ?_))
 refine wpAny_bind (wpAny_holding (wpAny_draw_tuple hlt items.size 0 _ _ ⟨_,Heap.get?_push_size _ rfl,rfl,rfl⟩ (ht.push _) (by lia) λ h₁ hit₁ hs₁=>?_))
 have hall:List.take items.size (List.drop 0 items.toList)=items.toList:=by
  rw [List.drop_zero];exact List.take_of_length_le (by simp)
 rw [hall,if_neg (by simp)]
 have ht₁:h₁.IsTuple t items:=(ht.push _).extBut hs₁.extBut hlt
 have old₁:Full s.heap h₁:=λ b o e=>hs₁.extBut b o (Nat.ne_of_lt (Heap.lt_size e)) (Heap.get?_push_of_some _ e)
 refine wpAny_bind (wpAny_holding ?_)
 -- the tuple is at its end
 obtain ⟨oi,hoi,hci,hdi⟩:=id hit₁
 obtain ⟨ol,hol,_,nl,hdl⟩:=id ht₁
 unfold pyNext
 refine wpAny_bind (wpAny_attempt (wpAny_callSpecial?_slot (name:=Str.ofString "__next__") hit₁.typeIs F.slot_tuple_iterator_next
  (wpAny_call_entry F.slot_tuple_iterator_next hit₁.typeIs F.entry_tuple_iterator_next ?_ (F.args_tuple_iterator_next_1 _))))
 show wpAny _ _ (field (.ref _) 0 >>= _) _ _ _
 refine wpAny_bind (wpAny_field hoi hdi (x:=.ref t) rfl ?_)
 show wpAny _ _ (if (Value.ref t==Value.none)=true then _ else _) _ _ _
 rw [if_neg (show ¬ ((Value.ref t==Value.none)=true) from Bool.false_ne_true)]
 show wpAny _ _ (field (.ref _) 1 >>= _) _ _ _
 refine wpAny_bind (wpAny_field hoi hdi (x:=.int (0+items.size:Nat) 0) rfl ?_)
 show wpAny _ _ (seqItems? (.ref t) >>= _) _ _ _
 refine wpAny_bind (wpAny_seqItems hol hdl ?_)
 have hnn:items[((0+items.size:Nat):Int).toNat]?=none:=by simp
 simp only [hnn]
 refine wpAny_bind (wpAny_rule (wpAny_bind (wpAny_setField hoi hdi (by simp) ?_)))
 generalize hH:Heap.update _ _ _=H
 have hk:Heap.SameBut s.heap.objs.size h₁ H:=by rw [<- hH];exact Heap.SameBut.update ..
 have old₂:Full s.heap H:=λ b o e=>hk.extBut b o (Nat.ne_of_lt (Heap.lt_size e)) (old₁ b o e)
 refine stop_ok (s:={ s with heap:=H }) (A:=A.in1) (HndR.full (A:=A.in1) hr old₂) λ h' c z hf ht' he=>?_
 refine wpAny_bind (wpAny_isInstance (T:="StopIteration") (b:=true) ⟨_,he,rfl⟩ isSubtype_stop (wpAny_pure ?_))
 simp only [Option.isSome_none,Bool.false_eq_true,if_false]
 exact wpAny_pure (hQ h' λ b o e=>hf b o (old₂ b o e))
theorem assignT {env:Env} {elts:List Expr} {x1} {pos:Pos} {t:Addr} {items:Array Value} {Q:Unit->Shared->Prop} {E:Value->Shared->Prop} (hr:HndR A s.heap) (ht:s.heap.IsTuple t items)
  (hn:(assignEach elts env).length=items.size) (hstar:(assignEach elts env).findIdx? (·.1)=none)
  (h:∀ h',Full s.heap h'->wpAny (model prog w) A (assignInOrder ((assignEach elts env).map (·.2)) items.toList) Q E { s with heap:=h' }):
  wpAny (model prog w) A (assign (.Tuple elts x1 pos) env (.ref t)) Q E s:=by
 rw [arm_assign_Tuple]
 refine wpAny_bind (wpAny_standAt ?_)
 unfold unpack
 rw [hn,hstar]
 exact wpAny_bind (wpAny_holding (unpackT hr ht h))
end
end
section
noncomputable abbrev Lbl.hides (α:Lbl) (l:List Addr):Lbl:=⟨α.lab,l.map (λ a=>(false,a))++α.hid⟩
section
variable {B:BC} {ex I:List Addr} {α α' α₁ α₂:Lbl} {s s' s₁ s₂:Shared} {σ σ' σ₁ σ₂:St} {fs:List Env} {A:Around} {κ:Sc} {k:Nat} {h₀ h h' h₁:Heap} {prog:Program} {w:World}
theorem Hid.hides {b:Addr} (x:Hid (α.hides I) b):b∈I\/Hid α b:=by
 obtain ⟨f,x⟩:=x
 rcases List.mem_append.mp x with q | q
 ·obtain ⟨a,ha,e⟩:=List.mem_map.mp q
  cases e
  exact .inl ha
 ·exact .inr ⟨f,q⟩
theorem hid_hides {b:Addr} (x:b∈I):Hid (α.hides I) b:=⟨false,List.mem_append.mpr (.inl (List.mem_map.mpr ⟨b,x,rfl⟩))⟩
theorem Step.newHids (k:Full h h') (hn:∀ a∈I,h.get? a=none):Step B ex α h (α.hides I) h' where
 keep:=λ b o z z z z e=>⟨o.slots,k b o e,λ z=>rfl⟩
 dom:=(Step.full (B:=B) (ex:=ex) (α:=α) k).dom
 ext:=Nat.le_refl _
 old:=λ z z=>.inl rfl
 new:=λ n a hn e=>absurd (adr_lt (α:=α) e) (Nat.not_lt.mpr hn)
 hidOld:=λ z e=>List.mem_append.mpr (.inr e)
 hidNew:=λ p e=>by
  rcases List.mem_append.mp e with q | q
  ·obtain ⟨a,ha,rfl⟩:=List.mem_map.mp q
   exact .inr (hn a ha)
  ·exact .inl q
theorem Wd.newHids (W:Wd B α σ fs h) (k:Full h h') (hn:∀ a∈I,h.get? a=none) (ht:∀ a∈I,h'.get? a≠none):Wd B (α.hides I) σ fs h' where
 stays:=λ b o e=>k b o (W.stays b o e)
 len:=W.len
 objs:=λ n ao lb e1 e2=>ORel.stay (Step.newHids (ex:=[]) k hn) ExOk.nil (λ a o z e=>k a o e) (W.objs n ao lb e1 e2)
 inj:=W.inj
 alone:=λ b x y=>by
  rcases Hid.hides x with x | x
  ·exact W.there b (.inl y) (hn b x)
  ·exact W.alone b x y
 apart:=W.staysSame λ b x=>by
  rcases x with x | x
  ·exact .inr (.inl x)
  ·rcases Hid.hides x with x | x
   ·exact .inl (hn b x)
   ·exact .inr (.inr x)
 there:=λ b x=>by
  rcases x with x | x
  ·exact (Step.full (B:=B) (ex:=[]) (α:=α) k).dom b (W.there b (.inl x))
  ·rcases Hid.hides x with x | x
   ·exact ht b x
   ·exact (Step.full (B:=B) (ex:=[]) (α:=α) k).dom b (W.there b (.inr x))
 tabs:=λ q hq=>(W.tabs q hq).mov ((Step.newHids (B:=B) (ex:=[]) k hn).mov ExOk.nil) (k _)
 frames:=W.frames.step (Step.newHids (B:=B) (ex:=[]) k hn) (λ z z z z q=>nomatch q) W.hidTab W.alone
theorem Own.hides (W:Wd B α σ fs h) (hn:∀ a∈I,h.get? a=none):Own (α.hides I) I:=λ a ha=>⟨hid_hides ha,λ q=>by
 rcases List.mem_append.mp q with q | q
 ·obtain ⟨a,ha,e⟩:=List.mem_map.mp q;cases e
 ·exact W.there a (.inr ⟨true,q⟩) (hn a ha)⟩
theorem own_ext (hk:∀ c o,c≠it->h.get? c=some o->h'.get? c=some o) (hi:it∈I):∀ c o,c∉I->h.get? c=some o->h'.get? c=some o:=λ c o hc e=>hk c o (λ z=>hc (z▸hi)) e
noncomputable def FTup (B:BC) (α:Lbl) (h:Heap) (l:Addr) (all:List AV):Prop:=∃ vs:List Value,Frz B α l/\IsTup h l vs.toArray/\RelL B α h all vs
theorem FTup.mov (S:Mov B α h α' h') {l:Addr} {all:List AV} (x:FTup B α h l all):FTup B α' h' l all:=by
 obtain ⟨vs,hf,⟨o,ho,hc,n,hd⟩,r⟩:=x
 have hx:exo o=false:=by unfold exo;rw [hd]
 exact ⟨vs,S.frz hf ho hx,⟨o,S.keepF hf ho hx,hc,n,hd⟩,r.mov S⟩
noncomputable def PTup (B:BC) (l it:Addr) (all:List AV) (rem:List AV) (α:Lbl) (h:Heap):Prop:=∃ i,h.IsTupleIter it l i/\rem=all.drop i/\FTup B α h l all
set_option tactic.hygienic true in
theorem iterTup {tgt:Expr} (ht:∀ it v,letOwnedTupleGo tgt it v=pure ()) (l it:Addr) (all:List AV):Iter B false (PTup B l it all) [it] it tgt where
 step:=λ {ex rem α h α' h' σ fs} ⟨i,⟨o,ho,hc⟩,e,x⟩ hO hn he W S=>⟨i,⟨o,hO.keep W S List.mem_cons_self (hn _ List.mem_cons_self) ho,hc⟩,e,x.mov (S.mov he)⟩
 next:=λ {rem A fs α σ s Q E} hh ⟨i,hit,e,x⟩ hO W hQ=>by
  obtain ⟨vs,hf,⟨o,ho,hc,n,hd⟩,r⟩:=id x
  have hl:s.heap.IsTuple l vs.toArray:=⟨o,ho,hc,n,hd⟩
  cases rem with
  | nil=>exact wpAny_pyNext_tuple_end hh hit hl (none_of_len r (drop_nil e)) λ h' hk=>hQ h' (own_ext hk List.mem_cons_self)
  | cons y rr=>
   obtain ⟨e1,e2⟩:=drop_cons e
   obtain ⟨v,hv,rv⟩:=some_of_rel r e1
   refine wpAny_pyNext_tuple_item hit hl hv λ h' hit' hs=>?_
   dsimp only
   rw [ht]
   have hk:=own_ext (I:=[it]) hs.extBut List.mem_cons_self
   obtain ⟨oi,hoi,hci⟩:=id hit'
   have hd:∀ a∈[it],h'.get? a≠none:=by simp [hoi]
   have S:Step B [it] α s.heap α h':=Step.updOwn hk hd
   exact wpAny_pure (hQ v h' s.toks S (W.updOwn hO hk hd) ⟨i+1,hit',e2,x.mov (S.mov hO.exOk)⟩ (rv.step S hO.exOk))
 self:=λ {rem A α s Q E} ⟨i,hit,_⟩ h=>wpAny_pyIter_tupleiter hit h
noncomputable def rangeL (a c:Int):Nat->List AV
 | 0=>[]
 | n+1=>.int a::rangeL (a+c) c n
noncomputable def PRng (it:Addr) (c:Int) (rem:List AV) (α:Lbl) (h:Heap):Prop:=∃ x n,IsRangeIter h it x ((n:Nat):Int) c/\rem=rangeL x c n
set_option tactic.hygienic true in
theorem iterRng {tgt:Expr} (ht:∀ it v,letOwnedTupleGo tgt it v=pure ()) (it:Addr) (c:Int):Iter B false (PRng it c) [it] it tgt where
 step:=λ {ex rem α h α' h' σ fs} ⟨x,n,ho,e⟩ hO hn he W S=>⟨x,n,hO.keep W S List.mem_cons_self (hn _ List.mem_cons_self) ho,e⟩
 next:=λ {rem A fs α σ s Q E} hh ⟨x,n,hit,e⟩ hO W hQ=>by
  cases n with
  | zero=>
   cases e
   exact wpAny_pyNext_range_end hh hit (Int.le_refl _) λ h' hk=>hQ h' (own_ext hk List.mem_cons_self)
  | succ n=>
   cases e
   refine wpAny_pyNext_range_item hit (by lia) λ h' hit' hs=>?_
   dsimp only
   rw [ht]
   have hk:=own_ext (I:=[it]) hs.extBut List.mem_cons_self
   have hd:∀ a∈[it],h'.get? a≠none:=by simp [hit']
   have S:Step B [it] α s.heap α h':=Step.updOwn hk hd
   have e:(((n+1:Nat):Int) - 1)=((n:Nat):Int):=by lia
   rw [e] at hit'
   exact wpAny_pure (hQ _ h' (s.toks+1) S (W.updOwn hO hk hd) ⟨_,n,hit',rfl⟩ (rel_int _ _))
 self:=λ {rem A α s Q E} ⟨_,_,hit,_⟩ h=>wpAny_pyIter_rangeiter hit h
noncomputable def PRev (B:BC) (l it:Addr) (all:List AV) (rem:List AV) (α:Lbl) (h:Heap):Prop:=∃ i:Nat,h.IsRevIter it l ((i:Int) - 1)/\i<=all.length/\rem=(all.take i).reverse/\FLst B α h l all
set_option tactic.hygienic true in
theorem iterRev {tgt:Expr} (ht:∀ it v,letOwnedTupleGo tgt it v=pure ()) (l it:Addr) (all:List AV):Iter B false (PRev B l it all) [it] it tgt where
 step:=λ {ex rem α h α' h' σ fs} ⟨i,hi,hle,e,x⟩ hO hn he W S=>⟨i,hi.at λ o ho=>hO.keep W S List.mem_cons_self (hn _ List.mem_cons_self) ho,hle,e,x.mov (S.mov he)⟩
 next:=λ {rem A fs α σ s Q E} hh ⟨i,hit,hle,e,x⟩ hO W hQ=>by
  obtain ⟨vs,hf,hp,r⟩:=id x
  have hl:=hp.isList
  cases i with
  | zero=>
   rw [List.take_zero] at e
   cases e
   exact wpAny_pyNext_rev_end hh hit λ h' hk=>hQ h' (own_ext hk List.mem_cons_self)
  | succ i=>
   have hlt:i<all.length:=hle
   rw [List.take_succ_eq_append_getElem hlt,List.reverse_append] at e
   cases e
   obtain ⟨v,hv,rv⟩:=some_of_rel r (List.getElem?_eq_getElem hlt)
   have e1:(((i+1:Nat):Int) - 1)=((i:Nat):Int):=by lia
   rw [e1] at hit
   refine wpAny_pyNext_rev_item hit hl hv λ h' hit' hs=>?_
   dsimp only
   rw [ht]
   have hk:=own_ext (I:=[it]) hs.extBut List.mem_cons_self
   obtain ⟨oi,hoi,hci⟩:=id hit'
   have hd:∀ a∈[it],h'.get? a≠none:=by simp [hoi]
   have S:Step B [it] α s.heap α h':=Step.updOwn hk hd
   exact wpAny_pure (hQ v h' s.toks S (W.updOwn hO hk hd) ⟨i,hit',Nat.le_of_lt hlt,rfl,x.mov (S.mov hO.exOk)⟩ (rv.step S hO.exOk))
 self:=λ {rem A α s Q E} ⟨i,hit,_⟩ h=>wpAny_pyIter_revIter hit h
noncomputable def signL (l:List Nat):List AV:=l.map λ c=>.str ⟨#[c]⟩
noncomputable def PStr (it:Addr) (x:Str) (t:Tok) (rem:List AV) (α:Lbl) (h:Heap):Prop:=∃ i,h.IsStrIter it "str_ascii_iterator" x t i/\rem=signL (x.cps.toList.drop i)
set_option tactic.hygienic true in
theorem iterStr {tgt:Expr} (ht:∀ it v,letOwnedTupleGo tgt it v=pure ()) (it:Addr) (x:Str) (t:Tok):Iter B false (PStr it x t) [it] it tgt where
 step:=λ {ex rem α h α' h' σ fs} ⟨i,⟨o,ho,hc⟩,e⟩ hO hn he W S=>⟨i,⟨o,hO.keep W S List.mem_cons_self (hn _ List.mem_cons_self) ho,hc⟩,e⟩
 next:=λ {rem A fs α σ s Q E} hh ⟨i,hit,e⟩ hO W hQ=>by
  cases hx:x.cps[i]? with
  | none=>
   have:x.cps.toList.drop i=[]:=List.drop_eq_nil_iff.mpr (by simpa using hx)
   rw [this] at e
   cases e
   exact wpAny_pyNext_ascii_end hh hit hx λ h' hk=>hQ h' (own_ext hk List.mem_cons_self)
  | some c=>
   obtain ⟨hlt,hc⟩:=Array.getElem?_eq_some_iff.mp hx
   have hd:x.cps.toList.drop i=c::x.cps.toList.drop (i+1):=by
    rw [List.drop_eq_getElem_cons (by simpa using hlt)]
    simp [hc]
   rw [hd] at e
   cases e
   refine wpAny_pyNext_ascii_item hit hx λ h' hit' hs=>?_
   dsimp only
   rw [ht]
   have hk:=own_ext (I:=[it]) hs.extBut List.mem_cons_self
   obtain ⟨oi,hoi,hci⟩:=id hit'
   have hd:∀ a∈[it],h'.get? a≠none:=by simp [hoi]
   have S:Step B [it] α s.heap α h':=Step.updOwn hk hd
   exact wpAny_pure (hQ _ h' (s.toks+1) S (W.updOwn hO hk hd) ⟨i+1,hit',rfl⟩ (rel_str _ _))
 self:=λ {rem A α s Q E} ⟨i,hit,_⟩ h=>wpAny_pyIter_striter_ascii hit h
end
end
section
section
variable {B:BC} {ex I:List Addr} {α α' α₁ α₂:Lbl} {s s' s₁ s₂:Shared} {σ σ' σ₁ σ₂:St} {fs:List Env} {A:Around} {κ:Sc} {k:Nat} {h₀ h h' h₁:Heap} {prog:Program} {w:World}
noncomputable def enumL:Nat->List AV->List AV
 | _,[]=>[]
 | i,x::r=>.tup [.int i,x]::enumL (i+1) r
noncomputable def PEnu (B:BC) (l e it:Addr) (all:List AV) (rem:List AV) (α:Lbl) (h:Heap):Prop:=∃ i old,e≠it/\IsEnum h e it ((i:Nat):Int) old/\h.IsListIter it l i/\rem=enumL i (all.drop i)/\FLst B α h l all
set_option tactic.hygienic true in
theorem iterEnu {elts:List Expr} {x1} {pos:Pos} (l e it:Addr) (all:List AV):Iter B true (PEnu B l e it all) [e,it] e (.Tuple elts x1 pos) where
 step:=λ {ex rem α h α' h' σ fs} ⟨i,old,hne,he,⟨o,ho,hc⟩,e',x⟩ hO hn hx W S=>
  ⟨i,old,hne,hO.keep W S (by simp) (hn _ (by simp)) he,⟨o,hO.keep W S (a:=it) (by simp) (hn _ (by simp)) ho,hc⟩,e',x.mov (S.mov hx)⟩
 next:=λ {rem A fs α σ s Q E} hh ⟨i,old,hne,he,hit,e',x⟩ hO W hQ=>by
  obtain ⟨vs,hf,hp,r⟩:=id x
  have hl:=hp.isList
  have hle:l≠e:=x.ne hO (by simp)
  have hli:l≠it:=x.ne hO (by simp)
  cases hd:all.drop i with
  | nil=>
   rw [hd] at e'
   cases e'
   exact enumEnd hh.1 he hit hl (none_of_len r (drop_nil hd.symm)) (λ a ea z=>hh.2 a ea (by simp [z])) λ h' hk=>hQ h' (own_ext (I:=[e,it]) hk (by simp))
  | cons y rr=>
   rw [hd] at e'
   cases e'
   obtain ⟨e1,e2⟩:=drop_cons hd.symm
   obtain ⟨v,hv,rv⟩:=some_of_rel r e1
   refine wpAny_pyNext_enum_item he hit hl hv hne λ h₁ heo hit₁ ht₁ hz₁ hk₁=>?_
   dsimp only
   refine wpAny_letOwnedTupleGo_enum heo λ h₂ he₂ hs₂=>?_
   have hel:e<s.heap.objs.size:=Heap.lt_size he
   have ht₂:h₂.get? s.heap.objs.size=some { cls:=.type "tuple",data:=.seq #[.int i s.toks,v] }:=hs₂.extBut _ _ (Nat.ne_of_gt hel) ht₁
   have hk:∀ c o,c∉[e,it]->s.heap.get? c=some o->h₂.get? c=some o:=λ c o hc q=>by
    simp at hc
    exact hs₂.extBut c o hc.1 (hk₁ c o hc.1 hc.2 q)
   have hit₂:=hit₁.extBut hs₂.extBut (Ne.symm hne)
   obtain ⟨oi,hoi,hci⟩:=id hit₂
   have hdm:∀ a∈[e,it],h₂.get? a≠none:=by simp [he₂,hoi]
   have S:Step B [e,it] α s.heap α h₂:=Step.updOwn hk hdm
   have rv₂:=rv.step S hO.exOk
   refine hQ _ h₂ (s.toks+1) S (W.updOwn hO hk hdm) ⟨i+1,v,hne,?_,hit₂,by rw [e2],x.mov (S.mov hO.exOk)⟩ ?_
   ·have:(((i+1:Nat):Int))=(i:Int)+1:=by push_cast;rfl
    rw [this];exact he₂
   ·exact ⟨_,[.int i s.toks,v],rfl,W.frzSize,⟨_,ht₂,rfl,0,rfl⟩,RelL.cons (rel_int _ _) (RelL.one rv₂)⟩
 self:=λ {rem A α s Q E} ⟨i,old,_,he,_⟩ h=>wpAny_pyIter_enum he h
noncomputable def zipL:List AV->List AV->List AV
 | x::l,y::r=>.tup [x,y]::zipL l r
 | _,_=>[]
noncomputable def PZip (B:BC) (l1 l2 z TI TO i1 i2:Addr) (xs ys:List AV) (rem:List AV) (α:Lbl) (h:Heap):Prop:=
 ZipApart z TI TO i1 i2 l1 l2/\∃ k,IsZip h z TI TO .none/\IsPair h TI (.ref i1) (.ref i2)/\(∃ a b,IsPair h TO a b)/\h.IsListIter i1 l1 k/\h.IsListIter i2 l2 k/\rem=zipL (xs.drop k) (ys.drop k)/\FLst B α h l1 xs/\FLst B α h l2 ys
set_option tactic.hygienic true in
theorem iterZip {elts:List Expr} {x1} {pos:Pos} (l1 l2 z TI TO i1 i2:Addr) (xs ys:List AV):Iter B false (PZip B l1 l2 z TI TO i1 i2 xs ys) [z,TI,TO,i1,i2] z (.Tuple elts x1 pos) where
 step:=λ {ex rem α h α' h' σ fs} ⟨D,k,hz,hTI,⟨a,b,hTO⟩,⟨o1,ho1,hc1⟩,⟨o2,ho2,hc2⟩,e,x1,x2⟩ hO hn hx W S=>
  ⟨D,k,hO.keep W S (a:=z) (by simp) (hn _ (by simp)) hz,hO.keep W S (a:=TI) (by simp) (hn _ (by simp)) hTI,⟨a,b,hO.keep W S (a:=TO) (by simp) (hn _ (by simp)) hTO⟩,
   ⟨o1,hO.keep W S (a:=i1) (by simp) (hn _ (by simp)) ho1,hc1⟩,⟨o2,hO.keep W S (a:=i2) (by simp) (hn _ (by simp)) ho2,hc2⟩,e,x1.mov (S.mov hx),x2.mov (S.mov hx)⟩
 next:=λ {rem A fs α σ s Q E} hh ⟨D,k,hz,hTI,⟨a,b,hTO⟩,hi1,hi2,e,y1,y2⟩ hO W hQ=>by
  obtain ⟨us,hf1,hp1,r1⟩:=id y1
  obtain ⟨vs,hf2,hp2,r2⟩:=id y2
  have hl1:=hp1.isList
  have hl2:=hp2.isList
  have hI:∀ (h':Heap),(∀ c o,c≠z->c≠TO->c≠i1->c≠i2->s.heap.get? c=some o->h'.get? c=some o)->∀ c o,c∉[z,TI,TO,i1,i2]->s.heap.get? c=some o->h'.get? c=some o:=λ h' hk c o hc q=>by
   simp at hc
   exact hk c o hc.1 hc.2.2.1 hc.2.2.2.1 hc.2.2.2.2 q
  cases hd1:xs.drop k with
  | nil=>
   rw [hd1] at e
   cases e
   exact wpAny_pyNext_zip_end hh D hz hTI hTO hi1 hi2 hl1 hl2 (.inl (none_of_len r1 (drop_nil hd1.symm))) λ h' hk=>hQ h' (hI h' hk)
  | cons x xr=>
   cases hd2:ys.drop k with
   | nil=>
    rw [hd1,hd2] at e
    cases e
    exact wpAny_pyNext_zip_end hh D hz hTI hTO hi1 hi2 hl1 hl2 (.inr (none_of_len r2 (drop_nil hd2.symm))) λ h' hk=>hQ h' (hI h' hk)
   | cons y yr=>
    rw [hd1,hd2] at e
    cases e
    obtain ⟨e1,e2⟩:=drop_cons hd1.symm
    obtain ⟨e3,e4⟩:=drop_cons hd2.symm
    obtain ⟨u,hu,ru⟩:=some_of_rel r1 e1
    obtain ⟨v,hv,rv⟩:=some_of_rel r2 e3
    refine wpAny_pyNext_zip_item D hz hTI hTO hi1 hi2 hl1 hl2 hu hv λ h₁ hz₁ hTO₁ hi1' hi2' hp hsz hk₁=>?_
    dsimp only
    refine wpAny_letOwnedTupleGo_zip hz₁ λ h₂ hz₂ hs₂=>?_
    have hel:z<s.heap.objs.size:=Heap.lt_size hz
    have ht₂:IsPair h₂ s.heap.objs.size u v:=hs₂.extBut _ _ (Nat.ne_of_gt hel) hp
    have hTO₂:IsPair h₂ TO u v:=hs₂.extBut _ _ D.TOz hTO₁
    have hTI₂:IsPair h₂ TI (.ref i1) (.ref i2):=hs₂.extBut _ _ D.TIz (hk₁ TI _ D.TIz D.TITO D.TIi1 D.TIi2 hTI)
    have a1:=hi1'.extBut hs₂.extBut D.i1z
    have a2:=hi2'.extBut hs₂.extBut D.i2z
    have hk:∀ c o,c∉[z,TI,TO,i1,i2]->s.heap.get? c=some o->h₂.get? c=some o:=λ c o hc q=>hs₂.extBut c o (by simp at hc;exact hc.1) (hI h₁ hk₁ c o hc q)
    obtain ⟨o1,ho1,hc1⟩:=id a1
    obtain ⟨o2,ho2,hc2⟩:=id a2
    have hdm:∀ a∈[z,TI,TO,i1,i2],h₂.get? a≠none:=by simp [hz₂,hTI₂,hTO₂,ho1,ho2]
    have S:Step B [z,TI,TO,i1,i2] α s.heap α h₂:=Step.updOwn hk hdm
    refine hQ _ h₂ s.toks S (W.updOwn hO hk hdm) ⟨D,k+1,hz₂,hTI₂,⟨_,_,hTO₂⟩,a1,a2,by rw [e2,e4],y1.mov (S.mov hO.exOk),y2.mov (S.mov hO.exOk)⟩ ?_
    exact ⟨_,[u,v],rfl,W.frzSize,⟨_,ht₂,rfl,0,rfl⟩,RelL.cons (ru.step S hO.exOk) (RelL.one (rv.step S hO.exOk))⟩
 self:=λ {rem A α s Q E} ⟨D,k,hz,_⟩ h=>wpAny_pyIter_zip hz h
end
end
section
inductive TgP where
 | one (t:Tg)
 | many (ts:List Tg)
noncomputable def bndP:TgP->AV->Option (List (Tg×AV))
 | .one t,v=>some [(t,v)]
 | .many ts,.tup l=>if ts.length=l.length then some (ts.zip l) else none
 | .many _,_=>none
noncomputable def TgsOk (κ:Sc):List Expr->List Tg->Prop
 | [],[]=>True
 | e::es,t::ts=>(∃ x p,e=.Name x p/\TgOk κ x t)/\TgsOk κ es ts
 | _,_=>False
noncomputable def TgPOk (κ:Sc) (e:Expr):TgP->Prop
 | .one t=>∃ x p,e=.Name x p/\TgOk κ x t
 | .many ts=>∃ es n p,e=.Tuple es n p/\TgsOk κ es ts
section
variable {B:BC} {ex I:List Addr} {α α' α₁ α₂:Lbl} {s s' s₁ s₂:Shared} {σ σ' σ₁ σ₂:St} {fs:List Env} {A:Around} {κ:Sc} {k:Nat} {h₀ h h' h₁:Heap} {prog:Program} {w:World}
theorem TgsOk.each {κ:Sc} {env:Env}:∀ {es:List Expr} {ts:List Tg},TgsOk κ es ts->(assignEach es env)=es.map (λ e=>(false,assign e env))/\es.length=ts.length
 | [],[],_=>⟨rfl,rfl⟩
 | e::es,t::ts,⟨⟨x,p,he,_⟩,r⟩=>by
  obtain ⟨a,b⟩:=TgsOk.each (env:=env) r
  subst he
  refine ⟨?_,by simp [b]⟩
  show (false,assign (.Name x p) env)::assignEach es env=_
  rw [a];rfl
 | [],_::_,h=>h.elim
 | _::_,[],h=>h.elim
set_option tactic.hygienic true in
theorem Amb.next {env:Env} {fr:AFr} (amb:Amb A fs k fr.hnd) (F:FrOk B κ fr env α h) (hn:fr.hnd≠ .any):HndR A h:=by
 have h1:=amb.handled
 cases q:fr.hnd with
 | no=>rw [q] at h1;exact .inl h1
 | any=>exact absurd q hn
 | exc a=>
  rw [q] at h1
  obtain ⟨⟨_,_,o,vs,e1,e2,e3,_⟩,_⟩:=F.handled a q
  exact .inr ⟨a,o,vs,h1,e1,e2,e3⟩
theorem Amb.no {fr:AFr} (amb:Amb A fs k fr.hnd) (hn:fr.hnd=.no):A.handled=none:=by
 have h1:=amb.handled
 rw [hn] at h1;exact h1
theorem assignL_ok {env:Env}:∀ {es:List Expr} {ts:List Tg} {l:List AV} {vs:List Value} {fr:AFr} {α:Lbl} {σ:St} {s:Shared},TgsOk κ es ts->ts.length=l.length->Wd B α σ fs s.heap->FrOk B κ fr env α s.heap->RelL B α s.heap l vs->
  ∀ {Q:Unit->Shared->Prop} {E:Value->Shared->Prop},
  (∀ h' tk,Step B [env.locals] α s.heap α h'->Wd B α (bindA (ts.zip l) fr σ).2 fs h'->FrOk B κ (bindA (ts.zip l) fr σ).1 env α h'->Q () { s with heap:=h',toks:=tk })->
  wpAny (model B.prog B.w) A (assignInOrder (es.map λ e=>assign e env) vs) Q E s
 | [],[],l,vs,fr,α,σ,s,_,_,W,F,r,Q,E,h=>by
  show wpAny _ _ (pure ()) _ _ _
  exact wpAny_pure (h s.heap s.toks (Step.refl _ _ _ _) W F)
 | e::es,t::ts,[],vs,fr,α,σ,s,_,hl,W,F,r,Q,E,h=>by simp at hl
 | e::es,t::ts,a::l,vs,fr,α,σ,s,⟨⟨x,p,he,ht⟩,hr⟩,hl,W,F,r,Q,E,h=>by
  obtain ⟨v,vs',rfl,r1,r2⟩:=r
  subst he
  show wpAny _ _ (do holding vs' (assign (.Name x p) env v);assignInOrder (es.map λ e=>assign e env) vs') _ _ _
  refine wpAny_bind (wpAny_holding (wpAny_assign_Name (store_ok ht W F r1 λ h₁ tk₁ S₁ W₁ F₁=>?_)))
  refine assignL_ok (s:={ s with heap:=h₁,toks:=tk₁ }) hr (by simpa using hl) W₁ F₁ (r2.step S₁ (ExOk.one F.here)) λ h₂ tk₂ S₂ W₂ F₂=>?_
  exact h h₂ tk₂ (S₁.trans S₂) W₂ F₂
 | [],_::_,_,_,_,_,_,_,ht,_,_,_,_,_,_,_=>ht.elim
 | _::_,[],_,_,_,_,_,_,ht,_,_,_,_,_,_,_=>ht.elim
set_option tactic.hygienic true in
theorem assign_ok {tgt:Expr} {p:TgP} {env:Env} {fr:AFr} {av:AV} {v:Value} {b:List (Tg×AV)} (ht:TgPOk κ tgt p) (hb:bndP p av=some b) (amb:Amb A fs k fr.hnd) (hn:fr.hnd≠ .any\/∃ t,p=.one t)
  (W:Wd B α σ fs s.heap) (F:FrOk B κ fr env α s.heap) (r:Rel B α s.heap av v) {Q:Unit->Shared->Prop} {E:Value->Shared->Prop}
  (h:∀ h' tk,Step B [env.locals] α s.heap α h'->Wd B α (bindA b fr σ).2 fs h'->FrOk B κ (bindA b fr σ).1 env α h'->Q () { s with heap:=h',toks:=tk }):wpAny (model B.prog B.w) A (assign tgt env v) Q E s:=by
 cases p with
 | one t=>
  obtain ⟨x,p,rfl,ht⟩:=ht
  cases hb
  exact wpAny_assign_Name (store_ok ht W F r h)
 | many ts=>
  obtain ⟨es,n,p,rfl,ht⟩:=ht
  cases av<;>simp only [bndP,reduceCtorEq] at hb
  rename_i l
  split at hb
  ·rename_i hlen
   cases hb
   obtain ⟨a,vs,rfl,hf,⟨o,ho,hc,m,hd⟩,hr⟩:=rel_tup_inv r
   obtain ⟨e1,e2⟩:=TgsOk.each (env:=env) ht
   have hnd:HndR A s.heap:=amb.next F (by rcases hn with hn | ⟨t,hn⟩;exact hn;cases hn)
   have hvl:=hr.length
   have hfi:∀ l:List Expr,(l.map λ e=>((false,assign e env):Bool×(Value->Sem Unit))).findIdx? (·.1)=none:=λ l=>by simp
   refine assignT hnd (items:=vs.toArray) ⟨o,ho,hc,m,hd⟩ (by rw [e1];simp;lia) (by rw [e1];exact hfi es) λ h₁ hfull=>?_
   rw [e1,List.map_map]
   have W₁:=W.full hfull
   refine assignL_ok (s:={ s with heap:=h₁ }) ht hlen W₁ (F.full hfull W) (hr.full hfull) λ h₂ tk S₂ W₂ F₂=>?_
   exact h h₂ tk ((Step.full hfull).trans S₂) W₂ F₂
  ·cases hb
theorem bindA_fr (b:List (Tg×AV)) (fr:AFr) (σ:St):(bindA b fr σ).1={ fr with ρ:=(bindA b fr σ).1.ρ }:=by
 have:=bindA_hnd b fr σ
 rcases h:(bindA b fr σ).1 with ⟨r,c,d⟩
 rw [h] at this
 obtain ⟨rfl,rfl⟩:=this
 rfl
noncomputable def S.setP (p:TgP) (f:PE):PS:=λ fr σ N R Bk X=>(fr.hnd≠ .any)/\f fr σ (λ a σ'=>∃ b,bndP p a=some b/\N (bindA b fr σ').1.ρ (bindA b fr σ').2) X
theorem J1.setP {es:List Expr} {n:Nat} {tp:Pos} {e:Expr} {pos:Pos} {p:TgP} {f:PE} (je:JE B κ k e f) (ht:TgPOk κ (.Tuple es n tp) p) (hs:∀ env:Env,env.scope=κ.scope->swapsWithSole [.Tuple es n tp] e pos.line env=pure false)
  (hw:∀ env:Env,env.scope=κ.scope->swappedStores [.Tuple es n tp] e env=pure none):J1 B κ k (.Assign [.Tuple es n tp] e pos) (S.setP p f):=λ A fs env fr α σ N R Bk X s amb W F G hf=>by
 refine Assign_Tuple (je.use amb W F hf.2 (λ v s₁ α₁ σ₁ a S₁ W₁ r₁ h₁ F₁=>?_) λ z z p=>p.wide) (hs env F.scope) (hw env F.scope)
 obtain ⟨b,hb,hN⟩:=h₁
 refine assign_ok ht hb amb (.inl hf.1) W₁ F₁ r₁ λ h' tk S' W' F'=>?_
 rw [bindA_fr] at F'
 exact ⟨α₁,_,S₁.wide.trans (SStep.of S'),W',_,F',hN⟩
noncomputable def S.setW (ts:List Tg) (f:PE):PS:=λ fr σ N R Bk X=>(fr.hnd≠ .any)/\f fr σ (λ a σ'=>∃ l,a=.tup l/\ts.length=l.length/\N (bindA (ts.reverse.zip l.reverse) fr σ').1.ρ (bindA (ts.reverse.zip l.reverse) fr σ').2) X
noncomputable def NmsOk (κ:Sc):List Str->List Tg->Prop
 | [],[]=>True
 | x::xs,t::ts=>TgOk κ x t/\NmsOk κ xs ts
 | _,_=>False
theorem bindL_ok {env:Env}:∀ {xs:List Str} {ts:List Tg} {l:List AV} {vs:List Value} {fr:AFr} {α:Lbl} {σ:St} {s:Shared},NmsOk κ xs ts->ts.length=l.length->Wd B α σ fs s.heap->FrOk B κ fr env α s.heap->RelL B α s.heap l vs->
  ∀ {Q:Unit->Shared->Prop} {E:Value->Shared->Prop},
  (∀ h' tk,Step B [env.locals] α s.heap α h'->Wd B α (bindA (ts.zip l) fr σ).2 fs h'->FrOk B κ (bindA (ts.zip l) fr σ).1 env α h'->Q () { s with heap:=h',toks:=tk })->
  wpAny (model B.prog B.w) A (assignInOrder (xs.map λ x=>bindName env x) vs) Q E s
 | [],[],l,vs,fr,α,σ,s,_,_,W,F,r,Q,E,h=>by
  show wpAny _ _ (pure ()) _ _ _
  exact wpAny_pure (h s.heap s.toks (Step.refl _ _ _ _) W F)
 | x::xs,t::ts,[],vs,fr,α,σ,s,_,hl,W,F,r,Q,E,h=>by simp at hl
 | x::xs,t::ts,a::l,vs,fr,α,σ,s,⟨ht,hr⟩,hl,W,F,r,Q,E,h=>by
  obtain ⟨v,vs',rfl,r1,r2⟩:=r
  show wpAny _ _ (do holding vs' (bindName env x v);assignInOrder (xs.map λ x=>bindName env x) vs') _ _ _
  refine wpAny_bind (wpAny_holding (bindName_ (store_ok ht W F r1 λ h₁ tk₁ S₁ W₁ F₁=>?_)))
  refine bindL_ok (s:={ s with heap:=h₁,toks:=tk₁ }) hr (by simpa using hl) W₁ F₁ (r2.step S₁ (ExOk.one F.here)) λ h₂ tk₂ S₂ W₂ F₂=>?_
  exact h h₂ tk₂ (S₁.trans S₂) W₂ F₂
 | [],_::_,_,_,_,_,_,_,ht,_,_,_,_,_,_,_=>ht.elim
 | _::_,[],_,_,_,_,_,_,ht,_,_,_,_,_,_,_=>ht.elim
set_option tactic.hygienic true in
theorem J1.setW {es:List Expr} {n:Nat} {tp:Pos} {e:Expr} {pos:Pos} {xs:List Str} {ts:List Tg} {f:PE} (je:JE B κ k e f) (ht:NmsOk κ xs.reverse ts.reverse) (hl:xs.length=ts.length) (hs:∀ env:Env,env.scope=κ.scope->swapsWithSole [.Tuple es n tp] e pos.line env=pure false)
  (hw:∀ env:Env,env.scope=κ.scope->swappedStores [.Tuple es n tp] e env=pure (some xs)):J1 B κ k (.Assign [.Tuple es n tp] e pos) (S.setW ts f):=λ A fs env fr α σ N R Bk X s amb W F G hf=>by
 refine Assign_Tuple_swapped (je.use amb W F hf.2 (λ v s₁ α₁ σ₁ a S₁ W₁ r₁ h₁ F₁=>?_) λ z z p=>p.wide) (hs env F.scope) (hw env F.scope)
 obtain ⟨l,rfl,hlen,hN⟩:=h₁
 obtain ⟨a,vs,rfl,hf',⟨o,ho,hc,m,hd⟩,hr⟩:=rel_tup_inv r₁
 have hsz:xs.length=(vs.toArray).size:=by simp [hr.length];lia
 rw [hsz]
 refine unpackT (amb.next F₁ hf.1) (items:=vs.toArray) ⟨o,ho,hc,m,hd⟩ λ h₁ hfull=>?_
 have W₂:=W₁.full (h':=h₁) hfull
 refine bindL_ok (l:=l.reverse) (s:={ s₁ with heap:=h₁ }) ht (by simp;lia) W₂ (F₁.full hfull W₁) (by simpa using (hr.full hfull).reverse) λ h₂ tk S₂ W₃ F₂=>?_
 rw [bindA_fr] at F₂
 exact ⟨α₁,_,S₁.wide.trans (SStep.of ((Step.full hfull).trans S₂)),W₃,_,F₂,hN⟩
theorem Wd.frz (W:Wd B α σ fs h) {n:Nat} {a:Addr} {l:List AV} (hl:α.lab[n]?=some (.obj a)) (hs:σ[n]?=some (.lst l)):
  Step B ex α h ⟨α.lab.set n .dead,α.hid⟩ h/\Wd B ⟨α.lab.set n .dead,α.hid⟩ (σ.set n .gone) fs h/\Rel B ⟨α.lab.set n .dead,α.hid⟩ h (.lst l) (.ref a):=by
 have hn:n<α.lab.length:=(List.getElem?_eq_some_iff.mp hl).1
 have ha:adr α n=some a:=by rw [adr_of_get hl];rfl
 have had:∀ m b,adr ⟨α.lab.set n .dead,α.hid⟩ m=some b->adr α m=some b/\m≠n:=λ m b e=>by
  unfold adr at e ⊢
  by_cases hm:m=n
  ·subst hm
   have:(α.lab.set m Lb.dead)[m]?=some .dead:=by rw [List.getElem?_set_self hn]
   rw [show (⟨α.lab.set m .dead,α.hid⟩:Lbl).lab[m]?=some .dead from this] at e
   cases e
  ·have:(α.lab.set n Lb.dead)[m]?=α.lab[m]?:=List.getElem?_set_ne (Ne.symm hm)
   rw [show (⟨α.lab.set n .dead,α.hid⟩:Lbl).lab[m]?=α.lab[m]? from this] at e
   exact ⟨e,hm⟩
 have hlab:∀ b,Lab ⟨α.lab.set n .dead,α.hid⟩ b->Lab α b:=λ b ⟨m,e⟩=>⟨m,(had m b e).1⟩
 have hliv:∀ b,Liv ⟨α.lab.set n .dead,α.hid⟩ b->Liv α b:=λ b x=>x.imp (hlab b) id
 have S:∀ ex,Step B ex α h ⟨α.lab.set n .dead,α.hid⟩ h:=λ ex=>{
  keep:=λ b o z z z z e=>⟨o.slots,e,λ z=>rfl⟩
  dom:=λ z e=>e
  ext:=by simp
  old:=λ m hm=>by
   by_cases hmn:m=n
   ·subst hmn
    exact .inr ⟨⟨a,hl⟩,by rw [List.getElem?_set_self hn]⟩
   ·exact .inl (List.getElem?_set_ne (Ne.symm hmn))
  new:=λ m b hm e=>absurd (adr_lt (had m b e).1) (Nat.not_lt.mpr hm)
  hidOld:=λ z e=>e
  hidNew:=λ z e=>.inl e }
 have hna:¬ Liv ⟨α.lab.set n .dead,α.hid⟩ a:=λ x=>by
  rcases x with ⟨m,e⟩ | x
  ·obtain ⟨e1,e2⟩:=had m a e
   exact e2 (W.inj m n a e1 ha)
  ·exact W.alone a x ⟨n,ha⟩
 obtain ⟨vs,hp,hr⟩:=W.objs n _ _ hs hl
 refine ⟨S ex,⟨W.stays,by simp [W.len],λ m ao lb e1 e2=>?_,λ i j b e1 e2=>W.inj i j b (had i b e1).1 (had j b e2).1,λ b x y=>W.alone b x (hlab b y),λ b x=>W.apart b (hliv b x),λ b x=>W.there b (hliv b x),λ q hq=>(W.tabs q hq).mov ((S []).mov ExOk.nil) λ z e=>e,W.frames.step (S []) (λ z z z z q=>nomatch q) W.hidTab W.alone⟩,?_⟩
 ·by_cases hm:m=n
  ·subst hm
   rw [List.getElem?_set_self (W.len▸hn)] at e1
   rw [List.getElem?_set_self hn] at e2
   cases e1;cases e2
   trivial
  ·rw [List.getElem?_set_ne (Ne.symm hm)] at e1 e2
   exact ORel.stay (S []) ExOk.nil (λ z z z e=>e) (W.objs m ao lb e1 e2)
 ·exact ⟨a,vs,rfl,⟨hna,(W.apart a (.inl ⟨n,ha⟩)).2⟩,hp,hr.step (S []) ExOk.nil⟩
noncomputable def frzK (K:PK):PK:=λ a σ=>match a with
 | .loc n=>∃ l,σ[n]?=some (.lst l)/\K (.lst l) (σ.set n .gone)
 | a=>K a σ
noncomputable def E.frz (f:PE):PE:=λ fr σ K X=>f fr σ (frzK K) X
theorem frz_post {K:PK} {v:Value} (p:PostV B ex α fs s (frzK K) v s'):PostV B ex α fs s K v s':=by
 obtain ⟨α',σ',av,S,W,r,hk⟩:=p
 cases av with
 | loc n=>
  obtain ⟨l,hs,hk⟩:=hk
  obtain ⟨a,rfl,r⟩:=r
  rcases r with r | r
  ·obtain ⟨S',W',r'⟩:=Wd.frz (ex:=ex) W r hs
   exact ⟨_,_,.lst l,⟨S.1,S.2.trans S'⟩,W',r',hk⟩
  ·have:=W.objs n _ _ hs r
   exact this.elim
 | _=>exact ⟨α',σ',_,S,W,r,hk⟩
theorem JE.frz {e:Expr} {f:PE} (je:JE B κ k e f):JE B κ k e (E.frz f):=λ A fs env fr α σ K X s amb W F hf=>
 wpAny_mono (je A fs env fr α σ (frzK K) X s amb W F hf) (λ v s' p=>frz_post p) λ z z p=>p
end
end
section
section
variable (B:BC)
inductive PostI (tgt:Expr) (hk:HK) (α:Lbl) (fs:List Env) (s:Shared) (K:PKL) (it:Value) (s':Shared):Prop
 | mk (α':Lbl) (σ':St) (rem:List AV) (I:List Addr) (a:Addr) (P:List AV->Lbl->Heap->Prop) (b:Bool) (z:it=.ref a) (z:SStep B [] α s α' s') (z:Wd B α' σ' fs s'.heap) (z:Own α' I) (z:∀ a∈I,s.heap.get? a=none) (z:P rem α' s'.heap) (z:Iter B b P I a tgt) (z:hk=.no\/(b=true/\hk≠ .any)) (z:K rem σ')
noncomputable def JI (κ:Sc) (k:Nat) (e tgt:Expr) (f:PL):Prop:=
 ∀ (A:Around) (fs:List Env) (env:Env) (fr:AFr) (α:Lbl) (σ:St) (K:PKL) (X:PX) (s:Shared),
  Amb A fs k fr.hnd->Wd B α σ fs s.heap->FrOk B κ fr env α s.heap->f fr σ K X->
  wpAny (model B.prog B.w) A (eval e env) (λ x s₁=>wpAny (model B.prog B.w) A (pyIter x) (PostI B tgt fr.hnd α fs s K) (PostX B [] α fs s X) s₁) (PostX B [] α fs s X) s
end
section
variable {B:BC} {ex I:List Addr} {α α' α₁ α₂:Lbl} {s s' s₁ s₂:Shared} {σ σ' σ₁ σ₂:St} {fs:List Env} {A:Around} {κ:Sc} {k:Nat} {h₀ h h' h₁:Heap} {prog:Program} {w:World}
theorem PostI.make {tgt:Expr} {hk:HK} {K:PKL} {h':Heap} {tk:Nat} {a:Addr} {P:List AV->Lbl->Heap->Prop} {rem:List AV} {b:Bool} (S:SStep B [] α s α₁ s₁) (W:Wd B α₁ σ₁ fs s₁.heap) (k:Full s₁.heap h')
  (hn:∀ a∈I,s₁.heap.get? a=none) (ht:∀ a∈I,h'.get? a≠none) (hI:Iter B b P I a tgt) (hb:hk=.no\/(b=true/\hk≠ .any)) (hP:P rem (α₁.hides I) h') (hK:K rem σ₁):
  PostI B tgt hk α fs s K (.ref a) { s₁ with heap:=h',toks:=tk }:=
 ⟨α₁.hides I,σ₁,rem,I,a,P,b,rfl,S.trans (SStep.of (Step.newHids k hn)),W.newHids k hn ht,Own.hides W hn,λ a ha=>none_of_dom S.2.dom (hn a ha),hP,hI,hb,hK⟩
theorem size_none (h:Heap):h.get? h.objs.size=none:=Heap.get?_none_of_le (Nat.le_refl _)
theorem size_none1 (h:Heap) (n:Nat):h.get? (h.objs.size+n)=none:=Heap.get?_none_of_le (Nat.le_add_right _ _)
theorem FLst.of (r:Rel B α h (.lst l) (.ref a)):FLst B α h a l:=by
 obtain ⟨a',vs,e,x⟩:=r
 cases e
 exact ⟨vs,x⟩
theorem FTup.of (r:Rel B α h (.tup l) (.ref a)):FTup B α h a l:=by
 obtain ⟨a',vs,e,x⟩:=r
 cases e
 exact ⟨vs,x⟩
theorem Rel.ref_lst {l:List AV} {v:Value} (r:Rel B α h (.lst l) v):∃ a,v=.ref a:=by obtain ⟨a,_,e,_⟩:=r;exact ⟨a,e⟩
theorem Rel.ref_tup {l:List AV} {v:Value} (r:Rel B α h (.tup l) v):∃ a,v=.ref a:=by obtain ⟨a,_,e,_⟩:=r;exact ⟨a,e⟩
theorem Step.hidesOn (W:Wd B α σ fs h) (k:Full h h') (hn:∀ a∈I,h.get? a=none):Mov B α h (α.hides I) h':=(Step.newHids (B:=B) (ex:=[]) k hn).mov ExOk.nil
noncomputable def Y.lst (f:PE):PL:=λ fr σ K X=>fr.hnd=.no/\f fr σ (λ a σ'=>∃ l,a=.lst l/\K l σ') X
noncomputable def Y.tup (f:PE):PL:=λ fr σ K X=>fr.hnd=.no/\f fr σ (λ a σ'=>∃ l,a=.tup l/\K l σ') X
theorem iter_lst {tgt:Expr} {hk:HK} {K:PKL} {l:List AV} {v:Value} {E:Value->Shared->Prop} (ht:∀ it v,letOwnedTupleGo tgt it v=pure ()) (hh:hk=.no) (S:SStep B [] α s α₁ s₁) (W:Wd B α₁ σ₁ fs s₁.heap) (r:Rel B α₁ s₁.heap (.lst l) v) (hK:K l σ₁):
  wpAny (model B.prog B.w) A (pyIter v) (PostI B tgt hk α fs s K) E s₁:=by
 obtain ⟨a,rfl⟩:=r.ref_lst
 have x:=FLst.of r
 obtain ⟨vs,_,hp,_⟩:=id x
 refine wpAny_pyIter_list hp.isList ?_
 have hn:∀ b∈[s₁.heap.objs.size],s₁.heap.get? b=none:=by simp [size_none]
 have hI:Heap.get? (s₁.heap.push { cls:=.type "list_iterator",data:=.fields #[.ref a,.int 0 0] }) s₁.heap.objs.size=some _:=Heap.get?_push_size _ rfl
 exact PostI.make (tk:=s₁.toks) S W (Full.push _ _) hn (by simp [hI]) (iterList ht a _ l) (.inl hh) ⟨0,⟨_,hI,rfl,rfl⟩,by simp,x.mov (Step.hidesOn W (Full.push _ _) hn)⟩ hK
theorem iter_tup {tgt:Expr} {hk:HK} {K:PKL} {l:List AV} {v:Value} {E:Value->Shared->Prop} (ht:∀ it v,letOwnedTupleGo tgt it v=pure ()) (hh:hk=.no) (S:SStep B [] α s α₁ s₁) (W:Wd B α₁ σ₁ fs s₁.heap) (r:Rel B α₁ s₁.heap (.tup l) v) (hK:K l σ₁):
  wpAny (model B.prog B.w) A (pyIter v) (PostI B tgt hk α fs s K) E s₁:=by
 obtain ⟨a,rfl⟩:=r.ref_tup
 have x:=FTup.of r
 obtain ⟨vs,_,⟨o,ho,hc,n,hd⟩,_⟩:=id x
 refine wpAny_pyIter_tuple ⟨o,ho,hc,n,hd⟩ ?_
 have hn:∀ b∈[s₁.heap.objs.size],s₁.heap.get? b=none:=by simp [size_none]
 have hI:Heap.get? (s₁.heap.push { cls:=.type "tuple_iterator",data:=.fields #[.ref a,.int 0 0] }) s₁.heap.objs.size=some _:=Heap.get?_push_size _ rfl
 exact PostI.make (tk:=s₁.toks) S W (Full.push _ _) hn (by simp [hI]) (iterTup ht a _ l) (.inl hh) ⟨0,⟨_,hI,rfl,rfl⟩,by simp,x.mov (Step.hidesOn W (Full.push _ _) hn)⟩ hK
theorem JI.lst {e tgt:Expr} {f:PE} (je:JE B κ k e f) (ht:∀ it v,letOwnedTupleGo tgt it v=pure ()):JI B κ k e tgt (Y.lst f):=λ A fs env fr α σ K X s amb W F hf=>by
 refine je.use amb W F hf.2 (λ v s₁ α₁ σ₁ a S₁ W₁ r₁ h₁ F₁=>?_) λ z z p=>p
 obtain ⟨l,rfl,hK⟩:=h₁
 exact iter_lst ht hf.1 S₁ W₁ r₁ hK
theorem JI.tup {e tgt:Expr} {f:PE} (je:JE B κ k e f) (ht:∀ it v,letOwnedTupleGo tgt it v=pure ()):JI B κ k e tgt (Y.tup f):=λ A fs env fr α σ K X s amb W F hf=>by
 refine je.use amb W F hf.2 (λ v s₁ α₁ σ₁ a S₁ W₁ r₁ h₁ F₁=>?_) λ z z p=>p
 obtain ⟨l,rfl,hK⟩:=h₁
 exact iter_tup ht hf.1 S₁ W₁ r₁ hK
noncomputable def Y.str (x:Str):PL:=λ fr σ K X=>fr.hnd=.no/\K (signL x.cps.toList) σ
theorem JI.str {x:Str} {n pos} {tgt:Expr} (ha:x.cps.all (·<128)=true) (ht:∀ it v,letOwnedTupleGo tgt it v=pure ()):JI B κ k (.Constant (.str x) n pos) tgt (Y.str x):=λ A fs env fr α σ K X s amb W F hf=>by
 refine wpAny_Constant_str ?_
 refine wpAny_pyIter_ascii ha ?_
 have hn:∀ b∈[s.heap.objs.size],s.heap.get? b=none:=by simp [size_none]
 have hI:Heap.get? (s.heap.push { cls:=.type "str_ascii_iterator",data:=.fields #[.str x s.toks,.int 0 0] }) s.heap.objs.size=some _:=Heap.get?_push_size _ rfl
 exact PostI.make (s₁:={ s with toks:=s.toks+1 }) (tk:=s.toks+1) (SStep.full (Full.refl _)) W (Full.push _ _) hn (by simp [hI]) (iterStr ht _ x s.toks) (.inl hf.1) ⟨0,⟨_,hI,rfl,rfl⟩,by simp⟩ hf.2
theorem callT_use {x:Str} {T:String} {e:Expr} {rest:List Expr} {p pos:Pos} {f:PL} {env:Env} {fr:AFr} {K:PKL} {X:PX} {Q E:Value->Shared->Prop} (hl:κ.scope.names.lookup x=some .globalImplicit)
  (hd:(x==("__debug__":Str))=false) (hn:nsIn B.K mainGlobals x=some none) (hv:bootBuiltins x=some (.type T)) (hne:x≠"__name__") (jl:JL B κ k (e::rest) f)
  (he:starEach (e::rest) env=(false,eval e env)::starEach rest env) (hp:(backTo pos (starEach rest env)).any (·.1)=false) (amb:Amb A fs k fr.hnd) (W:Wd B α σ fs s.heap) (F:FrOk B κ fr env α s.heap) (hf:f fr σ K X)
  (h:∀ vs s₁ α₁ σ₁ l,SStep B [] α s α₁ s₁->Wd B α₁ σ₁ fs s₁.heap->RelL B α₁ s₁.heap l vs->l.length=(e::rest).length->K l σ₁->FrOk B κ fr env α₁ s₁.heap->wpAny (model B.prog B.w) A (call (.type T) vs) Q E s₁)
  (hE:∀ x s₁,PostX B [] α fs s X x s₁->E x s₁):wpAny (model B.prog B.w) A (eval (.Call (.Name x p) (e::rest) [] pos) env) Q E s:=
 wpAny_Call_NameR (builtin_value W F hl hd hn hv hne (PyProof.Rows.callWith_type1 (jl.use amb W F hf h hE) he hp))
theorem callB_use {x:Str} {T:String} {e:Expr} {rest:List Expr} {p pos:Pos} {f:PL} {env:Env} {fr:AFr} {K:PKL} {X:PX} {Q E:Value->Shared->Prop} (hl:κ.scope.names.lookup x=some .globalImplicit)
  (hd:(x==("__debug__":Str))=false) (hn:nsIn B.K mainGlobals x=some none) (hv:bootBuiltins x=some (.builtin T)) (hne:x≠"__name__") (jl:JL B κ k (e::rest) f)
  (he:starEach (e::rest) env=(false,eval e env)::starEach rest env) (hp:(backTo pos (starEach rest env)).any (·.1)=false) (amb:Amb A fs k fr.hnd) (W:Wd B α σ fs s.heap) (F:FrOk B κ fr env α s.heap) (hf:f fr σ K X)
  (h:∀ vs s₁ α₁ σ₁ l,SStep B [] α s α₁ s₁->Wd B α₁ σ₁ fs s₁.heap->RelL B α₁ s₁.heap l vs->l.length=(e::rest).length->K l σ₁->FrOk B κ fr env α₁ s₁.heap->wpAny (model B.prog B.w) A (call (.builtin T) vs) Q E s₁)
  (hE:∀ x s₁,PostX B [] α fs s X x s₁->E x s₁):wpAny (model B.prog B.w) A (eval (.Call (.Name x p) (e::rest) [] pos) env) Q E s:=
 wpAny_Call_NameR (builtin_value W F hl hd hn hv hne (PyProof.Rows.callWith_builtin1 (jl.use amb W F hf h hE) he hp))
noncomputable def rngSize (a b c:Int):Nat:=(Builtin.Range.rangeSize a b c).toNat
noncomputable def rngK (K:PKL) (σ:St) (a b c:Int):Prop:=Builtin.Range.small a b c=true/\0<=Builtin.Range.rangeSize a b c/\K (rangeL a c (rngSize a b c)) σ
noncomputable def rngS (K:PKL) (σ:St) (l:List AV):Prop:=match l with
 | [x]=>onInt (λ b=>rngK K σ 0 b 1) x
 | [x,y]=>onInt (λ a=>onInt (λ b=>rngK K σ a b 1) y) x
 | [x,y,z]=>onInt (λ a=>onInt (λ b=>onInt (λ c=>c≠0/\Builtin.divisionGoesByPylong (b - a) c=false/\rngK K σ a b c) z) y) x
 | _=>False
noncomputable def Y.rng (f:PL):PL:=λ fr σ K X=>fr.hnd=.no/\f fr σ (λ l σ'=>rngS K σ' l) X
theorem iter_rng {tgt:Expr} {hk:HK} {K:PKL} {a b c:Int} {t u v:Tok} {tk:Nat} {E:Value->Shared->Prop} (ht:∀ it v,letOwnedTupleGo tgt it v=pure ()) (hh:hk=.no) (S:SStep B [] α s α₁ s₁) (W:Wd B α₁ σ₁ fs s₁.heap)
  (hsm:Builtin.Range.small a b c=true) (hz:0<=Builtin.Range.rangeSize a b c) (hK:K (rangeL a c (rngSize a b c)) σ₁):
  wpAny (model B.prog B.w) A (pyIter (.ref s₁.heap.objs.size)) (PostI B tgt hk α fs s K) E { s₁ with heap:=s₁.heap.push { cls:=.type "range",data:=.fields #[.int a t,.int b u,.int c v] },toks:=tk }:=by
 have hr:IsRange (s₁.heap.push { cls:=.type "range",data:=.fields #[.int a t,.int b u,.int c v] }) s₁.heap.objs.size a b c t u v:=Heap.get?_push_size _ rfl
 refine wpAny_pyIter_range hr hsm ?_
 dsimp only
 generalize hH:(s₁.heap.push { cls:=.type "range",data:=.fields #[.int a t,.int b u,.int c v] })=H
 have k₁:Full s₁.heap H:=by rw [<- hH];exact Full.push _ _
 have hn:∀ b∈[H.objs.size],s₁.heap.get? b=none:=by
  simp only [List.mem_singleton,forall_eq]
  rw [<- hH,Heap.size_push];exact size_none1 _ 1
 have hI:IsRangeIter (H.push { cls:=.type "range_iterator",data:=.fields #[rawInt a,rawInt (Builtin.Range.rangeSize a b c),rawInt c] }) H.objs.size a (Builtin.Range.rangeSize a b c) c:=Heap.get?_push_size _ rfl
 refine PostI.make (s₁:=s₁) (tk:=tk) S W (k₁.trans (Full.push _ _)) hn (by simp [hI]) (iterRng ht _ c) (.inl hh) ⟨a,rngSize a b c,?_,rfl⟩ hK
 have e:((rngSize a b c:Nat):Int)=Builtin.Range.rangeSize a b c:=Int.toNat_of_nonneg hz
 rw [e];exact hI
theorem JI.rng {e tgt:Expr} {rest:List Expr} {p pos:Pos} {f:PL} (hl:κ.scope.names.lookup ("range":Str)=some .globalImplicit) (hn:nsIn B.K mainGlobals ("range":Str)=some none) (jl:JL B κ k (e::rest) f)
  (he:∀ env,starEach (e::rest) env=(false,eval e env)::starEach rest env) (hp:∀ env,(backTo pos (starEach rest env)).any (·.1)=false) (ht:∀ it v,letOwnedTupleGo tgt it v=pure ()):JI B κ k (.Call (.Name "range" p) (e::rest) [] pos) tgt (Y.rng f):=λ A fs env fr α σ K X s amb W F hf=>by
 refine callT_use (T:="range") hl (by decide) hn (by decide+kernel) (by decide) jl (he env) (hp env) amb W F hf.2 (λ vs s₁ α₁ σ₁ l S₁ W₁ r₁ hlen h₁ F₁=>?_) λ o o p=>p
 match l,h₁ with
 | [x],h₁=>
  obtain ⟨u,_,rfl,r,rfl⟩:=r₁
  exact onInt_elim (C:=λ u=>wpAny (model B.prog B.w) A (call (.type "range") [u]) _ _ s₁) r h₁ λ b t h=>call_range_1 (iter_rng ht hf.1 S₁ W₁ h.1 h.2.1 h.2.2)
 | [x,y],h₁=>
  obtain ⟨u,_,rfl,r,v,_,rfl,r',rfl⟩:=r₁
  exact onInt_elim (C:=λ u=>wpAny (model B.prog B.w) A (call (.type "range") [u,v]) _ _ s₁) r h₁ λ a t h=>onInt_elim (C:=λ v=>wpAny (model B.prog B.w) A (call (.type "range") [_,v]) _ _ s₁) r' h λ b t h=>call_range_2 (iter_rng ht hf.1 S₁ W₁ h.1 h.2.1 h.2.2)
 | [x,y,z],h₁=>
  obtain ⟨u,_,rfl,r,v,_,rfl,r',w,_,rfl,r'',rfl⟩:=r₁
  exact onInt_elim (C:=λ u=>wpAny (model B.prog B.w) A (call (.type "range") [u,v,w]) _ _ s₁) r h₁ λ a t h=>onInt_elim (C:=λ v=>wpAny (model B.prog B.w) A (call (.type "range") [_,v,w]) _ _ s₁) r' h λ b t h=>onInt_elim (C:=λ w=>wpAny (model B.prog B.w) A (call (.type "range") [_,_,w]) _ _ s₁) r'' h λ c t h=>call_range_3 h.1 (iter_rng ht hf.1 S₁ W₁ h.2.2.1 h.2.2.2.1 h.2.2.2.2) (.inl h.2.1)
noncomputable def Y.rev (f:PL):PL:=λ fr σ K X=>fr.hnd=.no/\f fr σ (λ l σ'=>a1 (onLst λ l=>K l.reverse σ') l) X
noncomputable def Y.enu (f:PL):PL:=λ fr σ K X=>fr.hnd≠ .any/\f fr σ (λ l σ'=>a1 (onLst λ l=>K (enumL 0 l) σ') l) X
noncomputable def Y.zip (f:PL):PL:=λ fr σ K X=>fr.hnd=.no/\f fr σ (λ l σ'=>a2 (λ x y=>onLst (λ l=>onLst (λ r=>K (zipL l r) σ') y) x) l) X
theorem JI.rev {e tgt:Expr} {p pos:Pos} {f:PL} (hl:κ.scope.names.lookup ("reversed":Str)=some .globalImplicit) (hn:nsIn B.K mainGlobals ("reversed":Str)=some none) (jl:JL B κ k [e] f)
  (he:∀ env,starEach [e] env=[(false,eval e env)]) (ht:∀ it v,letOwnedTupleGo tgt it v=pure ()):JI B κ k (.Call (.Name "reversed" p) [e] [] pos) tgt (Y.rev f):=λ A fs env fr α σ K X s amb W F hf=>by
 refine callT_use (T:="reversed") hl (by decide) hn (by decide+kernel) (by decide) jl (he env) rfl amb W F hf.2 (λ vs s₁ α₁ σ₁ l S₁ W₁ r₁ hlen h₁ F₁=>?_) λ z z p=>p
 refine a1_elim (C:=λ vs=>wpAny (model B.prog B.w) A (call (.type "reversed") vs) _ _ s₁) r₁ h₁ λ x v r h=>?_
 ·obtain ⟨l,rfl,hK⟩:=onLst_inv h
  obtain ⟨a,rfl⟩:=r.ref_lst
  have x:=FLst.of r
  obtain ⟨vs,hf',hp,hr⟩:=id x
  have hsz:(vs.toArray).size=l.length:=by simp [hr.length]
  refine call_reversed_list hp.isList ?_
  have hn:∀ b∈[s₁.heap.objs.size],s₁.heap.get? b=none:=by simp [size_none]
  have hI:Heap.IsRevIter (s₁.heap.push (revObj a (((vs.toArray).size:Int) - 1))) s₁.heap.objs.size a ((l.length:Int) - 1):=by rw [hsz];exact ⟨_,Heap.get?_push_size _ rfl,rfl,rfl⟩
  refine wpAny_pyIter_revIter hI ?_
  obtain ⟨oi,hoi,_⟩:=id hI
  exact PostI.make (tk:=s₁.toks) S₁ W₁ (Full.push _ _) hn (λ a ha=>by simp only [List.mem_singleton] at ha;subst ha;exact some_ne_none hoi) (iterRev ht a _ l) (.inl hf.1) ⟨l.length,hI,Nat.le_refl _,by simp,x.mov (Step.hidesOn W₁ (Full.push _ _) hn)⟩ hK
theorem JI.enu {e:Expr} {es:List Expr} {n tp} {p pos:Pos} {f:PL} (hl:κ.scope.names.lookup ("enumerate":Str)=some .globalImplicit) (hn:nsIn B.K mainGlobals ("enumerate":Str)=some none) (jl:JL B κ k [e] f)
  (he:∀ env,starEach [e] env=[(false,eval e env)]):JI B κ k (.Call (.Name "enumerate" p) [e] [] pos) (.Tuple es n tp) (Y.enu f):=λ A fs env fr α σ K X s amb W F hf=>by
 refine callT_use (T:="enumerate") hl (by decide) hn (by decide+kernel) (by decide) jl (he env) rfl amb W F hf.2 (λ vs s₁ α₁ σ₁ l S₁ W₁ r₁ hlen h₁ F₁=>?_) λ z z p=>p
 refine a1_elim (C:=λ vs=>wpAny (model B.prog B.w) A (call (.type "enumerate") vs) _ _ s₁) r₁ h₁ λ x v r h=>?_
 ·obtain ⟨l,rfl,hK⟩:=onLst_inv h
  obtain ⟨a,rfl⟩:=r.ref_lst
  have x:=FLst.of r
  obtain ⟨vs,hf',⟨n,hp⟩,hr⟩:=id x
  refine call_enumerate_1 hp λ h' he hi hz hk=>?_
  refine wpAny_pyIter_enum he ?_
  have hn:∀ b∈[s₁.heap.objs.size+1,s₁.heap.objs.size],s₁.heap.get? b=none:=by simp [size_none,size_none1]
  obtain ⟨oi,hoi,_⟩:=id hi
  exact PostI.make (tk:=s₁.toks) S₁ W₁ hk hn (by simp [he,hoi]) (iterEnu a _ _ l) (.inr ⟨rfl,hf.1⟩) ⟨0,.none,Nat.succ_ne_self _,he,hi,by simp,x.mov (Step.hidesOn W₁ hk hn)⟩ hK
theorem JI.zip {e₁ e₂:Expr} {es:List Expr} {n tp} {p pos:Pos} {f:PL} (hl:κ.scope.names.lookup ("zip":Str)=some .globalImplicit) (hn:nsIn B.K mainGlobals ("zip":Str)=some none) (jl:JL B κ k [e₁,e₂] f)
  (he:∀ env,starEach [e₁,e₂] env=(false,eval e₁ env)::starEach [e₂] env) (hp:∀ env,(backTo pos (starEach [e₂] env)).any (·.1)=false):JI B κ k (.Call (.Name "zip" p) [e₁,e₂] [] pos) (.Tuple es n tp) (Y.zip f):=λ A fs env fr α σ K X s amb W F hf=>by
 refine callT_use (T:="zip") hl (by decide) hn (by decide+kernel) (by decide) jl (he env) (hp env) amb W F hf.2 (λ vs s₁ α₁ σ₁ l S₁ W₁ r₁ hlen h₁ F₁=>?_) λ z z p=>p
 refine a2_elim (C:=λ vs=>wpAny (model B.prog B.w) A (call (.type "zip") vs) _ _ s₁) r₁ h₁ λ x y v w r r2 h=>?_
 ·obtain ⟨l,rfl,h⟩:=onLst_inv h
  obtain ⟨r',rfl,hK⟩:=onLst_inv (x:=y) h
  obtain ⟨a,rfl⟩:=r.ref_lst
  obtain ⟨a',rfl⟩:=r2.ref_lst
  have x:=FLst.of r
  have x2:=FLst.of r2
  obtain ⟨vs,hf',hp1,hr⟩:=id x
  obtain ⟨vs2,hf2,hp2,hr2⟩:=id x2
  have l1:a<s₁.heap.objs.size:=let ⟨_,h⟩:=hp1;Heap.lt_size h
  have l2:a'<s₁.heap.objs.size:=let ⟨_,h⟩:=hp2;Heap.lt_size h
  refine call_zip_2 hp1.isList hp2.isList λ h' hz hTI hTO hi1 hi2 hsz hk=>?_
  refine wpAny_pyIter_zip hz ?_
  have hn:∀ b∈[s₁.heap.objs.size+4,s₁.heap.objs.size+2,s₁.heap.objs.size+3,s₁.heap.objs.size,s₁.heap.objs.size+1],s₁.heap.get? b=none:=by simp [size_none,size_none1]
  obtain ⟨oi,hoi,_⟩:=id hi1
  obtain ⟨oj,hoj,_⟩:=id hi2
  have D:ZipApart (s₁.heap.objs.size+4) (s₁.heap.objs.size+2) (s₁.heap.objs.size+3) s₁.heap.objs.size (s₁.heap.objs.size+1) a a':=by
   have n1:∀ n:Nat,a≠s₁.heap.objs.size+n:=λ n=>Nat.ne_of_lt (Nat.lt_of_lt_of_le l1 (Nat.le_add_right _ _))
   have n2:∀ n:Nat,a'≠s₁.heap.objs.size+n:=λ n=>Nat.ne_of_lt (Nat.lt_of_lt_of_le l2 (Nat.le_add_right _ _))
   constructor<;>first | exact n1 _ | exact n2 _ | exact n1 0 | exact n2 0 | ((show (_:Nat)≠_);lia)
  refine PostI.make (tk:=s₁.toks) S₁ W₁ hk hn (by simp [hz,hTI,hTO,hoi,hoj]) (iterZip a a' _ _ _ _ _ l r') (.inl hf.1) ⟨D,0,hz,hTI,⟨_,_,hTO⟩,hi1,hi2,by simp,x.mov (Step.hidesOn W₁ hk hn),x2.mov (Step.hidesOn W₁ hk hn)⟩ hK
end
end
section
section
variable {B:BC} {ex I:List Addr} {α α' α₁ α₂:Lbl} {s s' s₁ s₂:Shared} {σ σ' σ₁ σ₂:St} {fs:List Env} {A:Around} {κ:Sc} {k:Nat} {h₀ h h' h₁:Heap} {prog:Program} {w:World}
noncomputable def forK (tp:TgP) (p:PS):List AV->AFr->St->PN->PK->PX->Prop
 | [],fr,σ,N,R,X=>N fr.ρ σ
 | x::r,fr,σ,N,R,X=>∃ b,bndP tp x=some b/\p { fr with ρ:=(bindA b fr σ).1.ρ } (bindA b fr σ).2 (λ ρ' σ'=>forK tp p r { fr with ρ:=ρ' } σ' N R X) R N X
noncomputable def S.for (it:PL) (tp:TgP) (p:PS):PS:=λ fr σ N R Bk X=>it fr σ (λ l σ'=>forK tp p l fr σ' N R X) X
theorem FrOk.locals_some {fr:AFr} {env:Env} (F:FrOk B κ fr env α h):h.get? env.locals≠none:=by
 obtain ⟨m,⟨o,es,ep,e,_⟩,_⟩:=F.locs
 exact some_ne_none e
theorem FrOk.hnd_some {fr:AFr} {env:Env} (F:FrOk B κ fr env α h) {a:Addr} (e:fr.hnd=.exc a):h.get? a≠none:=by
 obtain ⟨⟨_,_,o,_,e,_⟩,_⟩:=F.handled a e
 exact some_ne_none e
set_option tactic.hygienic true in
theorem nextOk {fr:AFr} {env:Env} {b:Bool} (amb:Amb A fs k fr.hnd) (hx:∀ a,fr.hnd=.exc a->h.get? a≠none) (F':FrOk B κ fr env α' h') (fresh:∀ a∈I,h.get? a=none) (hb:fr.hnd=.no\/(b=true/\fr.hnd≠ .any)):NextOk b A I h':=by
 rcases hb with hb | ⟨rfl,hb⟩
 ·have hn:=amb.no hb
  cases b with
  | false=>exact hn
  | true=>exact ⟨.inl hn,λ a e=>by rw [hn] at e;cases e⟩
 ·refine ⟨amb.next F' hb,λ a e hi=>?_⟩
  have hs:=amb.handled
  cases q:fr.hnd with
  | no=>rw [q] at hs;rw [show A.handled=none from hs] at e;cases e
  | any=>exact hb q
  | exc a'=>
   rw [q] at hs
   rw [show A.handled=some (.ref a') from hs] at e
   cases e
   exact hx _ q (fresh a hi)
theorem FrOk.stepX {fr:AFr} {env:Env} (S:Step B ex α h α' h') (W:Wd B α σ fs h) (x:FrOk B κ fr env α h) (he:ExOk ex α) (hL:env.locals∉ex) (hh:∀ a,fr.hnd=.exc a->a∉ex):FrOk B κ fr env α' h' where
 scope:=x.scope
 kind:=x.kind
 nodup:=x.nodup
 globals:=x.globals
 builtins:=x.builtins
 locs:=by
  obtain ⟨m,hn,hl⟩:=x.locs
  refine ⟨m,Ns.slots hn λ o ho=>?_,hl.step S he⟩
  obtain ⟨sl,e,_⟩:=S.keep _ o (W.alone _ x.here) (W.hidTab _ x.here) hL (.inr (.inr x.here)) ho
  exact ⟨sl,e⟩
 here:=S.hid x.here
 cells:=λ j y e=>let ⟨ad,n,a,b,c⟩:=x.cells j y e;⟨ad,n,a,b,S.cell c⟩
 handled:=λ a e=>⟨(x.handled a e).1.step S W (hh a e) he,(x.handled a e).2⟩
 made:=x.made
theorem Mov.drop (O:Own α₁ I) (hk:∀ p∈α.hid,p∈α₁.hid) (k:∀ b o,b∉I->h₁.get? b=some o->h'.get? b=some o):Mov B α₁ h₁ (α₁.un α) h':=
 ⟨λ hf u u=>hf.un hk,λ {b o} hf e u=>k b o (λ z=>hf.1 (O b z).1.liv) e,λ n hn=>.inl rfl⟩
theorem FrOk.drop {fr fr₀:AFr} {env:Env} (F:FrOk B κ fr₀ env α h) (F':FrOk B κ fr env α₁ h₁) (hfr:fr.hnd=fr₀.hnd) (hk:∀ p∈α.hid,p∈α₁.hid) (O:Own α₁ I) (fresh:∀ a∈I,h.get? a=none)
  (k:∀ b o,b∉I->h₁.get? b=some o->h'.get? b=some o):FrOk B κ fr env (α₁.un α) h' where
 scope:=F'.scope
 kind:=F'.kind
 nodup:=F'.nodup
 globals:=F'.globals
 builtins:=F'.builtins
 locs:=by
  obtain ⟨m,hn,hl⟩:=F'.locs
  refine ⟨m,Ns.slots hn λ o ho=>⟨o.slots,k _ o (λ q=>F.locals_some (fresh _ q)) ho⟩,λ i y v e1 e2=>?_⟩
  obtain ⟨w,a,b⟩:=hl i y v e1 e2
  exact ⟨w,a,b.mov (Mov.drop O hk k)⟩
 here:=F.here
 cells:=F'.cells
 handled:=λ a e=>by
  obtain ⟨⟨x1,x2,o,vs,e1,e2,e3,e4,t,e5,⟨ot,hot,hct,n,hdt⟩,e7⟩,hne⟩:=F'.handled a e
  obtain ⟨⟨y1,y2,_⟩,_⟩:=F.handled a (by rw [<- hfr];exact e)
  exact ⟨⟨y1,y2,o,vs,k a o (λ q=>F.hnd_some (by rw [<- hfr];exact e) (fresh a q)) e1,e2,e3,e4,t,e5,⟨ot,(Mov.drop O hk k).keepF e7 hot (by unfold exo;rw [hdt]),hct,n,hdt⟩,(Mov.drop O hk k).frz e7 hot (by unfold exo;rw [hdt])⟩,hne⟩
 made:=F'.made
theorem frames_loc (W:Wd B α σ fs h) (l:List Addr):∀ env∈fs,∀ L,env.frame=some L->L∈l->∃ o es n,h.get? L=some o/\o.data=.dict es n:=λ env' he L hL z=>by
 obtain ⟨_,L',o,es,n,hL',_,ho,hd⟩:=W.frames env' he
 rw [hL] at hL';cases hL'
 exact ⟨o,es,n,ho,hd⟩
set_option tactic.hygienic true in
theorem J1.for {iter tgt:Expr} {body:List Stmt} {pos:Pos} {it:PL} {tp:TgP} {p:PS} (ji:JI B κ k iter tgt it) (jb:JS B κ k body p) (ht:TgPOk κ tgt tp)
  (hs:∀ env x,foldedSetIterable iter env x=pure x):J1 B κ k (.For tgt iter body [] pos) (S.for it tp p):=λ A fs env fr α σ N R Bk X s amb W F G hf=>by
 refine wpAny_For (wpAny_mono (ji A fs env fr α σ _ X s amb W F hf) (λ x s₁ h₁=>wpAny_mono h₁ (λ it s₂ h₂=>?_) λ z z p=>p.wide) λ z z p=>p.wide) (hs env)
 obtain ⟨α₂,σ₂,rem,I,a,P,b,rfl,S,W₂,O,fresh,hP,hI,hb,hK⟩:=h₂
 have hLI:env.locals∉I:=λ q=>F.locals_some (fresh _ q)
 refine codeAny_forLoop_any (λ n s'=>∃ rem' α' σ' ρ',rem'.length=n/\SStep B [env.locals] α s α' s'/\Wd B α' σ' fs s'.heap/\FrOk B κ { fr with ρ:=ρ' } env α' s'.heap/\Own α' I/\P rem' α' s'.heap/\forK tp p rem' { fr with ρ:=ρ' } σ' N R X) ?_ rem.length ⟨rem,α₂,σ₂,fr.ρ,rfl,S.wide,W₂,F.step S.2 W,O,hP,hK⟩
 rintro n s' ⟨rem',α',σ',ρ',rfl,S',W',F',O',hP',hK'⟩
 have hno:NextOk b A I s'.heap:=nextOk (fr:={ fr with ρ:=ρ' }) amb (λ a e=>F.hnd_some e) F' fresh hb
 refine wpAny_mono (hI.next (Q:=λ r s₁=>match r with
   | none=>wpAny (model B.prog B.w) A (execs [] env) (λ f s₃=>PostF B κ fr env α fs s N R Bk f s₃) (notedBy (model B.prog B.w) A env λ e s'=>cameBackBy (model B.prog B.w) A env (PostX B [env.locals] α fs s X) e s') s₁
   | some v=>wpAny (model B.prog B.w) A (assign tgt env v) (λ z s₂=>wpAny (model B.prog B.w) A (execs body env) (λ f s₃=>match f with
     | .next | .cont=>∃ m,m<rem'.length/\∃ rem'' α' σ' ρ',rem''.length=m/\SStep B [env.locals] α s α' s₃/\Wd B α' σ' fs s₃.heap/\FrOk B κ { fr with ρ:=ρ' } env α' s₃.heap/\Own α' I/\P rem'' α' s₃.heap/\forK tp p rem'' { fr with ρ:=ρ' } σ' N R X
     | .brk=>PostF B κ fr env α fs s N R Bk .next s₃
     | .ret v=>PostF B κ fr env α fs s N R Bk (.ret v) s₃) (notedBy (model B.prog B.w) A env λ e s'=>cameBackBy (model B.prog B.w) A env (PostX B [env.locals] α fs s X) e s') s₂) (notedBy (model B.prog B.w) A env λ e s'=>cameBackBy (model B.prog B.w) A env (PostX B [env.locals] α fs s X) e s') s₁) hno hP' O' W' ?_) (λ r s₁ h=>by cases r<;>exact h) λ z z h=>h
 cases rem' with
 | nil=>
  intro h' hk
  refine wpAny_execs_nil ?_
  refine ⟨α'.un α,σ',⟨by obtain ⟨⟨h1,tk1,rfl⟩,_⟩:=S';exact ⟨h',tk1,rfl⟩,Step.drop S'.2 fresh hk⟩,Wd.drop W S'.2 W' O' fresh hk (frames_loc W' _),ρ',F.drop F' rfl S'.2.hidOld O' fresh hk,hK'⟩
 | cons x r=>
  intro v h₁ tk₁ S₁ W₁ P₁ rv
  obtain ⟨bd,hbd,hp⟩:=hK'
  have hhI:∀ a,fr.hnd=.exc a->a∉I:=λ a e q=>F.hnd_some e (fresh a q)
  have F₁:FrOk B κ { fr with ρ:=ρ' } env α' h₁:=F'.stepX S₁ W' O'.exOk hLI hhI
  have T₁:SStep B [env.locals] α s α' { s' with heap:=h₁,toks:=tk₁ }:=SStep.shrink ((S'.widen (λ a q=>List.mem_append.mpr (.inr q))).trans (SStep.of (S₁.widen λ a q=>List.mem_append.mpr (.inl q)))) fresh
  have O₁:Own α' I:=O'
  have hnn:({ fr with ρ:=ρ' }:AFr).hnd≠ .any\/∃ t,tp=.one t:=by
   left
   rcases hb with hb | hb
   ·show fr.hnd≠ .any
    rw [hb];exact λ q=>nomatch q
   ·exact hb.2
  refine assign_ok (s:={ s' with heap:=h₁,toks:=tk₁ }) (fr:={ fr with ρ:=ρ' }) ht hbd amb hnn W₁ F₁ rv λ h₂ tk₂ S₂ W₂ F₂=>?_
  rw [bindA_fr] at F₂
  have T₂:=T₁.trans (SStep.of (tk:=tk₂) S₂)
  have P₂:=hI.step P₁ O₁ (λ a ha q=>hLI (by simp at q;exact q▸ha)) (ExOk.one F₁.here) W₁ S₂
  have O₂:Own α' I:=O₁
  refine wpAny_mono (jb A fs env { fr with ρ:=(bindA bd { fr with ρ:=ρ' } σ').1.ρ } α' _ _ R N X { s' with heap:=h₂,toks:=tk₂ } amb W₂ F₂ (G.step T₂.2) hp) (λ f s₃ q=>?_) λ x s₃ q=>backIn_ok amb.frames G (q.seq T₂)
  obtain ⟨α₃,σ₃,S₃,W₃,q⟩:=q
  cases f with
  | next=>
   obtain ⟨ρ₃,F₃,hN⟩:=q
   refine ⟨r.length,by simp,r,α₃,σ₃,ρ₃,rfl,T₂.trans S₃,W₃,F₃,O₂.step S₃.2 W₂,?_,hN⟩
   exact hI.step P₂ O₂ (λ a ha q=>hLI (by simp at q;exact q▸ha)) (ExOk.one F₂.here) W₂ S₃.2
  | brk=>
   obtain ⟨ρ₃,F₃,hN⟩:=q
   exact ⟨α₃,σ₃,T₂.trans S₃,W₃,ρ₃,F₃,hN⟩
  | ret v=>exact ⟨α₃,σ₃,T₂.trans S₃,W₃,q⟩
  | cont=>exact q.elim
noncomputable def whileK (t:PT) (p:PS):Nat->AFr->St->PN->PK->PX->Prop
 | 0,_,_,_,_,_=>False
 | n+1,fr,σ,N,R,X=>t fr σ (λ b σ'=>(b=true->p fr σ' (λ ρ' σ''=>whileK t p n { fr with ρ:=ρ' } σ'' N R X) R N X)/\(b=false->N fr.ρ σ')) X
noncomputable def S.while (t:PT) (p:PS):PS:=λ fr σ N R Bk X=>∃ n,whileK t p n fr σ N R X
theorem J1.while {test:Expr} {body:List Stmt} {pos:Pos} {t:PT} {p:PS} (jt:JT B κ k test t) (jb:JS B κ k body p):J1 B κ k (.While test body [] pos) (S.while t p):=λ A fs env fr α σ N R Bk X s amb W F G hf=>by
 obtain ⟨n,hf⟩:=hf
 refine wpAny_While ?_
 refine codeAny_whileLoop (λ n s'=>∃ α' σ' ρ',SStep B [env.locals] α s α' s'/\Wd B α' σ' fs s'.heap/\FrOk B κ { fr with ρ:=ρ' } env α' s'.heap/\whileK t p n { fr with ρ:=ρ' } σ' N R X) ?_ n ⟨α,σ,fr.ρ,SStep.refl _ _ _ _,W,F,hf⟩
 rintro n s' ⟨α',σ',ρ',S',W',F',hK'⟩
 cases n with
 | zero=>exact hK'.elim
 | succ n=>
  refine JT.use (fr:={ fr with ρ:=ρ' }) jt amb W' F' hK' (λ b s₁ α₁ σ₁ S₁ W₁ h₁ F₁=>?_) λ x s₁ p=>backIn_ok amb.frames G (PostX.seq S' p.wide)
  have T₁:=S'.trans S₁.wide
  cases b with
  | true=>
   rw [if_pos rfl]
   refine wpAny_mono (jb A fs env { fr with ρ:=ρ' } α₁ σ₁ _ R N X s₁ amb W₁ F₁ (G.step T₁.2) (h₁.1 rfl)) (λ f s₃ q=>?_) λ x s₃ q=>backIn_ok amb.frames G (q.seq T₁)
   obtain ⟨α₃,σ₃,S₃,W₃,q⟩:=q
   cases f with
   | next=>
    obtain ⟨ρ₃,F₃,hN⟩:=q
    exact ⟨n,by simp,α₃,σ₃,ρ₃,T₁.trans S₃,W₃,F₃,hN⟩
   | brk=>
    obtain ⟨ρ₃,F₃,hN⟩:=q
    exact ⟨α₃,σ₃,T₁.trans S₃,W₃,ρ₃,F₃,hN⟩
   | ret v=>exact ⟨α₃,σ₃,T₁.trans S₃,W₃,q⟩
   | cont=>exact q.elim
  | false=>
   rw [if_neg (by decide)]
   exact wpAny_execs_nil ⟨α₁,σ₁,T₁,W₁,ρ',F₁,h₁.2 rfl⟩
end
end
section
noncomputable def ownC:List (Str×NameKind)->List Str
 | []=>[]
 | (n,k)::r=>if (k==NameKind.cell)=true then n::ownC r else ownC r
section
variable {B:BC} {ex I:List Addr} {α α' α₁ α₂:Lbl} {s s' s₁ s₂:Shared} {σ σ' σ₁ σ₂:St} {fs:List Env} {A:Around} {κ:Sc} {k:Nat} {h₀ h h' h₁:Heap} {prog:Program} {w:World}
theorem layW:∀ (names:List (Str×NameKind)) (h:Heap) (α:Lbl) (σ:St) (acc:List (Str×Addr)),Wd B α σ fs h->(ownC names).Nodup->
  ∃ α',Step B [] α h α' (pushCells h names)/\Wd B α' (σ++List.replicate (ownC names).length (.cel none)) fs (pushCells h names)/\α'.hid=α.hid/\
   (∀ n,n<α.lab.length->α'.lab[n]?=α.lab[n]?)/\
   (∀ (j:Nat) (x:Str),(ownC names)[j]?=some x->∃ ad,(cellsFrom h.objs.size names acc).lookup x=some ad/\α'.lab[σ.length+j]?=some (.cell ad))/\
   (∀ x,x∉ownC names->(cellsFrom h.objs.size names acc).lookup x=acc.lookup x)
 | [],h,α,σ,acc,W,_=>⟨α,Step.refl _ _ _ _,by simpa [ownC,pushCells] using W,rfl,λ z z=>rfl,λ j x e=>by simp [ownC] at e,λ x z=>rfl⟩
 | (n,kd)::r,h,α,σ,acc,W,hnd=>by
  by_cases hk:(kd==NameKind.cell)=true
  ·have ec:ownC ((n,kd)::r)=n::ownC r:=by rw [ownC,if_pos hk]
   have ep:pushCells h ((n,kd)::r)=pushCells (h.push { cls:=.type "cell",data:=.cell none }) r:=by rw [pushCells,if_pos hk]
   have ef:cellsFrom h.objs.size ((n,kd)::r) acc=cellsFrom (h.objs.size+1) r ((n,h.objs.size)::acc):=by rw [cellsFrom,if_pos hk]
   rw [ec] at hnd
   rw [ec,ep,ef]
   obtain ⟨hnn,hnd'⟩:=List.nodup_cons.mp hnd
   have hn:h.get? h.objs.size=none:=size_none h
   have ht:(h.push { cls:=.type "cell",data:=.cell none }).get? h.objs.size=some { cls:=.type "cell",data:=.cell none }:=Heap.get?_push_size _ rfl
   have S₁:Step B [] α h (α.push (.cell h.objs.size)) (h.push { cls:=.type "cell",data:=.cell none }):=Step.newLab (Full.push _ _) rfl hn
   have W₁:Wd B (α.push (.cell h.objs.size)) (σ++[.cel none]) fs (h.push { cls:=.type "cell",data:=.cell none }):=W.newLab (Full.push _ _) rfl hn (some_ne_none ht) ⟨_,none,ht,rfl,trivial⟩
   obtain ⟨α',S',W',e1,e2,e3,e4⟩:=layW r _ _ _ ((n,h.objs.size)::acc) W₁ hnd'
   rw [Heap.size_push] at e3 e4
   have hl1:(α.push (.cell h.objs.size)).lab.length=α.lab.length+1:=by simp
   refine ⟨α',S₁.trans S',by simpa [List.replicate_succ,List.append_assoc] using W',e1,λ m hm=>?_,λ j x e=>?_,λ x hx=>?_⟩
   ·rw [e2 m (by rw [hl1];lia)]
    exact List.getElem?_append_left hm
   ·cases j with
    | zero=>
     simp at e
     subst e
     refine ⟨h.objs.size,?_,?_⟩
     ·rw [e4 n hnn];simp
     ·rw [e2 _ (by rw [hl1,W.len];lia)]
      show (α.lab++[Lb.cell h.objs.size])[σ.length+0]?=_
      rw [Nat.add_zero,<- W.len,List.getElem?_append_right (Nat.le_refl _),Nat.sub_self]
      rfl
    | succ j=>
     simp at e
     obtain ⟨ad,a1,a2⟩:=e3 j x e
     refine ⟨ad,a1,?_⟩
     rw [List.length_append] at a2
     rw [<- a2]
     congr 1
     simp;lia
   ·simp at hx
    rw [e4 x hx.2]
    have:(x==n)=false:=by simpa using hx.1
    rw [List.lookup_cons,this]
  ·have ec:ownC ((n,kd)::r)=ownC r:=by rw [ownC,if_neg hk]
   have ep:pushCells h ((n,kd)::r)=pushCells h r:=by rw [pushCells,if_neg hk]
   have ef:cellsFrom h.objs.size ((n,kd)::r) acc=cellsFrom h.objs.size r acc:=by rw [cellsFrom,if_neg hk]
   rw [ec] at hnd
   rw [ec,ep,ef]
   exact layW r h α σ acc W hnd
theorem bindS_ok {env:Env} (f:Str×Value->PUnit->Sem (ForInStep PUnit)) (hf:∀ n v u,f (n,v) u=(do storeName env n v;pure (.yield ⟨⟩))):∀ {binds:List (Str×Value)} {ts:List Tg} {l:List AV} {fr:AFr} {α:Lbl} {σ:St} {s:Shared},NmsOk κ (binds.map (·.1)) ts->ts.length=l.length->Wd B α σ fs s.heap->FrOk B κ fr env α s.heap->RelL B α s.heap l (binds.map (·.2))->
  ∀ {Q:PUnit->Shared->Prop} {E:Value->Shared->Prop},
  (∀ h' tk,Step B [env.locals] α s.heap α h'->Wd B α (bindA (ts.zip l) fr σ).2 fs h'->FrOk B κ (bindA (ts.zip l) fr σ).1 env α h'->Q ⟨⟩ { s with heap:=h',toks:=tk })->
  wpAny (model B.prog B.w) A (forIn binds ⟨⟩ f) Q E s
 | [],[],l,fr,α,σ,s,_,_,W,F,r,Q,E,h=>by
  rw [List.forIn_nil]
  exact wpAny_pure (h s.heap s.toks (Step.refl _ _ _ _) W F)
 | (x,v)::xs,t::ts,[],fr,α,σ,s,_,hl,W,F,r,Q,E,h=>by simp at hl
 | (x,v)::xs,t::ts,a::l,fr,α,σ,s,⟨ht,hr⟩,hl,W,F,r,Q,E,h=>by
  simp only [List.map_cons,RelL] at r
  obtain ⟨v',vs',e,r1,r2⟩:=r
  cases e
  rw [List.forIn_cons,hf]
  refine wpAny_bind (wpAny_bind (store_ok ht W F r1 λ h₁ tk₁ S₁ W₁ F₁=>wpAny_pure ?_))
  refine bindS_ok (s:={ s with heap:=h₁,toks:=tk₁ }) f hf hr (by simpa using hl) W₁ F₁ (r2.step S₁ (ExOk.one F.here)) λ h₂ tk₂ S₂ W₂ F₂=>?_
  exact h h₂ tk₂ (S₁.trans S₂) W₂ F₂
 | [],_::_,_,_,_,_,_,ht,_,_,_,_,_,_,_=>ht.elim
 | _::_,[],_,_,_,_,_,ht,_,_,_,_,_,_,_=>ht.elim
noncomputable def fr0 (nl n m:Nat) (χf:List Nat) (hk:HK):AFr:=⟨List.replicate nl none,(List.range m).map (n+·)++χf,hk⟩
theorem Wd.pushFs {env:Env} (W:Wd B α σ fs h) (h1:env.scope.kind≠ .module) {L:Addr} (h2:env.frame=some L) (h3:Frm α L) {m:Str->Option Value} (h4:h.Ns L m):Wd B α σ (env::fs) h:=
 ⟨W.stays,W.len,W.objs,W.inj,W.alone,W.apart,W.there,W.tabs,λ e he=>by
  rcases List.mem_cons.mp he with rfl | he
  ·obtain ⟨o,es,n,ho,hd,_⟩:=h4
   exact ⟨h1,L,o,es,n,h2,h3,ho,hd⟩
  ·exact W.frames e he⟩
theorem Wd.popFs {env:Env} (W:Wd B α σ (env::fs) h):Wd B α σ fs h:=
 ⟨W.stays,W.len,W.objs,W.inj,W.alone,W.apart,W.there,W.tabs,λ e he=>W.frames e (List.mem_cons_of_mem _ he)⟩
theorem newEnv_ok {scope:Scope} {cl:List (Str×Addr)} {binds:List (Str×Value)} {qual:Str} {func:Option Addr} {code:Value} {around:Option Env} {builtins:Addr} {Q:Env->Shared->Prop} {E:Value->Shared->Prop}
  {frees:List Str} {χf:List Nat} {ts:List Tg} {l:List AV} {hn:HK}
  (hsc:κ.scope=scope) (hk:scope.kind=.function) (hcel:κ.cel=ownC scope.names++frees) (hnd:(ownC scope.names).Nodup) (hdis:∀ x∈frees,x∉ownC scope.names) (hloc:κ.loc.Nodup)
  (hb:(match around with | some o=>o.builtins | none=>builtins)=builtinsNs)
  (hfree:∀ (j:Nat) (x:Str),frees[j]?=some x->∃ ad n,cl.lookup x=some ad/\χf[j]?=some n/\α.lab[n]?=some (.cell ad))
  (hts:NmsOk κ (binds.map (·.1)) ts) (hlen:ts.length=l.length) (hl:RelL B α s.heap l (binds.map (·.2))) (hhn:∀ a,hn=.exc a->HndAt B α s.heap a) (hmade:∀ c,κ.code=some c->(match around with | some o=>o.code | none=>code)=.ref c/\qual=κ.qual) (W:Wd B α σ fs s.heap)
  (h:∀ cells α' h' tk,Step B [] α s.heap α' h'->Wd B α' (bindA (ts.zip l) (fr0 κ.loc.length σ.length (ownC scope.names).length χf hn) (σ++List.replicate (ownC scope.names).length (.cel none))).2 fs h'->
   FrOk B κ (bindA (ts.zip l) (fr0 κ.loc.length σ.length (ownC scope.names).length χf hn) (σ++List.replicate (ownC scope.names).length (.cel none))).1 (newEnv scope s.heap.objs.size mainGlobals cells qual func code around builtins) α' h'->
   (around.isNone,s.heap.objs.size)∈α'.hid->α'.hid=(around.isNone,s.heap.objs.size)::α.hid->Q (newEnv scope s.heap.objs.size mainGlobals cells qual func code around builtins) { s with heap:=h',toks:=tk }):
  wpAny (model B.prog B.w) A (newFunctionEnv scope mainGlobals cl binds qual func code around builtins) Q E s:=by
 simp only [newFunctionEnv]
 refine wpAny_bind (wpAny_alloc ?_)
 refine wpAny_bind (wpAny_layCells _ (λ name kind cells=>by cases hkc:kind==NameKind.cell<;>simp [hkc]) _ _ _ _ ?_)
 generalize hO:({ cls:=.type (if around.isSome=true then "dict" else "frame"),data:=.dict #[] }:Obj)=ob
 have hn0:s.heap.get? s.heap.objs.size=none:=size_none _
 have ht0:(s.heap.push ob).get? s.heap.objs.size=some ob:=Heap.get?_push_size _ (by rw [<- hO];rfl)
 have S₁:Step B [] α s.heap (α.hide around.isNone s.heap.objs.size) (s.heap.push ob):=Step.newHid (Full.push _ _) hn0
 have W₁:Wd B (α.hide around.isNone s.heap.objs.size) σ fs (s.heap.push ob):=W.newHid (Full.push _ _) hn0 (some_ne_none ht0)
 obtain ⟨α',S',W',e1,e2,e3,e4⟩:=layW scope.names _ _ _ cl W₁ hnd
 have hz:({ s with heap:=s.heap.push ob }:Shared).heap.objs.size=s.heap.objs.size+1:=Heap.size_push ..
 have hz':(s.heap.push ob).objs.size=s.heap.objs.size+1:=Heap.size_push ..
 rw [hz'] at e3 e4
 rw [hz]
 generalize hC:cellsFrom (s.heap.objs.size+1) scope.names cl=cells at e3 e4 ⊢
 have hNs:(pushCells (s.heap.push ob) scope.names).Ns s.heap.objs.size (λ z=>none):=by
  have:=(Heap.Ns.new s.heap (.type (if around.isSome=true then "dict" else "frame"))).keeps (pushCells_keeps scope.names _)
  rw [hO] at this
  exact this
 have hmem:(around.isNone,s.heap.objs.size)∈α'.hid:=by rw [e1];exact List.mem_cons_self
 have F₀:FrOk B κ (fr0 κ.loc.length σ.length (ownC scope.names).length χf hn) (newEnv scope s.heap.objs.size mainGlobals cells qual func code around builtins) α' (pushCells (s.heap.push ob) scope.names):={
  scope:=by rw [hsc];cases around<;>rfl
  kind:=by rw [hsc];exact hk
  nodup:=hloc
  globals:=by cases around<;>rfl
  builtins:=by cases around<;>exact hb
  locs:=⟨λ z=>none,by cases around<;>exact hNs,λ i x v z e=>by
   simp only [fr0,List.getElem?_replicate] at e
   split at e<;>cases e⟩
  here:=⟨around.isNone,by cases around<;>exact hmem⟩
  cells:=λ j x e=>by
   rw [hcel] at e
   have hce:(newEnv scope s.heap.objs.size mainGlobals cells qual func code around builtins).cells=cells:=by cases around<;>rfl
   rw [hce]
   by_cases hj:j<(ownC scope.names).length
   ·rw [List.getElem?_append_left hj] at e
    obtain ⟨ad,a1,a2⟩:=e3 j x e
    refine ⟨ad,σ.length+j,a1,?_,a2⟩
    show ((List.range (ownC scope.names).length).map (σ.length+·)++χf)[j]?=_
    rw [List.getElem?_append_left (by simpa using hj)]
    simp [hj]
   ·rw [List.getElem?_append_right (Nat.le_of_not_lt hj)] at e
    obtain ⟨ad,n,a1,a2,a3⟩:=hfree _ x e
    refine ⟨ad,n,?_,?_,?_⟩
    ·rw [e4 x (hdis x (List.mem_of_getElem? e))];exact a1
    ·show ((List.range (ownC scope.names).length).map (σ.length+·)++χf)[j]?=_
     rw [List.getElem?_append_right (by simpa using Nat.le_of_not_lt hj)]
     simpa using a2
    ·rw [e2 n (List.getElem?_eq_some_iff.mp a3).1];exact a3
  handled:=λ a e=>by
   have x:=hhn a e
   obtain ⟨x1,x2,o,vs,ho,_⟩:=id x
   exact ⟨x.step (S₁.trans S') W (λ q=>nomatch q) ExOk.nil,by
    rintro q
    have:(newEnv scope s.heap.objs.size mainGlobals cells qual func code around builtins).locals=s.heap.objs.size:=by cases around<;>rfl
    rw [this] at q
    rw [q,hn0] at ho;cases ho⟩
  made:=λ c e=>by cases around<;>exact hmade c e }
 have hT:=S₁.trans S'
 refine wpAny_bind (bindS_ok (s:={ s with heap:=pushCells (s.heap.push ob) scope.names }) _ (λ z z z=>rfl) hts hlen W' F₀ (hl.step hT ExOk.nil) λ h' tk S'' W'' F''=>wpAny_pure ?_)
 refine h cells α' h' tk ?_ W'' F'' hmem e1
 have hlc:(newEnv scope s.heap.objs.size mainGlobals cells qual func code around builtins).locals=s.heap.objs.size:=by cases around<;>rfl
 rw [hlc] at S''
 exact Step.shrink (I:=[s.heap.objs.size]) (ex:=[]) ((hT.widen λ z q=>nomatch q).trans (S''.widen λ a q=>List.mem_append.mpr (.inl q))) (by simp [hn0])
theorem closure_ok {scope:Scope} {env:Env} (hc:∀ x∈scope.names,x.2=.free->(env.cells.lookup x.1).isSome=true) (hnd:(scope.names.map (·.1)).Nodup):
  ∃ cl,closureFor scope env=pure cl/\∀ x∈scope.names,x.2=.free->cl.lookup x.1=env.cells.lookup x.1:=by
 have key:∀ (names:List (Str×NameKind)) (acc:List (Str×Addr)) (f:Str×NameKind->List (Str×Addr)->Sem (ForInStep (List (Str×Addr)))),
   (∀ n kd acc,f (n,kd) acc=if (kd==NameKind.free)=true then (do let a <- cellOf env n;pure (.yield ((n,a)::acc))) else pure (.yield acc))->
   (∀ x∈names,x.2=.free->(env.cells.lookup x.1).isSome=true)->(names.map (·.1)).Nodup->
   ∃ cl,forIn names acc f=pure cl/\(∀ x∈names,x.2=.free->cl.lookup x.1=env.cells.lookup x.1)/\(∀ y,y∉names.map (·.1)->cl.lookup y=acc.lookup y):=by
  intro names
  induction names with
  | nil=>intro acc f _ _ _;exact ⟨acc,by rw [List.forIn_nil],⟨λ x hx=>absurd hx List.not_mem_nil,λ y z=>rfl⟩⟩
  | cons p r ih=>
   intro acc f hf hc hnd
   obtain ⟨n,kd⟩:=p
   simp only [List.map_cons,List.nodup_cons] at hnd
   rw [List.forIn_cons,hf]
   by_cases hk:(kd==NameKind.free)=true
   ·rw [if_pos hk]
    obtain ⟨ad,had⟩:=Option.isSome_iff_exists.mp (hc (n,kd) List.mem_cons_self (by simpa using hk))
    obtain ⟨cl,h1,h2,h3⟩:=ih ((n,ad)::acc) f hf (λ x hx=>hc x (List.mem_cons_of_mem _ hx)) hnd.2
    refine ⟨cl,?_,λ x hx hxf=>?_,λ y hy=>?_⟩
    ·have hco:cellOf env n=pure ad:=by unfold cellOf;rw [had]
     rw [hco]
     exact h1
    ·rcases List.mem_cons.mp hx with rfl | hx
     ·rw [h3 n hnd.1,had];simp
     ·exact h2 x hx hxf
    ·simp only [List.map_cons,List.mem_cons,not_or] at hy
     rw [h3 y hy.2,List.lookup_cons]
     have:(y==n)=false:=by simpa using hy.1
     rw [this]
   ·rw [if_neg hk]
    obtain ⟨cl,h1,h2,h3⟩:=ih acc f hf (λ x hx=>hc x (List.mem_cons_of_mem _ hx)) hnd.2
    refine ⟨cl,h1,λ x hx hxf=>?_,λ y hy=>?_⟩
    ·rcases List.mem_cons.mp hx with rfl | hx
     ·exact absurd (by rw [show kd=.free from hxf];rfl) hk
     ·exact h2 x hx hxf
    ·simp only [List.map_cons,List.mem_cons,not_or] at hy
     exact h3 y hy.2
 obtain ⟨cl,h1,h2,_⟩:=key scope.names [] (λ (x:Str×NameKind) (cs:List (Str×Addr))=>if (x.2==NameKind.free)=true then (do let a <- cellOf env x.1;pure (ForInStep.yield ((x.1,a)::cs))) else pure (ForInStep.yield cs)) (λ z z z=>rfl) hc hnd
 refine ⟨cl,?_,h2⟩
 have e:closureFor scope env=(forIn scope.names [] (λ (x:Str×NameKind) (cs:List (Str×Addr))=>if (x.2==NameKind.free)=true then (do let a <- cellOf env x.1;pure (ForInStep.yield ((x.1,a)::cs))) else pure (ForInStep.yield cs)) >>= pure):=rfl
 rw [e,h1]
 rfl
end
end
section
noncomputable abbrev Lbl.minus (α:Lbl) (I:List Addr):Lbl:=⟨α.lab,α.hid.filter (λ p=>decide (p.2∉I))⟩
section
variable {B:BC} {ex I:List Addr} {α α' α₁ α₂:Lbl} {s s' s₁ s₂:Shared} {σ σ' σ₁ σ₂:St} {fs:List Env} {A:Around} {κ:Sc} {k:Nat} {h₀ h h' h₁:Heap} {prog:Program} {w:World}
theorem mem_minus {p:Bool×Addr}:p∈(α.minus I).hid↔p∈α.hid/\p.2∉I:=by simp [Lbl.minus,List.mem_filter]
theorem Hid.minus {a:Addr} (x:Hid (α.minus I) a):Hid α a:=let ⟨f,q⟩:=x;⟨f,(mem_minus.mp q).1⟩
theorem Hid.toMinus {a:Addr} (x:Hid α a) (hn:a∉I):Hid (α.minus I) a:=let ⟨f,q⟩:=x;⟨f,mem_minus.mpr ⟨q,hn⟩⟩
theorem Frm.minus {a:Addr} (x:Frm (α.minus I) a):Frm α a:=(mem_minus.mp x).1
theorem Liv.minus {a:Addr} (x:Liv (α.minus I) a):Liv α a:=x.imp id Hid.minus
theorem Mov.minus (O:Own α₁ I) (k:∀ b o,b∉I->h₁.get? b=some o->h'.get? b=some o):Mov B α₁ h₁ (α₁.minus I) h':=
 ⟨λ hf u u=>⟨λ q=>hf.1 q.minus,hf.2⟩,λ {b o} hf e u=>k b o (λ z=>hf.1 (O b z).1.liv) e,λ n hn=>.inl rfl⟩
theorem Step.minus (S:Step B ex α h α₁ h₁) (W:Wd B α σ fs h) (fr:∀ a∈I,h.get? a=none) (k:∀ b o,b∉I->h₁.get? b=some o->h'.get? b=some o):Step B ex α h (α₁.minus I) h' where
 keep:=λ b o hl ht he hx e=>by
  obtain ⟨sl,e1,k1⟩:=S.keep b o hl ht he hx e
  exact ⟨sl,k b _ (λ q=>by rw [fr b q] at e;cases e) e1,k1⟩
 dom:=λ b e=>by
  have h1:=S.dom b e
  cases q:h₁.get? b with
  | none=>exact absurd q h1
  | some o=>exact some_ne_none (k b o (λ z=>e (fr b z)) q)
 ext:=S.ext
 old:=S.old
 new:=S.new
 hidOld:=λ p e=>mem_minus.mpr ⟨S.hidOld p e,λ q=>W.there p.2 (.inr ⟨p.1,e⟩) (fr _ q)⟩
 hidNew:=λ p e=>S.hidNew p (mem_minus.mp e).1
theorem Wd.minus (W₁:Wd B α₁ σ₁ fs h₁) (x:Own α₁ I) (k:∀ b o,b∉I->h₁.get? b=some o->h'.get? b=some o):Wd B (α₁.minus I) σ₁ fs h':=by
 have hI:∀ a∈I,¬ Lab α₁ a:=λ a ha q=>W₁.alone a (x a ha).1 q
 have M:Mov B α₁ h₁ (α₁.minus I) h':=Mov.minus x k
 refine ⟨λ b o e=>?_,W₁.len,λ m ao lb e1 e2=>?_,W₁.inj,λ a y=>W₁.alone a y.minus,λ a y=>W₁.apart a y.minus,λ a y=>?_,λ q hq=>?_,λ env he=>?_⟩
 ·exact k b o (λ z=>by have:=(W₁.apart b (x b z).1.liv).1;rw [e] at this;cases this) (W₁.stays b o e)
 ·refine (W₁.objs m ao lb e1 e2).mov M λ a o hb e=>k a o (λ z=>?_) e
  exact hI a z ⟨m,by have e2':α₁.lab[m]?=some lb:=e2;rw [adr_of_get e2'];rcases hb with hb | hb<;>rw [hb]<;>rfl⟩
 ·have hn:a∉I:=λ z=>by
   rcases y with y | y
   ·exact hI a z y
   ·obtain ⟨f,y⟩:=y;exact (mem_minus.mp y).2 z
  cases e:h₁.get? a with
  | none=>exact absurd e (W₁.there a y.minus)
  | some o=>exact some_ne_none (k a o hn e)
 ·exact (W₁.tabs q hq).mov M λ o y=>k _ o (λ z=>(W₁.apart _ (x _ z).1.liv).2 ⟨q,hq,rfl⟩) y
 ·obtain ⟨hk,L,o,es,n,hf,hF,ho,hd⟩:=W₁.frames env he
  have hLI:L∉I:=λ z=>(x L z).2 hF
  exact ⟨hk,L,o,es,n,hf,mem_minus.mpr ⟨hF,hLI⟩,k L o hLI ho,hd⟩
theorem FrOk.minus {fr:AFr} {env:Env} (F:FrOk B κ fr env α₁ h₁) (O:Own α₁ I) (hL:env.locals∉I) (hh:∀ a,fr.hnd=.exc a->a∉I) (k:∀ b o,b∉I->h₁.get? b=some o->h'.get? b=some o):FrOk B κ fr env (α₁.minus I) h' where
 scope:=F.scope
 kind:=F.kind
 nodup:=F.nodup
 globals:=F.globals
 builtins:=F.builtins
 locs:=by
  obtain ⟨m,hn,hl⟩:=F.locs
  refine ⟨m,Ns.slots hn λ o ho=>⟨o.slots,k _ o hL ho⟩,λ i y v e1 e2=>?_⟩
  obtain ⟨w,a,b⟩:=hl i y v e1 e2
  exact ⟨w,a,b.mov (Mov.minus O k)⟩
 here:=F.here.toMinus hL
 cells:=F.cells
 handled:=λ a e=>by
  obtain ⟨⟨x1,x2,o,vs,e1,e2,e3,e4,t,e5,⟨ot,hot,hct,n,hdt⟩,e7⟩,hne⟩:=F.handled a e
  exact ⟨⟨x1.toMinus (hh a e),λ q=>x2 q.minus,o,vs,k a o (hh a e) e1,e2,e3,e4,t,e5,⟨ot,(Mov.minus O k).keepF e7 hot (by unfold exo;rw [hdt]),hct,n,hdt⟩,(Mov.minus O k).frz e7 hot (by unfold exo;rw [hdt])⟩,hne⟩
 made:=F.made
theorem Own.minus {J:List Addr} (x:Own α J) (hd:∀ a∈J,a∉I):Own (α.minus I) J:=λ a ha=>⟨(x a ha).1.toMinus (hd a ha),λ q=>(x a ha).2 q.minus⟩
noncomputable def noX:PX:=λ z z=>False
noncomputable abbrev PC:=AFr->St->List AV->(List AV->AFr->St->Prop)->Prop
noncomputable def compK (tp:TgP) (ts:PT) (inner:PC):List AV->PC
 | [],fr,σ,acc,K=>K acc fr σ
 | x::r,fr,σ,acc,K=>∃ b,bndP tp x=some b/\ts { fr with ρ:=(bindA b fr σ).1.ρ } (bindA b fr σ).2 (λ ok σ'=>
  (ok=true->inner { fr with ρ:=(bindA b fr σ).1.ρ } σ' acc (λ acc' fr' σ''=>compK tp ts inner r fr' σ'' acc' K))/\
  (ok=false->compK tp ts inner r { fr with ρ:=(bindA b fr σ).1.ρ } σ' acc K)) noX
noncomputable def C.elt (f:PE):PC:=λ fr σ acc K=>f fr σ (λ a σ'=>acc.length<sizeLine/\K (acc++[a]) fr σ') noX
noncomputable def C.sub (it:PL) (tp:TgP) (ts:PT) (inner:PC):PC:=λ fr σ acc K=>it fr σ (λ l σ'=>compK tp ts inner l fr σ' acc K) noX
inductive JF (B:BC) (κ:Sc) (k:Nat):List Expr->PT->Prop
 | nil:JF B κ k [] (T.c true)
 | one {c:Expr} {t:PT}:JT B κ k c t->JF B κ k [c] t
inductive JC (B:BC) (κ:Sc) (k:Nat) (elt:Expr) (gens:List Comprehension):Nat->Expr->TgP->PT->PC->Prop
 | last {d:Nat} {target iter:Expr} {ifs:List Expr} {tp:TgP} {ts:PT} {f:PE}:gens[d]?=some ⟨target,iter,ifs,0⟩->gens[d+1]?=none->TgPOk κ target tp->JF B κ k ifs ts->JE B κ k elt f->JC B κ k elt gens d target tp ts (C.elt f)
 | more {d:Nat} {target iter target' iter':Expr} {ifs ifs':List Expr} {tp tp':TgP} {ts ts':PT} {it:PL} {inner:PC}:gens[d]?=some ⟨target,iter,ifs,0⟩->gens[d+1]?=some ⟨target',iter',ifs',0⟩->TgPOk κ target tp->JF B κ k ifs ts->JI B κ k iter' target' it->
  (∀ env x,foldedSetIterable iter' env x=pure x)->JC B κ k elt gens (d+1) target' tp' ts' inner->JC B κ k elt gens d target tp ts (C.sub it tp' ts' inner)
theorem compTurn_at {elt:Expr} {gens:List Comprehension} {scope:Scope} {pos:Pos} {d:Nat} {it acc:Value} {env:Env} {target iter:Expr} {ifs:List Expr} (hg:gens[d]?=some ⟨target,iter,ifs,0⟩):
  compTurn (.ListComp elt gens scope pos) d it acc env=(do
   standAt iter.pos
   match <- pyNext it with
   | none=>pure (.done .next)
   | some v=>
    letOwnedTupleGo target it v
    assign target env v
    let mut ok:=true
    for c in ifs do
     if ok then ok <- isTrue c env (eval c env)
    if ok then
     match gens[d+1]? with
     | some g'=>
      let x <- eval g'.iter env
      standAt g'.iter.pos
      let x <- if g'.is_async !=0 then foldedIterable g'.iter x else foldedSetIterable g'.iter env x
      let _ <- runOwn (.compStart (.ListComp elt gens scope pos) (d+1) (<- holding [x] (if g'.is_async !=0 then asyncIter x else pyIter x)) acc env) env
     | none=>(do let _ <- call (.builtin "list.append") [acc,<- eval elt env])
    again (.compLoop (.ListComp elt gens scope pos) d it acc env)):=by
 unfold compTurn
 simp only [hg]
 rfl
end
end
section
section
variable {B:BC} {ex I:List Addr} {α α' α₁ α₂ α₀:Lbl} {s s' s₁ s₂ s₀:Shared} {σ σ' σ₁ σ₂ σ₀:St} {fs:List Env} {A:Around} {κ:Sc} {k:Nat} {h₀ h h' h₁:Heap} {prog:Program} {w:World}
noncomputable def AccAt (B:BC) (D:Addr) (acc:List AV) (α:Lbl) (h:Heap):Prop:=∃ vs:List Value,h.PlainList D vs.toArray/\RelL B α h acc vs
structure StC (B:BC) (κ:Sc) (fs:List Env) (env:Env) (D:Addr) (α:Lbl) (σ:St) (s:Shared) (fr:AFr) (acc:List AV):Prop where
 wd:Wd B α σ fs s.heap
 fro:FrOk B κ fr env α s.heap
 own:Own α [env.locals,D]
 ne:env.locals≠D
 acc:AccAt B D acc α s.heap
 hnd:∀ a,fr.hnd=.exc a->a≠D
theorem PostX.no {x:Value} (p:PostX B ex α fs s noX x s'):False:=let ⟨_,_,_,_,_,_,_,_,h⟩:=p;h
theorem StC.step {env:Env} {D:Addr} {fr:AFr} {acc:List AV} (x:StC B κ fs env D α σ s fr acc) (S:SStep B [] α s α₁ s₁) (W₁:Wd B α₁ σ₁ fs s₁.heap):StC B κ fs env D α₁ σ₁ s₁ fr acc where
 wd:=W₁
 fro:=x.fro.step S.2 x.wd
 own:=x.own.step S.2 x.wd
 ne:=x.ne
 acc:=by
  obtain ⟨vs,⟨n,ho⟩,r⟩:=x.acc
  exact ⟨vs,⟨n,x.own.keep x.wd S.2 (a:=D) (by simp) (λ q=>nomatch q) ho⟩,r.step S.2 ExOk.nil⟩
 hnd:=x.hnd
noncomputable def emT (elt:Expr) (gens:List Comprehension) (scope:Scope) (pos:Pos) (d:Nat) (D:Addr) (env:Env) (T:Sem PySem.Fin):Sem PySem.Fin:=
 match gens[d+1]? with
 | some g'=>do
  let x <- eval g'.iter env
  standAt g'.iter.pos
  let x <- if g'.is_async !=0 then foldedIterable g'.iter x else foldedSetIterable g'.iter env x
  let _ <- runOwn (.compStart (.ListComp elt gens scope pos) (d+1) (<- holding [x] (if g'.is_async !=0 then asyncIter x else pyIter x)) (.ref D) env) env
  T
 | none=>do
  let _ <- (do let _ <- call (.builtin "list.append") [.ref D,<- eval elt env]:Sem PUnit)
  T
noncomputable def EmOk (B:BC) (κ:Sc) (k:Nat) (inner:PC) (em:Addr->Env->Sem PySem.Fin->Sem PySem.Fin):Prop:=
 ∀ (A:Around) (fs:List Env) (env:Env) (D:Addr) (fr:AFr) (α:Lbl) (σ:St) (s:Shared) (acc:List AV) (K:List AV->AFr->St->Prop) (T:Sem PySem.Fin) (Q:PySem.Fin->Shared->Prop) (E:Value->Shared->Prop),Amb A fs k fr.hnd->StC B κ fs env D α σ s fr acc->inner fr σ acc K->
  (∀ α₂ σ₂ s₂ fr₂ acc₂,SStep B [env.locals,D] α s α₂ s₂->StC B κ fs env D α₂ σ₂ s₂ fr₂ acc₂->fr₂.hnd=fr.hnd->K acc₂ fr₂ σ₂->wpAny (model B.prog B.w) A T Q E s₂)->
  wpAny (model B.prog B.w) A (em D env T) Q E s
theorem tests_ok {ifs:List Expr} {ts:PT} (jf:JF B κ k ifs ts) {env:Env} {fr:AFr} {K:PB} {E:Value->Shared->Prop} (amb:Amb A fs k fr.hnd) (W:Wd B α σ fs s.heap) (F:FrOk B κ fr env α s.heap) (hf:ts fr σ K noX) {Q:Bool->Shared->Prop}
  (h:∀ b s₁ α₁ σ₁,SStep B [] α s α₁ s₁->Wd B α₁ σ₁ fs s₁.heap->K b σ₁->Q b s₁):
  wpAny (model B.prog B.w) A (forIn ifs true λ c r=>if r=true then do let ok <- isTrue c env (eval c env);pure (ForInStep.yield ok) else pure (ForInStep.yield r)) Q E s:=by
 induction jf with
 | nil=>exact wpAny_tests_nil (h true s α σ (SStep.refl _ _ _ _) W hf)
 | one jt=>exact wpAny_tests_one (jt.use amb W F hf (λ b s₁ α₁ σ₁ S₁ W₁ h₁ F₁=>h b s₁ α₁ σ₁ S₁ W₁ h₁) λ x s₁ p=>p.no.elim)
set_option tactic.hygienic true in
theorem compLoop_gen {elt:Expr} {gens:List Comprehension} {scope:Scope} {pos:Pos} {d:Nat} {target iter:Expr} {ifs:List Expr} {tp:TgP} {ts:PT} {inner:PC}
  (hg:gens[d]?=some ⟨target,iter,ifs,0⟩) (ht:TgPOk κ target tp) (jf:JF B κ k ifs ts)
  (he:EmOk B κ k inner (emT elt gens scope pos d))
  {env:Env} {D it:Addr} {b:Bool} {P:List AV->Lbl->Heap->Prop} {hn:HK} {rem:List AV} {fr:AFr} {acc:List AV} {K:List AV->AFr->St->Prop} {R:Result->Shared->Prop}
  (amb:Amb A fs k hn) (W₀:Wd B α₀ σ₀ fs s₀.heap) (fresh:∀ a∈I,s₀.heap.get? a=none) (hexc:∀ a,hn=.exc a->s₀.heap.get? a≠none) (hb:hn=.no\/(b=true/\hn≠ .any)) (hI:Iter B b P I it target) (hCI:∀ a∈[env.locals,D],a∉I)
  (hfr:fr.hnd=hn) (S:SStep B [env.locals,D] α₀ s₀ α₁ s₁) (X:StC B κ fs env D α₁ σ₁ s₁ fr acc) (O:Own α₁ I) (hP:P rem α₁ s₁.heap) (hK:compK tp ts inner rem fr σ₁ acc K)
  (hR:∀ α₂ σ₂ s₂ fr₂ acc₂,SStep B [env.locals,D] α₀ s₀ α₂ s₂->StC B κ fs env D α₂ σ₂ s₂ fr₂ acc₂->fr₂.hnd=hn->K acc₂ fr₂ σ₂->R (.ok .next) s₂):
  codeAny (model B.prog B.w) A (.compLoop (.ListComp elt gens scope pos) d (.ref it) (.ref D) env) R s₁:=by
 refine codeAny_loop rfl (λ n s'=>∃ rem α₁ σ₁ fr acc,rem.length=n/\fr.hnd=hn/\SStep B [env.locals,D] α₀ s₀ α₁ s'/\StC B κ fs env D α₁ σ₁ s' fr acc/\Own α₁ I/\P rem α₁ s'.heap/\compK tp ts inner rem fr σ₁ acc K) ?_ rem.length ⟨rem,α₁,σ₁,fr,acc,rfl,hfr,S,X,O,hP,hK⟩
 clear hK hP O X S hfr acc fr rem
 rintro n s' ⟨rem,α₁,σ₁,fr,acc,rfl,rfl,S,X,O,hP,hK⟩
 show wpAny _ A ((compTurn (.ListComp elt gens scope pos) d (.ref it) (.ref D) env).onRaise (λ x=>do noteFrame x env;theTreesLotGoes x)) _ _ s'
 refine wpAny_noted ?_
 rw [compTurn_at hg]
 have hno:NextOk b A I s'.heap:=nextOk amb hexc X.fro fresh hb
 have hhI:∀ a,fr.hnd=.exc a->a∉I:=λ a e q=>hexc a e (fresh a q)
 refine wpAny_bind (wpAny_standAt (wpAny_bind ?_))
 refine wpAny_mono (hI.next (Q:=λ r s₁=>match r with
   | none=>R (.ok .next) s₁
   | some v=>wpAny (model B.prog B.w) A (assign target env v) (λ z s₂=>wpAny (model B.prog B.w) A (forIn ifs true λ c r=>if r=true then do let ok <- isTrue c env (eval c env);pure (ForInStep.yield ok) else pure (ForInStep.yield r)) (λ ok s₃=>
      if ok=true then wpAny (model B.prog B.w) A (emT elt gens scope pos d D env (again (.compLoop (.ListComp elt gens scope pos) d (.ref it) (.ref D) env))) (λ fin s'=>match fin with
        | .done f=>R (.ok f) s'
        | .again c'=>c'=.compLoop (.ListComp elt gens scope pos) d (.ref it) (.ref D) env/\∃ m,m<rem.length/\∃ rem α₁ σ₁ fr' acc,rem.length=m/\fr'.hnd=fr.hnd/\SStep B [env.locals,D] α₀ s₀ α₁ s'/\StC B κ fs env D α₁ σ₁ s' fr' acc/\Own α₁ I/\P rem α₁ s'.heap/\compK tp ts inner rem fr' σ₁ acc K) (notedBy (model B.prog B.w) A env λ e s'=>R (.error e) s') s₃
       else ∃ m,m<rem.length/\∃ rem α₁ σ₁ fr' acc,rem.length=m/\fr'.hnd=fr.hnd/\SStep B [env.locals,D] α₀ s₀ α₁ s₃/\StC B κ fs env D α₁ σ₁ s₃ fr' acc/\Own α₁ I/\P rem α₁ s₃.heap/\compK tp ts inner rem fr' σ₁ acc K) (notedBy (model B.prog B.w) A env λ e s'=>R (.error e) s') s₂) (notedBy (model B.prog B.w) A env λ e s'=>R (.error e) s') s₁) hno hP O X.wd ?_) (λ r s₁ h=>?_) λ z z h=>h
 ·induction rem with
  | nil=>
   intro h' hk
   have hL:env.locals∉I:=hCI _ (by simp)
   have hD:D∉I:=hCI _ (by simp)
   have M:=Mov.minus (B:=B) O hk
   refine hR (α₁.minus I) σ₁ _ fr acc ⟨by obtain ⟨⟨h1,tk1,rfl⟩,_⟩:=S;exact ⟨h',tk1,rfl⟩,S.2.minus W₀ fresh hk⟩ ⟨X.wd.minus O hk,X.fro.minus O hL hhI hk,X.own.minus hCI,X.ne,?_,X.hnd⟩ rfl hK
   obtain ⟨vs,⟨n,ho⟩,r⟩:=X.acc
   exact ⟨vs,⟨n,hk D _ hD ho⟩,r.mov M⟩
  | cons x r=>
   intro v h₁ tk₁ S₁ W₁ P₁ rv
   obtain ⟨bd,hbd,hp⟩:=hK
   have hL:env.locals∉I:=hCI _ (by simp)
   have hD:D∉I:=hCI _ (by simp)
   have F₁:FrOk B κ fr env α₁ h₁:=X.fro.stepX S₁ X.wd O.exOk hL hhI
   have T₁:SStep B [env.locals,D] α₀ s₀ α₁ { s' with heap:=h₁,toks:=tk₁ }:=SStep.shrink ((S.widen (λ a q=>List.mem_append.mpr (.inr q))).trans (SStep.of (S₁.widen λ a q=>List.mem_append.mpr (.inl q)))) fresh
   have hnn:fr.hnd≠ .any\/∃ t,tp=.one t:=by
    left
    rcases hb with hb | hb
    ·rw [hb];exact λ q=>nomatch q
    ·exact hb.2
   have acc₁:AccAt B D acc α₁ h₁:=by
    obtain ⟨vs,⟨n,ho⟩,r⟩:=X.acc
    exact ⟨vs,⟨n,X.own.keep X.wd S₁ (a:=D) (by simp) hD ho⟩,r.step S₁ O.exOk⟩
   refine assign_ok (s:={ s' with heap:=h₁,toks:=tk₁ }) ht hbd amb hnn W₁ F₁ rv λ h₂ tk₂ S₂ W₂ F₂=>?_
   rw [bindA_fr] at F₂
   have T₂:=T₁.trans (SStep.of (tk:=tk₂) (S₂.widen (ex':=[env.locals,D]) λ a q=>by simp at q;simp [q]))
   have hLx:∀ a∈I,a∉[env.locals]:=λ a ha q=>hL (by simp at q;exact q▸ha)
   have P₂:=hI.step P₁ O hLx (ExOk.one F₁.here) W₁ S₂
   have O₁':Own α₁ [env.locals,D]:=X.own
   have acc₂:AccAt B D acc α₁ h₂:=by
    obtain ⟨vs,⟨n,ho⟩,r⟩:=acc₁
    exact ⟨vs,⟨n,O₁'.keep W₁ S₂ (a:=D) (by simp) (by simp [Ne.symm X.ne]) ho⟩,r.step S₂ (ExOk.one F₁.here)⟩
   have X₂:StC B κ fs env D α₁ (bindA bd fr σ₁).2 { s' with heap:=h₂,toks:=tk₂ } { fr with ρ:=(bindA bd fr σ₁).1.ρ } acc:=⟨W₂,F₂,O₁',X.ne,acc₂,X.hnd⟩
   refine tests_ok jf (fr:={ fr with ρ:=(bindA bd fr σ₁).1.ρ }) amb W₂ F₂ hp λ ok s₃ α₃ σ₃ S₃ W₃ hk₃=>?_
   have X₃:=X₂.step S₃ W₃
   have P₃:=hI.step P₂ O (λ a z q=>absurd q List.not_mem_nil) ExOk.nil W₂ S₃.2
   have O₃:Own α₃ I:=O.step S₃.2 W₂
   have T₃:=T₂.trans (S₃.widen (λ z q=>absurd q List.not_mem_nil))
   induction ok with
   | false=>
    rw [if_neg (by decide)]
    exact ⟨r.length,by simp,r,α₃,σ₃,{ fr with ρ:=(bindA bd fr σ₁).1.ρ },acc,rfl,rfl,T₃,X₃,O₃,P₃,hk₃.2 rfl⟩
   | true=>
    rw [if_pos rfl]
    refine he A fs env D { fr with ρ:=(bindA bd fr σ₁).1.ρ } α₃ σ₃ s₃ acc _ _ _ _ amb X₃ (hk₃.1 rfl) λ α₄ σ₄ s₄ fr₄ acc₄ S₄ X₄ hh₄ hk₄=>wpAny_pure ⟨rfl,?_⟩
    exact ⟨r.length,by simp,r,α₄,σ₄,fr₄,acc₄,rfl,hh₄,T₃.trans S₄,X₄,O₃.step S₄.2 W₃,hI.step P₃ O₃ (λ a ha q=>hCI a q ha) X₃.own.exOk W₃ S₄.2,hk₄⟩
 ·induction r with
  | none=>exact wpAny_pure h
  | some v=>
   refine wpAny_bind (wpAny_mono h (λ z s₁' h₁'=>?_) λ z z h'=>h')
   refine wpAny_bind (wpAny_mono h₁' (λ z s₂ h₂=>wpAny_bind (wpAny_mono h₂ (λ ok s₃ h₃=>?_) λ z z h'=>h')) λ z z h'=>h')
   induction ok with
   | false=>exact wpAny_pure ⟨rfl,h₃⟩
   | true=>
    cases hg':gens[d+1]? with
    | none=>
     unfold emT at h₃
     simp only [hg'] at h₃ ⊢
     exact h₃
    | some g'=>
     unfold emT at h₃
     simp only [hg'] at h₃ ⊢
     exact h₃
end
end
section
section
variable {B:BC} {ex I:List Addr} {α α' α₁ α₂ α₀:Lbl} {s s' s₁ s₂ s₀:Shared} {σ σ' σ₁ σ₂ σ₀:St} {fs:List Env} {A:Around} {κ:Sc} {k:Nat} {h₀ h h' h₁:Heap} {prog:Program} {w:World}
theorem compStart_ok {elt:Expr} {gens:List Comprehension} {scope:Scope} {pos:Pos} {d:Nat} {it acc:Value} {env:Env} {target iter:Expr} {ifs:List Expr} {R:Result->Shared->Prop} (hg:gens[d]?=some ⟨target,iter,ifs,0⟩)
  (h0:codeAny (model prog w) A (.compLoop (.ListComp elt gens scope pos) d it acc env) R s)
  (h:wpAny (model prog w) A (pyIter it) (λ it' s'=>codeAny (model prog w) A (.compLoop (.ListComp elt gens scope pos) d it' acc env) R s') (notedBy (model prog w) A env λ x s'=>R (.error x) s') s):
  codeAny (model prog w) A (.compStart (.ListComp elt gens scope pos) d it acc env) R s:=by
 refine codeAny_of_tree ?_
 show wpAny _ _ ((compStart (.ListComp elt gens scope pos) d it acc env).onRaise (λ x=>do noteFrame x env;standAt theWindowsPlace)) _ _ s
 refine wpAny_notedAt ?_
 unfold compStart
 have hg':(clausesOf (.ListComp elt gens scope pos))[d]?=some ⟨target,iter,ifs,0⟩:=hg
 simp only [hg']
 show wpAny _ _ (ask >>= _) _ _ s
 refine wpAny_bind (wpAny_askSetting (wpAny_ite ?_))
 split
 ·exact wpAny_bind (wpAny_pure (wpAny_pure ⟨rfl,h0⟩))
 ·refine wpAny_bind (wpAny_rule ?_)
  exact wpAny_bind (wpAny_standAt (wpAny_bind (wpAny_mono h (λ it' s' h'=>wpAny_pure ⟨rfl,h'⟩) λ z z x=>x)))
theorem emElt {elt:Expr} {gens:List Comprehension} {scope:Scope} {pos:Pos} {d:Nat} {f:PE} (hn:gens[d+1]?=none) (je:JE B κ k elt f):EmOk B κ k (C.elt f) (emT elt gens scope pos d):=λ A fs env D fr α σ s acc K T Q E amb X hf hT=>by
 unfold emT
 simp only [hn]
 refine wpAny_bind (wpAny_bind (je.use amb X.wd X.fro hf (λ v s₁ α₁ σ₁ a S₁ W₁ r₁ h₁ F₁=>?_) λ x s₁ p=>p.no.elim))
 have X₁:=X.step S₁ W₁
 obtain ⟨vs,hp,r⟩:=X₁.acc
 have hsz:vs.toArray.size<=sizeLine:=by simp [r.length];lia
 refine wpAny_bind (wpAny_list_append_plain (hsz:=hsz) hp λ h' hp' hs=>wpAny_pure ?_)
 have hk:∀ b o,b∉[D]->s₁.heap.get? b=some o->h'.get? b=some o:=λ b o hb e=>hs.extBut b o (by simpa using hb) e
 obtain ⟨nn,ho⟩:=id hp'
 have hd:∀ a∈[D],h'.get? a≠none:=by simp [ho]
 have O₁:Own α₁ [D]:=λ a ha=>X₁.own a (by simp at ha;simp [ha])
 have S₂:Step B [D] α₁ s₁.heap α₁ h':=Step.updOwn hk hd
 have W₂:=X₁.wd.updOwn O₁ hk hd
 refine hT α₁ σ₁ _ fr (acc++[a]) ((S₁.widen (λ z q=>absurd q List.not_mem_nil)).trans (SStep.of (tk:=s₁.toks) (S₂.widen (ex':=[env.locals,D]) λ b hb=>by simp at hb;simp [hb]))) ⟨W₂,X₁.fro.stepX S₂ X₁.wd O₁.exOk (by simp [X.ne]) (λ a e=>by simpa using X.hnd a e),X₁.own,X.ne,⟨vs++[v],?_,?_⟩,X.hnd⟩ rfl h₁.2
 ·have:(vs++[v]).toArray=vs.toArray.push v:=by simp
  rw [this];exact hp'
 ·exact (r.append (RelL.one r₁)).step S₂ O₁.exOk
theorem emSub {elt:Expr} {gens:List Comprehension} {scope:Scope} {pos:Pos} {d:Nat} {target iter:Expr} {ifs:List Expr} {tp:TgP} {ts:PT} {inner:PC} {it:PL} (hg:gens[d+1]?=some ⟨target,iter,ifs,0⟩) (ji:JI B κ k iter target it)
  (hs:∀ env x,foldedSetIterable iter env x=pure x) (ht:TgPOk κ target tp) (jf:JF B κ k ifs ts) (he:EmOk B κ k inner (emT elt gens scope pos (d+1))):EmOk B κ k (C.sub it tp ts inner) (emT elt gens scope pos d):=λ A fs env D fr α σ s acc K T Q E amb X hf hT=>by
 unfold emT
 simp only [hg]
 refine wpAny_bind (wpAny_mono (ji A fs env fr α σ _ noX s amb X.wd X.fro hf) (λ x s₁ h₁=>?_) λ x s₁ p=>p.no.elim)
 refine wpAny_bind (wpAny_standAt ?_)
 show wpAny _ A (do let x <- foldedSetIterable iter env x;let _ <- runOwn (.compStart (.ListComp elt gens scope pos) (d+1) (<- holding [x] (pyIter x)) (.ref D) env) env;T) _ _ _
 rw [hs]
 refine wpAny_bind (wpAny_pure (wpAny_bind (wpAny_holding (wpAny_mono h₁ (λ itv s₂ h₂=>?_) λ x s₁ p=>p.no.elim))))
 obtain ⟨α₂,σ₂,rem,I,a,P,b,rfl,S,W₂,O,fresh,hP,hI,hb,hK⟩:=h₂
 have X₂:=X.step S W₂
 have hCI:∀ c∈[env.locals,D],c∉I:=λ c hc q=>X.wd.there c (X.own c hc).1.liv (fresh c q)
 have loop:∀ R:Result->Shared->Prop,(∀ α₃ σ₃ s₃ fr₃ acc₃,SStep B [env.locals,D] α s α₃ s₃->StC B κ fs env D α₃ σ₃ s₃ fr₃ acc₃->fr₃.hnd=fr.hnd->K acc₃ fr₃ σ₃->R (.ok .next) s₃)->
   codeAny (model B.prog B.w) A (.compLoop (.ListComp elt gens scope pos) (d+1) (.ref a) (.ref D) env) R s₂:=λ R hR=>
  compLoop_gen (A:=A) hg ht jf he amb X.wd fresh (λ a e=>X.fro.hnd_some e) hb hI hCI rfl (S.widen (λ z q=>absurd q List.not_mem_nil)) X₂ O hP hK hR
 refine wpAny_bind (wpAny_runOwn (h:=none) ?_)
 have key:=loop (λ r s'=>match r with | .ok f=>wpAny (model B.prog B.w) A T Q E s' | .error e=>cameBackBy (model B.prog B.w) A env E e s') (λ α₃ σ₃ s₃ fr₃ acc₃ S₃ X₃ hh hk=>hT α₃ σ₃ s₃ fr₃ acc₃ S₃ X₃ hh hk)
 exact compStart_ok hg key (hI.self hP key)
theorem JC.em {elt:Expr} {gens:List Comprehension} {scope:Scope} {pos:Pos} {d:Nat} {target:Expr} {tp:TgP} {ts:PT} {inner:PC} (jc:JC B κ k elt gens d target tp ts inner):
  EmOk B κ k inner (emT elt gens scope pos d)/\TgPOk κ target tp/\∃ iter ifs,gens[d]?=some ⟨target,iter,ifs,0⟩/\JF B κ k ifs ts:=by
 induction jc with
 | last hg hn ht jf je=>exact ⟨emElt hn je,ht,_,_,hg,jf⟩
 | more hg hg' ht jf ji hs jc ih=>
  obtain ⟨he,ht',iter,ifs,hg'',jf'⟩:=ih
  rw [hg'] at hg''
  cases hg''
  exact ⟨emSub hg' ji hs ht' jf' he,ht,_,_,hg,jf⟩
end
end
section
noncomputable def relabelK (outer scope:Scope):Scope:=
 { scope with names:=scope.names.map λ (n,k)=>if (k== .free&&outer.kind== .function&&outer.names.lookup n==some .cell) then (n,.cell) else (n,k) }
structure CompOk (κ κc:Sc) (scope:Scope) (frees:List Str) (fm:List Nat):Prop where
 sc:κc.scope=relabelK κ.scope scope
 kind:scope.kind=.function
 cel:κc.cel=ownC scope.names++frees
 own:(ownC scope.names).Nodup
 dis:∀ x∈frees,x∉ownC scope.names
 loc:κc.loc.Nodup
 names:(scope.names.map (·.1)).Nodup
 locals:∀ x∈scope.names,x.2=.local->scope.names.lookup x.1=some .local
 fr1:∀ x∈scope.names,x.2=.free->x.1∈κ.cel
 fr2:∀ x∈frees,(x,NameKind.free)∈scope.names
 fm:frees.map some=fm.map (κ.cel[·]?)
 made:∀ c,κc.code=some c->κ.code=some c/\κc.qual=κ.qual
noncomputable def E.comp (nl m:Nat) (fm:List Nat) (it:PL) (tp:TgP) (ts:PT) (inner:PC):PE:=λ fr σ K X=>
 it fr σ (λ l σ'=>compK tp ts inner l (fr0 nl σ'.length m (fm.map λ i=>fr.χ.getD i 0) fr.hnd) (σ'++List.replicate m (.cel none)) [] (λ acc z σ''=>K (.lst acc) σ'')) X
section
variable {B:BC} {ex I:List Addr} {α α' α₁ α₂ α₀:Lbl} {s s' s₁ s₂ s₀:Shared} {σ σ' σ₁ σ₂ σ₀:St} {fs:List Env} {A:Around} {κ κc:Sc} {k:Nat} {h₀ h h' h₁:Heap} {prog:Program} {w:World}
theorem relabel_eq {scope:Scope} {env:Env} (e:env.scope=κ.scope):relabel scope env=relabelK κ.scope scope:=by
 unfold relabel relabelK Env.kindOf
 rw [e]
theorem Own.notFrm {β:Lbl} {b:Bool} {a:Addr} (W:Wd B β σ fs h) (e:h.get? a=none):¬ Frm (β.hide false a) a:=λ q=>by
 rcases List.mem_cons.mp q with q | q
 ·cases q
 ·exact W.there a (.inr ⟨true,q⟩) e
theorem comp_core {elt target iter:Expr} {ifs:List Expr} {rest:List Comprehension} {scope:Scope} {pos fp:Pos} {frees:List Str} {fm:List Nat} {it:PL} {tp:TgP} {ts:PT} {inner:PC} {env:Env} {fr:AFr} {K:PK} {X:PX} {use:Option (Value->Sem Unit)} {Q EX:Value->Shared->Prop}
  (ok:CompOk κ κc scope frees fm) (ji:JI B κ k iter target it) (jc:JC B κc k elt (⟨target,iter,ifs,0⟩::rest) 0 target tp ts inner) (hs:∀ env x,foldedSetIterable iter env x=pure x)
  (amb:Amb A fs k fr.hnd) (W:Wd B α σ fs s.heap) (F:FrOk B κ fr env α s.heap) (hf:E.comp κc.loc.length (ownC scope.names).length fm it tp ts inner fr σ K X)
  (hQ:∀ D C α₁ σ₁ s₁ acc,SStep B [] α s α₁ s₁->Wd B α₁ σ₁ fs s₁.heap->Own α₁ [C]->s.heap.get? C=none->(∃ m,s₁.heap.Ns C m)->Rel B α₁ s₁.heap (.lst acc) (.ref D)->K (.lst acc) σ₁->compPost (model B.prog B.w) A EX use Q (.ref D) C (.ok .next) s₁)
  (hE:∀ x s₁,PostX B [] α fs s X x s₁->EX x s₁):
  wpAny (model B.prog B.w) A (comprehension (.ListComp elt (⟨target,iter,ifs,0⟩::rest) scope pos) scope env fp (newList []) false (eval iter env) use) Q EX s:=by
 have hcell:∀ x∈scope.names,x.2=.free->(env.cells.lookup x.1).isSome=true:=λ x hx hxf=>by
  obtain ⟨i,hi⟩:=List.getElem?_of_mem (ok.fr1 x hx hxf)
  obtain ⟨ad,_,e,_⟩:=F.cells i x.1 hi
  rw [e];rfl
 obtain ⟨cl,hclos,hcl⟩:=closure_ok hcell ok.names
 refine wpAny_comprehension_free (use:=use) rfl (hs env) hclos ok.kind ok.locals ?_
 refine wpAny_mono (ji A fs env fr α σ _ X s amb W F hf) (λ x s₁ h₁=>wpAny_mono h₁ (λ itv s₂ h₂=>?_) hE) hE
 obtain ⟨α₂,σ₂,rem,I,a,P,b,rfl,S,W₂,O,fresh,hP,hI,hb,hK⟩:=h₂
 have F₂:=F.step S.2 W
 unfold newList
 refine wpAny_newObj_type ?_
 generalize hO:({ cls:=.type "list",dict:=none,data:=.seq ([]:List Value).toArray }:Obj)=ob
 have hnD:s₂.heap.get? s₂.heap.objs.size=none:=size_none _
 have htD:(s₂.heap.push ob).get? s₂.heap.objs.size=some ob:=Heap.get?_push_size _ (by rw [<- hO];rfl)
 have S₃:Step B [] α₂ s₂.heap (α₂.hide false s₂.heap.objs.size) (s₂.heap.push ob):=Step.newHid (Full.push _ _) hnD
 have W₃:Wd B (α₂.hide false s₂.heap.objs.size) σ₂ fs (s₂.heap.push ob):=W₂.newHid (Full.push _ _) hnD (some_ne_none htD)
 have F₃:=F₂.step S₃ W₂
 have hDf:¬ Frm (α₂.hide false s₂.heap.objs.size) s₂.heap.objs.size:=Own.notFrm (b:=false) W₂ hnD
 have hsz:(s₂.heap.push ob).objs.size=s₂.heap.objs.size+1:=Heap.size_push ..
 rw [F.globals]
 refine newEnv_ok (s:={ s₂ with heap:=s₂.heap.push ob }) (κ:={ κc with scope:=scope }) (frees:=frees) (χf:=fm.map λ i=>fr.χ.getD i 0) (ts:=[]) (l:=[]) (hn:=fr.hnd) rfl ok.kind ok.cel ok.own ok.dis ok.loc F.builtins ?_ trivial rfl RelL.nil (λ a e=>(F₃.handled a e).1) (λ c e=>by obtain ⟨e1,e2⟩:=ok.made c e;obtain ⟨e3,e4⟩:=F.made c e1;exact ⟨e3,e4.trans e2.symm⟩) W₃ ?_
 ·intro j x hj
  have hmem:=List.mem_of_getElem? hj
  have e1:(frees.map some)[j]?=some (some x):=by rw [List.getElem?_map,hj];rfl
  rw [ok.fm,List.getElem?_map] at e1
  obtain ⟨i,hi,e2⟩:=Option.map_eq_some_iff.mp e1
  obtain ⟨ad,n,c1,c2,c3⟩:=F₃.cells i x e2
  refine ⟨ad,n,(hcl (x,.free) (ok.fr2 x hmem) rfl).trans c1,?_,c3⟩
  rw [List.getElem?_map,hi]
  show some (fr.χ.getD i 0)=some n
  rw [List.getD_eq_getElem?_getD,c2];rfl
 ·intro cells α₄ h₄ tk₄ S₄ W₄ F₄ hm₄ hhid
  simp only [List.zip_nil_right,bindA_nil] at W₄ F₄
  generalize hCe:(newEnv scope ({ s₂ with heap:=s₂.heap.push ob }:Shared).heap.objs.size mainGlobals cells env.qual none .none (some env) builtinsNs)=cenv at F₄ ⊢
  have hCl:cenv.locals=s₂.heap.objs.size+1:=by rw [<- hCe];exact hsz
  have hCs:cenv.scope=scope:=by rw [<- hCe];rfl
  have hnC:(s₂.heap.push ob).get? (s₂.heap.objs.size+1)=none:=by rw [<- hsz];exact size_none _
  have hCmem:(false,s₂.heap.objs.size+1)∈α₄.hid:=by rw [<- hsz];exact hm₄
  have F₅:FrOk B κc (fr0 κc.loc.length σ₂.length (ownC scope.names).length (fm.map λ i=>fr.χ.getD i 0) fr.hnd) { cenv with scope:=relabel scope env } α₄ h₄:=
   ⟨(relabel_eq F.scope).trans ok.sc.symm,by rw [ok.sc];exact ok.kind,ok.loc,F₄.globals,F₄.builtins,F₄.locs,F₄.here,F₄.cells,F₄.handled,F₄.made⟩
  have hDlt:s₂.heap.objs.size≠s₂.heap.objs.size+1:=Nat.ne_of_lt (Nat.lt_succ_self _)
  have OD:Own α₄ [s₂.heap.objs.size]:=Own.step (α:=α₂.hide false s₂.heap.objs.size) S₄ W₃ λ c hc=>by
   simp at hc;subst hc;exact ⟨hid_self,hDf⟩
  have OC:Own α₄ [s₂.heap.objs.size+1]:=λ c hc=>by
   simp at hc;subst hc
   refine ⟨⟨false,hCmem⟩,λ q=>?_⟩
   have q':(true,s₂.heap.objs.size+1)∈α₄.hid:=q
   rw [hhid] at q'
   rcases List.mem_cons.mp q' with q' | q'
   ·cases q'
   ·exact W₃.there _ (.inr ⟨true,q'⟩) hnC
  have T₄:SStep B [] α s α₄ { s₂ with heap:=h₄,toks:=tk₄ }:=S.trans (SStep.of (S₃.trans S₄))
  have O₄:Own α₄ I:=(O.step S₃ W₂).step S₄ W₃
  have P₄:P rem α₄ h₄:=hI.step (hI.step hP O (λ z z q=>absurd q List.not_mem_nil) ExOk.nil W₂ S₃) (O.step S₃ W₂) (λ z z q=>absurd q List.not_mem_nil) ExOk.nil W₃ S₄
  have hDI:s₂.heap.objs.size∉I:=λ q=>W₂.there _ (O _ q).1.liv hnD
  have hCI:s₂.heap.objs.size+1∉I:=λ q=>W₂.there _ (O _ q).1.liv (size_none1 _ 1)
  have hsD:s.heap.get? s₂.heap.objs.size=none:=none_of_dom S.2.dom hnD
  have hsC:s.heap.get? (s₂.heap.objs.size+1)=none:=none_of_dom S.2.dom (size_none1 _ 1)
  obtain ⟨nD,hD4⟩:∃ n,h₄.get? s₂.heap.objs.size=some { cls:=.type "list",dict:=none,data:=.seq #[] n,slots:=#[] }:=by
   refine ⟨0,?_⟩
   obtain ⟨sl,e1,kk⟩:=S₄.keep s₂.heap.objs.size ob (W₃.alone _ hid_self) (W₃.hidTab _ hid_self) (λ q=>absurd q List.not_mem_nil) (.inr (.inr hid_self)) htD
   rw [kk hDf,<- hO] at e1
   exact e1
  have X₄:StC B κc fs { cenv with scope:=relabel scope env } s₂.heap.objs.size α₄ (σ₂++List.replicate (ownC scope.names).length (.cel none)) { s₂ with heap:=h₄,toks:=tk₄ } (fr0 κc.loc.length σ₂.length (ownC scope.names).length (fm.map λ i=>fr.χ.getD i 0) fr.hnd) []:=
   ⟨W₄,F₅,λ c hc=>by
    simp only [List.mem_cons,List.not_mem_nil,or_false] at hc
    rcases hc with rfl | rfl
    ·show Hid α₄ cenv.locals/\¬ Frm α₄ cenv.locals
     rw [hCl];exact OC _ (by simp)
    ·exact OD _ (by simp),by show cenv.locals≠_;rw [hCl];exact Ne.symm hDlt,⟨[],⟨nD,hD4⟩,RelL.nil⟩,λ a e q=>F.hnd_some e (q▸hsD)⟩
  obtain ⟨he,ht,iter',ifs',hg,jf⟩:=jc.em (scope:=scope) (pos:=pos)
  cases hg
  have hfinal:∀ α₅ σ₅ s₅ fr₅ acc₅,SStep B [cenv.locals,s₂.heap.objs.size] α s α₅ s₅->StC B κc fs { cenv with scope:=relabel scope env } s₂.heap.objs.size α₅ σ₅ s₅ fr₅ acc₅->fr₅.hnd=fr.hnd->K (.lst acc₅) σ₅->
    compPost (model B.prog B.w) A EX use Q (.ref s₂.heap.objs.size) cenv.locals (.ok .next) s₅:=λ α₅ σ₅ s₅ fr₅ acc₅ S₅ X₅ hh₅ hk₅=>by
   have T₅:SStep B [] α s α₅ s₅:=SStep.shrink (I:=[cenv.locals,s₂.heap.objs.size]) (ex:=[]) (by simpa using S₅) (by simp [hCl,hsC,hsD])
   have OD₅:Own α₅ [s₂.heap.objs.size]:=λ c hc=>X₅.own c (by simp at hc;simp [hc])
   have OC₅:Own α₅ [cenv.locals]:=λ c hc=>X₅.own c (by simp at hc;simp [hc])
   have kk:∀ b o,b∉[s₂.heap.objs.size]->s₅.heap.get? b=some o->s₅.heap.get? b=some o:=λ z z z e=>e
   have T₆:SStep B [] α s (α₅.minus [s₂.heap.objs.size]) s₅:=⟨T₅.1,T₅.2.minus W (by simp [hsD]) kk⟩
   have W₆:=X₅.wd.minus OD₅ kk
   have hne5:cenv.locals≠s₂.heap.objs.size:=X₅.ne
   obtain ⟨vs,hp,hr⟩:=X₅.acc
   obtain ⟨m,hm,_⟩:=X₅.fro.locs
   refine hQ s₂.heap.objs.size cenv.locals _ σ₅ s₅ acc₅ T₆ W₆ (OC₅.minus (by simp [hne5])) (by rw [hCl];exact hsC) ⟨m,hm⟩ ?_ hk₅
   exact ⟨_,vs,rfl,⟨λ q=>by
    rcases q with q | q
    ·exact X₅.wd.alone _ (OD₅ _ (by simp)).1 q
    ·obtain ⟨f,q⟩:=q;exact (mem_minus.mp q).2 (by simp),(X₅.wd.apart _ (OD₅ _ (by simp)).1.liv).2⟩,hp,hr.mov (Mov.minus OD₅ kk)⟩
  have loop:codeAny (model B.prog B.w) A (.compLoop (.ListComp elt (⟨target,iter,ifs,0⟩::rest) scope pos) 0 (.ref a) (.ref s₂.heap.objs.size) { cenv with scope:=relabel scope env })
    (compPost (model B.prog B.w) A EX use Q (.ref s₂.heap.objs.size) cenv.locals) { s₂ with heap:=h₄,toks:=tk₄ }:=
   compLoop_gen (A:=A) (hn:=fr.hnd) (fr:=fr0 κc.loc.length σ₂.length (ownC scope.names).length (fm.map λ i=>fr.χ.getD i 0) fr.hnd) rfl ht jf he amb W fresh (λ a e=>F.hnd_some e) hb hI (λ c hc=>by
    simp only [List.mem_cons,List.not_mem_nil,or_false] at hc
    rcases hc with rfl | rfl
    ·show cenv.locals∉I
     rw [hCl];exact hCI
    ·exact hDI) rfl (T₄.widen (λ z q=>absurd q List.not_mem_nil)) X₄ O₄ P₄ hK hfinal
  exact compStart_ok rfl loop (hI.self P₄ loop)
theorem comp_drop {C:Addr} {env:Env} {K:PK} {v:Value} {h':Heap} {av:AV} (W:Wd B α σ fs s.heap) (S:SStep B ex α s α₁ s₁) (W₁:Wd B α₁ σ₁ fs s₁.heap) (O:Own α₁ [C]) (fr:s.heap.get? C=none) (hs:Heap.SameBut C s₁.heap h')
  (r:Rel B α₁ s₁.heap av v):SStep B ex α s (α₁.un α) { s₁ with heap:=h' }/\Wd B (α₁.un α) σ₁ fs h'/\Rel B (α₁.un α) h' av v/\(∀ fr₁ env,FrOk B κ fr₁ env α s.heap->∀ fr₂,fr₂.hnd=fr₁.hnd->FrOk B κ fr₂ env α₁ s₁.heap->FrOk B κ fr₂ env (α₁.un α) h'):=by
 have kk:∀ b o,b∉[C]->s₁.heap.get? b=some o->h'.get? b=some o:=λ b o hb e=>hs.extBut b o (by simpa using hb) e
 have fr':∀ a∈[C],s.heap.get? a=none:=by simp [fr]
 refine ⟨⟨by obtain ⟨⟨h1,tk1,rfl⟩,_⟩:=S;exact ⟨h',tk1,rfl⟩,S.2.drop fr' kk⟩,W.drop S.2 W₁ O fr' kk (frames_loc W₁ _),r.mov (Mov.drop O S.2.hidOld kk),λ fr₁ env F fr₂ e F₁=>F.drop F₁ e S.2.hidOld O fr' kk⟩
theorem JE.comp {elt target iter:Expr} {ifs:List Expr} {rest:List Comprehension} {scope:Scope} {pos:Pos} {frees:List Str} {fm:List Nat} {it:PL} {tp:TgP} {ts:PT} {inner:PC}
  (ok:CompOk κ κc scope frees fm) (ji:JI B κ k iter target it) (jc:JC B κc k elt (⟨target,iter,ifs,0⟩::rest) 0 target tp ts inner) (hs:∀ env x,foldedSetIterable iter env x=pure x):
  JE B κ k (.ListComp elt (⟨target,iter,ifs,0⟩::rest) scope pos) (E.comp κc.loc.length (ownC scope.names).length fm it tp ts inner):=λ A fs env fr α σ K X s amb W F hf=>by
 rw [eval_ListComp]
 refine comp_core (use:=none) (EX:=PostX B [] α fs s X) (Q:=PostV B [] α fs s K) ok ji jc hs amb W F hf (λ D C α₁ σ₁ s₁ acc S₁ W₁ O₁ fC hm r hk=>?_) λ z z p=>p
 obtain ⟨m,hm⟩:=hm
 refine ⟨m,hm,λ h' hs'=>?_⟩
 obtain ⟨S₂,W₂,r₂,_⟩:=comp_drop (κ:=κ) (env:=env) (K:=K) W S₁ W₁ O₁ fC hs' r
 exact ⟨_,σ₁,_,S₂,W₂,r₂,hk⟩
set_option tactic.hygienic true in
theorem J1.comp {x:Str} {p' spos:Pos} {t:Tg} {elt target iter:Expr} {ifs:List Expr} {rest:List Comprehension} {scope:Scope} {pos:Pos} {frees:List Str} {fm:List Nat} {it:PL} {tp:TgP} {ts:PT} {inner:PC}
  (ok:CompOk κ κc scope frees fm) (ji:JI B κ k iter target it) (jc:JC B κc k elt (⟨target,iter,ifs,0⟩::rest) 0 target tp ts inner) (hs:∀ env x,foldedSetIterable iter env x=pure x) (ht:TgOk κ x t)
  (hsw:∀ env:Env,env.scope=κ.scope->swapsWith (.ListComp elt (⟨target,iter,ifs,0⟩::rest) scope pos) (some (.Name x p')) spos.line env=pure true):
  J1 B κ k (.Assign [.Name x p'] (.ListComp elt (⟨target,iter,ifs,0⟩::rest) scope pos) spos) (S.set t (E.comp κc.loc.length (ownC scope.names).length fm it tp ts inner)):=λ A fs env fr α σ N R Bk X s amb W F G hf=>by
 rw [exec_Assign_Name_used _ _ _ _ (hsw env F.scope)]
 refine wpAny_bind (wpAny_standAt (wpAny_bind ?_))
 show wpAny _ A (do let _ <- comprehension (.ListComp elt (⟨target,iter,ifs,0⟩::rest) scope pos) scope env _ (newList []) false (eval iter env) (some (assign (.Name x p') env))) _ _ s
 refine wpAny_bind (wpAny_mono (comp_core (use:=some (assign (.Name x p') env)) (EX:=PostX B [env.locals] α fs s X) (Q:=λ z s'=>PostF B κ fr env α fs s N R Bk .next s') ok ji jc hs amb W F hf (λ D C α₁ σ₁ s₁ acc S₁ W₁ O₁ fC hm r hk=>?_) λ z z p=>p.wide) (λ z s' hq=>wpAny_pure (wpAny_pure hq)) λ z z e=>e)
 obtain ⟨m,hm⟩:=hm
 have F₁:=F.step S₁.2 W
 refine wpAny_assign_Name (store_ok ht W₁ F₁ r λ h₂ tk₂ S₂ W₂ F₂=>?_)
 have hLC:env.locals≠C:=λ q=>F.locals_some (q▸fC)
 have O₂:Own α₁ [C]:=O₁
 obtain ⟨o,es,ep,ho,hd,rr⟩:=id hm
 have ho₂:=O₁.keep W₁ S₂ (a:=C) (by simp) (by simp [Ne.symm hLC]) ho
 refine ⟨m,⟨o,es,ep,ho₂,hd,rr⟩,λ h' hs'=>?_⟩
 rw [fr_of_bindT] at F₂
 have T:=S₁.wide.trans (SStep.of (tk:=tk₂) S₂)
 obtain ⟨S₃,W₃,_,hF⟩:=comp_drop (κ:=κ) (env:=env) (K:=λ z z=>True) (av:=.none) (v:=.none) W T W₂ O₂ fC hs' rel_none
 exact ⟨_,_,S₃,W₃,(bindT t (.lst acc) fr σ₁).1.ρ,hF fr env F _ rfl F₂,hk⟩
end
end
section
mutual
noncomputable def Bd (n:Nat):AV->Prop
 | .loc m=>m<n
 | .tup l=>BdL n l
 | .lst l=>BdL n l
 | .clo _ cs=>∀ c∈cs,c<n
 | _=>True
noncomputable def BdL (n:Nat):List AV->Prop
 | []=>True
 | x::l=>Bd n x/\BdL n l
end
noncomputable def BdO (n:Nat):AObj->Prop
 | .cel (some v)=>Bd n v
 | .cel none=>True
 | .lst l=>BdL n l
 | .ite l _=>BdL n l
 | .gone=>True
noncomputable abbrev Lbl.cut (α' α:Lbl):Lbl:=⟨α'.lab.take α.lab.length,α.hid⟩
section
variable {B:BC} {ex I:List Addr} {α α' α₁ α₂ α₀:Lbl} {s s' s₁ s₂ s₀:Shared} {σ σ' σ₁ σ₂ σ₀:St} {fs fs':List Env} {A:Around} {κ κc:Sc} {k:Nat} {h₀ h h' h₁:Heap} {prog:Program} {w:World}
theorem cut_get {n:Nat} (hn:n<α.lab.length):(α'.cut α).lab[n]?=α'.lab[n]?:=by
 show (α'.lab.take α.lab.length)[n]?=_
 rw [List.getElem?_take_of_lt hn]
theorem cut_some {n:Nat} {lb:Lb} (e:(α'.cut α).lab[n]?=some lb):n<α.lab.length/\α'.lab[n]?=some lb:=by
 have e':(α'.lab.take α.lab.length)[n]?=some lb:=e
 have hn:n<α.lab.length:=by
  rcases Nat.lt_or_ge n α.lab.length with q | q
  ·exact q
  ·rw [List.getElem?_take_eq_none q] at e';cases e'
 exact ⟨hn,by rw [List.getElem?_take_of_lt hn] at e';exact e'⟩
theorem adr_cut {n:Nat} {a:Addr} (e:adr (α'.cut α) n=some a):n<α.lab.length/\adr α' n=some a:=by
 unfold adr at e
 cases q:(α'.cut α).lab[n]? with
 | none=>rw [q] at e;cases e
 | some lb=>
  obtain ⟨h1,h2⟩:=cut_some q
  rw [q] at e
  exact ⟨h1,by unfold adr;rw [h2];exact e⟩
theorem Lab.cut {a:Addr} (x:Lab (α'.cut α) a):Lab α' a:=let ⟨n,e⟩:=x;⟨n,(adr_cut e).2⟩
theorem Liv.cut {a:Addr} (hk:∀ p∈α.hid,p∈α'.hid) (x:Liv (α'.cut α) a):Liv α' a:=x.imp Lab.cut λ ⟨f,q⟩=>⟨f,hk _ q⟩
theorem Frz.cut {a:Addr} (hk:∀ p∈α.hid,p∈α'.hid) (x:Frz B α' a):Frz B (α'.cut α) a:=⟨λ q=>x.1 (q.cut hk),x.2⟩
theorem CloAt.cut (hk:∀ p∈α.hid,p∈α'.hid) {k:Nat} {cs:List Nat} {a:Addr} (hb:∀ c∈cs,c<α.lab.length) (x:CloAt B α' h k cs a):CloAt B (α'.cut α) h k cs a:=by
 obtain ⟨t,o,cl,doc,pm,ct,c,h1,h2,h3,h4,h5,h6,h7⟩:=x
 refine ⟨t,o,cl,doc,pm,ct,c,h1,h2,h3,h4,h5.cut hk,h6,λ j y e=>?_⟩
 obtain ⟨ad,n,a1,a2,a3⟩:=h7 j y e
 exact ⟨ad,n,a1,a2,by rw [cut_get (hb n (List.mem_of_getElem? a2))];exact a3⟩
mutual
theorem Rel.cut (hk:∀ p∈α.hid,p∈α'.hid):∀ (x:AV) (v:Value),Bd α.lab.length x->Rel B α' h x v->Rel B (α'.cut α) h x v
 | .none,v,_,r=>r
 | .bool b,v,_,r=>r
 | .int i,v,_,r=>r
 | .str y,v,_,r=>r
 | .tup l,v,hb,r=>by
  obtain ⟨a,vs,e,hf,ho,hl⟩:=r
  exact ⟨a,vs,e,hf.cut hk,ho,RelL.cut hk l vs hb hl⟩
 | .lst l,v,hb,r=>by
  obtain ⟨a,vs,e,hf,ho,hl⟩:=r
  exact ⟨a,vs,e,hf.cut hk,ho,RelL.cut hk l vs hb hl⟩
 | .dct g,v,_,r=>by
  obtain ⟨a,e,hf,ho⟩:=r
  exact ⟨a,e,hf.cut hk,ho⟩
 | .loc n,v,hb,r=>by
  obtain ⟨a,e,r⟩:=r
  exact ⟨a,e,by rw [cut_get hb];exact r⟩
 | .val u,v,_,r=>r
 | .clo k cs,v,hb,r=>by
  obtain ⟨a,e,hf,x⟩:=r
  exact ⟨a,e,hf.cut hk,x.cut hk hb⟩
theorem RelL.cut (hk:∀ p∈α.hid,p∈α'.hid):∀ (l:List AV) (vs:List Value),BdL α.lab.length l->RelL B α' h l vs->RelL B (α'.cut α) h l vs
 | [],vs,_,r=>r
 | x::l,vs,hb,r=>by
  obtain ⟨v,r',e,h1,h2⟩:=r
  obtain ⟨hb1,hb2⟩:=hb
  exact ⟨v,r',e,Rel.cut hk x v hb1 h1,RelL.cut hk l r' hb2 h2⟩
end
mutual
theorem Rel.cut2 (hk:∀ p∈α.hid,p∈α'.hid):∀ (x:AV) (v v₀:Value),Rel B α h₀ x v₀->Rel B α' h x v->Rel B (α'.cut α) h x v
 | .none,v,_,_,r=>r
 | .bool b,v,_,_,r=>r
 | .int i,v,_,_,r=>r
 | .str y,v,_,_,r=>r
 | .tup l,v,v₀,q,r=>by
  obtain ⟨a,vs,e,hf,ho,hl⟩:=r
  obtain ⟨_,vs₀,_,_,_,hl₀⟩:=q
  exact ⟨a,vs,e,hf.cut hk,ho,RelL.cut2 hk l vs vs₀ hl₀ hl⟩
 | .lst l,v,v₀,q,r=>by
  obtain ⟨a,vs,e,hf,ho,hl⟩:=r
  obtain ⟨_,vs₀,_,_,_,hl₀⟩:=q
  exact ⟨a,vs,e,hf.cut hk,ho,RelL.cut2 hk l vs vs₀ hl₀ hl⟩
 | .dct g,v,_,_,r=>by
  obtain ⟨a,e,hf,ho⟩:=r
  exact ⟨a,e,hf.cut hk,ho⟩
 | .loc n,v,v₀,q,r=>by
  obtain ⟨a,e,r⟩:=r
  obtain ⟨a₀,_,q⟩:=q
  have hn:n<α.lab.length:=by rcases q with q | q<;>exact (List.getElem?_eq_some_iff.mp q).1
  exact ⟨a,e,by rw [cut_get hn];exact r⟩
 | .val u,v,_,_,r=>r
 | .clo k cs,v,v₀,q,r=>by
  obtain ⟨a,e,hf,t,o,cl,doc,pm,ct,c,h1,h2,h3,h4,h5,h6,h7⟩:=r
  obtain ⟨a₀,_,_,t₀,o₀,cl₀,doc₀,pm₀,ct₀,c₀,g1,g2,g3,g4,g5,g6,g7⟩:=q
  rw [h1] at g1;cases g1
  refine ⟨a,e,hf.cut hk,t,o,cl,doc,pm,ct,c,h1,h2,h3,h4,h5.cut hk,h6,λ j y e=>?_⟩
  obtain ⟨ad,n,a1,a2,a3⟩:=h7 j y e
  obtain ⟨ad₀,n₀,b1,b2,b3⟩:=g7 j y e
  rw [a2] at b2;cases b2
  exact ⟨ad,n,a1,a2,by rw [cut_get (List.getElem?_eq_some_iff.mp b3).1];exact a3⟩
theorem RelL.cut2 (hk:∀ p∈α.hid,p∈α'.hid):∀ (l:List AV) (vs vs₀:List Value),RelL B α h₀ l vs₀->RelL B α' h l vs->RelL B (α'.cut α) h l vs
 | [],vs,_,_,r=>r
 | x::l,vs,vs₀,q,r=>by
  obtain ⟨v,r',e,h1,h2⟩:=r
  obtain ⟨v₀,r₀,e₀,g1,g2⟩:=q
  exact ⟨v,r',e,Rel.cut2 hk x v v₀ g1 h1,RelL.cut2 hk l r' r₀ g2 h2⟩
end
theorem ORel.cut (hk:∀ p∈α.hid,p∈α'.hid) {ao:AObj} {lb:Lb} (hb:BdO α.lab.length ao) (r:ORel B α' h ao lb):ORel B (α'.cut α) h ao lb:=by
 cases ao with
 | cel v=>
  cases lb with
  | cell a=>
   obtain ⟨o,w,ho,hd,hr⟩:=r
   refine ⟨o,w,ho,hd,?_⟩
   cases v<;>cases w<;>simp only [ORelO] at hr ⊢
   exact hr.cut hk _ _ hb
  | _=>exact r.elim
 | lst l=>
  cases lb with
  | obj a=>
   obtain ⟨vs,ho,hr⟩:=r
   exact ⟨vs,ho,hr.cut hk _ _ hb⟩
  | _=>exact r.elim
 | ite l i=>
  cases lb with
  | obj a=>
   obtain ⟨la,vs,h1,hf,h2,hr⟩:=r
   exact ⟨la,vs,h1,hf.cut hk,h2,hr.cut hk _ _ hb⟩
  | _=>exact r.elim
 | gone=>cases lb<;>first | exact r.elim | exact trivial
theorem ORel.cut2 (hk:∀ p∈α.hid,p∈α'.hid) {ao:AObj} {lb lb₀:Lb} (q:ORel B α h₀ ao lb₀) (r:ORel B α' h ao lb):ORel B (α'.cut α) h ao lb:=by
 cases ao with
 | cel v=>
  cases lb with
  | cell a=>
   obtain ⟨o,w,ho,hd,hr⟩:=r
   refine ⟨o,w,ho,hd,?_⟩
   cases lb₀ with
   | cell a₀=>
    obtain ⟨o₀,w₀,_,_,hr₀⟩:=q
    cases v<;>cases w<;>cases w₀<;>simp only [ORelO] at hr hr₀ ⊢
    exact Rel.cut2 hk _ _ _ hr₀ hr
   | _=>exact q.elim
  | _=>exact r.elim
 | lst l=>
  cases lb with
  | obj a=>
   obtain ⟨vs,ho,hr⟩:=r
   cases lb₀ with
   | obj a₀=>
    obtain ⟨vs₀,_,hr₀⟩:=q
    exact ⟨vs,ho,RelL.cut2 hk _ _ _ hr₀ hr⟩
   | _=>exact q.elim
  | _=>exact r.elim
 | ite l i=>
  cases lb with
  | obj a=>
   obtain ⟨la,vs,h1,hf,h2,hr⟩:=r
   cases lb₀ with
   | obj a₀=>
    obtain ⟨_,vs₀,_,_,_,hr₀⟩:=q
    exact ⟨la,vs,h1,hf.cut hk,h2,RelL.cut2 hk _ _ _ hr₀ hr⟩
   | _=>exact q.elim
  | _=>exact r.elim
 | gone=>cases lb<;>first | exact r.elim | exact trivial
noncomputable def CutOk (σ σ':St):Prop:=∀ (i:Nat) (ao:AObj),i<σ.length->σ'[i]?=some ao->σ[i]?=some ao\/BdO σ.length ao
theorem Step.cut (S:Step B ex α h α' h'):Step B ex α h (α'.cut α) h' where
 keep:=S.keep
 dom:=S.dom
 ext:=by show α.lab.length<=(α'.lab.take α.lab.length).length;rw [List.length_take];have:=S.ext;lia
 old:=λ n hn=>by rw [cut_get hn];exact S.old n hn
 new:=λ n a hn e=>absurd (adr_cut e).1 (Nat.not_lt.mpr hn)
 hidOld:=λ z e=>e
 hidNew:=λ z e=>.inl e
theorem Wd.cut (W:Wd B α σ fs h) (S:Step B ex α h α' h') (W':Wd B α' σ' fs' h') (hc:CutOk σ σ') (hx:∀ env∈fs,∀ L,env.frame=some L->L∈ex->∃ o es n,h'.get? L=some o/\o.data=.dict es n):Wd B (α'.cut α) (σ'.take σ.length) fs h' where
 stays:=W'.stays
 len:=by show (α'.lab.take α.lab.length).length=_;rw [List.length_take,List.length_take,W'.len,W.len]
 objs:=λ n ao lb e1 e2=>by
  obtain ⟨hn,e2⟩:=cut_some e2
  have hn':n<σ.length:=W.len▸hn
  rw [List.getElem?_take_of_lt hn'] at e1
  have r:=W'.objs n ao lb e1 e2
  rcases hc n ao hn' e1 with q | q
  ·exact ORel.cut2 S.hidOld (W.objs n ao _ q (List.getElem?_eq_getElem hn)) r
  ·rw [<- W.len] at q
   exact r.cut S.hidOld q
 inj:=λ i j a e1 e2=>W'.inj i j a (adr_cut e1).2 (adr_cut e2).2
 alone:=λ a ⟨f,x⟩ y=>W'.alone a ⟨f,S.hidOld _ x⟩ y.cut
 apart:=λ a x=>W'.apart a (x.cut S.hidOld)
 there:=λ a x=>W'.there a (x.cut S.hidOld)
 tabs:=λ q hq=>by
  obtain ⟨ps,e,t,c⟩:=W'.tabs q hq
  exact ⟨ps,e,t,λ pos cv e=>let ⟨c',e1,e2,e3⟩:=c pos cv e;⟨c',e1,e2.cut S.hidOld,e3⟩⟩
 frames:=W.frames.step S.cut hx W.hidTab W.alone
theorem XRel.cut {e:Addr} {c:String} (hk:∀ p∈α.hid,p∈α'.hid) (x:XRel B h₀ α' h e c):XRel B h₀ (α'.cut α) h e c:=by
 obtain ⟨a,b,b',hcc,oe,vs,h1,h2,h3,h4,⟨t,t1,t2,t3,t4⟩,h5⟩:=x
 exact ⟨a,b,b'.cut hk,hcc,oe,vs,h1,h2,h3,h4,⟨t,t1,t2,t3.cut hk,t4⟩,h5.imp id λ x=>by obtain ⟨T,oT,ts,x,y,q1,q2,q3,q4,q5,q6,q7,q8,q9,q10,q11⟩:=x;exact ⟨T,oT,ts,x,y,q1,q2,q3,q4.cut hk,q5,q6,q7,q8,q9,q10,q11⟩⟩
noncomputable abbrev FS:=List AV->St->PK->PX->Prop
noncomputable def cutK (σ:St) (K:PK):PK:=λ av σ'=>Bd σ.length av/\CutOk σ σ'/\K av (σ'.take σ.length)
noncomputable def cutX (σ:St) (X:PX):PX:=λ c σ'=>CutOk σ σ'/\X c (σ'.take σ.length)
noncomputable def hkOf (nh:Bool):HK:=if nh=true then .no else .any
noncomputable def callS (κ:Sc) (m:Nat) (χf:List Nat) (nh:Bool) (ts:List Tg) (p:PS):FS:=λ l σ K X=>
 ts.length=l.length/\p { fr0 κ.loc.length σ.length m χf (hkOf nh) with ρ:=(bindA (ts.zip l) (fr0 κ.loc.length σ.length m χf (hkOf nh)) (σ++List.replicate m (.cel none))).1.ρ }
  (bindA (ts.zip l) (fr0 κ.loc.length σ.length m χf (hkOf nh)) (σ++List.replicate m (.cel none))).2 (λ z σ'=>cutK σ K .none σ') (cutK σ K) (λ z z=>False) (cutX σ X)
noncomputable def callE (κ:Sc) (m:Nat) (χf:List Nat) (nh:Bool) (ts:List Tg) (f:PE):FS:=λ l σ K X=>
 ts.length=l.length/\f { fr0 κ.loc.length σ.length m χf (hkOf nh) with ρ:=(bindA (ts.zip l) (fr0 κ.loc.length σ.length m χf (hkOf nh)) (σ++List.replicate m (.cel none))).1.ρ }
  (bindA (ts.zip l) (fr0 κ.loc.length σ.length m χf (hkOf nh)) (σ++List.replicate m (.cel none))).2 (cutK σ K) (cutX σ X)
theorem cut_postV {K:PK} {v:Value} {env:Env} (W:Wd B α σ fs s.heap) (S:SStep B [] α s α' s') (W':Wd B α' σ' (env::fs) s'.heap) {av:AV} (r:Rel B α' s'.heap av v) (hk:cutK σ K av σ'):PostV B [] α fs s K v s':=by
 obtain ⟨hb,hc,hk⟩:=hk
 rw [<- W.len] at hb
 exact ⟨α'.cut α,_,av,⟨S.1,S.2.cut⟩,W.cut S.2 W'.popFs hc (λ z z z z q=>nomatch q),r.cut S.2.hidOld _ _ hb,hk⟩
theorem cut_postX {X:PX} {env:Env} {x:Value} {Q:Unit->Shared->Prop} {E:Value->Shared->Prop} (hA:A.frames=some (env::fs)) (hL:env.frame=some env.locals) (W:Wd B α σ fs s.heap) (S₁:SStep B [] α s α₁ s₁) (hfresh:s.heap.get? env.locals=none)
  (p:PostX B [env.locals] α₁ (env::fs) s₁ (cutX σ X) x s') (hQ:∀ s'',PostX B [] α fs s X x s''->Q () s''):wpAny (model B.prog B.w) A (leaving env x) Q E s':=by
 obtain ⟨α',σ',e,c,rfl,S,W',xr,hc,hX⟩:=p
 have T:SStep B [] α s α' s':=SStep.shrink (I:=[env.locals]) (ex:=[]) ((S₁.widen (λ z q=>absurd q List.not_mem_nil)).trans S) (by simp [hfresh])
 refine leaving_ok (e:=e) (c:=c) hA rfl hL W' (xr.back S₁.2.dom) T.2.dom λ h' S' W'' x''=>?_
 have T':SStep B [] α s α' { s' with heap:=h' }:=T.trans (SStep.of (tk:=s'.toks) S')
 exact hQ _ ⟨α'.cut α,_,e,c,rfl,⟨T'.1,T'.2.cut⟩,W.cut T'.2 W''.popFs hc (λ z z z z q=>nomatch q),x''.cut T'.2.hidOld,hX⟩
end
end
section
noncomputable def JApp (B:BC) (k:Nat) (nh:Bool) (av:AV) (sp:FS):Prop:=
 ∀ (A:Around) (fs:List Env) (α:Lbl) (σ:St) (s:Shared) (u:Value) (vs:List Value) (l:List AV) (K:PK) (X:PX) (hk:HK),Amb A fs k hk->(nh=true->hk=.no)->Wd B α σ fs s.heap->Rel B α s.heap av u->RelL B α s.heap l vs->sp l σ K X->
  wpAny (model B.prog B.w) A (call u vs) (PostV B [] α fs s K) (PostX B [] α fs s X) s
section
variable {B:BC} {ex I:List Addr} {α α' α₁ α₂ α₀:Lbl} {s s' s₁ s₂ s₀:Shared} {σ σ' σ₁ σ₂ σ₀:St} {fs fs':List Env} {A:Around} {κ κc:Sc} {k:Nat} {h₀ h h' h₁:Heap} {prog:Program} {w:World}
theorem Amb.mono {k':Nat} {hk:HK} (h:k<=k') (amb:Amb A fs k' hk):Amb A fs k hk:=⟨amb.frames,by have:=amb.depth;lia,by have:=amb.units;lia,amb.handled⟩
theorem JApp.mono {k':Nat} {nh:Bool} {av:AV} {sp:FS} (h:k<=k') (j:JApp B k nh av sp):JApp B k' nh av sp:=λ A fs α σ s u vs l K X hk amb=>j A fs α σ s u vs l K X hk (amb.mono h)
theorem Amb.deeper {nh:Bool} {hk:HK} {env:Env} (amb:Amb A fs (k+1) hk) (hn:nh=true->hk=.no):Amb (A.deeper env) (env::fs) k (hkOf nh) where
 frames:=by show A.frames.map (env::·)=_;rw [amb.frames];rfl
 depth:=by show A.depth+1+k<_;have:=amb.depth;lia
 units:=by show A.units+3+8*k+100<_;have:=amb.units;lia
 handled:=by
  cases nh with
  | true=>have:=amb.handled;rw [hn rfl] at this;exact this
  | false=>trivial
structure FnAt (κ:Sc) (h:Heap) (a:Addr) (fd:FuncData) (frees:List Str) (α:Lbl) (χf:List Nat):Prop where
 obj:∃ o,h.get? a=some o/\o.data=.func fd
 sc:fd.scope=κ.scope
 kind:κ.scope.kind=.function
 co:κ.scope.isCoroutine=false
 gen:κ.scope.isGenerator=false
 glob:fd.globals=mainGlobals
 bi:fd.builtins=builtinsNs
 code:h.CodeRec fd.code fd.qualname
 cel:κ.cel=ownC κ.scope.names++frees
 own:(ownC κ.scope.names).Nodup
 dis:∀ x∈frees,x∉ownC κ.scope.names
 loc:κ.loc.Nodup
 free:∀ (j:Nat) (x:Str),frees[j]?=some x->∃ ad n,fd.closure.lookup x=some ad/\χf[j]?=some n/\α.lab[n]?=some (.cell ad)
 made:∀ c,κ.code=some c->fd.code=.ref c/\fd.qualname++".<locals>."=κ.qual
theorem Wd.nolimit (W:Wd B α σ fs h):h.NoLimit:=B.top.nolimit.keeps W.stays
theorem enter_ok {a:Addr} {fd:FuncData} {frees:List Str} {χf:List Nat} {nh:Bool} {hk:HK} {args:Args} {binds:List (Str×Value)} {ts:List Tg} {l:List AV} {Q:Env->Shared->Prop} {E:Value->Shared->Prop} (N:FnAt κ s.heap a fd frees α χf)
  (hbind:bindArgs fd args=pure binds) (hts:NmsOk κ (binds.map (·.1)) ts) (hlen:ts.length=l.length) (hl:RelL B α s.heap l (binds.map (·.2))) (W:Wd B α σ fs s.heap)
  (h:∀ env α' s',SStep B [] α s α' s'->env.locals=s.heap.objs.size->env.frame=some env.locals->FsOk env (env::fs) α'->
   Wd B α' (bindA (ts.zip l) (fr0 κ.loc.length σ.length (ownC κ.scope.names).length χf (hkOf nh)) (σ++List.replicate (ownC κ.scope.names).length (.cel none))).2 (env::fs) s'.heap->
   FrOk B κ { fr0 κ.loc.length σ.length (ownC κ.scope.names).length χf (hkOf nh) with ρ:=(bindA (ts.zip l) (fr0 κ.loc.length σ.length (ownC κ.scope.names).length χf (hkOf nh)) (σ++List.replicate (ownC κ.scope.names).length (.cel none))).1.ρ } env α' s'.heap->Q env s'):
  wpAny (model B.prog B.w) A (bindArgs fd args) (λ binds s₁=>wpAny (model B.prog B.w) A (newFunctionEnv fd.scope fd.globals fd.closure binds (fd.qualname++".<locals>.") (some a) fd.code none fd.builtins) Q E s₁) E s:=by
 rw [hbind]
 refine wpAny_pure ?_
 rw [N.glob,N.sc]
 refine newEnv_ok (κ:=κ) (frees:=frees) (χf:=χf) (ts:=ts) (l:=l) (hn:=hkOf nh) rfl N.kind N.cel N.own N.dis N.loc N.bi N.free hts hlen hl (λ a e=>by cases nh<;>cases e) N.made W ?_
 intro cells α' h' tk S' W' F' hm hhid
 rw [bindA_fr] at F'
 obtain ⟨m,hns,_⟩:=id F'.locs
 refine h _ α' _ (SStep.of S') rfl rfl ⟨fs,rfl,rfl,hm⟩ (W'.pushFs ?_ rfl hm hns) F'
 show κ.scope.kind≠ .module
 rw [N.kind];exact λ q=>nomatch q
noncomputable def CallR (B:BC) (α:Lbl) (fs:List Env) (s:Shared) (K:PK) (X:PX) (r:Result) (s':Shared):Prop:=match r with
 | .ok (.ret v)=>PostV B [] α fs s K v s'
 | .ok _=>False
 | .error e=>PostX B [] α fs s X e s'
theorem call_code {a:Addr} {fd:FuncData} {frees:List Str} {χf:List Nat} {nh:Bool} {hk:HK} {args:Args} {binds:List (Str×Value)} {ts:List Tg} {l:List AV} {body:List Stmt} {p:PS} {K:PK} {X:PX} (N:FnAt κ s.heap a fd frees α χf)
  (hbody:fd.body=.stmts body) (js:JS B κ k body p) (hbind:bindArgs fd args=pure binds) (hts:NmsOk κ (binds.map (·.1)) ts) (hl:RelL B α s.heap l (binds.map (·.2))) (amb:Amb A fs (k+1) hk) (hn:nh=true->hk=.no) (W:Wd B α σ fs s.heap)
  (hf:callS κ (ownC κ.scope.names).length χf nh ts p l σ K X):codeAny (model B.prog B.w) A (.call (.ref a) args) (CallR B α fs s K X) s:=by
 obtain ⟨o,ho,hd⟩:=N.obj
 refine codeAny_call_function (by have:=amb.depth;lia) ho hd (by rw [N.sc];exact N.co) (by rw [N.sc];exact N.gen) hbody N.code ?_
 refine enter_ok (hk:=hk) (nh:=nh) N hbind hts hf.1 hl W λ env α' s' S hL hfr G W' F'=>⟨W'.nolimit,codeAny_func ?_⟩
 have amb':Amb (A.deeper env) (env::fs) k (hkOf nh):=amb.deeper hn
 refine wpAny_mono (js (A.deeper env) (env::fs) env { fr0 κ.loc.length σ.length (ownC κ.scope.names).length χf (hkOf nh) with ρ:=_ } α' _ _ _ _ _ s' amb' W' F' G hf.2) (λ f s₂ q=>?_) λ x s₂ q=>?_
 ·obtain ⟨α₂,σ₂,S₂,W₂,q⟩:=q
  have hfresh:s.heap.get? env.locals=none:=by rw [hL];exact size_none _
  have T:SStep B [] α s α₂ s₂:=SStep.shrink (I:=[env.locals]) (ex:=[]) ((S.widen (λ z q=>absurd q List.not_mem_nil)).trans S₂) (by simp [hfresh])
  cases f with
  | next=>obtain ⟨ρ',_,hk⟩:=q;exact cut_postV W T W₂ rel_none hk
  | ret v=>obtain ⟨av,r,hk⟩:=q;exact cut_postV W T W₂ r hk
  | brk=>obtain ⟨_,_,hk⟩:=q;exact hk.elim
  | cont=>exact q.elim
 ·exact cut_postX amb'.frames hfr W S (by rw [hL];exact size_none _) q λ s'' h=>h
theorem call_stmts {a:Addr} {fd:FuncData} {frees:List Str} {χf:List Nat} {nh:Bool} {hk:HK} {args:Args} {binds:List (Str×Value)} {ts:List Tg} {l:List AV} {body:List Stmt} {p:PS} {K:PK} {X:PX} (N:FnAt κ s.heap a fd frees α χf)
  (hbody:fd.body=.stmts body) (js:JS B κ k body p) (hbind:bindArgs fd args=pure binds) (hts:NmsOk κ (binds.map (·.1)) ts) (hl:RelL B α s.heap l (binds.map (·.2))) (amb:Amb A fs (k+1) hk) (hn:nh=true->hk=.no) (W:Wd B α σ fs s.heap)
  (hf:callS κ (ownC κ.scope.names).length χf nh ts p l σ K X):wpAny (model B.prog B.w) A (call (.ref a) args.pos args.kw) (PostV B [] α fs s K) (PostX B [] α fs s X) s:=
 wpAny_call (codeAny_mono (call_code N hbody js hbind hts hl amb hn W hf) λ z z h=>h)
theorem call_expr {a:Addr} {fd:FuncData} {frees:List Str} {χf:List Nat} {nh:Bool} {hk:HK} {args:Args} {binds:List (Str×Value)} {ts:List Tg} {l:List AV} {body:Expr} {f:PE} {K:PK} {X:PX} (N:FnAt κ s.heap a fd frees α χf)
  (hbody:fd.body=.expr body) (je:JE B κ k body f) (hbind:bindArgs fd args=pure binds) (hts:NmsOk κ (binds.map (·.1)) ts) (hl:RelL B α s.heap l (binds.map (·.2))) (amb:Amb A fs (k+1) hk) (hn:nh=true->hk=.no) (W:Wd B α σ fs s.heap)
  (hf:callE κ (ownC κ.scope.names).length χf nh ts f l σ K X):wpAny (model B.prog B.w) A (call (.ref a) args.pos args.kw) (PostV B [] α fs s K) (PostX B [] α fs s X) s:=by
 obtain ⟨o,ho,hd⟩:=N.obj
 refine wpAny_call ?_
 refine kla_callFunE (by have:=amb.depth;lia) ho hd (by rw [N.sc];exact N.co) (by rw [N.sc];exact N.gen) hbody N.code ?_
 refine enter_ok (hk:=hk) (nh:=nh) N hbind hts hf.1 hl W λ env α' s' S hL hfr G W' F'=>⟨W'.nolimit,kla_codeExpr ?_⟩
 have amb':Amb (A.deeper env) (env::fs) k (hkOf nh):=amb.deeper hn
 refine wpAny_mono (je (A.deeper env) (env::fs) env { fr0 κ.loc.length σ.length (ownC κ.scope.names).length χf (hkOf nh) with ρ:=_ } α' _ _ _ s' amb' W' F' hf.2) (λ v s₂ q=>?_) λ x s₂ q=>?_
 ·obtain ⟨α₂,σ₂,av,S₂,W₂,r,hk⟩:=q
  exact cut_postV W (S.trans S₂) W₂ r hk
 ·exact cut_postX amb'.frames hfr W S (by rw [hL];exact size_none _) q.wide λ s'' h=>h
theorem JApp.fn {fa:Addr} {o:Obj} {fd:FuncData} {nh:Bool} {ts:List Tg} {ps:List Str} {body:List Stmt} {p:PS} (ho:B.K.lookup fa=some o) (hd:o.data=.func fd) (hsc:fd.scope=κ.scope) (hbody:fd.body=.stmts body) (hg:fd.globals=mainGlobals) (hbi:fd.builtins=builtinsNs)
  (hcode:codeIn B.K fd.code fd.qualname=true) (hmade:∀ c,κ.code=some c->fd.code=.ref c/\fd.qualname++".<locals>."=κ.qual) (hkind:κ.scope.kind=.function) (hco:κ.scope.isCoroutine=false) (hgen:κ.scope.isGenerator=false) (hcel:κ.cel=ownC κ.scope.names) (hown:(ownC κ.scope.names).Nodup) (hloc:κ.loc.Nodup)
  (hbind:∀ vs:List Value,vs.length=ts.length->bindArgs fd ⟨vs,[]⟩=pure (ps.zip vs)) (hpl:ps.length=ts.length) (hps:NmsOk κ ps ts) (js:JS B κ k body p):JApp B (k+1) nh (.val (.ref fa)) (callS κ (ownC κ.scope.names).length [] nh ts p):=
 λ A fs α σ s u vs l K X hk amb hn W r rl hf=>by
  subst r
  have hvl:vs.length=ts.length:=by rw [rl.length,hf.1]
  have e1:(ps.zip vs).map (·.1)=ps:=List.map_fst_zip (by lia)
  have e2:(ps.zip vs).map (·.2)=vs:=List.map_snd_zip (by lia)
  refine call_stmts (args:=⟨vs,[]⟩) (binds:=ps.zip vs) (frees:=[]) ⟨⟨o,W.stays _ _ (B.inK _ _ ho),hd⟩,hsc,hkind,hco,hgen,hg,hbi,codeRec_of (B.inK.keeps W.stays) hcode,by rw [hcel];simp,hown,λ z q=>absurd q List.not_mem_nil,hloc,λ j x e=>by simp at e,hmade⟩
   hbody js (hbind vs hvl) (by rw [e1];exact hps) (by rw [e2];exact rl) amb hn W hf
end
end
section
section
variable {B:BC} {ex I:List Addr} {α α' α₁ α₂ α₀:Lbl} {s s' s₁ s₂ s₀:Shared} {σ σ' σ₁ σ₂ σ₀:St} {fs fs':List Env} {A:Around} {κ κc:Sc} {k:Nat} {h₀ h h' h₁:Heap} {prog:Program} {w:World}
theorem clo_fnAt {i:Nat} {cs:List Nat} {t:CloT} {u:Value} (ht:B.clo i=some t) (hsc:t.scope=κ.scope) (hnc:κ.code=none) (hkind:κ.scope.kind=.function) (hco:κ.scope.isCoroutine=false) (hgen:κ.scope.isGenerator=false) (hcel:κ.cel=ownC κ.scope.names++t.free)
  (hown:(ownC κ.scope.names).Nodup) (hdis:∀ x∈t.free,x∉ownC κ.scope.names) (hloc:κ.loc.Nodup) (r:Rel B α h (.clo i cs) u):∃ a cl doc pm cd ct,u=.ref a/\FnAt κ h a (cloFn t cl doc pm cd ct) t.free α cs:=by
 obtain ⟨a,rfl,hf,t',o,cl,doc,pm,ct,c,e1,e2,e3,e4,e5,e6,e7⟩:=r
 rw [ht] at e1;cases e1
 exact ⟨a,cl,doc,pm,_,ct,rfl,⟨o,e2,e4⟩,hsc,hkind,hco,hgen,rfl,rfl,e6,hcel,hown,hdis,hloc,e7,λ c e=>by rw [hnc] at e;cases e⟩
theorem JApp.clo {i:Nat} {cs:List Nat} {t:CloT} {nh:Bool} {ts:List Tg} {ps:List Str} {body:List Stmt} {p:PS} (ht:B.clo i=some t) (hsc:t.scope=κ.scope) (hnc:κ.code=none) (hbody:t.body=.stmts body) (hkind:κ.scope.kind=.function) (hco:κ.scope.isCoroutine=false) (hgen:κ.scope.isGenerator=false)
  (hcel:κ.cel=ownC κ.scope.names++t.free) (hown:(ownC κ.scope.names).Nodup) (hdis:∀ x∈t.free,x∉ownC κ.scope.names) (hloc:κ.loc.Nodup)
  (hbind:∀ (cl:List (Str×Addr)) (doc pm cd ct:Value) (vs:List Value),vs.length=ts.length->bindArgs (cloFn t cl doc pm cd ct) ⟨vs,[]⟩=pure (ps.zip vs)) (hpl:ps.length=ts.length) (hps:NmsOk κ ps ts) (js:JS B κ k body p):
  JApp B (k+1) nh (.clo i cs) (callS κ (ownC κ.scope.names).length cs nh ts p):=λ A fs α σ s u vs l K X hk amb hn W r rl hf=>by
 obtain ⟨a,cl,doc,pm,cd,ct,rfl,N⟩:=clo_fnAt ht hsc hnc hkind hco hgen hcel hown hdis hloc r
 have hvl:vs.length=ts.length:=by rw [rl.length,hf.1]
 have e1:(ps.zip vs).map (·.1)=ps:=List.map_fst_zip (by lia)
 have e2:(ps.zip vs).map (·.2)=vs:=List.map_snd_zip (by lia)
 exact call_stmts (args:=⟨vs,[]⟩) (binds:=ps.zip vs) N hbody js (hbind cl doc pm cd ct vs hvl) (by rw [e1];exact hps) (by rw [e2];exact rl) amb hn W hf
theorem JApp.lam {i:Nat} {cs:List Nat} {t:CloT} {nh:Bool} {ts:List Tg} {ps:List Str} {body:Expr} {f:PE} (ht:B.clo i=some t) (hsc:t.scope=κ.scope) (hnc:κ.code=none) (hbody:t.body=.expr body) (hkind:κ.scope.kind=.function) (hco:κ.scope.isCoroutine=false) (hgen:κ.scope.isGenerator=false)
  (hcel:κ.cel=ownC κ.scope.names++t.free) (hown:(ownC κ.scope.names).Nodup) (hdis:∀ x∈t.free,x∉ownC κ.scope.names) (hloc:κ.loc.Nodup)
  (hbind:∀ (cl:List (Str×Addr)) (doc pm cd ct:Value) (vs:List Value),vs.length=ts.length->bindArgs (cloFn t cl doc pm cd ct) ⟨vs,[]⟩=pure (ps.zip vs)) (hpl:ps.length=ts.length) (hps:NmsOk κ ps ts) (je:JE B κ k body f):
  JApp B (k+1) nh (.clo i cs) (callE κ (ownC κ.scope.names).length cs nh ts f):=λ A fs α σ s u vs l K X hk amb hn W r rl hf=>by
 obtain ⟨a,cl,doc,pm,cd,ct,rfl,N⟩:=clo_fnAt ht hsc hnc hkind hco hgen hcel hown hdis hloc r
 have hvl:vs.length=ts.length:=by rw [rl.length,hf.1]
 have e1:(ps.zip vs).map (·.1)=ps:=List.map_fst_zip (by lia)
 have e2:(ps.zip vs).map (·.2)=vs:=List.map_snd_zip (by lia)
 exact call_expr (args:=⟨vs,[]⟩) (binds:=ps.zip vs) N hbody je (hbind cl doc pm cd ct vs hvl) (by rw [e1];exact hps) (by rw [e2];exact rl) amb hn W hf
noncomputable def FnLike (B:BC):AV->Prop
 | .val (.ref a)=>∃ o fd,B.base.get? a=some o/\o.data=.func fd
 | .clo _ _=>True
 | _=>False
set_option tactic.hygienic true in
theorem FnLike.at {av:AV} {u:Value} (x:FnLike B av) (W:Wd B α σ fs h) (r:Rel B α h av u):∃ f o fd,u=.ref f/\h.get? f=some o/\o.data=.func fd/\∀ α' σ' h',Wd B α' σ' fs h'->Step B [] α h α' h'->h'.get? f=some o:=by
 cases av<;>try exact x.elim
 case val v=>
  cases v<;>try exact x.elim
  obtain ⟨o,fd,e1,e2⟩:=x
  subst r
  exact ⟨_,o,fd,rfl,W.stays _ _ e1,e2,λ α' σ' h' W' z=>W'.stays _ _ e1⟩
 case clo i cs=>
  obtain ⟨a,rfl,hf,t,o,cl,doc,pm,ct,c,e1,e2,e3,e4,e5,e6,e7⟩:=r
  exact ⟨a,o,_,rfl,e2,e4,λ α' σ' h' z S=>S.keepF hf (λ q=>nomatch q) e2 (by unfold exo;rw [e4])⟩
noncomputable def AppOk (B:BC) (k:Nat) (nh:Bool) (app:AV->Option FS):Prop:=∀ av sp,app av=some sp->FnLike B av/\JApp B k nh av sp
noncomputable def E.call (nh:Bool) (app:AV->Option FS) (f:PE) (g:PL):PE:=λ fr σ K X=>(nh=true->fr.hnd=.no)/\f fr σ (λ a σ₁=>∃ sp,app a=some sp/\g fr σ₁ (λ l σ₂=>sp l σ₂ K X) X) X
theorem JE.call {nh:Bool} {app:AV->Option FS} {func e:Expr} {rest:List Expr} {pos:Pos} {f:PE} {g:PL} (ha:AppOk B k nh app) (jf:JE B κ k func f) (jl:JL B κ k (e::rest) g)
  (he:∀ env,starEach (e::rest) env=(false,eval e env)::starEach rest env) (hc:∀ env,eval (.Call func (e::rest) [] pos) env=(do callWith pos (<- eval func env) [] (backTo pos (starEach (e::rest) env)) (backToKw pos (keywordEach [] env)))):
  JE B κ k (.Call func (e::rest) [] pos) (E.call nh app f g):=λ A fs env fr α σ K X s amb W F hf=>by
 refine Call_ (jf.use amb W F hf.2 (λ u s₁ α₁ σ₁ a S₁ W₁ r₁ h₁ F₁=>?_) λ z z p=>p) (hc env)
 obtain ⟨sp,hsp,h₁⟩:=h₁
 obtain ⟨hfn,ja⟩:=ha a sp hsp
 obtain ⟨fa,o,fd,rfl,ho,hd,hst⟩:=hfn.at W₁ r₁
 refine callWith_def_at ho hd (jl.use amb W₁ F₁ h₁ (λ vs s₂ α₂ σ₂ l S₂ W₂ r₂ hlen h₂ F₂=>⟨hst _ _ _ W₂ S₂.2,?_⟩) λ z z p=>p.seq S₁) (he env)
 exact wpAny_mono (ja A fs α₂ σ₂ s₂ _ vs l K X fr.hnd amb hf.1 W₂ (r₁.step S₂.2 ExOk.nil) r₂ h₂) (λ v s₃ p=>PostV.seq (S₁.trans S₂) p) λ x s₃ p=>PostX.seq (S₁.trans S₂) p
end
end
section
noncomputable abbrev OpL:=List AV->St->(AV->Prop)->Prop
section
variable {B:BC} {ex I:List Addr} {α α' α₁ α₂ α₀:Lbl} {s s' s₁ s₂ s₀:Shared} {σ σ' σ₁ σ₂ σ₀:St} {fs fs':List Env} {A:Around} {κ κc:Sc} {k:Nat} {h₀ h h' h₁:Heap} {prog:Program} {w:World}
noncomputable def BiOk (B:BC) (v:Value) (o:OpL):Prop:=
 ∀ (A:Around) (fs:List Env) (α:Lbl) (σ:St) (s:Shared) (l:List AV) (vs:List Value) (P:AV->Prop) (Q EX:Value->Shared->Prop),A.units+80<cLine->A.handled=none->Wd B α σ fs s.heap->RelL B α s.heap l vs->o l σ P->
  (∀ c u h' tk,Full s.heap h'->Rel B α h' c u->P c->Q u { s with heap:=h',toks:=tk })->wpAny (model B.prog B.w) A (call v vs) Q EX s
noncomputable def E.app (o:OpL) (g:PL):PE:=λ fr σ K X=>fr.hnd=.no/\g fr σ (λ l σ'=>o l σ' (λ c=>K c σ')) X
theorem JE.appB {x:Str} {T:String} {o:OpL} {e:Expr} {rest:List Expr} {p pos:Pos} {g:PL} (ho:BiOk B (.builtin T) o) (hl:κ.scope.names.lookup x=some .globalImplicit) (hd:(x==("__debug__":Str))=false) (hn:nsIn B.K mainGlobals x=some none) (hv:bootBuiltins x=some (.builtin T)) (hne:x≠"__name__")
  (jl:JL B κ k (e::rest) g) (he:∀ env,starEach (e::rest) env=(false,eval e env)::starEach rest env) (hp:∀ env,(backTo pos (starEach rest env)).any (·.1)=false):JE B κ k (.Call (.Name x p) (e::rest) [] pos) (E.app o g):=λ A fs env fr α σ K X s amb W F hf=>by
 refine callB_use hl hd hn hv hne jl (he env) (hp env) amb W F hf.2 (λ vs s₁ α₁ σ₁ l S₁ W₁ r₁ hlen h₁ F₁=>?_) λ z z p=>p
 exact ho A fs α₁ σ₁ s₁ l vs _ _ _ amb.room (amb.no hf.1) W₁ r₁ h₁ λ c u h' tk k' r' hc=>PostV.seq S₁ (PostV.full W₁ k' r' hc)
theorem plain63 {n:Nat} (h:n<=sizeLine):¬ ((n:Int)>=2^63):=by rw [sizeLine_eq] at h;lia
noncomputable def opLen:OpL:=λ l σ P=>a1 (λ x=>match x with
 | .lst l=>l.length<=sizeLine/\P (.int l.length)
 | .tup l=>l.length<=sizeLine/\P (.int l.length)
 | .str x=>x.length<=sizeLine/\P (.int x.length)
 | .loc n=>∃ l,σ[n]?=some (.lst l)/\l.length<=sizeLine/\P (.int l.length)
 | _=>False) l
theorem loc_list {n:Nat} {l:List AV} {v:Value} (W:Wd B α σ fs h) (r:Rel B α h (.loc n) v) (e:σ[n]?=some (.lst l)):∃ a vs,v=.ref a/\α.lab[n]?=some (.obj a)/\h.PlainList a (vs:List Value).toArray/\RelL B α h l vs:=by
 obtain ⟨a,rfl,r | r⟩:=r
 ·obtain ⟨vs,hp,hr⟩:=W.objs n _ _ e r
  exact ⟨a,vs,rfl,r,hp,hr⟩
 ·exact (W.objs n _ _ e r).elim
theorem len_tuple_any {l:Addr} {items:Array Value} {Q:Value->Shared->Prop} {E:Value->Shared->Prop} (hl:s.heap.IsTuple l items) (hfit:(items.size:Int)<2^63)
  (h:Q (.int items.size (s.toks+1)) { s with toks:=s.toks+1+1 }):wpAny (model prog w) A (call (.builtin "len") [.ref l]) Q E s:=by
 obtain ⟨o,ho,hc,n,hd⟩:=id hl
 refine call_function_entry kind_len plain_len entry_len (args_len1 _) ?_
 unfold Builtin.«len»
 refine wpAny_bind (m:=oneArg "len" _) (wpAny_pure ?_)
 refine wpAny_bind (m:=callSpecial? (.ref l) (Str.ofString "__len__")) (wpAny_callSpecial?_slot (name:=Str.ofString "__len__") hl.typeIs F.slot_tuple_len
  (wpAny_call_entry F.slot_tuple_len hl.typeIs F.entry_tuple_len ?_ (F.args_tuple_len_1 _)))
 refine wpAny_bind (m:=slotArgs "__len__" 0 _) (wpAny_of_eq (a:=(Value.ref l,[])) (by first | rfl | kernel_rfl!) ?_)
 refine wpAny_bind (m:=Builtin.Tuple.tupleItemsOf (.ref l)) (wpAny_tupleItemsOf ho hd ?_)
 refine wpAny_bind (wpAny_mkInt (wpAny_pure ⟨_,rfl,?_⟩))
 refine wpAny_bind (wpAny_holding (wpAny_pure ?_))
 refine wpAny_bind (wpAny_letGo ?_)
 show wpAny _ _ (if ((items.size:Nat):Int)<0 then _ else _) _ _ _
 rw [if_neg (by lia)]
 show wpAny _ _ (if ((items.size:Nat):Int)>=2^63 then _ else _) _ _ _
 rw [if_neg (by lia)]
 exact wpAny_bind (wpAny_mkInt (wpAny_pure ⟨_,rfl,h⟩))
set_option tactic.hygienic true in
theorem len_ok:BiOk B (.builtin "len") opLen:=λ A fs α σ s l vs P Q EX hu hh W r h hQ=>a1_elim (C:=λ vs=>wpAny (model B.prog B.w) A (call (.builtin "len") vs) Q EX s) r h λ x v r h=>by
 have key:∀ (us:List Value) (n:Nat) tk,us.length=n->P (.int n)->Q (.int (us.toArray.size:Nat) tk) { s with toks:=tk+1 }:=λ us n tk e h=>by
  rw [List.size_toArray,e]
  exact hQ _ _ s.heap _ (Full.refl _) (rel_int _ _) h
 have key':∀ (us:List Value) (n:Nat) tk,us.length=n->P (.int n)->Q (.int (us.toArray.size:Nat) (tk+1)) { s with toks:=tk+1+1 }:=λ us n tk e h=>by
  rw [List.size_toArray,e]
  exact hQ _ _ s.heap _ (Full.refl _) (rel_int _ _) h
 cases x<;>try exact h.elim
 case lst l=>
  obtain ⟨a,us,rfl,_,hp,hr⟩:=rel_lst_inv r
  exact call_len_list hp.isList (by rw [List.size_toArray,hr.length];exact Int.not_le.mp (plain63 h.1)) (key us _ _ hr.length h.2)
 case tup l=>
  obtain ⟨a,us,rfl,_,⟨o,ho,hc,n,hd⟩,hr⟩:=rel_tup_inv r
  exact len_tuple_any ⟨o,ho,hc,n,hd⟩ (by rw [List.size_toArray,hr.length];exact Int.not_le.mp (plain63 h.1)) (key' us _ _ hr.length h.2)
 case str x=>
  obtain ⟨t,rfl⟩:=rel_str_inv r
  exact len_str (plain63 h.1) (hQ _ _ s.heap _ (Full.refl _) (rel_int _ _) h.2)
 case loc n=>
  obtain ⟨l,e,h1,h2⟩:=h
  obtain ⟨a,us,rfl,_,hp,hr⟩:=loc_list W r e
  exact call_len_list hp.isList (by rw [List.size_toArray,hr.length];exact Int.not_le.mp (plain63 h1)) (key us _ _ hr.length h2)
noncomputable def opDivmod:OpL:=λ l z P=>a2 (λ x y=>int2 (λ a b P=>b≠0/\Builtin.divisionGoesByPylong a b=false/\P (.tup [.int (a.fdiv b),.int (a.fmod b)])) x y P) l
theorem divmod_ok:BiOk B (.builtin "divmod") opDivmod:=λ A fs α σ s l vs P Q EX hu hh W r h hQ=>a2_elim (C:=λ vs=>wpAny (model B.prog B.w) A (call (.builtin "divmod") vs) Q EX s) r h λ x y u v r r' h=>
 int2_elim (C:=λ u v=>wpAny (model B.prog B.w) A (call (.builtin "divmod") [u,v]) Q EX s) r r' h λ a b t t' h=>divmod_int h.1 (hQ _ _ _ _ (Full.push _ _) (rel_newTup W (RelL.cons (rel_int _ _) (RelL.one (rel_int _ _)))) h.2.2) (.inl h.2.1)
noncomputable def opMax:OpL:=λ l z P=>a2 (λ x y=>int2 (λ a b P=>P (.int (if b>a then b else a))) x y P) l
theorem max_ok:BiOk B (.builtin "max") opMax:=λ A fs α σ s l vs P Q EX hu hh W r h hQ=>a2_elim (C:=λ vs=>wpAny (model B.prog B.w) A (call (.builtin "max") vs) Q EX s) r h λ x y u v r r' h=>
 int2_elim (C:=λ u v=>wpAny (model B.prog B.w) A (call (.builtin "max") [u,v]) Q EX s) r r' h λ a b t t' h=>max_two_ints hh λ h' tk hk=>by
  by_cases hc:b>a
  ·rw [if_pos hc] at h ⊢;exact hQ _ _ h' tk hk (rel_int _ _) h
  ·rw [if_neg hc] at h ⊢;exact hQ _ _ h' tk hk (rel_int _ _) h
theorem ints_items {l:List AV} {vs:List Value} {ns:List Int} (r:RelL B α h l vs) (e:toInts l=some ns):∃ xs:List (Int×Tok),vs.toArray=intItems xs.toArray/\xs.map (·.1)=ns:=by
 have hi:=RelL.ints e r
 clear e r
 induction hi with
 | nil=>exact ⟨[],by simp [intItems],rfl⟩
 | cons i t h ih=>
  obtain ⟨xs,e1,e2⟩:=ih
  refine ⟨(i,t)::xs,?_,by simp [e2]⟩
  simp only [intItems,List.map_toArray,List.map_cons] at e1 ⊢
  have e1':=congrArg Array.toList e1
  simp only at e1'
  rw [e1']
theorem preSum_eq:∀ (ns:List Int) (xs:List (Int×Tok)),xs.map (·.1)=ns->preSum (numAt xs.toArray) xs.length=ns.sum:=by
 intro ns xs e
 subst e
 have key:∀ k,k<=xs.length->preSum (numAt xs.toArray) k=((xs.map (·.1)).take k).sum:=by
  intro k
  induction k with
  | zero=>intro _;simp [preSum]
  | succ k ih=>
   intro hk
   have hk':k<(xs.map (·.1)).length:=by rw [List.length_map];lia
   rw [preSum,ih (by lia),List.take_succ_eq_append_getElem hk',List.sum_append]
   simp [numAt,show k<xs.length by lia]
 have:=key xs.length (Nat.le_refl _)
 rw [this,List.take_of_length_le (by simp)]
noncomputable def opSum:OpL:=λ l z P=>a1 (onLst λ l=>∃ ns,toInts l=some ns/\P (.int ns.sum)) l
theorem sum_ok:BiOk B (.builtin "sum") opSum:=λ A fs α σ s l vs P Q EX hu hh W r h hQ=>a1_elim (C:=λ vs=>wpAny (model B.prog B.w) A (call (.builtin "sum") vs) Q EX s) r h λ x v r h=>by
 obtain ⟨l,rfl,ns,e,h2⟩:=onLst_inv h
 obtain ⟨a,us,rfl,_,hp,hr⟩:=rel_lst_inv r
 obtain ⟨xs,e1,e2⟩:=ints_items hr e
 have hl:s.heap.IsList a (intItems xs.toArray):=e1▸hp.isList
 refine call_sum_walkG (iter_intList hl λ s₂ e st hfp hlI=>?_)
 subst e
 refine ⟨_,_,_,_,_,_,numAt xs.toArray,rfl,Walks.list (A:=A.in1) hh _ a hlI (intItems xs.toArray),st,hfp,(λ z z=>intItems_at),λ h' tk t' hk=>?_⟩
 have hsz:(intItems xs.toArray).size=xs.length:=by simp [intItems]
 rw [hsz,preSum_eq ns xs e2]
 exact hQ _ _ h' tk (old_kept hk) (rel_int _ _) h2
noncomputable def minL:Int->List Int->Int
 | m,[]=>m
 | m,x::r=>minL (if x<m then x else m) r
theorem argBest_min (xs:List (Int×Tok)):∀ k,k<xs.length->numAt xs.toArray (argBest (λ i j=>decide (numAt xs.toArray i<numAt xs.toArray j)) k)=minL (numAt xs.toArray 0) (((xs.map (·.1)).take (k+1)).drop 1)/\argBest (λ i j=>decide (numAt xs.toArray i<numAt xs.toArray j)) k<=k:=by
 have minL_snoc:∀ (l:List Int) (m x:Int),minL m (l++[x])=if x<minL m l then x else minL m l:=by
  intro l
  induction l with
  | nil=>intro m x;rfl
  | cons y r ih=>intro m x;simp only [List.cons_append,minL];exact ih _ x
 intro k
 induction k with
 | zero=>intro _;simp [argBest,minL,List.take_succ];cases xs<;>simp [minL]
 | succ k ih=>
  intro hk
  obtain ⟨h1,h2⟩:=ih (by lia)
  have hk':k+1<(xs.map (·.1)).length:=by simpa using hk
  have hx:numAt xs.toArray (k+1)=(xs.map (·.1))[k+1]:=by simp [numAt,show k+1<xs.length from hk]
  have hd:((xs.map (·.1)).take (k+1+1)).drop 1=((xs.map (·.1)).take (k+1)).drop 1++[(xs.map (·.1))[k+1]]:=by
   rw [List.take_succ_eq_append_getElem hk',List.drop_append_of_le_length (by rw [List.length_take];lia)]
  rw [hd,minL_snoc,<- h1,<- hx]
  simp only [argBest,decide_eq_true_eq]
  split
  ·exact ⟨rfl,Nat.le_refl _⟩
  ·exact ⟨rfl,by lia⟩
noncomputable def opMin:OpL:=λ l z P=>a1 (onLst λ l=>∃ n ns,toInts l=some (n::ns)/\P (.int (minL n ns))) l
theorem min_ok:BiOk B (.builtin "min") opMin:=λ A fs α σ s l vs P Q EX hu hh W r h hQ=>a1_elim (C:=λ vs=>wpAny (model B.prog B.w) A (call (.builtin "min") vs) Q EX s) r h λ x v r h=>by
 obtain ⟨l,rfl,n,ns,e,h2⟩:=onLst_inv h
 obtain ⟨a,us,rfl,_,hp,hr⟩:=rel_lst_inv r
 obtain ⟨xs,e1,e2⟩:=ints_items hr e
 have hl:s.heap.IsList a (intItems xs.toArray):=e1▸hp.isList
 have hlen:0<xs.length:=by
  have:=congrArg List.length e2
  simp at this;lia
 refine min_intList hh hl (by simpa using hlen) λ v h' tk hv hk=>?_
 obtain ⟨t,rfl⟩:=intItems_at hv
 obtain ⟨h3,_⟩:=argBest_min xs (xs.length - 1) (by lia)
 have hsz:xs.toArray.size=xs.length:=by simp
 rw [hsz,h3]
 have e3:xs.length - 1+1=xs.length:=by lia
 rw [e3,List.take_of_length_le (by simp),e2]
 have e4:numAt xs.toArray 0=n:=by
  cases xs with
  | nil=>simp at hlen
  | cons q r=>simp at e2;simp [numAt,e2.1]
 rw [e4]
 exact hQ _ _ h' tk hk (rel_int _ _) h2
noncomputable def opChr:OpL:=λ l z P=>a1 (onInt λ i=>0<=i/\i<=1114111/\P (.str ⟨#[i.toNat]⟩)) l
theorem chr_ok:BiOk B (.builtin "chr") opChr:=λ A fs α σ s l vs P Q EX hu hh W r h hQ=>a1_elim (C:=λ vs=>wpAny (model B.prog B.w) A (call (.builtin "chr") vs) Q EX s) r h λ x v r h=>
 onInt_elim (C:=λ u=>wpAny (model B.prog B.w) A (call (.builtin "chr") [u]) Q EX s) r h λ i t h=>chr_of_range h.1 h.2.1 (hQ _ _ s.heap _ (Full.refl _) (rel_str _ _) h.2.2)
noncomputable def opIsTup:OpL:=λ l z P=>a2 (λ x y=>y=.val (.type "tuple")/\match x with
 | .tup _=>P (.bool true)
 | _=>False) l
theorem isTup_ok:BiOk B (.builtin "isinstance") opIsTup:=λ A fs α σ s l vs P Q EX hu hh W r h hQ=>a2_elim (C:=λ vs=>wpAny (model B.prog B.w) A (call (.builtin "isinstance") vs) Q EX s) r h λ x y u v r r' h=>by
 obtain ⟨rfl,h⟩:=h
 cases (show v=_ from r')
 cases x<;>try exact h.elim
 obtain ⟨a,us,rfl,_,⟨o,ho,hc,n,hd⟩,hr⟩:=rel_tup_inv r
 exact PySem.IsiPair.tuple_tuple ho hc (hQ _ _ s.heap s.toks (Full.refl _) (rel_bool _) h)
end
end
section
section
variable {B:BC} {ex I:List Addr} {α α' α₁ α₂ α₀:Lbl} {s s' s₁ s₂ s₀:Shared} {σ σ' σ₁ σ₂ σ₀:St} {fs fs':List Env} {A:Around} {κ κc:Sc} {k:Nat} {h₀ h h' h₁:Heap} {prog:Program} {w:World}
noncomputable def Fit (i:Int):Prop:=-(2^63)<=i/\i<2^63
noncomputable def subGet:AV->AV->St->(AV->Prop)->Prop
 | .lst l,.int i,_,P=>Fit i/\∃ j a,seqIndex? i l.length=some j/\l[j]?=some a/\P a
 | .tup l,.int i,_,P=>Fit i/\∃ j a,seqIndex? i l.length=some j/\l[j]?=some a/\P a
 | .loc n,.int i,σ,P=>Fit i/\∃ l j a,σ[n]?=some (.lst l)/\seqIndex? i l.length=some j/\l[j]?=some a/\P a
 | .dct (.numd g),.int i,_,P=>∃ y,g i=some y/\P (.str y)
 | _,_,_,_=>False
theorem seqIdx_cases {i:Int} {n j:Nat} (e:seqIndex? i n=some j):(0<=i/\i.toNat=j)\/(i<0/\-(n:Int)<=i/\(i+n).toNat=j):=by
 unfold seqIndex? at e
 by_cases h:i<0
 ·rw [if_pos h] at e
  dsimp only at e
  by_cases h2:(decide (0<=i+(n:Int))&&decide (i+(n:Int)<(n:Int)))=true
  ·rw [if_pos h2] at e
   simp at h2
   cases e
   exact .inr ⟨h,by lia,rfl⟩
  ·rw [if_neg h2] at e;cases e
 ·rw [if_neg h] at e
  dsimp only at e
  by_cases h2:(decide (0<=i)&&decide (i<(n:Int)))=true
  ·rw [if_pos h2] at e
   simp at h2
   cases e
   exact .inl ⟨h2.1,rfl⟩
  ·rw [if_neg h2] at e;cases e
theorem getItem_lst {l:Addr} {items:Array Value} {i:Int} {t:Tok} {j:Nat} {x:Value} {Q E:Value->Shared->Prop} (hl:s.heap.IsList l items) (hf:Fit i) (hj:seqIndex? i items.size=some j) (hx:items[j]?=some x) (h:Q x s):wpAny (model prog w) A (getItem (.ref l) (.int i t)) Q E s:=by
 rcases seqIdx_cases hj with ⟨h0,e⟩ | ⟨h0,h1,e⟩
 ·exact wpAny_getItem_list hl h0 hf.2 (by rw [e];exact hx) h
 ·exact wpAny_getItem_list_neg hl h0 h1 hf.1 (by rw [e];exact hx) h
noncomputable def E.sub (f g:PE):PE:=λ fr σ K X=>f fr σ (λ a σ₁=>g fr σ₁ (λ b σ₂=>subGet a b σ₂ (λ c=>K c σ₂)) X) X
set_option tactic.hygienic true in
theorem JE.sub {value slice:Expr} {pos:Pos} {f g:PE} (jf:JE B κ k value f) (jg:JE B κ k slice g) (hs:∀ o i,subscripted slice false o i=operate [o,i] (getItem o i)):JE B κ k (.Subscript value slice pos) (E.sub f g):=λ A fs env fr α σ K X s amb W F hf=>by
 refine Subscript_ (jf.use amb W F hf (λ o s₁ α₁ σ₁ a S₁ W₁ r₁ h₁ F₁=>?_) λ z z p=>p)
 refine jg.use amb W₁ F₁ h₁ (λ i s₂ α₂ σ₂ b S₂ W₂ r₂ h₂ F₂=>?_) λ z z p=>p.seq S₁
 have ra:=r₁.step S₂.2 ExOk.nil
 have T:=S₁.trans S₂
 unfold subGet at h₂
 split at h₂
 ·obtain ⟨hf',j,c,e1,e2,hk⟩:=h₂
  obtain ⟨t,rfl⟩:=rel_int_inv r₂
  obtain ⟨ad,vs,rfl,_,hp,hr⟩:=rel_lst_inv ra
  obtain ⟨v,e3,rv⟩:=hr.get e2
  refine tail_any (T:="list") hp.isList.typeIs list_getitem_lookup (getItem_lst hp.isList hf' (by simpa [hr.length] using e1) (by simpa using e3) ?_) (hs _ _)
  exact PostV.seq T (PostV.now W₂ rv hk)
 ·obtain ⟨hf',j,c,e1,e2,hk⟩:=h₂
  obtain ⟨t,rfl⟩:=rel_int_inv r₂
  obtain ⟨ad,vs,rfl,_,ht,hr⟩:=rel_tup_inv ra
  obtain ⟨v,e3,rv⟩:=hr.get e2
  refine item_tupleT ht hf'.1 hf'.2 (by rw [hr.length];exact e1) e3 ?_ (hs _ _)
  exact PostV.seq T (PostV.now W₂ rv hk)
 ·obtain ⟨hf',l,j,c,e0,e1,e2,hk⟩:=h₂
  obtain ⟨t,rfl⟩:=rel_int_inv r₂
  obtain ⟨ad,vs,rfl,_,hp,hr⟩:=loc_list W₂ ra e0
  obtain ⟨v,e3,rv⟩:=hr.get e2
  refine tail_any (T:="list") hp.isList.typeIs list_getitem_lookup (getItem_lst hp.isList hf' (by simpa [hr.length] using e1) (by simpa using e3) ?_) (hs _ _)
  exact PostV.seq T (PostV.now W₂ rv hk)
 ·obtain ⟨y,e1,hk⟩:=h₂
  obtain ⟨t,rfl⟩:=rel_int_inv r₂
  obtain ⟨ad,rfl,hfz,f',hm,⟨o',ho',hd',hsm⟩,hg⟩:=ra
  rename_i g' i'
  have hgi:=hg i'
  rw [e1] at hgi
  obtain ⟨t',hft⟩:=hgi
  obtain ⟨o,es,ep,ho,hc,hd⟩:=id hm
  refine tail_any (T:="dict") ⟨o,ho,hc.1⟩ slot_dict_getitem.lookup (wpAny_getItem_of (k:=i') (knd:=intKind B.prog B.w) (by show Value.isInt i' (.int i' t)=true;unfold Value.isInt;exact beq_self_eq_true _) hm hft ?_) (hs _ _)
  exact PostV.seq T (PostV.here W₂ (rel_str _ _) hk)
 ·exact h₂.elim
noncomputable abbrev PPart:=AFr->St->(Option Int->St->Prop)->PX->Prop
inductive PostPart (B:BC) (α:Lbl) (fs:List Env) (s:Shared) (K:Option Int->St->Prop) (v:Value) (s':Shared):Prop
 | mk (α':Lbl) (σ':St) (lo:Option Int) (z:SStep B [] α s α' s') (z:Wd B α' σ' fs s'.heap) (z:match lo with | none=>v=.none | some i=>∃ t,v=.int i t) (z:K lo σ')
noncomputable def JPart (B:BC) (κ:Sc) (k:Nat) (o:Option Expr) (f:PPart):Prop:=
 ∀ (A:Around) (fs:List Env) (env:Env) (fr:AFr) (α:Lbl) (σ:St) (K:Option Int->St->Prop) (X:PX) (s:Shared),Amb A fs k fr.hnd->Wd B α σ fs s.heap->FrOk B κ fr env α s.heap->f fr σ K X->
  wpAny (model B.prog B.w) A (evalPart o env) (PostPart B α fs s K) (PostX B [] α fs s X) s
noncomputable def Qp.no:PPart:=λ z σ K z=>K Option.none σ
noncomputable def Qp.of (f:PE):PPart:=λ fr σ K X=>f fr σ (λ a σ'=>∃ i,a=.int i/\K (Option.some i) σ') X
theorem JPart.no:JPart B κ k Option.none Qp.no:=λ A fs env fr α σ K X s amb W F hf=>by
 show wpAny _ _ (pure Value.none) _ _ _
 exact wpAny_pure ⟨α,σ,none,SStep.refl _ _ _ _,W,rfl,hf⟩
theorem JPart.of {e:Expr} {f:PE} (je:JE B κ k e f):JPart B κ k (Option.some e) (Qp.of f):=λ A fs env fr α σ K X s amb W F hf=>by
 show wpAny _ _ (eval e env) _ _ _
 refine je.use amb W F hf (λ v s₁ α₁ σ₁ a S₁ W₁ r₁ h₁ F₁=>?_) λ z z p=>p
 obtain ⟨i,rfl,hk⟩:=h₁
 exact ⟨α₁,σ₁,Option.some i,S₁,W₁,rel_int_inv r₁,hk⟩
noncomputable def E.sliceL (f:PE) (lo hi:PPart):PE:=λ fr σ K X=>f fr σ (λ a σ₁=>lo fr σ₁ (λ lo σ₂=>hi fr σ₂ (λ hi σ₃=>match a with
 | .lst l=>l.length<=sizeLine/\K (.lst (pySlice l lo hi)) σ₃
 | .loc n=>∃ l,σ₃[n]?=some (.lst l)/\l.length<=sizeLine/\K (.lst (pySlice l lo hi)) σ₃
 | _=>False) X) X) X
noncomputable def E.sliceS (f:PE) (lo hi:PPart):PE:=λ fr σ K X=>f fr σ (λ a σ₁=>lo fr σ₁ (λ lo σ₂=>hi fr σ₂ (λ hi σ₃=>match a with
 | .str x=>x.length<=sizeLine/\K (.str (ofL (pySlice x.cps.toList lo hi))) σ₃
 | _=>False) X) X) X
theorem JPart.use {o:Option Expr} {f:PPart} (jp:JPart B κ k o f) {env:Env} {fr:AFr} {K:Option Int->St->Prop} {X:PX} {Q EX:Value->Shared->Prop} (amb:Amb A fs k fr.hnd) (W:Wd B α σ fs s.heap) (F:FrOk B κ fr env α s.heap) (hf:f fr σ K X)
  (h:∀ v s₁ α₁ σ₁ lo,SStep B [] α s α₁ s₁->Wd B α₁ σ₁ fs s₁.heap->(match lo with | none=>v=.none | some i=>∃ t,v=.int i t)->K lo σ₁->FrOk B κ fr env α₁ s₁.heap->Q v s₁)
  (hE:∀ x s₁,PostX B [] α fs s X x s₁->EX x s₁):wpAny (model B.prog B.w) A (evalPart o env) Q EX s:=
 wpAny_mono (jp A fs env fr α σ K X s amb W F hf) (λ v s₁ ⟨α₁,σ₁,lo,S,W₁,r,hk⟩=>h v s₁ α₁ σ₁ lo S W₁ r hk (F.step S.2 W)) hE
theorem isPart_of {v:Value} {lo:Option Int} (h:match lo with | none=>v=.none | some i=>∃ t,v=.int i t):IsPart v lo:=by
 cases lo with
 | none=>dsimp only at h;subst h;exact .none
 | some i=>obtain ⟨t,rfl⟩:=h;exact .int i t
theorem part_of {v:Value} {lo:Option Int} (h:match lo with | none=>v=.none | some i=>∃ t,v=.int i t):∃ l:Option (Int×Tok),v=partValue l/\l.map (·.1)=lo:=by
 cases lo with
 | none=>dsimp only at h;subst h;exact ⟨none,rfl,rfl⟩
 | some i=>obtain ⟨t,rfl⟩:=h;exact ⟨some (i,t),rfl,rfl⟩
theorem RelL.pySlice {l:List AV} {vs:List Value} (r:RelL B α h l vs) (lo hi:Option Int):RelL B α h (pySlice l lo hi) (pySlice vs lo hi):=by
 unfold Mine.pySlice
 rw [r.length]
 exact (r.drop _).take _
theorem slice_list {ad:Addr} {l:List AV} {vs:List Value} {K:PK} {lo hi:Option Int} {vl vu:Value} (W:Wd B α σ fs s.heap) (hp:s.heap.PlainList ad vs.toArray) (hr:RelL B α s.heap l vs) (hk:K (.lst (pySlice l lo hi)) σ):
  PostV B ex α fs s K (.ref (s.heap.objs.size+1)) { s with heap:=(s.heap.push { cls:=.type "slice",data:=.fields #[vl,vu,.none] }).push { cls:=.type "list",data:=.seq (slicePick vs.toArray lo hi none) } }:=by
 rw [slicePick_eq]
 generalize hH:s.heap.push { cls:=.type "slice",data:=.fields #[vl,vu,.none] }=H
 have k₁:Full s.heap H:=by rw [<- hH];exact Full.push _ _
 have hz:H.objs.size=s.heap.objs.size+1:=by rw [<- hH,Heap.size_push]
 have W₁:Wd B α σ fs ({ s with heap:=H }:Shared).heap:=W.full k₁
 have:=PostV.full (ex:=ex) (s:=s) (tk:=s.toks) (K:=K) (h':=H.push { cls:=.type "list",data:=.seq (pySlice vs lo hi).toArray }) W (k₁.trans (Full.push _ _)) (v:=.ref H.objs.size) (rel_newLst (s:={ s with heap:=H }) W₁ ((hr.pySlice lo hi).full k₁)) hk
 rw [hz] at this
 exact this
set_option tactic.hygienic true in
theorem JE.sliceL {value:Expr} {lower upper:Option Expr} {p pos:Pos} {f:PE} {lo hi:PPart} (jf:JE B κ k value f) (jlo:JPart B κ k lower lo) (jhi:JPart B κ k upper hi) (ht:∀ o r,letTemporaryGo value o r=pure ()):
  JE B κ k (.Subscript value (.Slice lower upper none p) pos) (E.sliceL f lo hi):=λ A fs env fr α σ K X s amb W F hf=>by
 refine wpAny_Subscript_list_slice (jf.use amb W F hf (λ o s₁ α₁ σ₁ a S₁ W₁ r₁ h₁ F₁=>?_) λ z z p=>p) ht
 refine jlo.use amb W₁ F₁ h₁ (λ vl s₂ α₂ σ₂ l₁ S₂ W₂ q₁ h₂ F₂=>?_) λ z z p=>p.seq S₁
 refine jhi.use amb W₂ F₂ h₂ (λ vu s₃ α₃ σ₃ l₂ S₃ W₃ q₂ h₃ F₃=>?_) λ z z p=>p.seq (S₁.trans S₂)
 have T:=(S₁.trans S₂).trans S₃
 have ra:=(r₁.step S₂.2 ExOk.nil).step S₃.2 ExOk.nil
 cases a<;>try exact h₃.elim
 case lst l=>
  obtain ⟨hsz,hk⟩:=h₃
  obtain ⟨ad,vs,rfl,_,hp,hr⟩:=rel_lst_inv ra
  exact ⟨ad,vs.toArray,l₁,l₂,rfl,hp.isList,by simp [hr.length];exact hsz,isPart_of q₁,isPart_of q₂,PostV.seq T (slice_list W₃ hp hr hk)⟩
 case loc n=>
  obtain ⟨l,e,hsz,hk⟩:=h₃
  obtain ⟨ad,vs,rfl,_,hp,hr⟩:=loc_list W₃ ra e
  exact ⟨ad,vs.toArray,l₁,l₂,rfl,hp.isList,by simp [hr.length];exact hsz,isPart_of q₁,isPart_of q₂,PostV.seq T (slice_list W₃ hp hr hk)⟩
set_option tactic.hygienic true in
theorem JE.sliceS {value:Expr} {lower upper:Option Expr} {p pos:Pos} {f:PE} {lo hi:PPart} (jf:JE B κ k value f) (jlo:JPart B κ k lower lo) (jhi:JPart B κ k upper hi) (ht:∀ o r,letTemporaryGo value o r=pure ()):
  JE B κ k (.Subscript value (.Slice lower upper none p) pos) (E.sliceS f lo hi):=λ A fs env fr α σ K X s amb W F hf=>by
 refine wpAny_Subscript_str_slice (jf.use amb W F hf (λ o s₁ α₁ σ₁ a S₁ W₁ r₁ h₁ F₁=>?_) λ z z p=>p) ht
 refine jlo.use amb W₁ F₁ h₁ (λ vl s₂ α₂ σ₂ l₁ S₂ W₂ q₁ h₂ F₂=>?_) λ z z p=>p.seq S₁
 refine jhi.use amb W₂ F₂ h₂ (λ vu s₃ α₃ σ₃ l₂ S₃ W₃ q₂ h₃ F₃=>?_) λ z z p=>p.seq (S₁.trans S₂)
 have T:=(S₁.trans S₂).trans S₃
 have ra:=(r₁.step S₂.2 ExOk.nil).step S₃.2 ExOk.nil
 cases a<;>try exact h₃.elim
 case str x=>
  obtain ⟨hsz,hk⟩:=h₃
  obtain ⟨t,rfl⟩:=rel_str_inv ra
  obtain ⟨pl,e1,e2⟩:=part_of q₁
  obtain ⟨pu,e3,e4⟩:=part_of q₂
  refine ⟨x,t,pl,pu,rfl,e1,e3,?_⟩
  refine sliceMade_post hsz λ t' tk=>?_
  rw [e2,e4]
  exact PostV.seq T (PostV.full W₃ (Full.push _ _) (rel_str _ _) hk)
end
end
section
noncomputable abbrev OpM:=AV->List AV->St->PK->Prop
section
variable {B:BC} {ex I:List Addr} {α α' α₁ α₂ α₀:Lbl} {s s' s₁ s₂ s₀:Shared} {σ σ' σ₁ σ₂ σ₀:St} {fs fs':List Env} {A:Around} {κ κc:Sc} {k:Nat} {h₀ h h' h₁:Heap} {prog:Program} {w:World}
noncomputable def Recv (T:String) (a:AV) (σ:St):Prop:=match a with
 | .str _=>T="str"
 | .int _=>T="int"
 | .lst _=>T="list"
 | .loc n=>T="list"/\∃ l,σ[n]?=some (.lst l)
 | .dct (.numd _)=>T="dict"
 | _=>False
set_option tactic.hygienic true in
theorem Recv.is {T:String} {a:AV} {u:Value} (x:Recv T a σ) (W:Wd B α σ fs s.heap) (r:Rel B α s.heap a u):s.TypeIs u T/\∀ ad,u=.ref ad->∃ ob,s.heap.get? ad=some ob/\ob.dict=none:=by
 have pl:∀ (ad:Addr) (vs:List Value),s.heap.PlainList ad vs.toArray->s.TypeIs (.ref ad) "list"/\∀ a,Value.ref ad=.ref a->∃ ob,s.heap.get? a=some ob/\ob.dict=none:=λ ad vs hp=>
  ⟨hp.isList.typeIs,λ z e=>by cases e;obtain ⟨n,ho⟩:=hp;exact ⟨_,ho,rfl⟩⟩
 cases a<;>try exact x.elim
 case int i=>cases (show T="int" from x);obtain ⟨t,rfl⟩:=rel_int_inv r;exact ⟨typeIs_int _ _ _,λ z e=>nomatch e⟩
 case str i=>cases (show T="str" from x);obtain ⟨t,rfl⟩:=rel_str_inv r;exact ⟨typeIs_str _ _ _,λ z e=>nomatch e⟩
 case lst l=>
  cases (show T="list" from x)
  obtain ⟨ad,vs,rfl,_,hp,hr⟩:=rel_lst_inv r
  exact pl ad vs hp
 case dct d=>
  cases d<;>try exact x.elim
  cases (show T="dict" from x)
  obtain ⟨ad,rfl,_,f,⟨o,es,ep,ho,hc,hd⟩,⟨o',ho',hd',_⟩,_⟩:=r
  exact ⟨⟨o,ho,hc.1⟩,λ z e=>by cases e;exact ⟨o',ho',hd'⟩⟩
 case loc n=>
  obtain ⟨rfl,l,e⟩:=x
  obtain ⟨ad,vs,rfl,_,hp,hr⟩:=loc_list W r e
  exact pl ad vs hp
noncomputable def MetOk (B:BC) (T id:String) (o:OpM):Prop:=
 ∀ (A:Around) (fs:List Env) (α:Lbl) (σ:St) (s:Shared) (a:AV) (u:Value) (l:List AV) (vs:List Value) (K:PK) (EX:Value->Shared->Prop),A.units+80<cLine->A.handled=none->Wd B α σ fs s.heap->Rel B α s.heap a u->RelL B α s.heap l vs->Recv T a σ->o a l σ K->
  wpAny (model B.prog B.w) A (call (.builtin id) (u::vs)) (PostV B [] α fs s K) EX s
noncomputable def E.meth (T:String) (o:OpM) (f:PE) (g:PL):PE:=λ fr σ K X=>fr.hnd=.no/\f fr σ (λ a σ₁=>Recv T a σ₁/\g fr σ₁ (λ l σ₂=>Recv T a σ₂/\o a l σ₂ K) X) X
theorem JE.meth {T id:String} {name:Str} {o:OpM} {ob e:Expr} {rest:List Expr} {apos pos:Pos} {f:PE} {g:PL} (pa:PlainAttrs T) (slot:Slot T name id) (ty:typeOf (.builtin id)=pure (.type "method_descriptor")) (ho:MetOk B T id o) (jo:JE B κ k ob f) (jl:JL B κ k (e::rest) g)
  (hbase:∀ env,attributeBase ob name env (eval ob env)=eval ob env) (hline:(apos.endLine==pos.line)=true)
  (hfew:∀ env,((backTo pos (starEach (e::rest) env)).all (λ x=>!x.1)&&(backToKw pos (keywordEach [] env)).all (λ x=>x.1.isSome)&&decide ((e::rest).length+([]:List Keyword).length+(if ([]:List Keyword).isEmpty then 0 else 1)<30))=true)
  (he:∀ env,starEach (e::rest) env=(false,eval e env)::starEach rest env) (hp:∀ env,(backTo pos (starEach rest env)).any (·.1)=false):JE B κ k (.Call (.Attribute ob name apos) (e::rest) [] pos) (E.meth T o f g):=λ A fs env fr α σ K X s amb W F hf=>by
 refine wpAny_Call_method_lateS (hbase env) (hfew env) hline (jo.use amb W F hf.2 (λ u s₁ α₁ σ₁ a S₁ W₁ r₁ h₁ F₁=>?_) λ z z p=>p)
 obtain ⟨t1,t2⟩:=h₁.1.is W₁ r₁
 refine ⟨T,id,pa,slot,ty,t1,t2,?_⟩
 refine callWith_method1 (jl.use amb W₁ F₁ h₁.2 (λ vs s₂ α₂ σ₂ l S₂ W₂ r₂ hlen h₂ F₂=>?_) λ z z p=>p.seq S₁) (he env) (hp env)
 exact wpAny_mono (ho A fs α₂ σ₂ s₂ a u l vs K _ amb.room (amb.no hf.1) W₂ (r₁.step S₂.2 ExOk.nil) r₂ h₂.1 h₂.2) (λ v s₃ p=>PostV.seq (S₁.trans S₂) p) λ z z h=>h
theorem JE.meth0 {T id:String} {name:Str} {o:OpM} {ob:Expr} {apos pos:Pos} {f:PE} (pa:PlainAttrs T) (slot:Slot T name id) (ty:typeOf (.builtin id)=pure (.type "method_descriptor")) (ho:MetOk B T id o) (jo:JE B κ k ob f)
  (hbase:∀ env,attributeBase ob name env (eval ob env)=eval ob env) (hline:(apos.endLine==pos.line)=true):JE B κ k (.Call (.Attribute ob name apos) [] [] pos) (E.meth T o f L.nil):=λ A fs env fr α σ K X s amb W F hf=>by
 refine wpAny_Call_method_lateS (hbase env) rfl hline (jo.use amb W F hf.2 (λ u s₁ α₁ σ₁ a S₁ W₁ r₁ h₁ F₁=>?_) λ z z p=>p)
 obtain ⟨t1,t2⟩:=h₁.1.is W₁ r₁
 refine ⟨T,id,pa,slot,ty,t1,t2,?_⟩
 refine callWith_method0 ?_
 exact wpAny_mono (ho A fs α₁ σ₁ s₁ a u [] [] K _ amb.room (amb.no hf.1) W₁ r₁ RelL.nil h₁.2.1 h₁.2.2) (λ v s₃ p=>PostV.seq S₁ p) λ z z h=>h
noncomputable def opBits:OpM:=λ x l σ K=>onInt (λ i=>a0 (K (.int ((Builtin.Int.intBits i:Nat):Int)) σ) l) x
theorem bits_ok:MetOk B "int" "int.bit_length" opBits:=λ A fs α σ s a u l vs K EX hu hh W r rl hr h=>
 onInt_elim (C:=λ u=>wpAny (model B.prog B.w) A (call (.builtin "int.bit_length") (u::vs)) _ EX s) r h λ i t h=>a0_elim (C:=λ vs=>wpAny (model B.prog B.w) A (call (.builtin "int.bit_length") (_::vs)) _ EX s) rl h λ h=>
  call_gives F.slot_int_bit_length (typeIs_int _ _ _) F.entry_int_bit_length (F.args_int_bit_length_1 _) (AutoIntG2.int_bit_length_int_0 _ t) (PostV.here W (rel_int _ _) h)
noncomputable def opStarts:OpM:=λ x l σ K=>onStr (λ x=>a1 (onStr λ y=>K (.bool (Txt.startswith x y)) σ) l) x
noncomputable def opEnds:OpM:=λ x l σ K=>onStr (λ x=>a1 (onStr λ y=>K (.bool (Txt.endswith x y)) σ) l) x
noncomputable def findAt (x y:Str) (lo hi:Int):Int:=match Builtin.Str.occurrences x y (fromIndex x.length lo) (min (fromIndex x.length hi) x.length) 1 with | i::_=>(i:Int) | []=>-1
noncomputable def opFind:OpM:=λ x l σ K=>onStr (λ x=>a3 (λ y lo hi=>onStr (λ y=>int2 (λ lo hi K=>K (.int (findAt x y lo hi)) σ) lo hi K) y) l) x
theorem met_str {id:String} {A:Around} {E:Value->Shared->Prop} {Q:Value->Shared->Prop} {a:AV} {u:Value} {l:List AV} {vs:List Value} {f:Str->AV->Prop} (r:Rel B α s.heap a u) (rl:RelL B α s.heap l vs) (h:onStr (λ x=>a1 (f x) l) a) (hC:∀ x t y v,Rel B α s.heap y v->f x y->wpAny (model B.prog B.w) A (call (.builtin id) [.str x t,v]) Q E s):wpAny (model B.prog B.w) A (call (.builtin id) (u::vs)) Q E s:=
 onStr_elim (C:=λ u=>wpAny (model B.prog B.w) A (call (.builtin id) (u::vs)) Q E s) r h λ x t h=>a1_elim (C:=λ vs=>wpAny (model B.prog B.w) A (call (.builtin id) (_::vs)) Q E s) rl h λ y v ry h=>hC x t y v ry h
theorem starts_ok:MetOk B "str" "str.startswith" opStarts:=λ A fs α σ s a u l vs K EX hu hh W r rl hr h=>met_str r rl h λ x t y v ry h=>
 onStr_elim (C:=λ v=>wpAny (model B.prog B.w) A (call (.builtin "str.startswith") [_,v]) _ EX s) ry h λ y t' h=>SC.startswith (PostV.now W (rel_bool _) h)
theorem ends_ok:MetOk B "str" "str.endswith" opEnds:=λ A fs α σ s a u l vs K EX hu hh W r rl hr h=>met_str r rl h λ x t y v ry h=>
 onStr_elim (C:=λ v=>wpAny (model B.prog B.w) A (call (.builtin "str.endswith") [_,v]) _ EX s) ry h λ y t' h=>SC.endswith (PostV.now W (rel_bool _) h)
theorem gives_find4 (x y:Str) (i j:Int) (t u v v':Tok):Gives (Builtin.«str.find» ⟨[.str x t,.str y u,.int i v,.int j v'],[]⟩) (.int (findAt x y i j)):=by
 show Gives (match Builtin.Str.occurrences x y (fromIndex x.length i) (min (fromIndex x.length j) x.length) 1 with | k::_=>retInt k | []=>(do rule "str.find.not-found";retInt (-1))) _
 unfold findAt
 cases Builtin.Str.occurrences x y (fromIndex x.length i) (min (fromIndex x.length j) x.length) 1 with
 | nil=>exact .rule (.of_eq rfl)
 | cons k _=>exact .of_eq rfl
theorem args_find4 (a b c d:Value):argsOk "str.find" ⟨[a,b,c,d],[]⟩:=by unfold argsOk;kernel_rfl
theorem find_ok:MetOk B "str" "str.find" opFind:=λ A fs α σ s a u l vs K EX hu hh W r rl hr h=>
 onStr_elim (C:=λ u=>wpAny (model B.prog B.w) A (call (.builtin "str.find") (u::vs)) _ EX s) r h λ x t h=>a3_elim (C:=λ vs=>wpAny (model B.prog B.w) A (call (.builtin "str.find") (_::vs)) _ EX s) rl h λ y lo hi v v1 v2 r1 r2 r3 h=>
  onStr_elim (C:=λ v=>wpAny (model B.prog B.w) A (call (.builtin "str.find") [_,v,v1,v2]) _ EX s) r1 h λ y t' h=>int2_elim (C:=λ v1 v2=>wpAny (model B.prog B.w) A (call (.builtin "str.find") [_,_,v1,v2]) _ EX s) r2 r3 h λ lo hi t₂ t₃ h=>
   call_gives F.slot_str_find (typeIs_str _ _ _) F.entry_str_find (args_find4 _ _ _ _) (gives_find4 _ _ _ _ t t' t₂ t₃) (PostV.here W (rel_int _ _) h)
theorem upd_list {n:Nat} {ad:Addr} {l:List AV} {vs:List Value} {K:PK} {v:Value} {av:AV} {l':List AV} {vs':List Value} {h':Heap} (W:Wd B α σ fs s.heap) (e:α.lab[n]?=some (.obj ad)) (hs:Heap.SameBut ad s.heap h') (hp:h'.PlainList ad vs'.toArray)
  (hr:RelL B α s.heap l' vs') (rv:Rel B α s.heap av v) (hk:K av (σ.set n (.lst l'))):PostV B ex α fs s K v { s with heap:=h' }:=by
 obtain ⟨m,ho⟩:=id hp
 have S:∀ ex,Step B ex α s.heap α h':=λ ex=>Step.updLab (.inr e) hs.extBut (some_ne_none ho)
 exact ⟨α,_,av,SStep.of (tk:=s.toks) (S ex),W.updLab (ao:=.lst l') e (.inr rfl) hs.extBut (some_ne_none ho) ⟨vs',hp,hr.step (S []) ExOk.nil⟩,rv.step (S []) ExOk.nil,hk⟩
noncomputable def onChg (f:List AV->Nat->Prop) (σ:St) (x:AV):Prop:=onLoc (λ n=>∃ l,σ[n]?=some (.lst l)/\l.length<=sizeLine/\f l n) x
theorem onChg_elim {f:List AV->Nat->Prop} {x:AV} {u:Value} {C:Value->Prop} (W:Wd B α σ fs h) (r:Rel B α h x u) (k:onChg f σ x) (hC:∀ l n ad us,α.lab[n]?=some (.obj ad)->h.PlainList ad (us:List Value).toArray->RelL B α h l us->us.length<=sizeLine->f l n->C (.ref ad)):C u:=by
 obtain ⟨n,rfl,l,e,hsz,k⟩:=onLoc_inv k
 obtain ⟨ad,us,rfl,hl,hp,hr'⟩:=loc_list W r e
 exact hC l n ad us hl hp hr' (by rw [hr'.length];exact hsz) k
noncomputable def opAppend:OpM:=λ a l σ K=>onChg (λ l' n=>a1 (λ x=>K .none (σ.set n (.lst (l'++[x])))) l) σ a
theorem append_ok:MetOk B "list" "list.append" opAppend:=λ A fs α σ s a u l vs K EX hu hh W r rl hr h=>
 onChg_elim (C:=λ u=>wpAny (model B.prog B.w) A (call (.builtin "list.append") (u::vs)) _ EX s) W r h λ l' n ad us hl hp hr' hsz h=>a1_elim (C:=λ vs=>wpAny (model B.prog B.w) A (call (.builtin "list.append") (_::vs)) _ EX s) rl h λ x v rx hk=>by
  refine wpAny_list_append_plain (hsz:=by rw [List.size_toArray];exact hsz) hp λ h' hp' hs=>?_
  have e2:us.toArray.push v=(us++[v]).toArray:=by simp
  rw [e2] at hp'
  exact upd_list (l:=l') (vs:=us) W hl hs hp' (hr'.append (RelL.one rx)) rel_none hk
theorem mapSeq_list {a:Addr} {items:Array Value} {f:Array Value->Array Value} (hp:h.PlainList a items):(h.update a (Obj.mapSeq f)).PlainList a (f items)/\Heap.SameBut a h (h.update a (Obj.mapSeq f)):=by
 obtain ⟨n,ho⟩:=hp
 refine ⟨?_,Heap.SameBut.update ..⟩
 obtain ⟨n',hd⟩:=Obj.data_mapSeq (o:={ cls:=.type "list",dict:=none,data:=.seq items n,slots:=#[] }) rfl f
 have h1:=Heap.get?_update_self (Obj.mapSeq f) ho (Obj.isFreed_of_seq hd)
 refine ⟨n',?_⟩
 rw [h1]
 simp only [Obj.mapSeq] at hd ⊢
 cases hd
 rfl
noncomputable def opPop:OpM:=λ a l σ K=>onLoc (λ n=>a0 (∃ l x,σ[n]?=some (.lst (l++[x]))/\l.length<sizeLine/\K x (σ.set n (.lst l))) l) a
theorem pop_ok:MetOk B "list" "list.pop" opPop:=λ A fs α σ s a u l vs K EX hu hh W r rl hr h=>by
 obtain ⟨n,rfl,h⟩:=onLoc_inv h
 refine a0_elim (C:=λ vs=>wpAny (model B.prog B.w) A (call (.builtin "list.pop") (_::vs)) _ EX s) rl h λ h=>?_
 obtain ⟨l,x,e,hsz,hk⟩:=h
 obtain ⟨ad,us,rfl,hl,hp,hr'⟩:=loc_list W r e
 have hlen:=hr'.length
 rw [List.length_append,List.length_singleton] at hlen
 obtain ⟨y,hy,ry⟩:=hr'.get (i:=l.length) (x:=x) (by simp)
 obtain ⟨m,ho⟩:=id hp
 have hu:us=us.take l.length++[y]:=by
  have h1:us.take (l.length+1)=us:=List.take_of_length_le (by lia)
  have hlt:l.length<us.length:=by lia
  rw [<- h1,List.take_succ_eq_append_getElem hlt]
  have:us[l.length]=y:=by rw [List.getElem?_eq_getElem hlt] at hy;exact Option.some.inj hy
  rw [this,List.take_append_of_le_length (by simp;lia),List.take_take]
  simp
 have hn:us.toArray[us.toArray.size - 1]?=some y:=by
  simp only [List.size_toArray,List.getElem?_toArray]
  rw [hlen];exact hy
 refine call_meets F.slot_list_pop ⟨_,ho,rfl⟩ F.entry_list_pop (F.args_list_pop_1 _) (PySem.MeetsSeq.list_pop_last ad us.toArray m y hn (by simp [hlen];lia)) ⟨ho,?_⟩
 obtain ⟨hp',hs⟩:=mapSeq_list (f:=λ xs=>xs.eraseIdxIfInBounds (us.toArray.size - 1)) hp
 have e2:us.toArray.eraseIdxIfInBounds (us.toArray.size - 1)=(us.take l.length).toArray:=by
  have hlt:us.toArray.size - 1<us.toArray.size:=by simp;lia
  rw [Array.eraseIdxIfInBounds_eq,dif_pos hlt]
  apply Array.ext'
  rw [Array.toList_eraseIdx]
  simp only [List.size_toArray]
  have e3:us.length - 1=l.length:=by lia
  rw [e3]
  conv=>lhs;rw [hu]
  rw [List.eraseIdx_append_of_length_le (by simp;lia)]
  simp [hlen]
 rw [e2] at hp'
 have hrl:RelL B α s.heap l (us.take l.length):=by
  have:=hr'.take l.length
  simpa using this
 exact upd_list (l:=l++[x]) (vs:=us) (ex:=[]) W hl hs hp' hrl ry hk
noncomputable def opReverse:OpM:=λ a l σ K=>onChg (λ l' n=>a0 (K .none (σ.set n (.lst l'.reverse))) l) σ a
theorem reverse_ok:MetOk B "list" "list.reverse" opReverse:=λ A fs α σ s a u l vs K EX hu hh W r rl hr h=>
 onChg_elim (C:=λ u=>wpAny (model B.prog B.w) A (call (.builtin "list.reverse") (u::vs)) _ EX s) W r h λ l' n ad us hl hp hr' hsz h=>a0_elim (C:=λ vs=>wpAny (model B.prog B.w) A (call (.builtin "list.reverse") (_::vs)) _ EX s) rl h λ hk=>by
  obtain ⟨m,ho⟩:=id hp
  refine call_meets F.slot_list_reverse ⟨_,ho,rfl⟩ F.entry_list_reverse (F.args_list_reverse_1 _) (AutoSeq1.list_reverse_list_0 ad us.toArray m (by rw [List.size_toArray];exact hsz)) ⟨ho,?_⟩
  obtain ⟨hp',hs⟩:=mapSeq_list (f:=λ xs=>xs.reverse) hp
  have e2:us.toArray.reverse=us.reverse.toArray:=by simp
  rw [e2] at hp'
  exact upd_list (l:=l') (vs:=us) (ex:=[]) W hl hs hp' hr'.reverse rel_none hk
end
end
section
section
variable {B:BC} {ex I:List Addr} {α α' α₁ α₂ α₀:Lbl} {s s' s₁ s₂ s₀:Shared} {σ σ' σ₁ σ₂ σ₀:St} {fs fs':List Env} {A:Around} {κ κc:Sc} {k:Nat} {h₀ h h' h₁:Heap} {prog:Program} {w:World}
noncomputable def strL (l:List Str):List AV:=l.map .str
theorem relL_strs:∀ (l:List Str) (t:Tok),RelL B α h (strL l) (strsFrom t l)
 | [],_=>RelL.nil
 | x::r,t=>RelL.cons (rel_str _ _) (relL_strs r (t+1))
noncomputable def parts (x y:Str):List Str:=Builtin.Str.partsBetween x (Builtin.Str.occurrences x y 0 x.length (x.length+1)) y.length
noncomputable def opSplit:OpM:=λ a l σ K=>onStr (λ x=>a1 (onStr λ y=>(decide (x.length<y.length)||decide (Builtin.Str.strKind x<Builtin.Str.strKind y))=false/\(y.length==0)=false/\(Builtin.Str.occurrences x y 0 x.length (x.length+1)).isEmpty=false/\x.length<=sizeLine/\
 (parts x y).length<=sizeLine/\K (.loc σ.length) (σ++[.lst (strL (parts x y))])) l) a
theorem split_ok:MetOk B "str" "str.split" opSplit:=λ A fs α σ s a u l vs K EX hu hh W r rl hr h=>met_str r rl h λ x t y v ry h=>
 onStr_elim (C:=λ v=>wpAny (model B.prog B.w) A (call (.builtin "str.split") [_,v]) _ EX s) ry h λ y t' h=>by
  obtain ⟨h1,h2,h3,h4,h5,hk⟩:=h
  refine call_meets F.slot_str_split (typeIs_str _ _ _) F.entry_str_split (F.args_str_split_2 _ _) (meets_str_split_sep x y t t' h1 h2 h3 h4 h5) ?_
  have:=PostV.newList (B:=B) (ex:=[]) (α:=α) (fs:=fs) (s:=s) (K:=K) W (relL_strs (parts x y) s.toks) hk
  obtain ⟨α',σ',av,⟨⟨h',tk,e⟩,S⟩,W',r',hk'⟩:=this
  exact ⟨α',σ',av,⟨⟨_,_,rfl⟩,S⟩,W',r',hk'⟩
noncomputable def toStrs:List AV->Option (List Str)
 | []=>some []
 | .str x::l=>(toStrs l).map (x::·)
 | _=>none
set_option tactic.hygienic true in
theorem relL_strs_inv:∀ {l:List AV} {vs:List Value} {ys:List Str},toStrs l=some ys->RelL B α h l vs->∃ ps:List (Str×Tok),vs=strValues ps/\ps.map (·.1)=ys
 | [],vs,ys,e,r=>by
  cases e;cases (show vs=[] from r);exact ⟨[],rfl,rfl⟩
 | x::l,vs,ys,e,r=>by
  obtain ⟨v,r',rfl,h1,h2⟩:=r
  cases x<;>try (cases (show (none:Option (List Str))=some ys from e))
  rename_i i
  obtain ⟨ys',e',rfl⟩:=Option.map_eq_some_iff.mp (show (toStrs l).map (i::·)=some ys from e)
  obtain ⟨t,rfl⟩:=rel_str_inv h1
  obtain ⟨ps,rfl,rfl⟩:=relL_strs_inv e' h2
  exact ⟨(_,t)::ps,rfl,rfl⟩
noncomputable def opJoin:OpM:=λ a l σ K=>onStr (λ x=>a1 (onLst λ l=>∃ ys,toStrs l=some ys/\(ys.map (·.length)).sum+ys.length*x.length<=sizeLine/\K (.str (Txt.join x ys)) σ) l) a
theorem join_ok:MetOk B "str" "str.join" opJoin:=λ A fs α σ s a u l vs K EX hu hh W r rl hr h=>met_str r rl h λ x t y v r2 h=>by
 obtain ⟨l,rfl,ys,e,hsz,hk⟩:=onLst_inv h
 obtain ⟨ad,us,rfl,_,hp,hr'⟩:=rel_lst_inv r2
 obtain ⟨ps,rfl,rfl⟩:=relL_strs_inv e hr'
 have hl:Builtin.Str.tooLong ((ps.map (·.1)).toArray.foldl (·+·.length+x.length) 0)=false:=by
  rw [StrLaws.joinTotal]
  unfold Builtin.Str.tooLong
  exact decide_eq_false (by lia)
 refine call_meets F.slot_str_join (typeIs_str _ _ _) F.entry_str_join (F.args_str_join_2 _ _) (meets_str_join_list x t ad ps hl) ⟨hp.isList,post_join ps ⟨?_,λ t' k=>?_⟩⟩
 ·show (Builtin.Str.glued x _).length<=sizeLine
  rw [StrLaws.glued_eq_join]
  exact Nat.le_trans (StrLaws.join_length_le x _) hsz
 ·exact PostV.here W (rel_str _ _) hk
noncomputable def opGet:OpM:=λ a l σ K=>match a with
 | .dct (.numd m)=>a2 (λ x c=>onInt (λ i=>match m i with | some y=>K (.str y) σ | none=>K c σ) x) l
 | _=>False
set_option tactic.hygienic true in
theorem get_ok:MetOk B "dict" "dict.get" opGet:=λ A fs α σ s a u l vs K EX hu hh W r rl hr h=>by
 cases a<;>try exact h.elim
 rename_i d
 cases d<;>try exact h.elim
 rename_i m
 obtain ⟨ad,rfl,hfz,f',hm,⟨o',ho',hd',hsm⟩,hg⟩:=r
 refine a2_elim (C:=λ vs=>wpAny (model B.prog B.w) A (call (.builtin "dict.get") (_::vs)) _ EX s) rl h λ x c w v ri rc h=>?_
 refine onInt_elim (C:=λ w=>wpAny (model B.prog B.w) A (call (.builtin "dict.get") [_,w,v]) _ EX s) ri h λ i t h=>?_
 have hki:(intKind B.prog B.w).is i (.int i t)=true:=by show Value.isInt i (.int i t)=true;unfold Value.isInt;exact beq_self_eq_true _
 refine call_meetsIn F.slot_dict_get hm.typeIs F.entry_dict_get (F.args_dict_get_3 _ _ _) (meets_dict_get_default (intKind B.prog B.w) ad hki hsm v) ⟨f',hm,?_⟩
 have hgi:=hg i
 cases e:m i with
 | none=>
  rw [e] at hgi h
  dsimp only at hgi h
  rw [hgi]
  exact PostV.here W rc h
 | some y=>
  rw [e] at hgi h
  obtain ⟨t',hft⟩:=hgi
  rw [hft]
  exact PostV.here W (rel_str _ _) h
end
end
section
section
variable {B:BC} {ex I:List Addr} {α α' α₁ α₂ α₀:Lbl} {s s' s₁ s₂ s₀:Shared} {σ σ' σ₁ σ₂ σ₀:St} {fs fs':List Env} {A:Around} {κ κc:Sc} {k:Nat} {h₀ h h' h₁:Heap} {prog:Program} {w:World}
noncomputable def S.aug (t:Tg) (o:OpS) (f g:PE):PS:=λ fr σ N R Bk X=>f fr σ (λ a σ₁=>g fr σ₁ (λ b σ₂=>o a b (λ c=>N (bindT t c fr σ₂).1.ρ (bindT t c fr σ₂).2)) X) X
noncomputable def InOk (B:BC) (op:Operator) (o:OpS):Prop:=
 ∀ (A:Around) (fs:List Env) (α:Lbl) (σ:St) (s:Shared) (a b:AV) (u v:Value) (P:AV->Prop),Wd B α σ fs s.heap->Rel B α s.heap a u->Rel B α s.heap b v->o a b P->VOp B A α s (inplaceOp op u v) P
noncomputable def inAdd:OpS:=int2 λ a b P=>P (.int (a+b))
noncomputable def inSub:OpS:=int2 λ a b P=>P (.int (a - b))
noncomputable def inOr:OpS:=int2 λ a b P=>P (.int (Builtin.bitOr a b))
noncomputable def inShl:OpS:=int2 λ a n P=>0<=n/\(Builtin.Int.intBits a:Int)+n<=2^27/\P (.int (a*2^n.toNat))
theorem InOk.int2 {op:Operator} {f:Int->Int->(AV->Prop)->Prop} (r:Int->Int->Int) (hf:∀ a b P,f a b P->P (.int (r a b))) (ho:∀ (A:Around) (s:Shared) (a b:Int) (t t':Tok) (P:AV->Prop) (Q E:Value->Shared->Prop),f a b P->Q (.int (r a b) s.toks) { s with toks:=s.toks+1 }->wpAny (model B.prog B.w) A (inplaceOp op (.int a t) (.int b t')) Q E s):InOk B op (Mine.int2 f):=
 λ A fs α σ s a b u v P W ra rb h=>int2_elim (C:=λ u v=>VOp B A α s (inplaceOp op u v) P) ra rb h λ a b t t' h=>VOp.int (hf a b P h) λ Q E hq=>ho A s a b t t' P Q E h hq
theorem inAdd_ok:InOk B .Add inAdd:=InOk.int2 (λ a b=>a+b) (λ z z z h=>h) λ z z z z z z z z z h hq=>PyProof.Rows.iadd_int hq
theorem inSub_ok:InOk B .Sub inSub:=InOk.int2 (λ a b=>a - b) (λ z z z h=>h) λ z z z z z z z z z h hq=>PyProof.Rows.isub_int hq
theorem inOr_ok:InOk B .BitOr inOr:=InOk.int2 Builtin.bitOr (λ z z z h=>h) λ z z z z z z z z z h hq=>PyProof.Rows.ior_int hq
theorem inShl_ok:InOk B .LShift inShl:=InOk.int2 (λ a n=>a*2^n.toNat) (λ z z z h=>h.2.2) λ z z z z z z z z z h hq=>PyProof.Rows.ilshift_int h.1 h.2.1 hq
theorem load_loc {i:Nat} {x:Str} {env:Env} {fr:AFr} {Q E:Value->Shared->Prop} {v:AV} (hi:κ.loc[i]?=some x) (hl:κ.scope.names.lookup x=some .local) (F:FrOk B κ fr env α s.heap) (hv:fr.ρ[i]?=some (some v)) (h:∀ u,Rel B α s.heap v u->Q u s):
  wpAny (model B.prog B.w) A (loadName env x) Q E s:=by
 obtain ⟨m,hn,hm⟩:=F.locs
 obtain ⟨u,e,r⟩:=hm i x v hi hv
 exact wpAny_loadName_local (by rw [F.scope];exact F.kind) (by unfold Env.kindOf;rw [F.scope];exact hl) hn e (h u r)
theorem J1.aug {i:Nat} {x:Str} {p pos:Pos} {op:Operator} {o:OpS} {e:Expr} {g:PE} (ho:InOk B op o) (hi:κ.loc[i]?=some x) (hl:κ.scope.names.lookup x=some .local) (je:JE B κ k e g):J1 B κ k (.AugAssign (.Name x p) op e pos) (S.aug (.loc i) o (E.loc i) g):=λ A fs env fr α σ N R Bk X s amb W F G hf=>by
 obtain ⟨v,hv,hf⟩:=hf
 refine wpAny_AugAssign_Name (load_loc hi hl F hv λ u r=>?_)
 refine je.use amb W F hf (λ u₂ s₁ α₁ σ₁ b S₁ W₁ r₁ h₁ F₁=>?_) λ z z p=>p.wide
 refine ho A fs α₁ σ₁ s₁ v b u u₂ _ W₁ (r.step S₁.2 ExOk.nil) r₁ h₁ _ _ λ c w h' tk k' r' hc=>?_
 have W₂:Wd B α₁ σ₁ fs ({ s₁ with heap:=h',toks:=tk }:Shared).heap:=W₁.full k'
 refine store_ok (t:=.loc i) ⟨hi,hl⟩ W₂ (F₁.full k' W₁) r' λ h₂ tk₂ S₂ W₃ F₂=>?_
 rw [fr_of_bindT] at F₂
 exact ⟨α₁,_,S₁.wide.trans (SStep.of ((Step.full k').trans S₂)),W₃,_,F₂,hc⟩
theorem setItem_plain {l:Addr} {items:Array Value} {i:Int} {t:Tok} {v:Value} {Q:Unit->Shared->Prop} {E:Value->Shared->Prop} (hp:s.heap.PlainList l items) (h0:0<=i) (hfit:i<2^63) (hn:i<items.size)
  (hQ:∀ h',h'.PlainList l (items.setIfInBounds i.toNat v)->Heap.SameBut l s.heap h'->Q () { s with heap:=h' }):wpAny (model prog w) A (setItem (.ref l) (.int i t) v) Q E s:=by
 have hl:=hp.isList
 obtain ⟨o,ho,hc,ne,hd⟩:=id hl
 obtain ⟨hp',hs⟩:=mapSeq_list (f:=(·.setIfInBounds i.toNat v)) hp
 unfold setItem
 refine wpAny_holding ?_
 refine wpAny_bind (wpAny_sequenceKey hl.typeIs (by decide) ?_)
 refine wpAny_bind (wpAny_callSpecial?_slot (name:=Str.ofString "__setitem__") hl.typeIs slot_list_setitem
  (wpAny_call_entry slot_list_setitem hl.typeIs entry_list_setitem ?_ (args_list_setitem _ _ _)))
 show wpAny _ _ (Builtin.List.listSubscript? (.int i t) >>= _) _ _ s
 refine wpAny_bind (wpAny_listSubscript_int (fitsIndex_of h0 hfit) ?_)
 clear hfit
 obtain ⟨j,rfl⟩:=Int.eq_ofNat_of_zero_le h0
 have hj:j<items.size:=by lia
 have hx':items[j]?=some items[j]:=Array.getElem?_eq_getElem hj
 show wpAny _ _ ((seqItemAt l j >>= λ r=>pure (r.map (j,·))) >>= _) _ _ s
 refine wpAny_bind (wpAny_bind (wpAny_seqItemAt ho hd (wpAny_pure ?_)))
 rw [hx']
 show wpAny _ _ (setSeqItemAt l j v >>= _) _ _ s
 refine wpAny_bind (wpAny_setSeqItemAt ho hd ?_)
 exact wpAny_bind (wpAny_pure (wpAny_pure ⟨.none,rfl,wpAny_pure (hQ _ hp' hs)⟩))
theorem upd_flow {n:Nat} {ad:Addr} {l':List AV} {vs':List Value} {h':Heap} (W:Wd B α σ fs s.heap) (e:α.lab[n]?=some (.obj ad)) (hs:Heap.SameBut ad s.heap h') (hp:h'.PlainList ad vs'.toArray) (hr:RelL B α s.heap l' vs'):
  (∀ ex,Step B ex α s.heap α h')/\Wd B α (σ.set n (.lst l')) fs h':=by
 obtain ⟨m,ho⟩:=id hp
 have S:∀ ex,Step B ex α s.heap α h':=λ ex=>Step.updLab (.inr e) hs.extBut (some_ne_none ho)
 exact ⟨S,W.updLab (ao:=.lst l') e (.inr rfl) hs.extBut (some_ne_none ho) ⟨vs',hp,hr.step (S []) ExOk.nil⟩⟩
noncomputable def S.setItem (f g e:PE):PS:=λ fr σ N R Bk X=>e fr σ (λ c σ₁=>f fr σ₁ (λ a σ₂=>g fr σ₂ (λ b σ₃=>∃ n i l,a=.loc n/\b=.int i/\σ₃[n]?=some (.lst l)/\0<=i/\i<2^63/\i<l.length/\N fr.ρ (σ₃.set n (.lst (l.set i.toNat c)))) X) X) X
theorem J1.setItem {o i e:Expr} {p pos:Pos} {f g c:PE} (jo:JE B κ k o f) (ji:JE B κ k i g) (je:JE B κ k e c) (hs:∀ env,swapsWith e (some (.Subscript o i p)) pos.line env=pure false):J1 B κ k (.Assign [.Subscript o i p] e pos) (S.setItem f g c):=λ A fs env fr α σ N R Bk X s amb W F G hf=>by
 refine wpAny_Assign_Subscript (je.use amb W F hf (λ vc s₁ α₁ σ₁ ac S₁ W₁ r₁ h₁ F₁=>?_) λ z z p=>p.wide) (hs env)
 refine jo.use amb W₁ F₁ h₁ (λ va s₂ α₂ σ₂ aa S₂ W₂ r₂ h₂ F₂=>?_) λ z z p=>(p.seq S₁).wide
 refine ji.use amb W₂ F₂ h₂ (λ vb s₃ α₃ σ₃ ab S₃ W₃ r₃ h₃ F₃=>?_) λ z z p=>(p.seq (S₁.trans S₂)).wide
 obtain ⟨n,j,l,rfl,rfl,hl,h0,hf',hlt,hN⟩:=h₃
 have T:=(S₁.trans S₂).trans S₃
 obtain ⟨t,rfl⟩:=rel_int_inv r₃
 obtain ⟨ad,vs,rfl,hlab,hp,hr⟩:=loc_list W₃ (r₂.step S₃.2 ExOk.nil) hl
 have rc:=(r₁.step S₂.2 ExOk.nil).step S₃.2 ExOk.nil
 refine setItem_plain hp h0 hf' (by simp [hr.length];exact hlt) λ h' hp' hs'=>?_
 have e2:vs.toArray.setIfInBounds j.toNat vc=(vs.set j.toNat vc).toArray:=by simp
 rw [e2] at hp'
 obtain ⟨S₄,W₄⟩:=upd_flow W₃ hlab hs' hp' (hr.set j.toNat rc)
 exact ⟨α₃,_,T.wide.trans (SStep.of (tk:=s₃.toks) (S₄ _)),W₄,fr.ρ,F₃.step (S₄ []) W₃,hN⟩
noncomputable def S.augItem (o:OpS) (f g e:PE):PS:=λ fr σ N R Bk X=>f fr σ (λ a σ₁=>g fr σ₁ (λ b σ₂=>∃ n i,a=.loc n/\b=.int i/\0<=i/\i<2^63/\∃ l x,σ₂[n]?=some (.lst l)/\l[i.toNat]?=some x/\
 e fr σ₂ (λ c σ₃=>∃ l',σ₃[n]?=some (.lst l')/\i<l'.length/\o x c (λ d=>N fr.ρ (σ₃.set n (.lst (l'.set i.toNat d))))) X) X) X
theorem J1.augItem {ob i e:Expr} {p pos:Pos} {op:Operator} {o:OpS} {f g c:PE} (ho:InOk B op o) (jo:JE B κ k ob f) (ji:JE B κ k i g) (je:JE B κ k e c) (hi:∀ ov iv new,augStore i ov iv new=(do holding [new,ov,iv] (PySem.setItem ov iv new);release [new,ov,iv] [];pure .next)):
  J1 B κ k (.AugAssign (.Subscript ob i p) op e pos) (S.augItem o f g c):=λ A fs env fr α σ N R Bk X s amb W F G hf=>by
 refine wpAny_AugAssign_SubscriptAny (jo.use amb W F hf (λ va s₁ α₁ σ₁ aa S₁ W₁ r₁ h₁ F₁=>?_) λ z z p=>p.wide) hi
 refine ji.use amb W₁ F₁ h₁ (λ vb s₂ α₂ σ₂ ab S₂ W₂ r₂ h₂ F₂=>?_) λ z z p=>(p.seq S₁).wide
 obtain ⟨n,j,rfl,rfl,h0,hf',l,x,hl,hx,h₂⟩:=h₂
 obtain ⟨t,rfl⟩:=rel_int_inv r₂
 have ra:=r₁.step S₂.2 ExOk.nil
 obtain ⟨ad,vs,rfl,hlab,hp,hr⟩:=loc_list W₂ ra hl
 obtain ⟨vx,e3,rx⟩:=hr.get hx
 refine wpAny_getItem_list hp.isList h0 hf' (by simpa using e3) ?_
 refine je.use amb W₂ F₂ h₂ (λ vc s₃ α₃ σ₃ ac S₃ W₃ r₃ h₃ F₃=>?_) λ z z p=>(p.seq (S₁.trans S₂)).wide
 obtain ⟨l',hl',hlt,h₃⟩:=h₃
 refine ho A fs α₃ σ₃ s₃ x ac vx vc _ W₃ (rx.step S₃.2 ExOk.nil) r₃ h₃ _ _ λ d w h' tk k' r' hc=>?_
 have W₄:Wd B α₃ σ₃ fs ({ s₃ with heap:=h',toks:=tk }:Shared).heap:=W₃.full k'
 have T:=((S₁.trans S₂).trans S₃).trans (SStep.full (tk:=tk) k')
 obtain ⟨ad',vs',e',hlab',hp',hr'⟩:=loc_list W₄ ((ra.step S₃.2 ExOk.nil).full k') hl'
 cases e'
 refine setItem_plain (s:={ s₃ with heap:=h',toks:=tk }) hp' h0 hf' (by simp [hr'.length];exact hlt) λ h₂ hp₂ hs₂=>?_
 have e2:vs'.toArray.setIfInBounds j.toNat w=(vs'.set j.toNat w).toArray:=by simp
 rw [e2] at hp₂
 obtain ⟨S₅,W₅⟩:=upd_flow (s:={ s₃ with heap:=h',toks:=tk }) W₄ hlab' hs₂ hp₂ (hr'.set j.toNat r')
 exact ⟨α₃,_,T.wide.trans (SStep.of (tk:=tk) (S₅ _)),W₅,fr.ρ,(F₃.full k' W₃).step (S₅ []) W₄,hc⟩
theorem seqIdx_lt {i:Int} {n j:Nat} (e:seqIndex? i n=some j):j<n:=by
 unfold seqIndex? at e
 by_cases h:i<0
 ·rw [if_pos h] at e
  dsimp only at e
  by_cases h2:(decide (0<=i+(n:Int))&&decide (i+(n:Int)<(n:Int)))=true
  ·rw [if_pos h2] at e
   simp at h2
   cases e
   lia
  ·rw [if_neg h2] at e;cases e
 ·rw [if_neg h] at e
  dsimp only at e
  by_cases h2:(decide (0<=i)&&decide (i<(n:Int)))=true
  ·rw [if_pos h2] at e
   simp at h2
   cases e
   lia
  ·rw [if_neg h2] at e;cases e
noncomputable def S.del (f g:PE):PS:=λ fr σ N R Bk X=>f fr σ (λ a σ₁=>g fr σ₁ (λ b σ₂=>∃ n i l j,a=.loc n/\b=.int i/\σ₂[n]?=some (.lst l)/\l.length<=sizeLine/\Builtin.List.listFitsIndex i=true/\seqIndex? i l.length=some j/\N fr.ρ (σ₂.set n (.lst (l.eraseIdx j)))) X) X
theorem RelL.erase {l:List AV} {vs:List Value} (r:RelL B α h l vs) (j:Nat):RelL B α h (l.eraseIdx j) (vs.eraseIdx j):=by
 rw [List.eraseIdx_eq_take_drop_succ,List.eraseIdx_eq_take_drop_succ]
 exact (r.take j).append (r.drop (j+1))
theorem J1.del {o i:Expr} {p pos:Pos} {f g:PE} (jo:JE B κ k o f) (ji:JE B κ k i g):J1 B κ k (.Delete [.Subscript o i p] pos) (S.del f g):=λ A fs env fr α σ N R Bk X s amb W F G hf=>by
 refine wpAny_Delete (wpAny_deleteEach_cons (wpAny_delete_Subscript (jo.use amb W F hf (λ va s₁ α₁ σ₁ aa S₁ W₁ r₁ h₁ F₁=>?_) λ z z p=>p.wide)))
 refine ji.use amb W₁ F₁ h₁ (λ vb s₂ α₂ σ₂ ab S₂ W₂ r₂ h₂ F₂=>?_) λ z z p=>(p.seq S₁).wide
 obtain ⟨n,i',l,j,rfl,rfl,hl,hsz,hfit,hj,hN⟩:=h₂
 obtain ⟨t,rfl⟩:=rel_int_inv r₂
 obtain ⟨ad,vs,rfl,hlab,hp,hr⟩:=loc_list W₂ (r₁.step S₂.2 ExOk.nil) hl
 have hjl:j<vs.length:=by
  rw [hr.length]
  exact seqIdx_lt hj
 refine wpAny_delItem_plain (hsz:=by simp [hr.length];exact hsz) hp hfit (by simpa [hr.length] using hj) λ h' hp' hs'=>?_
 have e2:vs.toArray.eraseIdxIfInBounds j=(vs.eraseIdx j).toArray:=by
  rw [Array.eraseIdxIfInBounds_eq,dif_pos (by simpa using hjl)]
  apply Array.ext'
  rw [Array.toList_eraseIdx]
 rw [e2] at hp'
 obtain ⟨S₄,W₄⟩:=upd_flow W₂ hlab hs' hp' (hr.erase j)
 exact wpAny_deleteEach_nil ⟨α₂,_,(S₁.trans S₂).wide.trans (SStep.of (tk:=s₂.toks) (S₄ _)),W₄,fr.ρ,F₂.step (S₄ []) W₂,hN⟩
end
end
section
section
variable {B:BC} {ex I:List Addr} {α α' α₁ α₂ α₀:Lbl} {s s' s₁ s₂ s₀:Shared} {σ σ' σ₁ σ₂ σ₀:St} {fs fs':List Env} {A:Around} {κ κc:Sc} {k:Nat} {h₀ h h' h₁:Heap} {prog:Program} {w:World}
noncomputable def str2 (f:Str->Str->(Bool->Prop)->Prop):CmpS:=λ x y P=>match x with
 | .str a=>(match y with
  | .str b=>f a b P
  | _=>False)
 | _=>False
theorem str2_elim {f:Str->Str->(Bool->Prop)->Prop} {h:Heap} {x y:AV} {u v:Value} {P:Bool->Prop} {C:Value->Value->Prop} (ra:Rel B α h x u) (rb:Rel B α h y v) (k:str2 f x y P) (hC:∀ a b t t',f a b P->C (.str a t) (.str b t')):C u v:=by
 cases x<;>try exact k.elim
 cases y<;>try exact k.elim
 obtain ⟨t,rfl⟩:=rel_str_inv ra;obtain ⟨t',rfl⟩:=rel_str_inv rb
 exact hC _ _ _ _ k
noncomputable def cmpInS:CmpS:=str2 λ y x P=>P (!(Builtin.Str.occurrences x y 0 x.length 1).isEmpty)
noncomputable def cmpNotInS:CmpS:=str2 λ y x P=>P (!(!(Builtin.Str.occurrences x y 0 x.length 1).isEmpty))
theorem inS_ok:CmpOk B .In cmpInS:=λ A fs α σ s a b u v P Q E hu W ra rb h hQ=>
 str2_elim (C:=λ u v=>wpAny (model B.prog B.w) A (compareOp .In u v) Q E s) ra rb h λ z z z z h=>PySem.P.in_str (here_full Q h hQ)
theorem notInS_ok:CmpOk B .NotIn cmpNotInS:=λ A fs α σ s a b u v P Q E hu W ra rb h hQ=>
 str2_elim (C:=λ u v=>wpAny (model B.prog B.w) A (compareOp .NotIn u v) Q E s) ra rb h λ z z z z h=>PySem.P.notIn_str (here_full Q h hQ)
noncomputable def BxOk (B:BC) (v:Value) (o:FS):Prop:=
 ∀ (A:Around) (fs:List Env) (α:Lbl) (σ:St) (s:Shared) (l:List AV) (vs:List Value) (K:PK) (X:PX),A.units+80<cLine->A.handled=none->Wd B α σ fs s.heap->RelL B α s.heap l vs->o l σ K X->wpAny (model B.prog B.w) A (call v vs) (PostV B [] α fs s K) (PostX B [] α fs s X) s
noncomputable def E.appX (o:FS) (g:PL):PE:=λ fr σ K X=>fr.hnd=.no/\g fr σ (λ l σ'=>o l σ' K X) X
theorem JE.appX {x:Str} {T:String} {o:FS} {e:Expr} {rest:List Expr} {p pos:Pos} {g:PL} (ho:BxOk B (.builtin T) o) (hl:κ.scope.names.lookup x=some .globalImplicit) (hd:(x==("__debug__":Str))=false) (hn:nsIn B.K mainGlobals x=some none) (hv:bootBuiltins x=some (.builtin T)) (hne:x≠"__name__")
  (jl:JL B κ k (e::rest) g) (he:∀ env,starEach (e::rest) env=(false,eval e env)::starEach rest env) (hp:∀ env,(backTo pos (starEach rest env)).any (·.1)=false):JE B κ k (.Call (.Name x p) (e::rest) [] pos) (E.appX o g):=λ A fs env fr α σ K X s amb W F hf=>by
 refine callB_use hl hd hn hv hne jl (he env) (hp env) amb W F hf.2 (λ vs s₁ α₁ σ₁ l S₁ W₁ r₁ hlen h₁ F₁=>?_) λ z z p=>p
 exact wpAny_mono (ho A fs α₁ σ₁ s₁ l vs _ _ amb.room (amb.no hf.1) W₁ r₁ h₁) (λ v s₂ p=>PostV.seq S₁ p) λ x s₂ p=>PostX.seq S₁ p
noncomputable def opIter:FS:=λ l σ K z=>a1 (onLst λ l=>K (.loc σ.length) (σ++[.ite l 0])) l
theorem iter_ok:BxOk B (.builtin "iter") opIter:=λ A fs α σ s l vs K X hu hh W r h=>by
 refine a1_elim (C:=λ vs=>wpAny (model B.prog B.w) A (call (.builtin "iter") vs) _ _ s) r h λ x v r hx=>?_
 obtain ⟨l,rfl,hk⟩:=onLst_inv hx
 obtain ⟨a,us,rfl,hf,hp,hr⟩:=rel_lst_inv r
 refine call_function_entry (by decide+kernel) (by decide+kernel) kdk_entry_iter (kdk_args_iter _) ?_
 unfold Builtin.«iter»
 refine wpAny_bind (m:=someArgs "iter" 1 2 _) (wpAny_of_eq (a:=[Value.ref a]) (by first | rfl | kernel_rfl!) ?_)
 show wpAny _ _ (pyIter (.ref a) >>= _) _ _ _
 refine wpAny_bind (wpAny_pyIter_list hp.isList (wpAny_pure ⟨_,rfl,?_⟩))
 have hn:s.heap.get? s.heap.objs.size=none:=size_none _
 have ht:(s.heap.push { cls:=.type "list_iterator",data:=.fields #[.ref a,.int 0 0] }).get? s.heap.objs.size=some { cls:=.type "list_iterator",data:=.fields #[.ref a,.int 0 0] }:=Heap.get?_push_size _ rfl
 have S:∀ ex,Step B ex α s.heap (α.push (.obj s.heap.objs.size)) (s.heap.push { cls:=.type "list_iterator",data:=.fields #[.ref a,.int 0 0] }):=λ ex=>Step.newLab (Full.push _ _) rfl hn
 have hla:a≠s.heap.objs.size:=by obtain ⟨n,ho⟩:=hp;exact Nat.ne_of_lt (Heap.lt_size ho)
 obtain ⟨n,ho⟩:=hp
 refine ⟨α.push (.obj s.heap.objs.size),σ++[.ite l 0],.loc σ.length,⟨⟨_,s.toks,rfl⟩,S []⟩,W.newLab (lb:=.obj s.heap.objs.size) (ao:=.ite l 0) (Full.push _ _) rfl hn (some_ne_none ht) ?_,?_,hk⟩
 ·exact ⟨a,us,⟨_,ht,rfl,rfl⟩,(S []).frz hf ho,⟨n,Heap.get?_push_of_some _ ho⟩,hr.step (S []) ExOk.nil⟩
 ·refine ⟨_,rfl,.inl ?_⟩
  show (α.lab++[Lb.obj s.heap.objs.size])[σ.length]?=_
  rw [<- W.len,List.getElem?_append_right (Nat.le_refl _),Nat.sub_self]
  rfl
theorem specNext_item {it l:Addr} {i:Nat} {items:Array Value} {x:Value} {Q:Option Value->Shared->Prop} {E:Value->Shared->Prop} (hit:s.heap.IsListIter it l i) (hl:s.heap.IsList l items) (hx:items[i]?=some x)
  (hQ:∀ h',h'.IsListIter it l (i+1)->Heap.SameBut it s.heap h'->Q (some x) { s with heap:=h' }):wpAny (model prog w) A (callSpecial? (.ref it) (Str.ofString "__next__")) Q E s:=by
 obtain ⟨o,ho,hc,hd⟩:=id hit
 obtain ⟨ol,hol,_,nl,hdl⟩:=hl
 refine wpAny_callSpecial?_slot (name:=Str.ofString "__next__") hit.typeIs slot_listiter_next
  (wpAny_call_entry slot_listiter_next hit.typeIs entry_listiter_next ?_ (args_listiter_next _))
 show wpAny _ _ (field (.ref it) 0 >>= _) _ _ s
 refine wpAny_bind (wpAny_field ho hd (x:=.ref l) rfl ?_)
 show wpAny _ _ (if (Value.ref l==Value.none)=true then _ else _) _ _ s
 rw [if_neg (show ¬ ((Value.ref l==Value.none)=true) from Bool.false_ne_true)]
 show wpAny _ _ (field (.ref it) 1 >>= _) _ _ s
 refine wpAny_bind (wpAny_field ho hd (x:=.int i 0) rfl ?_)
 show wpAny _ _ (seqItems? (.ref l) >>= _) _ _ s
 refine wpAny_bind (wpAny_seqItems hol hdl ?_)
 simp only [Int.toNat_natCast,hx]
 refine wpAny_bind (wpAny_setField ho hd (by simp) (wpAny_pure ⟨x,rfl,hQ _ ?_ (Heap.SameBut.update ..)⟩))
 exact ⟨_,Heap.get?_update_self _ ho (Obj.isFreed_of_fields (Obj.data_mapFields hd _)),(Obj.cls_mapFields ..).trans hc,by
  rw [Obj.data_mapFields hd];simp [rawInt]⟩
theorem specNext_end {it l:Addr} {i:Nat} {items:Array Value} {Q:Option Value->Shared->Prop} {E:Value->Shared->Prop} (hh:A.handled=none) (hit:s.heap.IsListIter it l i) (hl:s.heap.IsList l items) (hx:items[i]?=none)
  (hE:∀ h',(∀ b o,b≠it->s.heap.get? b=some o->h'.get? b=some o)->h'.get? it≠none->h'.get? s.heap.objs.size=some { cls:=.type "tuple",data:=.seq #[] }->
   h'.get? (s.heap.objs.size+1)=some { cls:=.type "StopIteration",data:=.fields #[.ref s.heap.objs.size,.none,.none,.none,.bool false,.none] }->E (.ref (s.heap.objs.size+1)) { s with heap:=h' }):
  wpAny (model prog w) A (callSpecial? (.ref it) (Str.ofString "__next__")) Q E s:=by
 obtain ⟨o,ho,hc,hd⟩:=id hit
 obtain ⟨ol,hol,_,nl,hdl⟩:=hl
 refine wpAny_callSpecial?_slot (name:=Str.ofString "__next__") hit.typeIs slot_listiter_next
  (wpAny_call_entry slot_listiter_next hit.typeIs entry_listiter_next ?_ (args_listiter_next _))
 show wpAny _ _ (field (.ref it) 0 >>= _) _ _ s
 refine wpAny_bind (wpAny_field ho hd (x:=.ref l) rfl ?_)
 show wpAny _ _ (if (Value.ref l==Value.none)=true then _ else _) _ _ s
 rw [if_neg (show ¬ ((Value.ref l==Value.none)=true) from Bool.false_ne_true)]
 show wpAny _ _ (field (.ref it) 1 >>= _) _ _ s
 refine wpAny_bind (wpAny_field ho hd (x:=.int i 0) rfl ?_)
 show wpAny _ _ (seqItems? (.ref l) >>= _) _ _ s
 refine wpAny_bind (wpAny_seqItems hol hdl ?_)
 simp only [Int.toNat_natCast,hx]
 refine wpAny_bind (wpAny_rule (wpAny_bind (wpAny_setField ho hd (by simp) ?_)))
 have hself:=Heap.get?_update_self (Obj.mapFields (·.setIfInBounds 0 Value.none)) ho (Obj.isFreed_of_fields (Obj.data_mapFields hd _))
 generalize hH:s.heap.update it _=H at hself ⊢
 have hk:Heap.SameBut it s.heap H:=by rw [<- hH];exact Heap.SameBut.update ..
 refine stop_ok (s:={ s with heap:=H }) (A:=A.in1) (.inl hh) λ h' c hc' hf ht he=>?_
 have hz:({ s with heap:=H }:Shared).heap.objs.size=s.heap.objs.size:=hk.1
 rw [hz] at he ht ⊢
 rw [hc' hh] at he
 exact hE h' (λ b o hb e=>hf b o (hk.extBut b o hb e)) (some_ne_none (hf _ _ hself)) ht he
theorem Wd.bury (W:Wd B α σ fs h) {n:Nat} {a:Addr} (hl:α.lab[n]?=some (.obj a)) (k:∀ b o,b≠a->h.get? b=some o->h'.get? b=some o) (hd:h'.get? a≠none):
  (∀ ex,Step B ex α h ⟨α.lab.set n .dead,α.hid⟩ h')/\Wd B ⟨α.lab.set n .dead,α.hid⟩ (σ.set n .gone) fs h'/\(∀ b,Liv ⟨α.lab.set n .dead,α.hid⟩ b->Liv α b):=by
 have haa:adr α n=some a:=by rw [adr_of_get hl];rfl
 have hLa:Lab α a:=⟨n,haa⟩
 have hn:n<α.lab.length:=(List.getElem?_eq_some_iff.mp hl).1
 have had:∀ m b,adr ⟨α.lab.set n .dead,α.hid⟩ m=some b->adr α m=some b/\m≠n:=λ m b e=>by
  unfold adr at e ⊢
  by_cases hm:m=n
  ·subst hm
   have:(α.lab.set m Lb.dead)[m]?=some .dead:=by rw [List.getElem?_set_self hn]
   rw [show (⟨α.lab.set m .dead,α.hid⟩:Lbl).lab[m]?=some .dead from this] at e
   cases e
  ·have:(α.lab.set n Lb.dead)[m]?=α.lab[m]?:=List.getElem?_set_ne (Ne.symm hm)
   rw [show (⟨α.lab.set n .dead,α.hid⟩:Lbl).lab[m]?=α.lab[m]? from this] at e
   exact ⟨e,hm⟩
 have hlab:∀ b,Lab ⟨α.lab.set n .dead,α.hid⟩ b->Lab α b:=λ b ⟨m,e⟩=>⟨m,(had m b e).1⟩
 have hliv:∀ b,Liv ⟨α.lab.set n .dead,α.hid⟩ b->Liv α b:=λ b x=>x.imp (hlab b) id
 have S:∀ ex,Step B ex α h ⟨α.lab.set n .dead,α.hid⟩ h':=λ ex=>{
  keep:=λ b o hb u u u e=>⟨o.slots,k b o (λ q=>hb (q▸hLa)) e,λ u=>rfl⟩
  dom:=λ b e=>by
   by_cases hb:b=a
   ·subst hb;exact hd
   ·cases q:h.get? b with
    | none=>exact absurd q e
    | some o=>exact some_ne_none (k b o hb q)
  ext:=by simp
  old:=λ m hm=>by
   by_cases hmn:m=n
   ·subst hmn
    exact .inr ⟨⟨a,hl⟩,by rw [List.getElem?_set_self hn]⟩
   ·exact .inl (List.getElem?_set_ne (Ne.symm hmn))
  new:=λ m b hm e=>absurd (adr_lt (had m b e).1) (Nat.not_lt.mpr hm)
  hidOld:=λ u e=>e
  hidNew:=λ u e=>.inl e }
 have hnb:B.base.get? a=none/\¬ Tab B a:=W.apart a (.inl hLa)
 refine ⟨S,⟨W.staysIn (S []) ExOk.nil,by simp [W.len],λ m ao lb e1 e2=>?_,λ i j b e1 e2=>W.inj i j b (had i b e1).1 (had j b e2).1,λ b x y=>W.alone b x (hlab b y),λ b x=>W.apart b (hliv b x),λ b x=>(S []).dom b (W.there b (hliv b x)),λ q hq=>(W.tabs q hq).mov ((S []).mov ExOk.nil) λ o e=>k _ o (λ z=>hnb.2 ⟨q,hq,z⟩) e,W.frames.step (S []) (λ u u u u q=>nomatch q) W.hidTab W.alone⟩,hliv⟩
 by_cases hm:m=n
 ·subst hm
  rw [List.getElem?_set_self (W.len▸hn)] at e1
  rw [List.getElem?_set_self hn] at e2
  cases e1;cases e2
  trivial
 ·rw [List.getElem?_set_ne (Ne.symm hm)] at e1 e2
  refine ORel.stay (S []) ExOk.nil (λ b o hb e=>k b o (λ z=>?_) e) (W.objs m ao lb e1 e2)
  subst z
  exact hm (W.inj m n b (by rw [adr_of_get e2];rcases hb with hb | hb<;>rw [hb]<;>rfl) haa)
noncomputable def opNext:FS:=λ l σ K X=>a1 (onLoc λ n=>∃ l i,σ[n]?=some (.ite l i)/\match l[i]? with
 | some x=>K x (σ.set n (.ite l (i+1)))
 | none=>X "StopIteration" (σ.set n .gone)) l
theorem next_ok:BxOk B (.builtin "next") opNext:=λ A fs α σ s l vs K X hu hh W r h=>by
 refine a1_elim (C:=λ vs=>wpAny (model B.prog B.w) A (call (.builtin "next") vs) _ _ s) r h λ x v r hn=>?_
 obtain ⟨n,rfl,l,i,e,hk⟩:=onLoc_inv hn
 obtain ⟨a,rfl,hlab⟩:=r
 have hlab:α.lab[n]?=some (.obj a):=by
  rcases hlab with q | q
  ·exact q
  ·exact (W.objs n _ _ e q).elim
 obtain ⟨la,us,hit,hf,hp,hr⟩:=W.objs n _ _ e hlab
 refine call_function_entry (by decide+kernel) (by decide+kernel) kdk_entry_next (kdk_args_next _) ?_
 unfold Builtin.«next»
 refine wpAny_bind (m:=someArgs "next" 1 2 _) (wpAny_of_eq (a:=[Value.ref a]) (by first | rfl | kernel_rfl!) ?_)
 dsimp only
 refine wpAny_bind (wpAny_specialOf (name:=Str.ofString "__next__") hit.typeIs slot_listiter_next.lookup ?_)
 refine wpAny_ite_split (λ hab=>absurd hab (by decide)) (λ z=>?_)
 cases hx:l[i]? with
 | some x=>
  rw [hx] at hk
  dsimp only at hk
  obtain ⟨v,hv,rv⟩:=some_of_rel hr hx
  refine wpAny_bind (specNext_item hit hp.isList hv λ h' hit' hs=>wpAny_pure ⟨_,rfl,?_⟩)
  obtain ⟨oi,hoi,hci⟩:=id hit'
  have S:∀ ex,Step B ex α s.heap α h':=λ ex=>Step.updLab (.inr hlab) hs.extBut (some_ne_none hoi)
  obtain ⟨nn,hol⟩:=hp
  have hne:la≠a:=λ q=>hf.1 (q▸(.inl ⟨n,by rw [adr_of_get hlab];rfl⟩))
  exact ⟨α,_,x,⟨⟨h',s.toks,rfl⟩,S []⟩,W.updLab (ao:=.ite l (i+1)) hlab (.inr rfl) hs.extBut (some_ne_none hoi) ⟨la,us,hit',hf,⟨nn,hs.extBut _ _ hne hol⟩,hr.step (S []) ExOk.nil⟩,rv.step (S []) ExOk.nil,hk⟩
 | none=>
  rw [hx] at hk
  dsimp only at hk
  refine wpAny_bind (specNext_end (A:=A.in1) hh hit hp.isList (none_of_len hr hx) λ h' hk' hd ht he=>?_)
  obtain ⟨S₁,W₁,hliv⟩:=W.bury hlab hk' hd
  have hn0:s.heap.get? s.heap.objs.size=none:=size_none _
  have hn1:s.heap.get? (s.heap.objs.size+1)=none:=size_none1 _ 1
  have fr0:Frz B ⟨α.lab.set n .dead,α.hid⟩ s.heap.objs.size:=⟨λ q=>W.notLive hn0 (hliv _ q),(W.fresh hn0).2⟩
  have fr1:Frz B ⟨α.lab.set n .dead,α.hid⟩ (s.heap.objs.size+1):=⟨λ q=>W.notLive hn1 (hliv _ q),(W.fresh hn1).2⟩
  refine ⟨_,_,s.heap.objs.size+1,"StopIteration",rfl,SStep.of (tk:=s.toks) (S₁ []),W₁,⟨hn1,(W.fresh hn1).1,fr1,.inl rfl,_,_,he,rfl,rfl,⟨rfl,rfl⟩,⟨s.heap.objs.size,rfl,⟨_,ht,rfl,0,rfl⟩,fr0,hn0⟩,.inl rfl⟩,hk⟩
end
end
section
section
variable {B:BC} {ex I:List Addr} {α α' α₁ α₂ α₀:Lbl} {s s' s₁ s₂ s₀:Shared} {σ σ' σ₁ σ₂ σ₀:St} {fs fs':List Env} {A:Around} {κ κc:Sc} {k:Nat} {h₀ h h' h₁:Heap} {prog:Program} {w:World}
theorem raiseCls {env:Env} {x:Str} {np pos:Pos} {X N I:String} {Q:Flow->Shared->Prop} {E:Value->Shared->Prop} (hh:A.handled=none) (hc:ExcClass X N I) (F:ExcCallFacts X N I) (hself:isSubtype (.type X) (.type X)=pure true)
  (hx:wpAny (model prog w) A (eval (.Name x np) env) (λ v s₁=>v=.type X/\s₁=s) E s) (h:∀ h' e,Heap.MadeExc s.heap h' e X []->E (.ref e) { s with heap:=h' }):
  wpAny (model prog w) A (exec (.Raise (some (.Name x np)) none pos) env) Q E s:=by
 show wpAny (model prog w) A (do standAt pos;raiseStmt env (some (do let v <- eval (.Name x np) env;standAt pos;pure v)) none) Q E s
 refine wpAny_bind (wpAny_standAt ?_)
 unfold raiseStmt
 dsimp only
 refine wpAny_bind (wpAny_bind (wpAny_mono hx (λ v s₁ h₁=>wpAny_bind (wpAny_standAt (wpAny_pure ?_))) λ z z e=>e))
 obtain ⟨rfl,hs₁⟩:=h₁
 subst s₁
 refine wpAny_bind (wpAny_pure ?_)
 dsimp only
 refine wpAny_bind (wpAny_holding ?_)
 unfold excFromValue isExcClass
 refine wpAny_bind (wpAny_bind (wpAny_pure ?_))
 simp only [if_true]
 rw [hc.base]
 refine wpAny_pure ?_
 simp only [if_true]
 obtain ⟨hp,g,d,tk,os⟩:=s
 refine wpAny_bind (wpAny_call_exc F λ h' e hn=>?_)
 obtain ⟨t,he,_,_⟩:=id hn.there
 have hT:(⟨h',g,d,tk,os⟩:Shared).TypeIs (.ref e) X:=⟨_,he,rfl⟩
 refine wpAny_bind (wpAny_isInstance hT hc.base ?_)
 simp only [Bool.not_true,Bool.false_eq_true,if_false]
 refine wpAny_pure ?_
 first | (refine wpAny_bind (m:=isType (.type X)) (wpAny_pure ?_)) | (refine wpAny_bind (wpAny_pure ?_))
 first | (rw [if_pos rfl]) | (simp only [if_true]) | dsimp only
 refine wpAny_bind (wpAny_holding ?_)
 unfold raisedFor
 first | (simp only [Bool.false_eq_true,if_false]) | (rw [if_neg (by decide)]) | skip
 first | (refine wpAny_bind (wpAny_typeOf hT ?_)) | (refine wpAny_bind ?_;refine wpAny_bind (wpAny_typeOf hT ?_))
 refine wpAny_bind (call_issubclass (issubclass_self hc hself) ?_)
 first | (refine wpAny_bind (wpAny_truthy_bool ?_)) | (refine wpAny_truthy_bool ?_) | (dsimp only [wants];first | (refine wpAny_bind (wpAny_truthy_bool ?_)) | (refine wpAny_truthy_bool ?_))
 first | (rw [if_pos rfl]) | (simp only [if_true]) | skip
 refine wpAny_pure ?_
 unfold setFlight raiseNew
 refine wpAny_bind (wpAny_bind (wpAny_field (i:=1) (x:=Value.none) he rfl rfl ?_))
 rw [if_neg (by decide)]
 refine wpAny_pure (wpAny_bind (wpAny_handled ?_))
 rw [hh]
 first
  | exact wpAny_throw (h h' e hn)
  | exact wpAny_bind (wpAny_pure (wpAny_throw (h h' e hn)))
noncomputable def S.raiseZ:PS:=λ fr σ N R Bk X=>fr.hnd=.no/\X "ZeroDivisionError" σ
theorem J1.raiseZ {np pos:Pos} (hl:κ.scope.names.lookup ("ZeroDivisionError":Str)=some .globalImplicit) (hn:nsIn B.K mainGlobals ("ZeroDivisionError":Str)=some none):J1 B κ k (.Raise (some (.Name "ZeroDivisionError" np)) none pos) S.raiseZ:=λ A fs env fr α σ N R Bk X s amb W F G hf=>by
 refine raiseCls (amb.no hf.1) excClass_ZeroDivisionError PySem.F.excCall_ZeroDivisionError PySem.F.self_ZeroDivisionError (builtin_value W F hl (by decide) hn (by decide+kernel) (by decide) ⟨rfl,rfl⟩) λ h' e hm=>?_
 obtain ⟨t,he,htn,ht⟩:=hm.there
 have hk:Full s.heap h':=hm.keeps
 have W':=W.full hk
 exact ⟨α,σ,e,"ZeroDivisionError",rfl,SStep.full (tk:=s.toks) hk,W',⟨hm.new,(W.fresh hm.new).1,W.frzNew hm.new,.inr rfl,_,_,he,rfl,rfl,⟨rfl,rfl⟩,⟨t,rfl,⟨_,ht,rfl,0,rfl⟩,W.frzNew htn,htn⟩,.inl rfl⟩,hf.2⟩
end
end
section
section
variable {B:BC} {ex I:List Addr} {α α' α₁ α₂ α₀:Lbl} {s s' s₁ s₂ s₀:Shared} {σ σ' σ₁ σ₂ σ₀:St} {fs fs':List Env} {A:Around} {κ κc:Sc} {k:Nat} {h₀ h h' h₁:Heap} {prog:Program} {w:World}
noncomputable def J1x (B:BC) (κ:Sc) (k:Nat) (st:Stmt) (p:PS):Prop:=
 ∀ (A:Around) (fs:List Env) (env:Env) (fr:AFr) (α:Lbl) (σ:St) (N:PN) (R:PK) (Bk:PN) (X:PX) (s:Shared),
  Amb A fs k fr.hnd->Wd B α σ fs s.heap->FrOk B κ fr env α s.heap->FsOk env fs α->p fr σ N R Bk X->
  wpAny (model B.prog B.w) A (exec st env) (PostF B κ fr env α fs s N R Bk) (PostX B [] α fs s X) s
theorem J1x.ret {e:Expr} {pos} {f:PE} (je:JE B κ k e f):J1x B κ k (.Return (some e) pos) (S.ret f):=λ A fs env fr α σ N R Bk X s amb W F G hf=>
 wpAny_Return_some (je.use amb W F hf (λ v s₁ α₁ σ₁ a S₁ W₁ r₁ h₁ F₁=>⟨α₁,σ₁,S₁.wide,W₁,a,r₁,h₁⟩) λ z z p=>p)
theorem J1x.set {x:Str} {p' pos:Pos} {e:Expr} {t:Tg} {f:PE} (je:JE B κ k e f) (ht:TgOk κ x t) (hs:∀ env,swapsWith e (some (.Name x p')) pos.line env=pure false):J1x B κ k (.Assign [.Name x p'] e pos) (S.set t f):=λ A fs env fr α σ N R Bk X s amb W F G hf=>by
 refine wpAny_Assign_Name (je.use amb W F hf (λ v s₁ α₁ σ₁ a S₁ W₁ r₁ h₁ F₁=>?_) λ z z p=>p) (hs env)
 refine store_ok ht W₁ F₁ r₁ λ h' tk S' W' F'=>?_
 rw [fr_of_bindT] at F'
 exact ⟨α₁,_,S₁.wide.trans (SStep.of S'),W',_,F',h₁⟩
theorem Step.hideX {e:Addr} (S:Step B ex α h α' h') (he:h.get? e=none):Step B ex α h (α'.hide false e) h':=
 ⟨S.keep,S.dom,S.ext,S.old,S.new,λ p q=>List.mem_cons_of_mem _ (S.hidOld p q),λ p q=>by
  rcases List.mem_cons.mp q with rfl | q
  ·exact .inr he
  ·exact S.hidNew p q⟩
theorem Mov.hideX {e:Addr} {oe:Obj} (he:h.get? e=some oe) (hx:exo oe=true):Mov B α h (α.hide false e) h:=
 ⟨λ {b o} hf ho hxo=>⟨λ q=>by
  rcases q with q | q
  ·exact hf.1 (.inl q)
  ·rcases Hid.hide q with rfl | q
   ·rw [he] at ho;cases ho;rw [hx] at hxo;cases hxo
   ·exact hf.1 (.inr q),hf.2⟩,λ z e z=>e,λ z z=>.inl rfl⟩
theorem Wd.hideX {e:Addr} {oe:Obj} (W:Wd B α σ fs h) (he:h.get? e=some oe) (hx:exo oe=true) (hf:Frz B α e) (hb:B.base.get? e=none):Wd B (α.hide false e) σ fs h:=by
 have M:Mov B α h (α.hide false e) h:=Mov.hideX he hx
 refine ⟨W.stays,W.len,λ n ao lb e1 e2=>(W.objs n ao lb e1 e2).mov M λ z z z e=>e,W.inj,λ b x y=>?_,λ b x=>?_,λ b x=>?_,λ q hq=>(W.tabs q hq).mov M λ z e=>e,λ env he'=>?_⟩
 ·rcases Hid.hide x with rfl | x
  ·exact hf.1 (.inl y)
  ·exact W.alone b x y
 ·rcases x with x | x
  ·exact W.apart b (.inl x)
  ·rcases Hid.hide x with rfl | x
   ·exact ⟨hb,hf.2⟩
   ·exact W.apart b (.inr x)
 ·rcases x with x | x
  ·exact W.there b (.inl x)
  ·rcases Hid.hide x with rfl | x
   ·exact some_ne_none he
   ·exact W.there b (.inr x)
 ·obtain ⟨hk,L,o,es,n,hL,hF,ho,hd⟩:=W.frames env he'
  exact ⟨hk,L,o,es,n,hL,List.mem_cons_of_mem _ hF,ho,hd⟩
theorem FrOk.hideX {e:Addr} {c:String} {fr:AFr} {env:Env} (F:FrOk B κ fr env α h) (W:Wd B α σ fs h) (x:XRel B h₀ α h e c) (hne:e≠env.locals):FrOk B κ { fr with hnd:=.exc e } env (α.hide false e) h:=by
 obtain ⟨a,b,b',hcc,oe,vs,h1,h2,h3,h4,⟨t,t1,t2,t3,t4⟩,h5⟩:=x
 have hx:exo oe=true:=exo_exc h2 hcc h3 (h5.imp id λ x=>by obtain ⟨T,_,_,_,_,q⟩:=x;exact ⟨T,q⟩)
 have M:Mov B α h (α.hide false e) h:=Mov.hideX h1 hx
 refine ⟨F.scope,F.kind,F.nodup,F.globals,F.builtins,?_,?_,F.cells,λ a' e'=>?_,F.made⟩
 ·obtain ⟨m,hn,hl⟩:=F.locs
  exact ⟨m,hn,λ i y v e1 e2=>let ⟨w,a,b⟩:=hl i y v e1 e2;⟨w,a,b.mov M⟩⟩
 ·obtain ⟨f,q⟩:=F.here;exact ⟨f,List.mem_cons_of_mem _ q⟩
 ·cases e'
  refine ⟨⟨hid_self,λ q=>?_,oe,vs,h1,h3,h4.2,by rcases hcc with rfl | rfl<;>simp [h2],t,t1,t2,?_⟩,hne⟩
  ·rcases List.mem_cons.mp q with q | q
   ·cases q
   ·exact b'.1 (.inr ⟨true,q⟩)
  ·obtain ⟨ot,hot,hct,n,hdt⟩:=t2
   exact M.frz t3 hot (by unfold exo;rw [hdt])
noncomputable def S.try (T:String) (p q:PS):PS:=λ fr σ N R Bk X=>fr.hnd=.no/\p fr σ N R Bk (λ c σ'=>c=T/\∀ e:Addr,q { fr with hnd:=.exc e } σ' N R Bk noX)
theorem sub_self {T:String} (hT:T="StopIteration"\/T="ZeroDivisionError"):isSubtype (.type T) (.type T)=pure true/\isSubtype (.type T) (.type "BaseException")=pure true/\isSubtype (.type ((Manifest.find? T).elim "type" λ x=>x.metatype)) (.type "tuple")=pure false:=by
 rcases hT with rfl | rfl
 ·exact ⟨isSubtype_stop,by rw [isSubtype_type];kernel_rfl,by rw [isSubtype_type];kernel_rfl⟩
 ·exact ⟨PySem.F.self_ZeroDivisionError,PySem.F.isExc_ZeroDivisionError,by rw [isSubtype_type];kernel_rfl⟩
theorem Amb.mark {e:Addr} {hk:HK} (amb:Amb A fs k hk):Amb (A.mark (some (.ref e))) fs k (.exc e):=⟨amb.frames,amb.depth,amb.units,rfl⟩
theorem J1.try {T:String} {x:Str} {np pos hpos:Pos} {st b₀:Stmt} {suite:List Stmt} {p q:PS} (hT:T="StopIteration"\/T="ZeroDivisionError") (hl:κ.scope.names.lookup x=some .globalImplicit) (hd:(x==("__debug__":Str))=false) (hn:nsIn B.K mainGlobals x=some none) (hv:bootBuiltins x=some (.type T)) (hne:x≠"__name__")
  (j:J1x B κ k st p) (js:JS B κ k (b₀::suite) q):J1 B κ k (.Try [st] [.ExceptHandler (some (.Name x np)) none (b₀::suite) hpos] [] [] pos) (S.try T p q):=λ A fs env fr α σ N R Bk X s amb W F G hf=>by
 obtain ⟨hno,hf⟩:=hf
 refine wpAny_Try_except (wpAny_execs_cons (wpAny_mono (j A fs env fr α σ N R Bk _ s amb W F G hf) (λ f s₁ q₁=>?_) λ xv s₁ q₁=>?_))
 ·cases f with
  | next=>exact wpAny_execs_nil (wpAny_execs_nil q₁)
  | _=>exact q₁
 ·obtain ⟨α₁,σ₁,e,c,rfl,S₁,W₁,xr,hc,hq⟩:=q₁
  subst hc
  obtain ⟨outer,hfs,hL,hF⟩:=id G
  refine note_ok amb.frames hfs hL W₁ xr S₁.2.dom λ h₁ T₁ W₂ xr₁ hnt=>?_
  refine setFlight_ok (s:={ s₁ with heap:=h₁ }) W₂ xr₁ λ h₂ T₂ W₃ xr₂=>?_
  have S₂:SStep B [] α s α₁ { s₁ with heap:=h₂ }:=S₁.trans (SStep.of (tk:=s₁.toks) (T₁.trans T₂))
  have F₂:FrOk B κ fr env α₁ h₂:=F.step S₂.2 W
  obtain ⟨hs1,hs2,hs3⟩:=sub_self hT
  refine wpAny_handleBy_builtin hs2 hs3 hs1 ?_
  refine builtin_value (s:={ s₁ with heap:=h₂ }) W₃ F₂ hl hd hn hv hne ⟨rfl,?_,?_⟩
  ·obtain ⟨_,_,_,_,oe,vs,g1,g2,_⟩:=id xr₂
   exact ⟨oe,g1,g2⟩
  ·rw [if_pos rfl]
   refine setFlight_ok (s:={ s₁ with heap:=h₂ }) W₃ xr₂ λ h₃ T₃ W₄ xr₃=>?_
   have S₃:SStep B [] α s α₁ { s₁ with heap:=h₃ }:=S₂.trans (SStep.of (tk:=s₁.toks) T₃)
   have F₃:FrOk B κ fr env α₁ h₃:=F.step S₃.2 W
   have hen:s.heap.get? e=none:=xr₃.1
   have hne':e≠env.locals:=λ z=>F.locals_some (z▸hen)
   obtain ⟨g0,g1,g2,g3,oe,vs,g4,g5,g6,g7,g8,g9⟩:=id xr₃
   have hxo:exo oe=true:=exo_exc g5 g3 g6 (g9.imp id λ x=>by obtain ⟨T,_,_,_,_,q⟩:=x;exact ⟨T,q⟩)
   have S₄:SStep B [] α s (α₁.hide false e) { s₁ with heap:=h₃ }:=⟨S₃.1,S₃.2.hideX hen⟩
   refine wpAny_mono (js (A.mark (some (.ref e))) fs env { fr with hnd:=.exc e } (α₁.hide false e) σ₁ N R Bk noX { s₁ with heap:=h₃ } amb.mark (W₄.hideX g4 hxo g2 g1) (F₃.hideX W₄ xr₃ hne') (G.step S₄.2) (hq e)) (λ f s₅ q₅=>?_) λ o o q₅=>q₅.no.elim
   obtain ⟨α₅,σ₅,S₅,W₅,q₅⟩:=q₅
   refine ⟨α₅,σ₅,S₄.wide.trans S₅,W₅,?_⟩
   cases f with
   | next=>
    obtain ⟨ρ',F₅,hN⟩:=q₅
    exact ⟨ρ',⟨F₅.scope,F₅.kind,F₅.nodup,F₅.globals,F₅.builtins,F₅.locs,F₅.here,F₅.cells,λ a e'=>(by rw [show ({ fr with ρ:=ρ' }:AFr).hnd=fr.hnd from rfl,hno] at e';cases e'),F₅.made⟩,hN⟩
   | brk=>
    obtain ⟨ρ',F₅,hN⟩:=q₅
    exact ⟨ρ',⟨F₅.scope,F₅.kind,F₅.nodup,F₅.globals,F₅.builtins,F₅.locs,F₅.here,F₅.cells,λ a e'=>(by rw [show ({ fr with ρ:=ρ' }:AFr).hnd=fr.hnd from rfl,hno] at e';cases e'),F₅.made⟩,hN⟩
   | ret v=>exact q₅
   | cont=>exact q₅
noncomputable def S.tryAs (T:String) (i:Nat) (p q:PS):PS:=λ fr σ N R Bk X=>fr.hnd=.no/\p fr σ N R Bk (λ c σ'=>c=T/\∀ e:Addr,q { fr with ρ:=fr.ρ.set i (some (.val (.ref e))),hnd:=.exc e } σ' (λ ρ' σ''=>N (ρ'.set i none) σ'') (λ z z=>False) (λ z z=>False) noX)
theorem J1.tryAs {T:String} {x y:Str} {i:Nat} {np pos hpos:Pos} {st b₀:Stmt} {suite:List Stmt} {p q:PS} (hT:T="StopIteration"\/T="ZeroDivisionError") (hl:κ.scope.names.lookup x=some .globalImplicit) (hd:(x==("__debug__":Str))=false) (hn:nsIn B.K mainGlobals x=some none) (hv:bootBuiltins x=some (.type T)) (hne:x≠"__name__")
  (hi:κ.loc[i]?=some y) (hy:κ.scope.names.lookup y=some .local) (j:J1x B κ k st p) (js:JS B κ k (b₀::suite) q):J1 B κ k (.Try [st] [.ExceptHandler (some (.Name x np)) (some y) (b₀::suite) hpos] [] [] pos) (S.tryAs T i p q):=λ A fs env fr α σ N R Bk X s amb W F G hf=>by
 obtain ⟨hno,hf⟩:=hf
 refine wpAny_Try_except (wpAny_execs_cons (wpAny_mono (j A fs env fr α σ N R Bk _ s amb W F G hf) (λ f s₁ q₁=>?_) λ xv s₁ q₁=>?_))
 ·cases f with
  | next=>exact wpAny_execs_nil (wpAny_execs_nil q₁)
  | _=>exact q₁
 ·obtain ⟨α₁,σ₁,e,c,rfl,S₁,W₁,xr,hc,hq⟩:=q₁
  subst hc
  obtain ⟨outer,hfs,hL,hF⟩:=id G
  refine note_ok amb.frames hfs hL W₁ xr S₁.2.dom λ h₁ T₁ W₂ xr₁ hnt=>?_
  refine setFlight_ok (s:={ s₁ with heap:=h₁ }) W₂ xr₁ λ h₂ T₂ W₃ xr₂=>?_
  have S₂:SStep B [] α s α₁ { s₁ with heap:=h₂ }:=S₁.trans (SStep.of (tk:=s₁.toks) (T₁.trans T₂))
  have F₂:FrOk B κ fr env α₁ h₂:=F.step S₂.2 W
  obtain ⟨hs1,hs2,hs3⟩:=sub_self hT
  refine wpAny_handleBy_builtin_as hs2 hs3 hs1 ?_
  refine builtin_value (s:={ s₁ with heap:=h₂ }) W₃ F₂ hl hd hn hv hne ⟨rfl,?_,?_⟩
  ·obtain ⟨_,_,_,_,oe,vs,g1,g2,_⟩:=id xr₂
   exact ⟨oe,g1,g2⟩
  ·rw [if_pos rfl]
   refine setFlight_ok (s:={ s₁ with heap:=h₂ }) W₃ xr₂ λ h₃ T₃ W₄ xr₃=>?_
   have S₃:SStep B [] α s α₁ { s₁ with heap:=h₃ }:=S₂.trans (SStep.of (tk:=s₁.toks) T₃)
   have F₃:FrOk B κ fr env α₁ h₃:=F.step S₃.2 W
   have hen:s.heap.get? e=none:=xr₃.1
   have hne':e≠env.locals:=λ z=>F.locals_some (z▸hen)
   obtain ⟨g0,g1,g2,g3,oe,vs,g4,g5,g6,g7,g8,g9⟩:=id xr₃
   have hxo:exo oe=true:=exo_exc g5 g3 g6 (g9.imp id λ x=>by obtain ⟨T,_,_,_,_,q⟩:=x;exact ⟨T,q⟩)
   have S₄:SStep B [] α s (α₁.hide false e) { s₁ with heap:=h₃ }:=⟨S₃.1,S₃.2.hideX hen⟩
   have W₅:=W₄.hideX g4 hxo g2 g1
   have F₅:=F₃.hideX W₄ xr₃ hne'
   refine store_ok (s:={ s₁ with heap:=h₃ }) (t:=.loc i) (av:=.val (.ref e)) ⟨hi,hy⟩ W₅ F₅ (rel_val _) λ h₆ tk₆ T₆ W₆ F₆=>?_
   have S₆:SStep B [env.locals] α s (α₁.hide false e) { s₁ with heap:=h₆,toks:=tk₆ }:=S₄.wide.trans (SStep.of (tk:=tk₆) T₆)
   refine wpAny_mono (js (A.mark (some (.ref e))) fs env { fr with ρ:=fr.ρ.set i (some (.val (.ref e))),hnd:=.exc e } (α₁.hide false e) σ₁ _ _ _ noX { s₁ with heap:=h₆,toks:=tk₆ } amb.mark W₆ F₆ (G.step S₆.2) (hq e)) (λ f s₅ q₅=>?_) λ o o q₅=>q₅.no.elim
   obtain ⟨α₇,σ₇,S₇,W₇,q₇⟩:=q₅
   cases f with
   | next=>
    obtain ⟨ρ',F₇,hN⟩:=q₇
    obtain ⟨m,hm,hlo⟩:=F₇.locs
    have hkd:env.scope.kind=.function:=by rw [F.scope];exact F.kind
    refine wpAny_nameGoes_keeps (by unfold Env.kindOf;rw [F.scope];exact hy) hm (by rw [hkd];rfl) λ h₈ v hm₈ hs₈=>?_
    obtain ⟨o8,es8,n8,ho8,hd8,_⟩:=id hm₈
    have T₈:Step B [env.locals] α₇ s₅.heap α₇ h₈:=Step.updHid List.mem_cons_self hs₈.extBut (some_ne_none ho8)
    have W₈:=W₇.updHid F₇.here hs₈.extBut (some_ne_none ho8) λ env' o o=>⟨o8,es8,n8,ho8,hd8⟩
    refine ⟨α₇,σ₇,(S₆.trans S₇).trans (SStep.of (tk:=s₅.toks+1) T₈),W₈,ρ'.set i none,⟨F₇.scope,F₇.kind,F₇.nodup,F₇.globals,F₇.builtins,⟨_,hm₈,λ i' y' w e1 e2=>?_⟩,F₇.here,F₇.cells,λ a e'=>(by rw [show ({ fr with ρ:=ρ'.set i none }:AFr).hnd=fr.hnd from rfl,hno] at e';cases e'),F₇.made⟩,hN⟩
    dsimp only at e2
    by_cases hii:i'=i
    ·subst hii
     rw [List.getElem?_set] at e2
     split at e2
     ·split at e2<;>cases e2
     ·exact absurd rfl ‹_›
    ·rw [List.getElem?_set_ne (Ne.symm hii)] at e2
     obtain ⟨u,q1,q2⟩:=hlo i' y' w e1 e2
     have hyx:y'≠y:=by
      rintro rfl
      have l1:=(List.getElem?_eq_some_iff.mp e1).1
      exact hii ((List.getElem?_inj l1 F.nodup).mp (e1.trans hi.symm))
     exact ⟨u,by rw [if_neg hyx];exact q1,Rel.step T₈ (ExOk.one F₇.here) _ _ q2⟩
   | brk=>obtain ⟨_,_,hN⟩:=q₇;exact hN.elim
   | ret v=>obtain ⟨_,_,hN⟩:=q₇;exact hN.elim
   | cont=>exact q₇.elim
noncomputable def E.strX (i:Nat):PE:=λ fr σ K X=>∃ e,fr.hnd=.exc e/\fr.ρ[i]?=some (some (.val (.ref e)))/\K (.str Str.empty) σ
theorem excStrStop:ExcStrFacts "StopIteration" "StopIteration" where
 str:=.of (owner:="BaseException") (n:="__str__") (by rw [typeLookup_type,builtinLookup_eq_fast];kernel_rfl) (by decide+kernel) (by decide+kernel) (by decide+kernel)
  (by first | exact .inl (by decide+kernel) | exact .inr (by decide+kernel)) (by rw [isSubtype_type];kernel_rfl)
 repr:=.of (owner:="BaseException") (n:="__repr__") (by rw [typeLookup_type,builtinLookup_eq_fast];kernel_rfl) (by decide+kernel) (by decide+kernel) (by decide+kernel)
  (by first | exact .inl (by decide+kernel) | exact .inr (by decide+kernel)) (by rw [isSubtype_type];kernel_rfl)
 name:=by kernel_rfl
 noFn:=by decide+kernel
theorem JE.strX {i:Nat} {x:Str} {np p pos:Pos} (hl:κ.scope.names.lookup ("str":Str)=some .globalImplicit) (hn:nsIn B.K mainGlobals ("str":Str)=some none) (hi:κ.loc[i]?=some x) (hx:κ.scope.names.lookup x=some .local) (hd:(x==("__debug__":Str))=false)
  (he:∀ env,starEach [Expr.Name x p] env=[(false,eval (.Name x p) env)]):JE B κ k (.Call (.Name "str" np) [.Name x p] [] pos) (E.strX i):=λ A fs env fr α σ K X s amb W F hf=>by
 obtain ⟨e,h1,h2,hk⟩:=hf
 have jl:JL B κ k [Expr.Name x p] (L.cons (E.loc i) L.nil):=JL.cons (JE.loc hi hx hd) JL.nil (λ env=>he env)
 refine callT_use (T:="str") (K:=λ l σ'=>l=[.val (.ref e)]/\K (.str Str.empty) σ') (X:=X) hl (by decide) hn (by decide+kernel) (by decide) jl (he env) rfl amb W F ⟨_,h2,rfl,hk⟩ (λ vs s₁ α₁ σ₁ l S₁ W₁ r₁ hlen h₁ F₁=>?_) λ z z p=>p
 obtain ⟨rfl,hk⟩:=h₁
 obtain ⟨_,_,rfl,rfl,rfl⟩:=r₁
 obtain ⟨⟨_,_,o,vs,g1,g2,g3,g4,t,g5,⟨ot,hot,hct,n,hdt⟩,g6⟩,_⟩:=F₁.handled e h1
 have hu:A.units+2<cLine:=by have:=amb.units;lia
 rcases g4 with g4 | g4
 ·exact PySem.P.str_of_exc_none excStrStop hu ⟨o,vs,g1,g4,g2,g5⟩ ⟨ot,n,hot,hct,hdt⟩ (PostV.seq S₁ (PostV.here W₁ (rel_str _ _) hk))
 ·exact PySem.P.str_of_exc_none PySem.F.excStr_ZeroDivisionError hu ⟨o,vs,g1,g4,g2,g5⟩ ⟨ot,n,hot,hct,hdt⟩ (PostV.seq S₁ (PostV.here W₁ (rel_str _ _) hk))
end
end
section
section
variable {B:BC} {ex I:List Addr} {α α' α₁ α₂ α₀:Lbl} {s s' s₁ s₂ s₀:Shared} {σ σ' σ₁ σ₂ σ₀:St} {fs fs':List Env} {A:Around} {κ κc:Sc} {k:Nat} {h₀ h h' h₁:Heap} {prog:Program} {w:World}
theorem among_snoc {pos:Pos} {a b:Int} {t u:Tok} {c:Value}:∀ (l:List Value),TriplesOk l->codeAmong pos (l++[.int a t,.int b u,c])=(codeAmong pos l).or (if (a==pos.line&&b==pos.col)=true then some c else none)
 | [],_=>by simp [codeAmong]
 | .int x _:: .int y _::z::rest,h=>by
  simp only [List.cons_append,codeAmong]
  have ih:=among_snoc (pos:=pos) (a:=a) (b:=b) (t:=t) (u:=u) (c:=c) rest h
  split
  ·simp
  ·exact ih
theorem triples_snoc {a b:Int} {t u:Tok} {c:Value}:∀ (l:List Value),TriplesOk l->TriplesOk (l++[.int a t,.int b u,c])
 | [],_=>by simp [TriplesOk]
 | .int x _:: .int y _::z::rest,h=>by
  simp only [List.cons_append,TriplesOk]
  exact triples_snoc rest h
theorem made_ok {P c':Addr} {ps ps':Array Value} {o:Obj} {t:CloT} {i:Nat} {cs:List Nat} {cl:List (Str×Addr)} {doc pm ct:Value} (W:Wd B α σ fs s.heap) (hq:∃ q∈B.tabs,q.2=P) (hx:Heap.ExtBut P s.heap h') (hP:s.heap.get? P=some (tabObj ps)) (hP':h'.get? P=some (tabObj ps')) (htr:TriplesOk ps'.toList)
  (hfc:Frz B α c') (hrec:h'.CodeRec (.ref c') t.qual) (hcodes:∀ (pos:Pos) (cv:Value),codeAmong pos ps'.toList=some cv->codeAmong pos ps.toList=some cv\/(cv=.ref c'/\B.tq pos.line pos.col=t.qual)) (ht:B.clo i=some t)
  (ho:o.cls=.type "function") (hd:o.data=.func (cloFn t cl doc pm (.ref c') ct)) (hcl:ClosOk α t.free cs cl):
  (∀ ex,Step B ex α s.heap α (h'.push o))/\Wd B α σ fs (h'.push o)/\Rel B α (h'.push o) (.clo i cs) (.ref h'.objs.size):=by
 have hPt:Tab B P:=hq
 have kk:∀ b ob,¬ Tab B b->s.heap.get? b=some ob->(h'.push o).get? b=some ob:=λ b ob hb e=>Heap.get?_push_of_some _ (hx b ob (λ z=>hb (z▸hPt)) e)
 have S:∀ ex,Step B ex α s.heap α (h'.push o):=λ ex=>{
  keep:=λ b ob j hb j j e=>⟨ob.slots,kk b ob hb e,λ j=>rfl⟩
  dom:=λ b e=>by
   by_cases hb:b=P
   ·subst hb;exact some_ne_none (Heap.get?_push_of_some _ hP')
   ·cases q:s.heap.get? b with
    | none=>exact absurd q e
    | some ob=>exact some_ne_none (Heap.get?_push_of_some _ (hx b ob hb q))
  ext:=Nat.le_refl _
  old:=λ j j=>.inl rfl
  new:=λ n a hn e=>absurd (adr_lt e) (Nat.not_lt.mpr hn)
  hidOld:=λ j e=>e
  hidNew:=λ j e=>.inl e }
 have hcode:∀ pos cv,codeAmong pos ps'.toList=some cv->∃ c,cv=.ref c/\Frz B α c/\(h'.push o).CodeRec (.ref c) (B.tq pos.line pos.col):=λ pos cv e=>by
  rcases hcodes pos cv e with e1 | ⟨rfl,e1⟩
  ·obtain ⟨q,hqm,hqe⟩:=hq
   obtain ⟨ps₀,g1,g2,g3⟩:=W.tabs q hqm
   rw [hqe,hP] at g1
   cases g1
   obtain ⟨c,r1,r2,r3⟩:=(g3.mov ((S []).mov ExOk.nil)) pos cv e1
   exact ⟨c,r1,r2,r3⟩
  ·rw [e1]
   exact ⟨c',rfl,hfc,let ⟨c₂,oc,vs,u,a1,a2,a3⟩:=hrec;⟨c₂,oc,vs,u,a1,Heap.get?_push_of_some _ a2,a3⟩⟩
 have W':Wd B α σ fs (h'.push o):=by
  refine ⟨W.staysIn (S []) ExOk.nil,W.len,λ n ao lb e1 e2=>?_,W.inj,W.alone,W.apart,λ b x=>(S []).dom b (W.there b x),λ q hqm=>?_,W.frames.step (S []) (λ j j j j q=>nomatch q) W.hidTab W.alone⟩
  ·refine ORel.stay (S []) ExOk.nil (λ b ob hb e=>kk b ob (λ z=>?_) e) (W.objs n ao lb e1 e2)
   exact (W.apart b (.inl ⟨n,by rw [adr_of_get e2];rcases hb with hb | hb<;>rw [hb]<;>rfl⟩)).2 z
  ·by_cases hqP:q.2=P
   ·rw [hqP]
    exact ⟨ps',Heap.get?_push_of_some _ hP',htr,hcode⟩
   ·exact (W.tabs q hqm).mov ((S []).mov ExOk.nil) λ ob e=>Heap.get?_push_of_some _ (hx _ ob hqP e)
 refine ⟨S,W',?_⟩
 have hsz:s.heap.get? h'.objs.size=none:=by
  cases q:s.heap.get? h'.objs.size with
  | none=>rfl
  | some ob=>
   by_cases hb:h'.objs.size=P
   ·have:=Heap.lt_size hP'
    rw [<- hb] at this
    exact absurd this (Nat.lt_irrefl _)
   ·have:=Heap.lt_size (hx _ ob hb q)
    exact absurd this (Nat.lt_irrefl _)
 refine ⟨_,rfl,W.frzNew hsz,t,o,cl,doc,pm,ct,c',ht,Heap.get?_push_size _ (by obtain ⟨oc,od,odt,osl⟩:=o;cases hd;rfl),ho,hd,hfc,?_,hcl⟩
 obtain ⟨c₂,oc,vs,u,a1,a2,a3⟩:=hrec
 exact ⟨c₂,oc,vs,u,a1,Heap.get?_push_of_some _ a2,a3⟩
structure MakeOk (B:BC) (κ:Sc) (i:Nat) (t:CloT) (fm:List Nat) (c P:Addr) (pos:Pos):Prop where
 clo:B.clo i=some t
 code:κ.code=some c
 tab:(c,P)∈B.tabs
 tq:∀ p:Pos,p.line=pos.line->p.col=pos.col->B.tq p.line p.col=t.qual
 names:(t.scope.names.map (·.1)).Nodup
 fr1:∀ x∈t.scope.names,x.2=.free->x.1∈κ.cel
 fr2:∀ x∈t.free,(x,NameKind.free)∈t.scope.names
 fm:t.free.map some=fm.map (κ.cel[·]?)
noncomputable def mkCs (fm:List Nat) (fr:AFr):List Nat:=fm.map λ i=>fr.χ.getD i 0
theorem closOk_of {i:Nat} {t:CloT} {fm:List Nat} {c P:Addr} {pos:Pos} {fr:AFr} {env:Env} (M:MakeOk B κ i t fm c P pos) (F:FrOk B κ fr env α h):∃ cl,closureFor t.scope env=pure cl/\ClosOk α t.free (mkCs fm fr) cl:=by
 have hcell:∀ x∈t.scope.names,x.2=.free->(env.cells.lookup x.1).isSome=true:=λ x hx hxf=>by
  obtain ⟨i,hi⟩:=List.getElem?_of_mem (M.fr1 x hx hxf)
  obtain ⟨ad,_,e,_⟩:=F.cells i x.1 hi
  rw [e];rfl
 obtain ⟨cl,hclos,hcl⟩:=closure_ok hcell M.names
 refine ⟨cl,hclos,λ j x hj=>?_⟩
 have hmem:=List.mem_of_getElem? hj
 have e1:(t.free.map some)[j]?=some (some x):=by rw [List.getElem?_map,hj];rfl
 rw [M.fm,List.getElem?_map] at e1
 obtain ⟨i,hi,e2⟩:=Option.map_eq_some_iff.mp e1
 obtain ⟨ad,n,c1,c2,c3⟩:=F.cells i x e2
 refine ⟨ad,n,(hcl (x,.free) (M.fr2 x hmem) rfl).trans c1,?_,c3⟩
 unfold mkCs
 rw [List.getElem?_map,hi]
 show some (fr.χ.getD i 0)=some n
 rw [List.getD_eq_getElem?_getD,c2];rfl
theorem builtinsAt (W:Wd B α σ fs h) {P:Addr} (hq:Tab B P):mainGlobals≠P/\h.BuiltinsAt B.mg P:=by
 obtain ⟨bm,ob,b1,b2,b3,b4,b5,b6⟩:=B.top.bmain
 obtain ⟨q,hqm,rfl⟩:=hq
 have hh:=B.hidden q hqm
 have hgP:mainGlobals≠q.2:=λ z=>by
  obtain ⟨o,es,ep,e,hd,_⟩:=B.top.g
  rw [z,hh] at e;cases e
 have hbP:bm≠q.2:=λ z=>by rw [z,hh] at b3;cases b3
 have hbG:bm≠mainGlobals:=λ z=>by
  obtain ⟨o,es,ep,e,hd,_⟩:=B.top.g
  rw [z,e] at b3;cases b3;rw [hd] at b6;cases b6
 exact ⟨hgP,bm,ob,b1,b2,hbG,hbP,W.stays _ _ b3,b4,b5,b6⟩
set_option tactic.hygienic true in
theorem among_new {pos p':Pos} {cv c:Value} {l:List Value} (ht:TriplesOk l) (h:codeAmong p' (l++[rawInt pos.line,rawInt pos.col,c])=some cv):codeAmong p' l=some cv\/(cv=c/\p'.line=pos.line/\p'.col=pos.col):=by
 unfold rawInt at h
 rw [among_snoc l ht] at h
 cases q:codeAmong p' l with
 | some v=>rw [q] at h;simp at h;exact .inl (by rw [h])
 | none=>
  rw [q] at h
  simp only [Option.none_or] at h
  split at h
  ·rename_i hh
   cases h
   simp at hh
   exact .inr ⟨rfl,by lia,by lia⟩
  ·cases h
noncomputable def E.lam (i:Nat) (fm:List Nat):PE:=λ fr σ K z=>K (.clo i (mkCs fm fr)) σ
theorem JE.lam {i:Nat} {t:CloT} {fm:List Nat} {c P:Addr} {params:Arguments} {body:Expr} {scope:Scope} {pos:Pos} (M:MakeOk B κ i t fm c P pos) (hn:t.name="<lambda>") (hqual:t.qual=κ.qual++"<lambda>") (hp:t.params=params) (hb:t.body=.expr body) (hs:t.scope=scope)
  (hdef:∀ env,defaultsOf params env=([],[])):JE B κ k (.Lambda params body scope pos) (E.lam i fm):=λ A fs env fr α σ K X s amb W F hf=>by
 subst hp hs
 obtain ⟨hc,hq⟩:=F.made c M.code
 have hPt:Tab B P:=⟨(c,P),M.tab,rfl⟩
 obtain ⟨ps,hP,htr,hco⟩:=W.tabs (c,P) M.tab
 obtain ⟨hgP,hbi⟩:=builtinsAt W hPt
 obtain ⟨cl,hclos,hclo⟩:=closOk_of M F
 have hC:CodeHd s.heap c P:=(B.code (c,P) M.tab).keeps W.stays
 have hg:s.heap.Ns mainGlobals B.mg:=B.top.g.keeps W.stays
 refine kla_eval (hdef env) ?_
 rw [hq,<- hqual,<- hn]
 have hfnE:∀ (pm cdv ct:Value),kla_fn t.name t.qual t.params body t.scope cl pm cdv ct=cloFn t cl .none pm cdv ct:=λ pm cdv ct=>by unfold kla_fn cloFn;rw [hb]
 cases hca:codeAmong pos ps.toList with
 | none=>
  refine kla_makeFunction (mg:=B.mg) hclos F.globals hg hc hC hP htr hca hgP hbi λ c' ctv h' tk hx hge hlt hrec htb=>?_
  have hfc:Frz B α c':=by
   have:s.heap.get? c'=none:=Heap.get?_none_of_le hge
   exact W.frzNew this
  have e2:(ps++#[rawInt pos.line,rawInt pos.col,.ref c']).toList=ps.toList++[rawInt pos.line,rawInt pos.col,.ref c']:=by simp
  obtain ⟨S,W',r⟩:=made_ok (i:=i) (cs:=mkCs fm fr) (o:=kla_obj t.name t.qual t.params body t.scope cl ((B.mg "__name__").getD .none) c' ctv) W ⟨(c,P),M.tab,rfl⟩ hx hP htb (by rw [e2];exact triples_snoc _ htr) hfc hrec (λ p' cv hcv=>by
   rw [e2] at hcv
   rcases among_new htr hcv with q | ⟨q1,q2,q3⟩
   ·exact .inl q
   ·exact .inr ⟨q1,M.tq p' q2 q3⟩) M.clo rfl (by show Data.func _=_;rw [hfnE]) hclo
  exact ⟨α,σ,_,SStep.of (tk:=tk) (S []),W',r,hf⟩
 | some cv=>
  obtain ⟨c',rfl,hfc,hrec⟩:=hco pos cv hca
  rw [M.tq pos rfl rfl] at hrec
  refine kla_makeFunctionHit (mg:=B.mg) hclos F.globals hg hc hC hP htr hca hbi λ ctv h' tk hk hsz=>?_
  have hrec':h'.CodeRec (.ref c') t.qual:=let ⟨c₂,oc,vs,u,a1,a2,a3⟩:=hrec;⟨c₂,oc,vs,u,a1,hk _ _ a2,a3⟩
  obtain ⟨S,W',r⟩:=made_ok (i:=i) (cs:=mkCs fm fr) (o:={ cls:=.type "function",data:=.func (kla_fn t.name t.qual t.params body t.scope cl ((B.mg "__name__").getD .none) (.ref c') ctv) }) W ⟨(c,P),M.tab,rfl⟩ (λ b o z e=>hk b o e) hP (hk _ _ hP) htr hfc hrec' (λ p' cv hcv=>.inl hcv) M.clo rfl (by show Data.func _=_;rw [hfnE]) hclo
  exact ⟨α,σ,_,SStep.of (tk:=tk) (S []),W',r,hf⟩
noncomputable def S.def (tg:Tg) (i:Nat) (fm:List Nat):PS:=λ fr σ N R Bk X=>N (bindT tg (.clo i (mkCs fm fr)) fr σ).1.ρ (bindT tg (.clo i (mkCs fm fr)) fr σ).2
theorem J1.def {x:Str} {tg:Tg} {i:Nat} {t:CloT} {fm:List Nat} {c P:Addr} {params:Arguments} {body:List Stmt} {scope:Scope} {pos:Pos} {returns:Option Expr} (M:MakeOk B κ i t fm c P pos) (hn:t.name=x) (hqual:∀ env:Env,env.scope=κ.scope->env.qual=κ.qual->qualnameIn env x x=t.qual) (hp:t.params=params) (hb:t.body=.stmts body) (hs:t.scope=scope)
  (hdef:∀ env,defaultsOf params env=([],[])) (hann:∀ env,annTrees params returns env=[]) (htg:TgOk κ x tg):J1 B κ k (.FunctionDef x params body [] returns [] scope none x pos) (S.def tg i fm):=λ A fs env fr α σ N R Bk X s amb W F G hf=>by
 subst hp hs
 obtain ⟨hc,hq⟩:=F.made c M.code
 have hPt:Tab B P:=⟨(c,P),M.tab,rfl⟩
 obtain ⟨ps,hP,htr,hco⟩:=W.tabs (c,P) M.tab
 obtain ⟨hgP,hbi⟩:=builtinsAt W hPt
 obtain ⟨cl,hclos,hclo⟩:=closOk_of M F
 have hC:CodeHd s.heap c P:=(B.code (c,P) M.tab).keeps W.stays
 have hg:s.heap.Ns mainGlobals B.mg:=B.top.g.keeps W.stays
 rw [exec_def,hdef env]
 refine wpAny_bind (wpAny_standAt (wpAny_bind (wpAny_holding ?_)))
 refine wpAny_bind (wpAny_pure (wpAny_bind (wpAny_holding (wpAny_pure (wpAny_holding ?_)))))
 rw [hann env]
 refine wpAny_bind (wpAny_pure ?_)
 rw [hqual env F.scope hq]
 have hfnE:∀ (doc pm cdv ct:Value),fnX x t.qual t.params body t.scope cl .none .none doc pm none cdv ct=cloFn t cl doc pm cdv ct:=λ doc pm cdv ct=>by unfold fnX cloFn;rw [hb,hn]
 have fin:∀ (o:Obj) (h₁:Heap) (tk:Nat),(∀ ex,Step B ex α s.heap α (h₁.push o))->Wd B α σ fs (h₁.push o)->Rel B α (h₁.push o) (.clo i (mkCs fm fr)) (.ref h₁.objs.size)->
   wpAny (model B.prog B.w) A (do standAt pos;bindName env x (.ref h₁.objs.size);pure Flow.next) (PostF B κ fr env α fs s N R Bk) (PostX B [env.locals] α fs s X) { s with heap:=h₁.push o,toks:=tk }:=λ o h₁ tk S W' r=>by
  have F':FrOk B κ fr env α (h₁.push o):=F.step (S []) W
  refine wpAny_bind (wpAny_standAt (wpAny_bind (bindName_ (store_ok (s:={ s with heap:=h₁.push o,toks:=tk }) htg W' F' r λ h₂ tk₂ S₂ W₂ F₂=>wpAny_pure ?_))))
  rw [fr_of_bindT] at F₂
  exact ⟨α,_,SStep.of (tk:=tk₂) ((S [env.locals]).trans S₂),W₂,_,F₂,hf⟩
 cases hca:codeAmong pos ps.toList with
 | none=>
  refine makeFunction_K (mg:=B.mg) hclos F.globals hg hc hC hP htr hca hgP hbi λ c' ctv doc h' tk hx hge hlt hrec htb=>?_
  have hfc:Frz B α c':=W.frzNew (Heap.get?_none_of_le hge)
  have e2:(ps++#[rawInt pos.line,rawInt pos.col,.ref c']).toList=ps.toList++[rawInt pos.line,rawInt pos.col,.ref c']:=by simp
  obtain ⟨S,W',r⟩:=made_ok (i:=i) (cs:=mkCs fm fr) (o:=fnMade x t.qual t.params body t.scope cl doc ((B.mg "__name__").getD .none) c' ctv) (doc:=doc) (ct:=ctv) (pm:=((B.mg "__name__").getD .none)) W ⟨(c,P),M.tab,rfl⟩ hx hP htb (by rw [e2];exact triples_snoc _ htr) hfc hrec (λ p' cv hcv=>by
   rw [e2] at hcv
   rcases among_new htr hcv with q | ⟨q1,q2,q3⟩
   ·exact .inl q
   ·exact .inr ⟨q1,M.tq p' q2 q3⟩) M.clo rfl (by show Data.func _=_;rw [<- hfnE]) hclo
  exact fin _ h' tk S W' r
 | some cv=>
  obtain ⟨c',rfl,hfc,hrec⟩:=hco pos cv hca
  rw [M.tq pos rfl rfl] at hrec
  refine makeFunction_hit (mg:=B.mg) hclos F.globals hg hc hC hP htr hca hbi λ ctv doc h' tk hk hsz=>?_
  have hrec':h'.CodeRec (.ref c') t.qual:=let ⟨c₂,oc,vs,u,a1,a2,a3⟩:=hrec;⟨c₂,oc,vs,u,a1,hk _ _ a2,a3⟩
  obtain ⟨S,W',r⟩:=made_ok (i:=i) (cs:=mkCs fm fr) (o:={ cls:=.type "function",data:=.func (fnX x t.qual t.params body t.scope cl .none .none doc ((B.mg "__name__").getD .none) none (.ref c') ctv) }) (doc:=doc) (ct:=ctv) (pm:=((B.mg "__name__").getD .none)) W ⟨(c,P),M.tab,rfl⟩ (λ b o z e=>hk b o e) hP (hk _ _ hP) htr hfc hrec' (λ p' cv hcv=>.inl hcv) M.clo rfl (by show Data.func _=_;rw [<- hfnE]) hclo
  exact fin _ h' tk S W' r
end
end
section
noncomputable def LitKV:List (Option Expr)->List Expr->List (Int×Str)->Prop
 | [],[],[]=>True
 | k::ks,v::vs,(i,x)::r=>(∃ n p,k=some (.Constant (.int i) n p))/\(∃ n p,v=.Constant (.str x) n p)/\LitKV ks vs r
 | _,_,_=>False
noncomputable def dctOf (l:List (Int×Str)):Int->Option Str:=λ i=>l.lookup i
section
variable {B:BC} {ex I:List Addr} {α α' α₁ α₂ α₀:Lbl} {s s' s₁ s₂ s₀:Shared} {σ σ' σ₁ σ₂ σ₀:St} {fs fs':List Env} {A:Around} {κ κc:Sc} {k:Nat} {h₀ h h' h₁:Heap} {prog:Program} {w:World}
noncomputable def withToks:Nat->List (Int×Str)->List (Int×Value)
 | _,[]=>[]
 | t,(i,x)::r=>(i,.str x t)::withToks (t+2) r
theorem withToks_keys:∀ (l:List (Int×Str)) (t:Nat),(withToks t l).map (·.1)=l.map (·.1)
 | [],_=>rfl
 | (i,x)::r,t=>by simp [withToks,withToks_keys r]
theorem withToks_val:∀ (l:List (Int×Str)) (t:Nat) (i:Int),match l.lookup i with | some y=>∃ t',valueAt (withToks t l) i=some (.str y t') | none=>valueAt (withToks t l) i=none
 | [],_,i=>by simp [withToks,valueAt]
 | (j,x)::r,t,i=>by
  have ih:=withToks_val r (t+2) i
  by_cases h:j=i
  ·subst h
   simp [List.lookup_cons,withToks,valueAt]
  ·have h2:(i==j)=false:=by simpa using Ne.symm h
   rw [List.lookup_cons,h2]
   simp only [valueAt,withToks,List.find?_cons,h,decide_false] at ih ⊢
   exact ih
theorem merged_new {K:Type} [DecidableEq K]:∀ (l acc:List (K×Value)),((acc++l).map (·.1)).Nodup->merged acc l=acc++l
 | [],acc,_=>by simp [merged]
 | (a,v)::r,acc,h=>by
  have hab:valueAt acc a=none:=by
   unfold valueAt
   rw [Option.map_eq_none_iff,List.find?_eq_none]
   intro x hx
   simp only [decide_eq_true_eq]
   intro e
   rw [List.map_append,List.nodup_append] at h
   exact h.2.2 x.1 (List.mem_map_of_mem hx) a (by simp) e
  have e1:merged acc ((a,v)::r)=merged (stored acc a v) r:=rfl
  rw [e1,stored_absent hab,merged_new r (acc++[(a,v)]) (by simpa using h)]
  simp
theorem lit_pairs {env:Env} {pos:Pos}:∀ {ks:List (Option Expr)} {vs:List Expr} {l:List (Int×Str)} {s:Shared} {Q:List (Value×Value)->Shared->Prop} {E:Value->Shared->Prop},LitKV ks vs l->
  (∀ ps tk,Carries (intKind prog w) ps (withToks (s.toks+1) l)->ps.length=l.length->Q ps { s with toks:=tk })->wpAny (model prog w) A (evalPairs (pairTrees ks vs env pos)) Q E s
 | [],[],[],s,Q,E,_,h=>pairTrees_nil_walk (h [] s.toks trivial rfl)
 | k::ks,v::vs,(i,x)::r,s,Q,E,⟨⟨n,p,hk⟩,⟨n',p',hv⟩,hr⟩,h=>by
  subst hk hv
  refine pairTrees_cons_walk (wpAny_Constant_int (wpAny_Constant_str (lit_pairs (s:={ s with toks:=s.toks+1+1 }) hr λ ps tk hc hl=>?_)))
  refine h _ tk ⟨?_,rfl,hc⟩ (by simp [hl])
  show Value.isInt i (.int i s.toks)=true
  unfold Value.isInt
  exact beq_self_eq_true _
 | [],[],_::_,_,_,_,h,_=>h.elim
 | [],_::_,_,_,_,_,h,_=>by cases ‹List (Int×Str)›<;>exact h.elim
 | _::_,[],_,_,_,_,h,_=>by cases ‹List (Int×Str)›<;>exact h.elim
 | _::_,_::_,[],_,_,_,h,_=>h.elim
noncomputable def E.dict (l:List (Int×Str)):PE:=λ z σ K z=>K (.dct (.numd (dctOf l))) σ
theorem JE.dict {keys:List (Option Expr)} {values:List Expr} {pos:Pos} {l:List (Int×Str)} (hl:LitKV keys values l) (hall:keys.all (·.isSome)=true) (hlen:keys.length=values.length) (h0:keys≠[]) (h15:keys.length<=15) (hnd:(l.map (·.1)).Nodup) (hll:l.length<=15):JE B κ k (.Dict keys values pos) (E.dict l):=λ A fs env fr α σ K X s amb W F hf=>by
 have hsz:2<s.heap.objs.size:=by
  obtain ⟨mc,⟨o,es,ep,e,_⟩,_⟩:=W.nolimit
  exact Heap.lt_size e
 refine wpAny_Dict_walk (knd:=intKind B.prog B.w) hall hlen h0 h15 (lit_pairs (s:={ s with heap:=s.heap.push { cls:=.type "dict",data:=.dict #[] } }) hl λ ps tk hc hpl=>?_)
 refine ⟨_,hc,?_,λ h' hd hs=>?_⟩
 ·refine ⟨_,#[],0,Heap.get?_push_size _ rfl,⟨rfl,rfl,rfl⟩,rfl,?_,?_,by simp⟩
  ·intro e he;simp at he
  ·exact .nil
 ·rw [merged_new _ [] (by simp only [List.nil_append];rw [withToks_keys];exact hnd),List.nil_append] at hd
  have hk:Full s.heap h':=λ b o e=>hs.extBut b o (Nat.ne_of_lt (Heap.lt_size e)) (Heap.get?_push_of_some _ e)
  obtain ⟨o,es,ep,ho,hex,hdat,_⟩:=id hd
  refine PostV.full W hk ?_ hf
  refine ⟨_,rfl,W.frzSize,valueAt (withToks (s.toks+1) l),hd.mapOf,⟨o,ho,hex.2.1,?_⟩,λ i=>withToks_val l _ i⟩
  simp only [beq_eq_false_iff_ne,ne_eq,sysModules]
  intro q
  rw [q] at hsz
  exact absurd hsz (by decide)
end
end
section
noncomputable def E.subK (tab:List (Str×Int)) (g:PE):PE:=λ fr σ K X=>g fr σ (λ b σ'=>∃ x i,b=.str x/\tab.lookup x=some i/\K (.int i) σ') X
noncomputable def dcK (tp:TgP) (key val:PE):List AV->AFr->St->List (Int×Str)->(List (Int×Str)->St->Prop)->Prop
 | [],fr,σ,l,K=>K l σ
 | x::r,fr,σ,l,K=>∃ b,bndP tp x=some b/\key { fr with ρ:=(bindA b fr σ).1.ρ } (bindA b fr σ).2 (λ a σ₁=>∃ i,a=.int i/\val { fr with ρ:=(bindA b fr σ).1.ρ } σ₁ (λ c σ₂=>∃ y,c=.str y/\i∉l.map (·.1)/\l.length<100/\
  dcK tp key val r { fr with ρ:=(bindA b fr σ).1.ρ } σ₂ (l++[(i,y)]) K) noX) noX
noncomputable def E.dcomp (nl m:Nat) (fm:List Nat) (it:PL) (tp:TgP) (key val:PE):PE:=λ fr σ K X=>
 it fr σ (λ l σ'=>dcK tp key val l (fr0 nl σ'.length m (fm.map λ i=>fr.χ.getD i 0) fr.hnd) (σ'++List.replicate m (.cel none)) [] (λ l σ''=>K (.dct (.numd (dctOf l))) σ'')) X
set_option tactic.hygienic true in
theorem mem_lookupI:∀ {l:List (Int×Str)} {i:Int} {z:Str},l.lookup i=some z->(i,z)∈l
 | (j,y)::r,i,z,h=>by
  rw [List.lookup_cons] at h
  split at h
  ·rename_i e;have:=eq_of_beq e;cases h;subst this;exact List.mem_cons_self ..
  ·exact List.mem_cons_of_mem _ (mem_lookupI h)
section
variable {B:BC} {ex I:List Addr} {α α' α₁ α₂ α₀:Lbl} {s s' s₁ s₂ s₀:Shared} {σ σ' σ₁ σ₂ σ₀:St} {fs fs':List Env} {A:Around} {κ κc:Sc} {k:Nat} {h₀ h h' h₁:Heap} {prog:Program} {w:World}
theorem JE.subK {a:Addr} {es:Array DictEntry} {n:Nat} {tab:List (Str×Int)} {value slice:Expr} {pos:Pos} {g:PE} (hl:B.K.lookup a=some ⟨.type "dict",none,.dict es n,#[]⟩) (hk:KeysLit B.w.params es.toList) (hv:∀ x i,tab.lookup x=some i->∃ t,nsIn B.K a x=some (some (.int i t)))
  (jv:JE B κ k value (E.c (.val (.ref a)))) (jg:JE B κ k slice g) (hs:∀ o i,subscripted slice false o i=operate [o,i] (getItem o i)):JE B κ k (.Subscript value slice pos) (E.subK tab g):=λ A fs env fr α σ K X s amb W F hf=>by
 refine Subscript_ (jv.use (K:=λ v σ'=>v=.val (.ref a)/\g fr σ' (λ b σ'=>∃ x i,b=.str x/\tab.lookup x=some i/\K (.int i) σ') X) amb W F ⟨rfl,hf⟩ (λ o s₁ α₁ σ₁ av S₁ W₁ r₁ h₁ F₁=>?_) λ z z p=>p)
 obtain ⟨rfl,h₁⟩:=h₁
 subst r₁
 refine jg.use amb W₁ F₁ h₁ (λ i s₂ α₂ σ₂ b S₂ W₂ r₂ h₂ F₂=>?_) λ z z p=>p.seq S₁
 obtain ⟨x,i',rfl,htab,hK⟩:=h₂
 obtain ⟨t,rfl⟩:=rel_str_inv r₂
 obtain ⟨t',hn⟩:=hv x i' htab
 have hm:=mapOf_K (prog:=B.prog) (w:=B.w) (B.inK.keeps W₂.stays) hl hk
 exact tail_any hm.typeIs slot_dict_getitem.lookup (wpAny_getItem_of (strKind_is B.prog B.w x t) hm (find_K hl hn) (PostV.seq (S₁.trans S₂) (PostV.here W₂ (rel_int _ _) hK))) (hs _ _)
noncomputable def KV:List (Int×Str)->List (Int×Value)->Prop
 | [],vs=>vs=[]
 | (i,x)::r,vs=>∃ t vs',vs=(i,.str x t)::vs'/\KV r vs'
theorem KV.snoc:∀ {l:List (Int×Str)} {vs:List (Int×Value)} {i:Int} {x:Str} {t:Tok},KV l vs->KV (l++[(i,x)]) (vs++[(i,.str x t)])
 | [],vs,i,x,t,h=>by simp only [KV] at h;subst h;exact ⟨t,[],rfl,rfl⟩
 | (j,y)::r,vs,i,x,t,h=>by
  obtain ⟨t',vs',rfl,h⟩:=h
  exact ⟨t',_,rfl,KV.snoc h⟩
theorem KV.keys:∀ {l:List (Int×Str)} {vs:List (Int×Value)},KV l vs->vs.map (·.1)=l.map (·.1)
 | [],vs,h=>by simp only [KV] at h;subst h;rfl
 | (j,y)::r,vs,h=>by obtain ⟨t',vs',rfl,h⟩:=h;simp [KV.keys h]
theorem KV.val:∀ {l:List (Int×Str)} {vs:List (Int×Value)},KV l vs->∀ i:Int,match l.lookup i with | some y=>∃ t',valueAt vs i=some (.str y t') | none=>valueAt vs i=none
 | [],vs,h,i=>by simp only [KV] at h;subst h;simp [valueAt]
 | (j,x)::r,vs,h,i=>by
  obtain ⟨t',vs',rfl,h⟩:=h
  have ih:=KV.val h i
  by_cases hji:j=i
  ·subst hji
   simp [List.lookup_cons,valueAt]
  ·have h2:(i==j)=false:=by simpa using Ne.symm hji
   rw [List.lookup_cons,h2]
   simp only [valueAt,List.find?_cons,hji,decide_false] at ih ⊢
   exact ih
noncomputable def AccD (B:BC) (D:Addr) (l:List (Int×Str)) (h:Heap):Prop:=∃ kvs,h.DictOf (intKind B.prog B.w) D kvs/\KV l kvs
theorem dictOf_keep {D:Addr} {kvs:List (Int×Value)} (x:h.DictOf (intKind B.prog B.w) D kvs) (k:∀ o,h.get? D=some o->h'.get? D=some o):h'.DictOf (intKind B.prog B.w) D kvs:=by
 obtain ⟨o,es,ep,ho,r⟩:=x
 exact ⟨o,es,ep,k o ho,r⟩
structure StD (B:BC) (κ:Sc) (fs:List Env) (env:Env) (D:Addr) (α:Lbl) (σ:St) (s:Shared) (fr:AFr) (l:List (Int×Str)):Prop where
 wd:Wd B α σ fs s.heap
 fro:FrOk B κ fr env α s.heap
 own:Own α [env.locals,D]
 ne:env.locals≠D
 acc:AccD B D l s.heap
 hnd:∀ a,fr.hnd=.exc a->a≠D
theorem StD.step {env:Env} {D:Addr} {fr:AFr} {l:List (Int×Str)} (x:StD B κ fs env D α σ s fr l) (S:SStep B [] α s α₁ s₁) (W₁:Wd B α₁ σ₁ fs s₁.heap):StD B κ fs env D α₁ σ₁ s₁ fr l where
 wd:=W₁
 fro:=x.fro.step S.2 x.wd
 own:=x.own.step S.2 x.wd
 ne:=x.ne
 acc:=by
  obtain ⟨kvs,hd,hkv⟩:=x.acc
  exact ⟨kvs,dictOf_keep hd λ o ho=>x.own.keep x.wd S.2 (a:=D) (by simp) (λ q=>nomatch q) ho,hkv⟩
 hnd:=x.hnd
set_option tactic.hygienic true in
theorem dcLoop {kx vx target iter:Expr} {scope:Scope} {pos:Pos} {tp:TgP} {key val:PE} (ht:TgPOk κ target tp) (jk:JE B κ k kx key) (jv:JE B κ k vx val)
  {env:Env} {D it:Addr} {b:Bool} {P:List AV->Lbl->Heap->Prop} {hn:HK} {rem:List AV} {fr:AFr} {l:List (Int×Str)} {K:List (Int×Str)->St->Prop} {R:Result->Shared->Prop}
  (amb:Amb A fs k hn) (W₀:Wd B α₀ σ₀ fs s₀.heap) (fresh:∀ a∈I,s₀.heap.get? a=none) (hexc:∀ a,hn=.exc a->s₀.heap.get? a≠none) (hb:hn=.no\/(b=true/\hn≠ .any)) (hI:Iter B b P I it target) (hCI:∀ a∈[env.locals,D],a∉I)
  (hfr:fr.hnd=hn) (S:SStep B [env.locals,D] α₀ s₀ α₁ s₁) (X:StD B κ fs env D α₁ σ₁ s₁ fr l) (O:Own α₁ I) (hP:P rem α₁ s₁.heap) (hK:dcK tp key val rem fr σ₁ l K)
  (hR:∀ α₂ σ₂ s₂ fr₂ l₂,SStep B [env.locals,D] α₀ s₀ α₂ s₂->StD B κ fs env D α₂ σ₂ s₂ fr₂ l₂->fr₂.hnd=hn->K l₂ σ₂->R (.ok .next) s₂):
  codeAny (model B.prog B.w) A (.compLoop (.DictComp kx vx [⟨target,iter,[],0⟩] scope pos) 0 (.ref it) (.ref D) env) R s₁:=by
 refine codeAny_loop rfl (λ n s'=>∃ rem α₁ σ₁ fr l,rem.length=n/\fr.hnd=hn/\SStep B [env.locals,D] α₀ s₀ α₁ s'/\StD B κ fs env D α₁ σ₁ s' fr l/\Own α₁ I/\P rem α₁ s'.heap/\dcK tp key val rem fr σ₁ l K) ?_ rem.length ⟨rem,α₁,σ₁,fr,l,rfl,hfr,S,X,O,hP,hK⟩
 clear hK hP O X S hfr l fr rem
 rintro n s' ⟨rem,α₁,σ₁,fr,l,rfl,rfl,S,X,O,hP,hK⟩
 show wpAny _ A ((compTurn (.DictComp kx vx [⟨target,iter,[],0⟩] scope pos) 0 (.ref it) (.ref D) env).onRaise (λ x=>do noteFrame x env;theTreesLotGoes x)) _ _ s'
 refine wpAny_noted ?_
 rw [compTurn_dict]
 have hno:NextOk b A I s'.heap:=nextOk amb hexc X.fro fresh hb
 have hhI:∀ a,fr.hnd=.exc a->a∉I:=λ a e q=>hexc a e (fresh a q)
 have hL:env.locals∉I:=hCI _ (by simp)
 have hD:D∉I:=hCI _ (by simp)
 refine wpAny_bind (wpAny_standAt (wpAny_bind ?_))
 refine wpAny_mono (hI.next (Q:=λ r s₁=>match r with
   | none=>R (.ok .next) s₁
   | some v=>wpAny (model B.prog B.w) A (assign target env v) (λ u s₂=>wpAny (model B.prog B.w) A (eval kx env) (λ kv s₃=>wpAny (model B.prog B.w) A (eval vx env) (λ vv s₄=>wpAny (model B.prog B.w) A (dictSet D kv vv) (λ u s₅=>∃ m,m<rem.length/\∃ rem α₁ σ₁ fr' l,rem.length=m/\fr'.hnd=fr.hnd/\SStep B [env.locals,D] α₀ s₀ α₁ s₅/\StD B κ fs env D α₁ σ₁ s₅ fr' l/\Own α₁ I/\P rem α₁ s₅.heap/\dcK tp key val rem fr' σ₁ l K)
     (notedBy (model B.prog B.w) A env λ e s'=>R (.error e) s') s₄) (notedBy (model B.prog B.w) A env λ e s'=>R (.error e) s') s₃) (notedBy (model B.prog B.w) A env λ e s'=>R (.error e) s') s₂) (notedBy (model B.prog B.w) A env λ e s'=>R (.error e) s') s₁) hno hP O X.wd ?_) (λ r s₁ h=>?_) λ u u h=>h
 ·cases rem with
  | nil=>
   intro h' hk
   refine hR (α₁.minus I) σ₁ _ fr l ⟨by obtain ⟨⟨h1,tk1,rfl⟩,_⟩:=S;exact ⟨h',tk1,rfl⟩,S.2.minus W₀ fresh hk⟩ ⟨X.wd.minus O hk,X.fro.minus O hL hhI hk,X.own.minus hCI,X.ne,?_,X.hnd⟩ rfl hK
   obtain ⟨kvs,hd,hkv⟩:=X.acc
   exact ⟨kvs,dictOf_keep hd λ o ho=>hk D o hD ho,hkv⟩
  | cons x r=>
   intro v h₁ tk₁ S₁ W₁ P₁ rv
   obtain ⟨bd,hbd,hp⟩:=hK
   have F₁:FrOk B κ fr env α₁ h₁:=X.fro.stepX S₁ X.wd O.exOk hL hhI
   have T₁:SStep B [env.locals,D] α₀ s₀ α₁ { s' with heap:=h₁,toks:=tk₁ }:=SStep.shrink ((S.widen (λ a q=>List.mem_append.mpr (.inr q))).trans (SStep.of (S₁.widen λ a q=>List.mem_append.mpr (.inl q)))) fresh
   have hnn:fr.hnd≠ .any\/∃ t,tp=.one t:=by
    left
    rcases hb with hb | hb
    ·rw [hb];exact λ q=>nomatch q
    ·exact hb.2
   have acc₁:AccD B D l h₁:=by
    obtain ⟨kvs,hd,hkv⟩:=X.acc
    exact ⟨kvs,dictOf_keep hd λ o ho=>X.own.keep X.wd S₁ (a:=D) (by simp) hD ho,hkv⟩
   refine assign_ok (s:={ s' with heap:=h₁,toks:=tk₁ }) ht hbd amb hnn W₁ F₁ rv λ h₂ tk₂ S₂ W₂ F₂=>?_
   rw [bindA_fr] at F₂
   have T₂:=T₁.trans (SStep.of (tk:=tk₂) (S₂.widen (ex':=[env.locals,D]) λ a q=>by simp at q;simp [q]))
   have hLx:∀ a∈I,a∉[env.locals]:=λ a ha q=>hL (by simp at q;exact q▸ha)
   have P₂:=hI.step P₁ O hLx (ExOk.one F₁.here) W₁ S₂
   have acc₂:AccD B D l h₂:=by
    obtain ⟨kvs,hd,hkv⟩:=acc₁
    exact ⟨kvs,dictOf_keep hd λ o ho=>X.own.keep W₁ S₂ (a:=D) (by simp) (by simp [Ne.symm X.ne]) ho,hkv⟩
   have X₂:StD B κ fs env D α₁ (bindA bd fr σ₁).2 { s' with heap:=h₂,toks:=tk₂ } { fr with ρ:=(bindA bd fr σ₁).1.ρ } l:=⟨W₂,F₂,X.own,X.ne,acc₂,X.hnd⟩
   refine jk.use (fr:={ fr with ρ:=(bindA bd fr σ₁).1.ρ }) amb W₂ F₂ hp (λ kv s₃ α₃ σ₃ ak S₃ W₃ rk hk₃ F₃=>?_) λ x s₁ p=>p.no.elim
   obtain ⟨i,rfl,hk₃⟩:=hk₃
   refine jv.use (fr:={ fr with ρ:=(bindA bd fr σ₁).1.ρ }) amb W₃ F₃ hk₃ (λ vv s₄ α₄ σ₄ av S₄ W₄ rvv hk₄ F₄=>?_) λ x s₁ p=>p.no.elim
   obtain ⟨y,rfl,hnew,h100,hk₄⟩:=hk₄
   obtain ⟨tk,rfl⟩:=rel_int_inv rk
   obtain ⟨ty,rfl⟩:=rel_str_inv rvv
   have X₄:=(X₂.step S₃ W₃).step S₄ W₄
   have P₄:=hI.step (hI.step P₂ O (λ a u q=>absurd q List.not_mem_nil) ExOk.nil W₂ S₃.2) (O.step S₃.2 W₂) (λ a u q=>absurd q List.not_mem_nil) ExOk.nil W₃ S₄.2
   have O₄:Own α₄ I:=(O.step S₃.2 W₂).step S₄.2 W₃
   have T₄:=(T₂.trans (S₃.widen (λ u q=>absurd q List.not_mem_nil))).trans (S₄.widen (λ u q=>absurd q List.not_mem_nil))
   obtain ⟨kvs,hd,hkv⟩:=X₄.acc
   have hlen:kvs.length=l.length:=by have:=congrArg List.length hkv.keys;simpa using this
   have hki:(intKind B.prog B.w).is i (.int i tk)=true:=by show Value.isInt i (.int i tk)=true;unfold Value.isInt;exact beq_self_eq_true _
   refine wpAny_dictSet_pairs (knd:=intKind B.prog B.w) (k:=i) hki hd (λ h₅ hd₅ hs₅=>?_) (by rw [hlen,sizeLine_eq];lia)
   have hva:valueAt kvs i=none:=by
    have:=hkv.val i
    cases q:l.lookup i with
    | none=>rw [q] at this;exact this
    | some z=>exact absurd (List.mem_map_of_mem (f:=(·.1)) (mem_lookupI q)) hnew
   rw [stored_absent hva] at hd₅
   have hk5:∀ b o,b∉[D]->s₄.heap.get? b=some o->h₅.get? b=some o:=λ b o hb e=>hs₅.extBut b o (by simpa using hb) e
   obtain ⟨o5,es5,ep5,ho5,_⟩:=id hd₅
   have hdm:∀ a∈[D],h₅.get? a≠none:=by simp [ho5]
   have OD:Own α₄ [D]:=λ a ha=>X₄.own a (by simp at ha;simp [ha])
   have S₅:Step B [D] α₄ s₄.heap α₄ h₅:=Step.updOwn hk5 hdm
   have W₅:=X₄.wd.updOwn OD hk5 hdm
   refine ⟨r.length,by simp,r,α₄,σ₄,{ fr with ρ:=(bindA bd fr σ₁).1.ρ },l++[(i,y)],rfl,rfl,T₄.trans (SStep.of (tk:=s₄.toks+1) (S₅.widen (ex':=[env.locals,D]) λ a q=>by simp at q;simp [q])),⟨W₅,X₄.fro.stepX S₅ X₄.wd OD.exOk (by simp [X.ne]) (λ a e=>by simpa using X.hnd a e),X₄.own,X.ne,⟨_,hd₅,hkv.snoc⟩,X.hnd⟩,O₄,hI.step P₄ O₄ (λ a ha q=>hD (by simp at q;exact q▸ha)) OD.exOk W₄ S₅,hk₄⟩
 ·cases r with
  | none=>exact wpAny_pure h
  | some v=>
   refine wpAny_bind (wpAny_mono h (λ u s₁' h₁'=>?_) λ u u h'=>h')
   refine wpAny_bind (wpAny_mono h₁' (λ u s₂ h₂=>?_) λ u u h'=>h')
   refine wpAny_bind (wpAny_pure ?_)
   exact wpAny_bind (wpAny_bind (wpAny_mono h₂ (λ kv s₄ h₄=>wpAny_bind (wpAny_holding (wpAny_mono h₄ (λ vv s₅ h₅=>wpAny_bind (wpAny_standAt (wpAny_holding (wpAny_mono h₅ (λ u s₆ h₆=>wpAny_pure ⟨rfl,h₆⟩) λ u u h'=>h')))) λ u u h'=>h'))) λ u u h'=>h'))
end
end
section
section
variable {B:BC} {ex I:List Addr} {α α' α₁ α₂ α₀:Lbl} {s s' s₁ s₂ s₀:Shared} {σ σ' σ₁ σ₂ σ₀:St} {fs:List Env} {A:Around} {κ κc:Sc} {k:Nat} {h₀ h h' h₁:Heap} {prog:Program} {w:World}
theorem dcomp_core {kx vx target iter:Expr} {scope:Scope} {pos fp:Pos} {frees:List Str} {fm:List Nat} {it:PL} {tp:TgP} {key val:PE} {env:Env} {fr:AFr} {K:PK} {X:PX} {use:Option (Value->Sem Unit)} {Q EX:Value->Shared->Prop}
  (ok:CompOk κ κc scope frees fm) (ji:JI B κ k iter target it) (ht:TgPOk κc target tp) (jk:JE B κc k kx key) (jv:JE B κc k vx val) (hs:∀ env x,foldedSetIterable iter env x=pure x)
  (amb:Amb A fs k fr.hnd) (W:Wd B α σ fs s.heap) (F:FrOk B κ fr env α s.heap) (hf:E.dcomp κc.loc.length (ownC scope.names).length fm it tp key val fr σ K X)
  (hQ:∀ D C α₁ σ₁ s₁ acc,SStep B [] α s α₁ s₁->Wd B α₁ σ₁ fs s₁.heap->Own α₁ [C]->s.heap.get? C=none->(∃ m,s₁.heap.Ns C m)->Rel B α₁ s₁.heap (.dct (.numd (dctOf acc))) (.ref D)->K (.dct (.numd (dctOf acc))) σ₁->compPost (model B.prog B.w) A EX use Q (.ref D) C (.ok .next) s₁)
  (hE:∀ x s₁,PostX B [] α fs s X x s₁->EX x s₁):
  wpAny (model B.prog B.w) A (comprehension (.DictComp kx vx [⟨target,iter,[],0⟩] scope pos) scope env fp newDict false (eval iter env) use) Q EX s:=by
 have hcell:∀ x∈scope.names,x.2=.free->(env.cells.lookup x.1).isSome=true:=λ x hx hxf=>by
  obtain ⟨i,hi⟩:=List.getElem?_of_mem (ok.fr1 x hx hxf)
  obtain ⟨ad,_,e,_⟩:=F.cells i x.1 hi
  rw [e];rfl
 obtain ⟨cl,hclos,hcl⟩:=closure_ok hcell ok.names
 refine wpAny_comprehension_free (use:=use) rfl (hs env) hclos ok.kind ok.locals ?_
 refine wpAny_mono (ji A fs env fr α σ _ X s amb W F hf) (λ x s₁ h₁=>wpAny_mono h₁ (λ itv s₂ h₂=>?_) hE) hE
 obtain ⟨α₂,σ₂,rem,I,a,P,b,rfl,S,W₂,O,fresh,hP,hI,hb,hK⟩:=h₂
 have F₂:=F.step S.2 W
 unfold newDict
 refine wpAny_newObj_type ?_
 generalize hO:({ cls:=.type "dict",dict:=none,data:=.dict #[] }:Obj)=ob
 have hnD:s₂.heap.get? s₂.heap.objs.size=none:=size_none _
 have htD:(s₂.heap.push ob).get? s₂.heap.objs.size=some ob:=Heap.get?_push_size _ (by rw [<- hO];rfl)
 have S₃:Step B [] α₂ s₂.heap (α₂.hide false s₂.heap.objs.size) (s₂.heap.push ob):=Step.newHid (Full.push _ _) hnD
 have W₃:Wd B (α₂.hide false s₂.heap.objs.size) σ₂ fs (s₂.heap.push ob):=W₂.newHid (Full.push _ _) hnD (some_ne_none htD)
 have F₃:=F₂.step S₃ W₂
 have hDf:¬ Frm (α₂.hide false s₂.heap.objs.size) s₂.heap.objs.size:=Own.notFrm (b:=false) W₂ hnD
 have hsz:(s₂.heap.push ob).objs.size=s₂.heap.objs.size+1:=Heap.size_push ..
 rw [F.globals]
 refine newEnv_ok (s:={ s₂ with heap:=s₂.heap.push ob }) (κ:={ κc with scope:=scope }) (frees:=frees) (χf:=fm.map λ i=>fr.χ.getD i 0) (ts:=[]) (l:=[]) (hn:=fr.hnd) rfl ok.kind ok.cel ok.own ok.dis ok.loc F.builtins ?_ trivial rfl RelL.nil (λ a e=>(F₃.handled a e).1) (λ c e=>by obtain ⟨e1,e2⟩:=ok.made c e;obtain ⟨e3,e4⟩:=F.made c e1;exact ⟨e3,e4.trans e2.symm⟩) W₃ ?_
 ·intro j x hj
  have hmem:=List.mem_of_getElem? hj
  have e1:(frees.map some)[j]?=some (some x):=by rw [List.getElem?_map,hj];rfl
  rw [ok.fm,List.getElem?_map] at e1
  obtain ⟨i,hi,e2⟩:=Option.map_eq_some_iff.mp e1
  obtain ⟨ad,n,c1,c2,c3⟩:=F₃.cells i x e2
  refine ⟨ad,n,(hcl (x,.free) (ok.fr2 x hmem) rfl).trans c1,?_,c3⟩
  rw [List.getElem?_map,hi]
  show some (fr.χ.getD i 0)=some n
  rw [List.getD_eq_getElem?_getD,c2];rfl
 ·intro cells α₄ h₄ tk₄ S₄ W₄ F₄ hm₄ hhid
  simp only [List.zip_nil_right,bindA_nil] at W₄ F₄
  generalize hCe:(newEnv scope ({ s₂ with heap:=s₂.heap.push ob }:Shared).heap.objs.size mainGlobals cells env.qual none .none (some env) builtinsNs)=cenv at F₄ ⊢
  have hCl:cenv.locals=s₂.heap.objs.size+1:=by rw [<- hCe];exact hsz
  have hCs:cenv.scope=scope:=by rw [<- hCe];rfl
  have hnC:(s₂.heap.push ob).get? (s₂.heap.objs.size+1)=none:=by rw [<- hsz];exact size_none _
  have hCmem:(false,s₂.heap.objs.size+1)∈α₄.hid:=by rw [<- hsz];exact hm₄
  have F₅:FrOk B κc (fr0 κc.loc.length σ₂.length (ownC scope.names).length (fm.map λ i=>fr.χ.getD i 0) fr.hnd) { cenv with scope:=relabel scope env } α₄ h₄:=
   ⟨(relabel_eq F.scope).trans ok.sc.symm,by rw [ok.sc];exact ok.kind,ok.loc,F₄.globals,F₄.builtins,F₄.locs,F₄.here,F₄.cells,F₄.handled,F₄.made⟩
  have hDlt:s₂.heap.objs.size≠s₂.heap.objs.size+1:=Nat.ne_of_lt (Nat.lt_succ_self _)
  have OD:Own α₄ [s₂.heap.objs.size]:=Own.step (α:=α₂.hide false s₂.heap.objs.size) S₄ W₃ λ c hc=>by
   simp at hc;subst hc;exact ⟨hid_self,hDf⟩
  have OC:Own α₄ [s₂.heap.objs.size+1]:=λ c hc=>by
   simp at hc;subst hc
   refine ⟨⟨false,hCmem⟩,λ q=>?_⟩
   have q':(true,s₂.heap.objs.size+1)∈α₄.hid:=q
   rw [hhid] at q'
   rcases List.mem_cons.mp q' with q' | q'
   ·cases q'
   ·exact W₃.there _ (.inr ⟨true,q'⟩) hnC
  have T₄:SStep B [] α s α₄ { s₂ with heap:=h₄,toks:=tk₄ }:=S.trans (SStep.of (S₃.trans S₄))
  have O₄:Own α₄ I:=(O.step S₃ W₂).step S₄ W₃
  have P₄:P rem α₄ h₄:=hI.step (hI.step hP O (λ z z q=>absurd q List.not_mem_nil) ExOk.nil W₂ S₃) (O.step S₃ W₂) (λ z z q=>absurd q List.not_mem_nil) ExOk.nil W₃ S₄
  have hDI:s₂.heap.objs.size∉I:=λ q=>W₂.there _ (O _ q).1.liv hnD
  have hCI:s₂.heap.objs.size+1∉I:=λ q=>W₂.there _ (O _ q).1.liv (size_none1 _ 1)
  have hsD:s.heap.get? s₂.heap.objs.size=none:=none_of_dom S.2.dom hnD
  have hsC:s.heap.get? (s₂.heap.objs.size+1)=none:=none_of_dom S.2.dom (size_none1 _ 1)
  have hD4:h₄.DictOf (intKind B.prog B.w) s₂.heap.objs.size []:=by
   have hnew:(s₂.heap.push ob).DictOf (intKind B.prog B.w) s₂.heap.objs.size []:=by rw [<- hO];exact Heap.DictOf.new s₂.heap
   refine dictOf_keep hnew λ o ho=>?_
   obtain ⟨sl,e1,kk⟩:=S₄.keep s₂.heap.objs.size o (W₃.alone _ hid_self) (W₃.hidTab _ hid_self) (λ q=>absurd q List.not_mem_nil) (.inr (.inr hid_self)) ho
   rw [kk hDf] at e1
   exact e1
  have hsz2:2<s₂.heap.objs.size:=by
   obtain ⟨mc,⟨o,es,ep,e,_⟩,_⟩:=W₂.nolimit
   exact Heap.lt_size e
  have X₄:StD B κc fs { cenv with scope:=relabel scope env } s₂.heap.objs.size α₄ (σ₂++List.replicate (ownC scope.names).length (.cel none)) { s₂ with heap:=h₄,toks:=tk₄ } (fr0 κc.loc.length σ₂.length (ownC scope.names).length (fm.map λ i=>fr.χ.getD i 0) fr.hnd) []:=
   ⟨W₄,F₅,λ c hc=>by
    simp only [List.mem_cons,List.not_mem_nil,or_false] at hc
    rcases hc with rfl | rfl
    ·show Hid α₄ cenv.locals/\¬ Frm α₄ cenv.locals
     rw [hCl];exact OC _ (by simp)
    ·exact OD _ (by simp),by show cenv.locals≠_;rw [hCl];exact Ne.symm hDlt,⟨[],hD4,rfl⟩,λ a e q=>F.hnd_some e (q▸hsD)⟩
  have hfinal:∀ α₅ σ₅ s₅ fr₅ acc₅,SStep B [cenv.locals,s₂.heap.objs.size] α s α₅ s₅->StD B κc fs { cenv with scope:=relabel scope env } s₂.heap.objs.size α₅ σ₅ s₅ fr₅ acc₅->fr₅.hnd=fr.hnd->K (.dct (.numd (dctOf acc₅))) σ₅->
    compPost (model B.prog B.w) A EX use Q (.ref s₂.heap.objs.size) cenv.locals (.ok .next) s₅:=λ α₅ σ₅ s₅ fr₅ acc₅ S₅ X₅ hh₅ hk₅=>by
   have T₅:SStep B [] α s α₅ s₅:=SStep.shrink (I:=[cenv.locals,s₂.heap.objs.size]) (ex:=[]) (by simpa using S₅) (by simp [hCl,hsC,hsD])
   have OD₅:Own α₅ [s₂.heap.objs.size]:=λ c hc=>X₅.own c (by simp at hc;simp [hc])
   have OC₅:Own α₅ [cenv.locals]:=λ c hc=>X₅.own c (by simp at hc;simp [hc])
   have kk:∀ b o,b∉[s₂.heap.objs.size]->s₅.heap.get? b=some o->s₅.heap.get? b=some o:=λ z z z e=>e
   have T₆:SStep B [] α s (α₅.minus [s₂.heap.objs.size]) s₅:=⟨T₅.1,T₅.2.minus W (by simp [hsD]) kk⟩
   have W₆:=X₅.wd.minus OD₅ kk
   have hne5:cenv.locals≠s₂.heap.objs.size:=X₅.ne
   obtain ⟨kvs,hd,hkv⟩:=X₅.acc
   obtain ⟨m,hm,_⟩:=X₅.fro.locs
   refine hQ s₂.heap.objs.size cenv.locals _ σ₅ s₅ acc₅ T₆ W₆ (OC₅.minus (by simp [hne5])) (by rw [hCl];exact hsC) ⟨m,hm⟩ ?_ hk₅
   obtain ⟨o,es,ep,ho,hex,hdat,_⟩:=id hd
   refine ⟨_,rfl,⟨λ q=>by
    rcases q with q | q
    ·exact X₅.wd.alone _ (OD₅ _ (by simp)).1 q
    ·obtain ⟨f,q⟩:=q;exact (mem_minus.mp q).2 (by simp),(X₅.wd.apart _ (OD₅ _ (by simp)).1.liv).2⟩,valueAt kvs,hd.mapOf,⟨o,ho,hex.2.1,?_⟩,λ i=>hkv.val i⟩
   simp only [beq_eq_false_iff_ne,ne_eq,sysModules]
   intro q
   rw [q] at hsz2
   exact absurd hsz2 (by decide)
  have loop:codeAny (model B.prog B.w) A (.compLoop (.DictComp kx vx [⟨target,iter,[],0⟩] scope pos) 0 (.ref a) (.ref s₂.heap.objs.size) { cenv with scope:=relabel scope env })
    (compPost (model B.prog B.w) A EX use Q (.ref s₂.heap.objs.size) cenv.locals) { s₂ with heap:=h₄,toks:=tk₄ }:=
   dcLoop (A:=A) (hn:=fr.hnd) (fr:=fr0 κc.loc.length σ₂.length (ownC scope.names).length (fm.map λ i=>fr.χ.getD i 0) fr.hnd) ht jk jv amb W fresh (λ a e=>F.hnd_some e) hb hI (λ c hc=>by
    simp only [List.mem_cons,List.not_mem_nil,or_false] at hc
    rcases hc with rfl | rfl
    ·show cenv.locals∉I
     rw [hCl];exact hCI
    ·exact hDI) rfl (T₄.widen (λ z q=>absurd q List.not_mem_nil)) X₄ O₄ P₄ hK hfinal
  exact codeAny_compStart_dict loop (hI.self P₄ loop)
theorem JE.dcomp {kx vx target iter:Expr} {scope:Scope} {pos:Pos} {frees:List Str} {fm:List Nat} {it:PL} {tp:TgP} {key val:PE}
  (ok:CompOk κ κc scope frees fm) (ji:JI B κ k iter target it) (htp:TgPOk κc target tp) (jk:JE B κc k kx key) (jv:JE B κc k vx val) (hs:∀ env x,foldedSetIterable iter env x=pure x):
  JE B κ k (.DictComp kx vx [⟨target,iter,[],0⟩] scope pos) (E.dcomp κc.loc.length (ownC scope.names).length fm it tp key val):=λ A fs env fr α σ K X s amb W F hf=>by
 rw [arm_eval_DictComp]
 refine dcomp_core (use:=none) (EX:=PostX B [] α fs s X) (Q:=PostV B [] α fs s K) ok ji htp jk jv hs amb W F hf (λ D C α₁ σ₁ s₁ acc S₁ W₁ O₁ fC hm r hk=>?_) λ z z p=>p
 obtain ⟨m,hm⟩:=hm
 refine ⟨m,hm,λ h' hs'=>?_⟩
 obtain ⟨S₂,W₂,r₂,_⟩:=comp_drop (κ:=κ) (env:=env) (K:=K) W S₁ W₁ O₁ fC hs' r
 exact ⟨_,σ₁,_,S₂,W₂,r₂,hk⟩
end
end
section
section
variable {B:BC} {ex I:List Addr} {α α' α₁ α₂ α₀:Lbl} {s s' s₁ s₂ s₀:Shared} {σ σ' σ₁ σ₂ σ₀:St} {fs fs':List Env} {A:Around} {κ κc:Sc} {k:Nat} {h₀ h h' h₁:Heap} {prog:Program} {w:World}
noncomputable def S.bot:PS:=λ z z z z z z=>False
theorem JS.bot {l:List Stmt}:JS B κ k l S.bot:=λ A fs env fr α σ N R Bk X s amb W F G hf=>hf.elim
noncomputable def E.mulN (f g:PE):PE:=λ fr σ K X=>f fr σ (λ a σ₁=>a=.lst [.int 0]/\g fr σ₁ (λ b σ₂=>∃ x:Int,b=.int x/\0<=x/\x<2^20/\K (.loc σ₂.length) (σ₂++[.lst (List.replicate x.toNat (.int 0))])) X) X
theorem JE.mulN {l e:Expr} {pos:Pos} {f g:PE} (jl:JE B κ k l f) (je:JE B κ k e g):JE B κ k (.BinOp l .Mult e pos) (E.mulN f g):=λ A fs env fr α σ K X s amb W F hf=>by
 refine wpAny_BinOp (jl.use amb W F hf (λ u s₁ α₁ σ₁ a S₁ W₁ r₁ h₁ F₁=>?_) λ z z p=>p)
 obtain ⟨rfl,h₁⟩:=h₁
 refine je.use amb W₁ F₁ h₁ (λ v s₂ α₂ σ₂ b S₂ W₂ r₂ h₂ F₂=>?_) λ z z p=>p.seq S₁
 obtain ⟨x,rfl,h0,h1,hk⟩:=h₂
 obtain ⟨t,rfl⟩:=rel_int_inv r₂
 obtain ⟨y,vs,rfl,_,⟨m,hy⟩,hr⟩:=rel_lst_inv (r₁.step S₂.2 ExOk.nil)
 have hl:vs.length=1:=by rw [hr.length];rfl
 refine wpAny_binaryOp_repeat_ref (T:="list") (U:="int") (by decide) ⟨_,hy,rfl⟩ (λ s'=>typeIs_int s' x t) noFill_list_mul PySem.F.fills_int_mul PySem.F.slot_int_rmul repeat_list PySem.F.slot_int_index.lookup
  (call_meets PySem.F.slot_int_rmul (typeIs_int s₂ x t) PySem.F.entry_int_rmul (PySem.F.args_int_rmul_2 _ _) (int___rmul___int_list x t y vs.toArray m)
   ⟨hy,rfl,⟨_,hy,rfl⟩,call_meets PySem.F.slot_list_mul ⟨_,hy,rfl⟩ PySem.F.entry_list_mul (PySem.F.args_list_mul_2 _ _)
    (AutoListH.list___mul___list_int_3 y vs.toArray m x t (by have e1:decide (-(2^63:Int)<=x)=true:=decide_eq_true (by lia);have e2:decide (x<2^63)=true:=decide_eq_true (by lia);unfold Builtin.List.listFitsIndex;rw [e1,e2];decide) (by rw [List.size_toArray,hl];lia) (by unfold Builtin.List.listTooLong;rw [List.size_toArray,hl,sizeLine_eq];have e3:decide (1*x.toNat>16777216)=false:=decide_eq_false (by lia);rw [e3];exact Bool.false_ne_true))
    ⟨hy,?_⟩⟩)
 have e:(List.foldl (λ x1 x2=>x1++x2) #[] (List.replicate (if vs.toArray.isEmpty=true then 0 else x.toNat) vs.toArray))=(List.replicate x.toNat vs).flatten.toArray:=by
  have hne:vs.toArray.isEmpty=false:=by simp;intro q;rw [q] at hl;cases hl
  rw [hne]
  simp only [Bool.false_eq_true,if_false]
  rw [listMul_foldl]
  simp
 rw [e]
 have hrep:∀ m:Nat,RelL B α₂ s₂.heap (List.replicate m (.int 0)) (List.replicate m vs).flatten:=λ m=>by
  induction m with
  | zero=>exact RelL.nil
  | succ m ih=>rw [List.replicate_succ,List.replicate_succ,List.flatten_cons];exact hr.append ih
 exact PostV.seq (S₁.trans S₂) (PostV.newList W₂ (hrep _) hk)
end
end
section
section
variable {B:BC} {ex I:List Addr} {α α' α₁ α₂:Lbl} {s s' s₁ s₂:Shared} {σ σ' σ₁ σ₂:St} {fs:List Env} {A:Around} {κ:Sc} {k:Nat} {h₀ h h' h₁:Heap} {prog:Program} {w:World}
noncomputable def cmpIsNotN:CmpS:=λ x y P=>match y with
 | .none=>(match x with
  | .none=>P false
  | .clo _ _=>P true
  | _=>False)
 | _=>False
set_option tactic.hygienic true in
theorem isNotN_ok:CmpOk B .IsNot cmpIsNotN:=λ A fs α σ s a b u v P Q E hu W ra rb h hQ=>by
 cases b<;>try exact h.elim
 cases (show v=.none from rb)
 cases a<;>try exact h.elim
 case none=>
  cases (show u=.none from ra)
  exact wpAny_isNot_self (by rfl) (here_full Q h hQ)
 case clo k cs=>
  obtain ⟨a,rfl,_⟩:=ra
  exact wpAny_isNot_other (by rfl) (λ q=>nomatch q) (here_full Q h hQ)
noncomputable def T.cmpD (f g:PE):PT:=λ fr σ K X=>f fr σ (λ a σ₁=>g fr σ₁ (λ b σ₂=>∃ n l,a=.loc n/\σ₂[n]?=some (.lst l)/\cmpEq (.lst l) b (λ c=>K c σ₂)) X) X
theorem JT.cmpD {l r:Expr} {pos} {f g:PE} (jl:JE B κ k l f) (jr:JE B κ k r g) (hm:behindInMarks .Eq r=false):JT B κ k (.Compare l [.Eq] [r] pos) (T.cmpD f g):=λ A fs env fr α σ K X s amb W F hf=>by
 refine wpAny_isTrue_Compare1 (jl.use amb W F hf (λ u s₁ α₁ σ₁ a S₁ W₁ r₁ h₁ F₁=>?_) λ z z p=>p) hm
 refine jr.use amb W₁ F₁ h₁ (λ v s₂ α₂ σ₂ b S₂ W₂ r₂ h₂ F₂=>?_) λ z z p=>p.seq S₁
 obtain ⟨n,l,rfl,e,d,e',h1,h2,h3,h4,h5⟩:=h₂
 obtain ⟨ad,vs,rfl,hl,⟨m,hp⟩,hr⟩:=loc_list W₂ (r₁.step S₂.2 ExOk.nil) e
 obtain ⟨ds,h6,rfl⟩:=Option.map_eq_some_iff.mp (show Option.map _ _=_ from h1)
 obtain ⟨as,q1⟩:=RelL.reads l vs ds h6 hr
 have q2:Reads s₂.heap (.ref ad) (.list ds) (ad::as):=.list hp rfl rfl (by simpa using q1)
 obtain ⟨bs,r2⟩:=Rel.reads b v e' h2 r₂
 refine eq_dataH q2 r2 h3 h4 (by have:=amb.room;lia) ?_
 exact wpAny_truthy_bool (PostB.seq (S₁.trans S₂) (PostB.now W₂ h5))
theorem draw_list {it t:Addr} {items:Array Value} {E:Value->Shared->Prop} (hne:t≠it):∀ (n i:Nat) (s:Shared) (Q:List Value->Shared->Prop),s.heap.IsListIter it t i->s.heap.IsList t items->i+n<=items.size->
  (∀ h',h'.IsListIter it t (i+n)->Heap.SameBut it s.heap h'->Q ((items.toList.drop i).take n) { s with heap:=h' })->wpAny (model prog w) A (draw (.ref it) n) Q E s
 | 0,i,s,Q,hit,_,_,hQ=>by
  show wpAny _ _ (pure []) Q E s
  exact wpAny_pure (by simpa using hQ s.heap hit (Heap.SameBut.refl ..))
 | n+1,i,s,Q,hit,ht,hle,hQ=>by
  have hlt:i<items.size:=by lia
  show wpAny _ _ (pyNext (.ref it) >>= _) Q E s
  refine wpAny_bind (wpAny_pyNext_list_item hit ht (x:=items[i]) (by simp [hlt]) λ h₁ hit₁ hs₁=>?_)
  have ht₁:h₁.IsList t items:=by
   obtain ⟨o,ho,r⟩:=ht
   exact ⟨o,hs₁.extBut _ _ hne ho,r⟩
  refine wpAny_bind (wpAny_holding (draw_list hne n (i+1) _ _ hit₁ ht₁ (by lia) λ h₂ hit₂ hs₂=>wpAny_pure ?_))
  have hd:items.toList.drop i=items[i]::items.toList.drop (i+1):=by simp [List.drop_eq_getElem_cons,hlt]
  have:=hQ h₂ (by rw [show i+(n+1)=i+1+n by lia];exact hit₂) (hs₁.trans hs₂)
  rw [hd,List.take_succ_cons] at this
  exact this
theorem unpackL {items:Array Value} {t:Addr} {Q:List Value->Shared->Prop} {E:Value->Shared->Prop} (hr:A.handled=none) (ht:s.heap.IsList t items)
  (hQ:∀ h',(∀ b o,s.heap.get? b=some o->h'.get? b=some o)->Q items.toList { s with heap:=h' }):wpAny (model prog w) A (unpackItems (.ref t) items.size none) Q E s:=by
 have hlt:t≠s.heap.objs.size:=by obtain ⟨o,ho,_⟩:=ht;exact Nat.ne_of_lt (Heap.lt_size ho)
 unfold unpackItems
 refine wpAny_bind ?_
 unfold notIterableAtAll
 refine wpAny_bind (wpAny_specialOf ht.typeIs F.slot_list_iter.lookup ?_)
 refine wpAny_pure ?_
 simp only [Bool.false_eq_true,if_false]
 refine wpAny_bind (wpAny_holding (wpAny_pyIter_list ht ?_))
 have ht₀:Heap.IsList (s.heap.push { cls:=.type "list_iterator",data:=.fields #[.ref t,.int 0 0] }) t items:=by
  obtain ⟨o,ho,r⟩:=ht
  exact ⟨o,Heap.get?_push_of_some _ ho,r⟩
 refine wpAny_bind (wpAny_holding (draw_list hlt items.size 0 _ _ ⟨_,Heap.get?_push_size _ rfl,rfl,rfl⟩ ht₀ (by lia) λ h₁ hit₁ hs₁=>?_))
 have hall:List.take items.size (List.drop 0 items.toList)=items.toList:=by
  rw [List.drop_zero];exact List.take_of_length_le (by simp)
 rw [hall,if_neg (by simp)]
 have ht₁:h₁.IsList t items:=by
  obtain ⟨o,ho,r⟩:=ht₀
  exact ⟨o,hs₁.extBut _ _ hlt ho,r⟩
 refine wpAny_bind (wpAny_holding (wpAny_pyNext_list_end hr hit₁ ht₁ (by simp) λ h₂ he₂=>?_))
 simp only [Option.isSome_none,Bool.false_eq_true,if_false]
 exact wpAny_pure (hQ h₂ λ b o e=>he₂ b o (Nat.ne_of_lt (Heap.lt_size e)) (hs₁.extBut b o (Nat.ne_of_lt (Heap.lt_size e)) (Heap.get?_push_of_some _ e)))
noncomputable def S.setL (ts:List Tg) (f:PE):PS:=λ fr σ N R Bk X=>fr.hnd=.no/\f fr σ (λ a σ'=>∃ l,a=.lst l/\ts.length=l.length/\N (bindA (ts.zip l) fr σ').1.ρ (bindA (ts.zip l) fr σ').2) X
theorem J1.setL {es:List Expr} {n:Nat} {tp:Pos} {e:Expr} {pos:Pos} {ts:List Tg} {f:PE} (je:JE B κ k e f) (ht:TgsOk κ es ts) (hs:∀ env:Env,env.scope=κ.scope->swapsWithSole [.Tuple es n tp] e pos.line env=pure false)
  (hw:∀ env:Env,env.scope=κ.scope->swappedStores [.Tuple es n tp] e env=pure none):J1 B κ k (.Assign [.Tuple es n tp] e pos) (S.setL ts f):=λ A fs env fr α σ N R Bk X s amb W F G hf=>by
 refine Assign_Tuple (je.use amb W F hf.2 (λ v s₁ α₁ σ₁ a S₁ W₁ r₁ h₁ F₁=>?_) λ z z p=>p.wide) (hs env F.scope) (hw env F.scope)
 obtain ⟨l,rfl,hlen,hN⟩:=h₁
 obtain ⟨ad,vs,rfl,hf',hp,hr⟩:=rel_lst_inv r₁
 obtain ⟨e1,e2⟩:=TgsOk.each (env:=env) ht
 have hvl:=hr.length
 have hfi:∀ l:List Expr,(l.map λ e=>((false,assign e env):Bool×(Value->Sem Unit))).findIdx? (·.1)=none:=λ l=>by simp
 rw [arm_assign_Tuple]
 refine wpAny_bind (wpAny_standAt ?_)
 unfold unpack
 rw [show (assignEach es env).length=vs.toArray.size by rw [e1];simp;lia,show (assignEach es env).findIdx? (·.1)=none by rw [e1];exact hfi es]
 refine wpAny_bind (wpAny_holding (unpackL (amb.no hf.1) hp.isList λ h₁ hfull=>?_))
 rw [e1,List.map_map]
 have W₂:=W₁.full hfull
 refine assignL_ok (s:={ s₁ with heap:=h₁ }) ht hlen W₂ (F₁.full hfull W₁) (hr.full hfull) λ h₂ tk S₂ W₂ F₂=>?_
 rw [bindA_fr] at F₂
 exact ⟨α₁,_,S₁.wide.trans (SStep.of ((Step.full hfull).trans S₂)),W₂,_,F₂,hN⟩
end
end
section
section
variable {B:BC} {ex I:List Addr} {α α' α₁ α₂:Lbl} {s s' s₁ s₂:Shared} {σ σ' σ₁ σ₂:St} {fs:List Env} {A:Around} {κ:Sc} {k:Nat} {h₀ h h' h₁:Heap} {prog:Program} {w:World}
noncomputable abbrev dictL (es:List DictEntry) (n:Nat):Obj:={ cls:=.type "dict",data:=.dict es.toArray n }
theorem put_kw {d:Addr} {es:List DictEntry} {n:Nat} {x:Str} {t:Tok} {v:Value} {Q:Unit->Shared->Prop} {E:Value->Shared->Prop} (hd:s.heap.get? d=some (dictL es n)) (hk:KeysOf (PySem.strKind prog w) es.toArray) (hx:∀ e∈es,e.key.isStr x=false) (hz:es.length<=100)
  (h:∀ h',h'.get? d=some (dictL (es++[⟨PyData.keyHash w.params x,.str x t,v⟩]) (n+1))->Heap.SameBut d s.heap h'->Q () { s with heap:=h' }):
  wpAny (model prog w) A (dictPut d (PyData.keyHash w.params x) (.str x t) v) Q E s:=by
 have hf:(es.toArray.findIdx? λ e=>(PySem.strKind prog w).is x e.key)=none:=by
  rw [Array.findIdx?_eq_none_iff]
  intro e he
  rw [(PySem.strKind prog w).strs x x t e.key (strKind_is prog w x t)]
  exact hx e (by simpa using he)
 unfold dictPut
 refine wpAny_bind (wpAny_dictFind_of (knd:=PySem.strKind prog w) (k:=x) (strKind_is prog w x t) hd rfl hk ?_)
 rw [hf]
 refine wpAny_updateDictKeys hd rfl (h _ ?_ (Heap.SameBut.update ..)) (by rw [sizeLine_eq];simp;lia) (by simp)
 rw [Heap.get?_update_self _ hd rfl]
 simp [Obj.mapDictKeys,dictL]
theorem find_kw {d:Addr} {es:List DictEntry} {n:Nat} {x:Str} {t:Tok} {Q:Option Nat->Shared->Prop} {E:Value->Shared->Prop} (hd:s.heap.get? d=some (dictL es n)) (hk:KeysOf (PySem.strKind prog w) es.toArray) (hx:∀ e∈es,e.key.isStr x=false)
  (h:Q none s):wpAny (model prog w) A (dictFind d (.str x t) (PyData.keyHash w.params x)) Q E s:=by
 have hf:(es.toArray.findIdx? λ e=>(PySem.strKind prog w).is x e.key)=none:=by
  rw [Array.findIdx?_eq_none_iff]
  intro e he
  rw [(PySem.strKind prog w).strs x x t e.key (strKind_is prog w x t)]
  exact hx e (by simpa using he)
 refine wpAny_dictFind_of (knd:=PySem.strKind prog w) (k:=x) (strKind_is prog w x t) hd rfl hk ?_
 rw [hf]
 exact h
theorem merge2 {a d:Addr} {x y:Str} {t u:Tok} {v1 v2:Value} {ep:Nat} {Q:Unit->Shared->Prop} {E:Value->Shared->Prop}
  (ha:s.heap.get? a=some (dictL [⟨PyData.keyHash w.params x,.str x t,v1⟩,⟨PyData.keyHash w.params y,.str y u,v2⟩] ep)) (hd:s.heap.get? d=some (dictL [] 0)) (hne:a≠d) (hsys:(a==sysModules)=false) (hxy:(x==y)=false)
  (h:∀ h',h'.get? d=some (dictL [⟨PyData.keyHash w.params x,.str x t,v1⟩,⟨PyData.keyHash w.params y,.str y u,v2⟩] 2)->Heap.SameBut d s.heap h'->Q () { s with heap:=h' }):
  wpAny (model prog w) A (mergeMapping d (.ref a) true) Q E s:=by
 have hT:s.TypeIs (.ref a) "dict":=⟨_,ha,rfl⟩
 have K1:KeysOf (PySem.strKind prog w) ([]:List DictEntry).toArray:=λ z he=>by simp at he
 have K2:KeysOf (PySem.strKind prog w) ([⟨PyData.keyHash w.params x,.str x t,v1⟩]:List DictEntry).toArray:=λ e he=>by
  simp at he;subst he;exact ⟨x,strKind_is prog w x t,rfl⟩
 have X1:∀ e∈([]:List DictEntry),e.key.isStr x=false:=λ z he=>absurd he List.not_mem_nil
 have X2:∀ e∈([⟨PyData.keyHash w.params x,.str x t,v1⟩]:List DictEntry),e.key.isStr y=false:=λ e he=>by
  simp at he;subst he;exact hxy
 unfold mergeMapping
 refine wpAny_bind (wpAny_isInstance hT isSubtype_dict_dict ?_)
 simp only [if_true]
 refine wpAny_bind (wpAny_specialOf hT F.slot_dict_iter.lookup (wpAny_bind (wpAny_pure ?_)))
 simp only [beq_self_eq_true]
 rw [hsys]
 simp only [Bool.false_eq_true,if_false]
 refine wpAny_bind (wpAny_dictEntries hd rfl ?_)
 simp only [List.isEmpty_toArray,List.isEmpty_nil,if_true]
 refine wpAny_bind (wpAny_dictEntries ha rfl ?_)
 simp only [List.forIn_toArray,List.forIn_cons,List.forIn_nil]
 refine wpAny_bind (wpAny_bind (wpAny_pure (wpAny_bind (wpAny_pure (wpAny_pure ?_)))))
 refine wpAny_bind (wpAny_dictEntries ha rfl (wpAny_bind (wpAny_dictEpoch ha rfl ?_)))
 show wpAny _ A (forIn [0,1] PUnit.unit _ >>= _) Q E s
 simp only [List.forIn_cons,List.forIn_nil]
 refine wpAny_bind (wpAny_bind (wpAny_bind (wpAny_dictEntries ha rfl ?_)))
 simp only [show ∀ p q:DictEntry,(#[p,q]:Array DictEntry)[0]?=some p from λ z z=>rfl]
 refine wpAny_bind (wpAny_holding (wpAny_bind (find_kw hd K1 X1 ?_)))
 simp only [Option.isSome_none,Bool.false_eq_true,if_false]
 refine put_kw hd K1 X1 (by simp) λ h₁ e₁ S₁=>?_
 have ha₁:=(S₁.2 a hne).trans ha
 refine wpAny_bind (wpAny_dictEpoch (s:={ s with heap:=h₁ }) ha₁ rfl ?_)
 simp only [bne_self_eq_false,Bool.false_eq_true,if_false]
 refine wpAny_pure (wpAny_bind (wpAny_bind (wpAny_dictEntries (s:={ s with heap:=h₁ }) ha₁ rfl ?_)))
 simp only [show ∀ p q:DictEntry,(#[p,q]:Array DictEntry)[1]?=some q from λ z z=>rfl]
 refine wpAny_bind (wpAny_holding (wpAny_bind (find_kw (s:={ s with heap:=h₁ }) e₁ K2 X2 ?_)))
 simp only [Option.isSome_none,Bool.false_eq_true,if_false]
 refine put_kw (s:={ s with heap:=h₁ }) e₁ K2 X2 (by simp) λ h₂ e₂ S₂=>?_
 have ha₂:=(S₂.2 a hne).trans ha₁
 refine wpAny_bind (wpAny_dictEpoch (s:={ s with heap:=h₂ }) ha₂ rfl ?_)
 simp only [bne_self_eq_false,Bool.false_eq_true,if_false]
 exact wpAny_pure (wpAny_pure (wpAny_pure (h h₂ e₂ (S₁.trans S₂))))
theorem merged_star {M:Model} {f:Value} {t:Sem Value} {Q:Addr->Shared->Prop} {E:Value->Shared->Prop}
  (h:wpAny M A t (λ m s₁=>∀ E',wpAny M A (mergeMapping s.heap.objs.size m true) (λ z s₂=>Q s.heap.objs.size s₂) E' s₁) E { s with heap:=s.heap.push (dictL [] 0) }):
  wpAny M A (mergedKeywords f [(none,t)]) Q E s:=by
 unfold mergedKeywords
 refine wpAny_bind (wpAny_alloc ?_)
 refine wpAny_bind (wpAny_holding ?_)
 refine wpAny_bind ?_
 rw [List.forIn_cons]
 refine wpAny_bind (wpAny_bind (wpAny_pure ?_))
 refine wpAny_bind (wpAny_mono h (λ m s₁ h₁=>?_) λ z z x=>x)
 refine wpAny_bind (wpAny_onRaise (wpAny_holding (wpAny_tryCatch (wpAny_onRaise (wpAny_mono (h₁ λ z z=>False) (λ z s₂ h₂=>?_) λ z z x=>x.elim)))))
 refine wpAny_pure ?_
 show wpAny M A (forIn [] [] _) _ _ _
 rw [List.forIn_nil]
 refine wpAny_pure ?_
 exact wpAny_pure (wpAny_pure h₂)
theorem evalArgs_star {M:Model} {f:Value} {x:Sem Value} {rest:List (Bool×Sem Value)} {keywords:List (Option Str×Sem Value)} {Q:Args->Shared->Prop} {E:Value->Shared->Prop}
  (hall:keywords.all (·.1.isSome)=false)
  (h:wpAny M A (spliced ((false,x)::rest)) (λ vs s₁=>wpAny M A (mergedKeywords f keywords) (λ d s₂=>wpAny M A (keywordsIn f d) (λ kw s₃=>Q ⟨vs,kw⟩ s₃) E s₂) E s₁) E s):
  wpAny M A (evalArgs f true ((false,x)::rest) keywords) Q E s:=by
 unfold evalArgs
 show wpAny M A (spliced ((false,x)::rest) >>= _) Q E s
 refine wpAny_bind (wpAny_mono h (λ vs s₁ h₁=>?_) λ z z x=>x)
 refine wpAny_holding ?_
 simp only [hall]
 refine wpAny_bind (wpAny_mono h₁ (λ ks s₂ h₂=>?_) λ z z x=>x)
 refine wpAny_bind (wpAny_pure (wpAny_bind (wpAny_holding (wpAny_mono h₂ (λ kw s₃ h₃=>wpAny_pure h₃) λ z z x=>x))))
theorem keywordsIn_two {M:Model} {f:Value} {d:Addr} {x y:Str} {t u:Tok} {v1 v2:Value} {h1 h2:Int} {n:Nat} {Q:List (Str×Value)->Shared->Prop} {E:Value->Shared->Prop} (hd:s.heap.get? d=some (dictL [⟨h1,.str x t,v1⟩,⟨h2,.str y u,v2⟩] n))
  (h:Q [(x,v1),(y,v2)] s):wpAny M A (keywordsIn f d) Q E s:=by
 unfold keywordsIn
 refine wpAny_bind (wpAny_dictEntries hd rfl ?_)
 rw [List.forIn_toArray,List.forIn_cons]
 refine wpAny_bind (wpAny_bind (wpAny_pure ?_))
 show wpAny M A (forIn [_] [(x,v1)] _) _ _ _
 rw [List.forIn_cons]
 refine wpAny_bind (wpAny_pure ?_)
 show wpAny M A (forIn [] [(x,v1),(y,v2)] _) _ _ _
 rw [List.forIn_nil]
 exact wpAny_pure (wpAny_pure h)
end
end
section
section
variable {B:BC} {ex I:List Addr} {α α' α₁ α₂:Lbl} {s s' s₁ s₂:Shared} {σ σ' σ₁ σ₂:St} {fs:List Env} {A:Around} {κ:Sc} {k:Nat} {h₀ h h' h₁:Heap} {prog:Program} {w:World}
theorem nsSet_kw {d:Addr} {es:List DictEntry} {n:Nat} {x:Str} {v:Value} {Q:Unit->Shared->Prop} {E:Value->Shared->Prop} (hd:s.heap.get? d=some (dictL es n)) (hs:∀ e∈es,e.key.isStr x=false) (hr:∀ e∈es,e.refKey=false)
  (h:∀ h',h'.get? d=some (dictL (es++[⟨PyData.keyHash w.params x,.str x s.toks,v⟩]) (n+1))->Heap.SameBut d s.heap h'->Q () { s with heap:=h',toks:=s.toks+1 }):
  wpAny (model prog w) A (nsSet d x v) Q E s:=by
 have e1:es.any (·.key.isStr x)=false:=by
  cases q:es.any (·.key.isStr x) with
  | false=>rfl
  | true=>obtain ⟨e,he,z⟩:=List.any_eq_true.mp q;rw [hs e he] at z;cases z
 have e2:es.any (·.refKey)=false:=by
  cases q:es.any (·.refKey) with
  | false=>rfl
  | true=>obtain ⟨e,he,z⟩:=List.any_eq_true.mp q;rw [hr e he] at z;cases z
 have e:Obj.putName x (PyData.keyHash w.params x) (.str x s.toks) v (dictL es n)=dictL (es++[⟨PyData.keyHash w.params x,.str x s.toks,v⟩]) (n+1):=by
  show Obj.putName x (PyData.keyHash w.params x) (.str x s.toks) v (dictOf es n)=_
  rw [putName_dict,putL_new hs]
  show dictOf _ (if es.any (·.key.isStr x) then n else n+1)=_
  rw [e1,if_neg Bool.false_ne_true]
 have c:aRefKeyMayBeTheName x es.toArray=false:=by
  rw [aRefKeyMayBeTheName_at,<- Array.any_toList,<- Array.any_toList]
  show (!es.any (·.key.isStr x)&&es.any (·.refKey))=false
  rw [e2,Bool.and_false]
 unfold nsSet
 refine wpAny_bind (wpAny_bind (wpAny_askSetting (wpAny_pure (wpAny_bind (wpAny_mkText (wpAny_bind (wpAny_loadPart hd ?_)))))))
 dsimp only
 rw [c]
 refine wpAny_updatePart hd (h _ ?_ (Heap.SameBut.update ..))
 exact (Heap.get?_update_self _ hd (by rw [show Obj.putName x (if x.cps.isEmpty=true then 0 else reduceHash ((model prog w).w.params.strHash x.cps)) (.str x s.toks) v (dictL es n)=_ from e];rfl)).trans (congrArg some e)
noncomputable def atomAV (a:Atom):AV:=@Atom.casesOn (λ z=>AV) a .int .str
noncomputable def KwOf:List Str->List AV->List (Str×Atom)->Prop:=
 @List.rec Str (λ z=>List AV->List (Str×Atom)->Prop) (λ l q=>l=[]/\q=[]) λ n z f l q=>∃ t r l',l=atomAV t::l'/\q=(n,t)::r/\f l' r
noncomputable def Apart (es:List DictEntry) (ns:List Str):Prop:=(∀ e∈es,∀ n∈ns,e.key.isStr n=false)/\(∀ e∈es,e.refKey=false)/\ns.Nodup
theorem fill_kw {d:Addr} {Q:PUnit->Shared->Prop} {E:Value->Shared->Prop} {ns:List Str} {ws:List Value} {l:List AV} {q:List (Str×Atom)} {h:Heap} {s:Shared} {es:List DictEntry} {n:Nat} (hq:KwOf ns l q) (r:RelL B α h l ws) (hd:s.heap.get? d=some (dictL es n)) (ha:Apart es ns)
  (hk:∀ h' tk es' n',h'.get? d=some (dictL (es++es') n')->KwsAre B q es'->Heap.SameBut d s.heap h'->Q ⟨⟩ { s with heap:=h',toks:=tk }):
  wpAny (model B.prog B.w) A (forIn (ns.zip ws) PUnit.unit λ x z=>(nsSet d x.1 x.2 >>= λ z=>pure (ForInStep.yield PUnit.unit))) Q E s:=by
 induction ns generalizing ws l q s es n with
 | nil=>
  obtain ⟨rfl,rfl⟩:=hq
  exact wpAny_pure (hk s.heap s.toks [] n (by rw [List.append_nil];exact hd) rfl (Heap.SameBut.refl ..))
 | cons x ns ih=>
  obtain ⟨t,r',l',rfl,rfl,hr⟩:=hq
  obtain ⟨v,ws',rfl,r1,r2⟩:=r
  have hat:AtomIs t v:=by
   induction t with
   | int i=>exact rel_int_inv r1
   | str i=>exact rel_str_inv r1
  rw [List.zip_cons_cons,List.forIn_cons]
  obtain ⟨a1,a2,a3⟩:=ha
  obtain ⟨n1,n2⟩:=List.nodup_cons.mp a3
  refine wpAny_bind (wpAny_bind (nsSet_kw hd (λ e he=>a1 e he x List.mem_cons_self) a2 λ h' e' S'=>wpAny_pure ?_))
  refine ih (s:={ s with heap:=h',toks:=s.toks+1 }) hr r2 e' ⟨λ e he y hy=>?_,λ e he=>?_,n2⟩ λ h'' tk es' n' g1 g2 g3=>?_
  ·rcases List.mem_append.mp he with he | he
   ·exact a1 e he y (List.mem_cons_of_mem _ hy)
   ·obtain rfl:=List.mem_singleton.mp he
    exact beq_eq_false_iff_ne.mpr λ q:x=y=>n1 (q▸hy)
  ·rcases List.mem_append.mp he with he | he
   ·exact a2 e he
   ·obtain rfl:=List.mem_singleton.mp he
    rfl
  ·refine hk h'' tk (⟨PyData.keyHash B.w.params x,.str x s.toks,v⟩::es') n' (by rw [List.append_assoc] at g1;exact g1) ?_ (S'.trans g3)
   exact ⟨s.toks,v,es',rfl,hat,g2⟩
end
end
section
section
variable {B:BC} {ex I:List Addr} {α α' α₁ α₂:Lbl} {s s' s₁ s₂:Shared} {σ σ' σ₁ σ₂:St} {fs:List Env} {A:Around} {κ κ':Sc} {k:Nat} {h₀ h h' h₁:Heap} {prog:Program} {w:World}
theorem FnAt.full {a:Addr} {fd:FuncData} {frees:List Str} {χf:List Nat} (N:FnAt κ h a fd frees α χf) (k:Full h h'):FnAt κ h' a fd frees α χf where
 obj:=let ⟨o,ho,hd⟩:=N.obj;⟨o,k _ _ ho,hd⟩
 sc:=N.sc
 kind:=N.kind
 co:=N.co
 gen:=N.gen
 glob:=N.glob
 bi:=N.bi
 code:=by
  obtain ⟨c,oc,vs,u,e1,e2,e3⟩:=N.code
  exact ⟨c,oc,vs,u,e1,k _ _ e2,e3⟩
 cel:=N.cel
 own:=N.own
 dis:=N.dis
 loc:=N.loc
 free:=N.free
 made:=N.made
theorem enterB {a:Addr} {fd:FuncData} {frees:List Str} {χf:List Nat} {nh:Bool} {binds:List (Str×Value)} {ts:List Tg} {l:List AV} {Q:Env->Shared->Prop} {E:Value->Shared->Prop} (N:FnAt κ s.heap a fd frees α χf)
  (hts:NmsOk κ (binds.map (·.1)) ts) (hlen:ts.length=l.length) (hl:RelL B α s.heap l (binds.map (·.2))) (W:Wd B α σ fs s.heap)
  (h:∀ env α' s',SStep B [] α s α' s'->env.locals=s.heap.objs.size->env.frame=some env.locals->FsOk env (env::fs) α'->
   Wd B α' (bindA (ts.zip l) (fr0 κ.loc.length σ.length (ownC κ.scope.names).length χf (hkOf nh)) (σ++List.replicate (ownC κ.scope.names).length (.cel none))).2 (env::fs) s'.heap->
   FrOk B κ { fr0 κ.loc.length σ.length (ownC κ.scope.names).length χf (hkOf nh) with ρ:=(bindA (ts.zip l) (fr0 κ.loc.length σ.length (ownC κ.scope.names).length χf (hkOf nh)) (σ++List.replicate (ownC κ.scope.names).length (.cel none))).1.ρ } env α' s'.heap->Q env s'):
  wpAny (model B.prog B.w) A (newFunctionEnv fd.scope fd.globals fd.closure binds (fd.qualname++".<locals>.") (some a) fd.code none fd.builtins) Q E s:=by
 rw [N.glob,N.sc]
 refine newEnv_ok (κ:=κ) (frees:=frees) (χf:=χf) (ts:=ts) (l:=l) (hn:=hkOf nh) rfl N.kind N.cel N.own N.dis N.loc N.bi N.free hts hlen hl (λ a e=>by cases nh<;>cases e) N.made W ?_
 intro cells α' h' tk S' W' F' hm hhid
 rw [bindA_fr] at F'
 obtain ⟨m,hns,_⟩:=id F'.locs
 refine h _ α' _ (SStep.of S') rfl rfl ⟨fs,rfl,rfl,hm⟩ (W'.pushFs ?_ rfl hm hns) F'
 show κ.scope.kind≠ .module
 rw [N.kind];exact λ q=>nomatch q
noncomputable def JAppK (B:BC) (k:Nat) (nh:Bool) (av:AV) (names:List Str) (sp:FS):Prop:=
 ∀ (A:Around) (fs:List Env) (α:Lbl) (σ:St) (s:Shared) (u:Value) (vs ws:List Value) (l m:List AV) (K:PK) (X:PX) (hk:HK),Amb A fs k hk->(nh=true->hk=.no)->Wd B α σ fs s.heap->Rel B α s.heap av u->RelL B α s.heap l vs->RelL B α s.heap m ws->ws.length=names.length->sp (l++m) σ K X->
  wpAny (model B.prog B.w) A (call u vs (names.zip ws)) (PostV B [] α fs s K) (PostX B [] α fs s X) s
noncomputable def kwTree (binds:List (Str×Value)) (ex:List (Str×Value)) (nm:Str):Sem (List (Str×Value)):=
 alloc (dictL [] 0) >>= λ d=>forIn ex PUnit.unit (λ x z=>(nsSet d x.1 x.2 >>= λ z=>pure (ForInStep.yield PUnit.unit))) >>= λ z=>pure (binds++[(nm,Value.ref d)])
noncomputable def kwS (n:Nat) (names:List Str) (c:FS):FS:=λ l σ K X=>∃ q,KwOf names (l.drop n) q/\c (l.take n++[.dct (.kwd q)]) σ K X
theorem JAppK.fn {fa:Addr} {o:Obj} {fd:FuncData} {nh:Bool} {ts:List Tg} {ps names:List Str} {nm:Str} {body:List Stmt} {p:PS} (ho:B.K.lookup fa=some o) (hd:o.data=.func fd) (hsc:fd.scope=κ.scope) (hbody:fd.body=.stmts body) (hg:fd.globals=mainGlobals) (hbi:fd.builtins=builtinsNs)
  (hcode:codeIn B.K fd.code fd.qualname=true) (hmade:∀ c,κ.code=some c->fd.code=.ref c/\fd.qualname++".<locals>."=κ.qual) (hkind:κ.scope.kind=.function) (hco:κ.scope.isCoroutine=false) (hgen:κ.scope.isGenerator=false) (hcel:κ.cel=ownC κ.scope.names) (hown:(ownC κ.scope.names).Nodup) (hloc:κ.loc.Nodup)
  (hbind:∀ vs ws:List Value,vs.length=ps.length->ws.length=names.length->bindArgs fd ⟨vs,names.zip ws⟩=kwTree (ps.zip vs) (names.zip ws) nm) (hpl:ps.length+1=ts.length) (hps:NmsOk κ (ps++[nm]) ts) (hnd:names.Nodup) (js:JS B κ k body p):
  JAppK B (k+1) nh (.val (.ref fa)) names (kwS ps.length names (callS κ (ownC κ.scope.names).length [] nh ts p)):=
 λ A fs α σ s u vs ws l m K X hk amb hn W r rl rm hwl hf=>by
  subst r
  obtain ⟨q,hq,hf⟩:=hf
  have hml:m.length=names.length:=by rw [<- hwl];exact rm.length.symm
  have hvl:vs.length=l.length:=rl.length
  -- as many as the positional ones
  have hlen:=hf.1
  have hl1:l.length=ps.length:=by
   simp at hlen
   have:∀ (ns:List Str) (y:List AV) q,KwOf ns y q->y.length=ns.length:=by
    intro ns
    induction ns with
    | nil=>intro y q h;rw [h.1];rfl
    | cons n ns ih=>
     intro y q h
     obtain ⟨t,r,l,rfl,_,h⟩:=h
     exact congrArg (·+1) (ih _ _ h)
   have:=this _ _ _ hq
   simp at this
   lia
  rw [<- hl1,List.drop_left] at hq
  rw [<- hl1,List.take_left] at hf
  have N:FnAt κ s.heap fa fd [] α []:=⟨⟨o,W.stays _ _ (B.inK _ _ ho),hd⟩,hsc,hkind,hco,hgen,hg,hbi,codeRec_of (B.inK.keeps W.stays) hcode,by rw [hcel];simp,hown,λ z q=>absurd q List.not_mem_nil,hloc,λ j x e=>by simp at e,hmade⟩
  obtain ⟨o',ho',hd'⟩:=N.obj
  refine wpAny_call ?_
  refine codeAny_call_function (by have:=amb.depth;lia) ho' hd' (by rw [N.sc];exact N.co) (by rw [N.sc];exact N.gen) hbody N.code ?_
  rw [hbind vs ws (by lia) hwl]
  refine wpAny_bind (wpAny_alloc ?_)
  have hpush:Heap.get? (s.heap.push (dictL [] 0)) s.heap.objs.size=some (dictL [] 0):=Heap.get?_push_size _ rfl
  refine wpAny_bind (fill_kw (s:={ s with heap:=s.heap.push (dictL [] 0) }) hq rm hpush ⟨λ z h=>absurd h List.not_mem_nil,λ z h=>absurd h List.not_mem_nil,hnd⟩ λ h₁ tk es' n' g1 g2 g3=>wpAny_pure ?_)
  rw [List.nil_append] at g1
  have full:Full s.heap h₁:=λ b o e=>g3.extBut b o (Nat.ne_of_lt (Heap.lt_size e)) (Heap.get?_push_of_some _ e)
  have W₁:Wd B α σ fs h₁:=W.full full
  have hsz:2<s.heap.objs.size:=by
   obtain ⟨mc,⟨o,es,ep,e,_⟩,_⟩:=W.nolimit
   exact Heap.lt_size e
  have rd:Rel B α h₁ (.dct (.kwd q)) (.ref s.heap.objs.size):=by
   refine ⟨_,rfl,W.frzSize,es'.toArray,n',g1,by simpa using g2,?_⟩
   simp only [beq_eq_false_iff_ne,ne_eq,sysModules]
   intro q
   rw [q] at hsz
   exact absurd hsz (by decide)
  have e1:(ps.zip vs++[(nm,Value.ref s.heap.objs.size)]).map (·.1)=ps++[nm]:=by
   rw [List.map_append,List.map_fst_zip (by lia)];rfl
  have e2:(ps.zip vs++[(nm,Value.ref s.heap.objs.size)]).map (·.2)=vs++[Value.ref s.heap.objs.size]:=by
   rw [List.map_append,List.map_snd_zip (by lia)];rfl
  have S₁:SStep B [] α s α { s with heap:=h₁,toks:=tk }:=SStep.full full
  refine enterB (s:={ s with heap:=h₁,toks:=tk }) (nh:=nh) (ts:=ts) (l:=l++[.dct (.kwd q)]) (N.full full) (by rw [e1];exact hps) hf.1 (by rw [e2];exact (rl.full full).append (RelL.one rd)) W₁ λ env α' s' S hL hfr G W' F'=>⟨W'.nolimit,codeAny_func ?_⟩
  have amb':Amb (A.deeper env) (env::fs) k (hkOf nh):=amb.deeper hn
  refine wpAny_mono (js (A.deeper env) (env::fs) env { fr0 κ.loc.length σ.length (ownC κ.scope.names).length [] (hkOf nh) with ρ:=_ } α' _ _ _ _ _ s' amb' W' F' G hf.2) (λ f s₂ q=>?_) λ x s₂ q=>?_
  ·obtain ⟨α₂,σ₂,S₂,W₂,q⟩:=q
   have hfresh:h₁.get? env.locals=none:=by rw [hL];exact size_none _
   have T:SStep B [] α { s with heap:=h₁,toks:=tk } α₂ s₂:=SStep.shrink (I:=[env.locals]) (ex:=[]) ((S.widen (λ z q=>absurd q List.not_mem_nil)).trans S₂) (by simp [hfresh])
   cases f with
   | next=>obtain ⟨ρ',_,hk⟩:=q;exact PostV.seq S₁ (cut_postV W₁ T W₂ rel_none hk)
   | ret v=>obtain ⟨av,r,hk⟩:=q;exact PostV.seq S₁ (cut_postV W₁ T W₂ r hk)
   | brk=>obtain ⟨_,_,hk⟩:=q;exact hk.elim
   | cont=>exact q.elim
  ·exact cut_postX amb'.frames hfr W₁ S (by rw [hL];exact size_none _) q λ s'' h=>PostX.seq S₁ h
theorem JAppK.lam {i:Nat} {cs:List Nat} {t:CloT} {nh:Bool} {ts:List Tg} {ps names:List Str} {n:Nat} {body:Expr} {f:PE} (ht:B.clo i=some t) (hsc:t.scope=κ.scope) (hnc:κ.code=none) (hbody:t.body=.expr body) (hkind:κ.scope.kind=.function) (hco:κ.scope.isCoroutine=false) (hgen:κ.scope.isGenerator=false)
  (hcel:κ.cel=ownC κ.scope.names++t.free) (hown:(ownC κ.scope.names).Nodup) (hdis:∀ x∈t.free,x∉ownC κ.scope.names) (hloc:κ.loc.Nodup)
  (hbind:∀ (cl:List (Str×Addr)) (doc pm cd ct:Value) (vs ws:List Value),vs.length+names.length=ts.length->ws.length=names.length->bindArgs (cloFn t cl doc pm cd ct) ⟨vs,names.zip ws⟩=pure (ps.zip (vs++ws))) (hpl:ps.length=ts.length) (hps:NmsOk κ ps ts) (je:JE B κ k body f):
  JAppK B (k+1) nh (.clo i cs) names (callE κ (ownC κ.scope.names).length cs nh ts f):=λ A fs α σ s u vs ws l m K X hk amb hn W r rl rm hwl hf=>by
 obtain ⟨a,cl,doc,pm,cd,ct,rfl,N⟩:=clo_fnAt ht hsc hnc hkind hco hgen hcel hown hdis hloc r
 have h1:=hf.1
 have h2:=rl.length
 have h3:=rm.length
 simp at h1
 have e1:(ps.zip (vs++ws)).map (·.1)=ps:=List.map_fst_zip (by simp;lia)
 have e2:(ps.zip (vs++ws)).map (·.2)=vs++ws:=List.map_snd_zip (by simp;lia)
 exact call_expr (args:=⟨vs,names.zip ws⟩) (binds:=ps.zip (vs++ws)) N hbody je (hbind cl doc pm cd ct vs ws (by lia) hwl) (by rw [e1];exact hps) (by rw [e2];exact rl.append rm) amb hn W hf
noncomputable def AppOkK (B:BC) (k:Nat) (nh:Bool) (names:List Str) (app:AV->Option FS):Prop:=∀ av sp,app av=some sp->FnLike B av/\JAppK B k nh av names sp
noncomputable def JLK (B:BC) (κ:Sc) (k:Nat) (kws:List Keyword) (f:PL):Prop:=
 ∀ (A:Around) (fs:List Env) (env:Env) (fr:AFr) (α:Lbl) (σ:St) (K:PKL) (X:PX) (s:Shared) (pos:Pos),Amb A fs k fr.hnd->Wd B α σ fs s.heap->FrOk B κ fr env α s.heap->f fr σ K X->
  wpAny (model B.prog B.w) A (evalAll ((backToKw pos (keywordEach kws env)).map (·.2))) (PostL B α fs s kws.length K) (PostX B [] α fs s X) s
theorem JLK.nil:JLK B κ k [] L.nil:=λ A fs env fr α σ K X s pos amb W F hf=>
 kwAll_nil ⟨α,σ,[],SStep.refl B [] α s,W,RelL.nil,rfl,hf⟩
theorem JLK.cons {name:Str} {value:Expr} {p:Pos} {rest:List Keyword} {f:PE} {g:PL} (je:JE B κ k value f) (jl:JLK B κ k rest g):JLK B κ k (⟨some name,value,p⟩::rest) (L.cons f g):=λ A fs env fr α σ K X s pos amb W F hf=>by
 refine kwAll_cons (je.use amb W F hf (λ v s₁ α₁ σ₁ a S₁ W₁ r₁ h₁ F₁=>?_) λ z z p=>p)
 refine wpAny_mono (jl A fs env fr α₁ σ₁ _ X s₁ pos amb W₁ F₁ h₁) (λ vs s₂ ⟨α₂,σ₂,l,S₂,W₂,r₂,hn,hk⟩=>?_) λ z z p=>p.seq S₁
 exact ⟨α₂,σ₂,a::l,S₁.trans S₂,W₂,RelL.cons (Rel.step S₂.2 ExOk.nil _ _ r₁) r₂,by rw [List.length_cons,hn,List.length_cons],hk⟩
theorem RelL.step' (S:SStep B [] α s α' s') {l:List AV} {vs:List Value} (r:RelL B α s.heap l vs):RelL B α' s'.heap l vs:=RelL.step S.2 ExOk.nil l vs r
noncomputable def E.callK (nh:Bool) (app:AV->Option FS) (f:PE) (g h:PL):PE:=λ fr σ K X=>(nh=true->fr.hnd=.no)/\f fr σ (λ a σ₁=>∃ sp,app a=some sp/\g fr σ₁ (λ l σ₂=>h fr σ₂ (λ m σ₃=>sp (l++m) σ₃ K X) X) X) X
theorem JE.callK {nh:Bool} {app:AV->Option FS} {names:List Str} {x:Str} {p:Pos} {e:Expr} {rest:List Expr} {kws:List Keyword} {pos:Pos} {f:PE} {g h:PL} (ha:AppOkK B k nh names app) (jf:JE B κ k (.Name x p) f) (jl:JL B κ k (e::rest) g) (jk:JLK B κ k kws h)
  (he:∀ env,starEach (e::rest) env=(false,eval e env)::starEach rest env) (hn:∀ env,(backToKw pos (keywordEach kws env)).filterMap (·.1)=names) (hall:∀ env,(backToKw pos (keywordEach kws env)).all (·.1.isSome)=true) (hlen:kws.length=names.length):
  JE B κ k (.Call (.Name x p) (e::rest) kws pos) (E.callK nh app f g h):=λ A fs env fr α σ K X s amb W F hf=>by
 refine wpAny_Call_Name_kw (jf.use amb W F hf.2 (λ u s₁ α₁ σ₁ a S₁ W₁ r₁ h₁ F₁=>?_) λ z z p=>p)
 obtain ⟨sp,hsp,h₁⟩:=h₁
 obtain ⟨hfn,ja⟩:=ha a sp hsp
 obtain ⟨fa,o,fd,rfl,ho,hd,hst⟩:=hfn.at W₁ r₁
 refine callWith_function_kw (o:=o) (fd:=fd) (evalArgs_kw2 (hall env) (jl.use amb W₁ F₁ h₁ (λ vs s₂ α₂ σ₂ l S₂ W₂ r₂ hlen₂ h₂ F₂=>?_) λ z z p=>p.seq S₁) (he env))
 refine wpAny_mono (jk A fs env fr α₂ σ₂ _ X s₂ pos amb W₂ F₂ h₂) (λ ws s₃ ⟨α₃,σ₃,m,S₃,W₃,r₃,hn₃,hk⟩=>?_) λ z z p=>(p.seq S₂).seq S₁
 refine ⟨⟨hst _ _ _ W₃ (S₂.trans S₃).2,hd⟩,?_⟩
 rw [hn env]
 refine wpAny_mono (ja A fs α₃ σ₃ s₃ _ vs ws l m K X fr.hnd amb hf.1 W₃ (r₁.step (S₂.trans S₃).2 ExOk.nil) (RelL.step' S₃ r₂) r₃ (by rw [r₃.length,hn₃,hlen]) hk) (λ v s₄ p=>PostV.seq (S₁.trans (S₂.trans S₃)) p) λ x s₄ p=>PostX.seq (S₁.trans (S₂.trans S₃)) p
theorem atom_rel {a:Atom} {v:Value} (r:AtomIs a v):Rel B α h (atomAV a) v:=by
 cases a<;>obtain ⟨t,rfl⟩:=r
 ·exact rel_int _ _
 ·exact rel_str _ _
noncomputable def E.callS (nh:Bool) (app:AV->Option FS) (x y:Str) (f:PE) (g:PL) (d:PE):PE:=λ fr σ K X=>(nh=true->fr.hnd=.no)/\f fr σ (λ a σ₁=>∃ sp,app a=some sp/\g fr σ₁ (λ l σ₂=>d fr σ₂ (λ c σ₃=>∃ u v,c=.dct (.kwd [(x,u),(y,v)])/\sp (l++[atomAV u,atomAV v]) σ₃ K X) noX) X) X
theorem JE.callS {nh:Bool} {app:AV->Option FS} {x y:Str} {n:Str} {p kp:Pos} {e:Expr} {rest:List Expr} {value:Expr} {pos:Pos} {f d:PE} {g:PL} (ha:AppOkK B k nh [x,y] app) (jf:JE B κ k (.Name n p) f) (jl:JL B κ k (e::rest) g) (jd:JE B κ k value d) (hxy:(x==y)=false)
  (he:∀ env,starEach (e::rest) env=(false,eval e env)::starEach rest env):
  JE B κ k (.Call (.Name n p) (e::rest) [⟨none,value,kp⟩] pos) (E.callS nh app x y f g d):=λ A fs env fr α σ K X s amb W F hf=>by
 refine wpAny_Call_Name_kw (jf.use amb W F hf.2 (λ u s₁ α₁ σ₁ a S₁ W₁ r₁ h₁ F₁=>?_) λ z z p=>p)
 obtain ⟨sp,hsp,h₁⟩:=h₁
 obtain ⟨hfn,ja⟩:=ha a sp hsp
 obtain ⟨fa,o,fd,rfl,ho,hd,hst⟩:=hfn.at W₁ r₁
 refine callWith_function_kw (o:=o) (fd:=fd) ?_
 rw [he env]
 refine evalArgs_star rfl ?_
 have hj:=jl.use (pos:=pos) (E:=PostX B [] α fs s X) amb W₁ F₁ h₁ (Q:=λ vs s₂=>wpAny (model B.prog B.w) A (mergedKeywords (.ref fa) (backToKw pos (keywordEach [⟨none,value,kp⟩] env))) (λ d s₂=>wpAny (model B.prog B.w) A (keywordsIn (.ref fa) d) (λ kw s₃=>((s₃.heap.get? fa=some o/\o.data=.func fd)/\wpAny (model B.prog B.w) A (PySem.call (.ref fa) ([]++vs) kw) (PostV B [] α fs s K) (PostX B [] α fs s X) s₃)) (PostX B [] α fs s X) s₂) (PostX B [] α fs s X) s₂) (λ vs s₂ α₂ σ₂ l S₂ W₂ r₂ hlen₂ h₂ F₂=>?_) λ z z p=>p.seq S₁
 ·rw [he env] at hj
  exact hj
 -- the merged dict:a fresh one
 have hk₂:Full s₂.heap (s₂.heap.push (dictL [] 0)):=Full.push _ _
 have fresh:s₂.heap.get? s₂.heap.objs.size=none:=size_none _
 have gD:Heap.get? (s₂.heap.push (dictL [] 0)) s₂.heap.objs.size=some (dictL [] 0):=Heap.get?_push_size _ rfl
 have P₂:Step B [] α₂ s₂.heap (α₂.hide false s₂.heap.objs.size) (s₂.heap.push (dictL [] 0)):=Step.newHid hk₂ fresh
 have W₂':=W₂.newHid hk₂ (fr:=false) fresh (by rw [gD];exact λ q=>nomatch q)
 have F₂':=F₂.step P₂ W₂
 have O₂:Own (α₂.hide false s₂.heap.objs.size) [s₂.heap.objs.size]:=λ a ha=>by
  obtain rfl:=List.mem_singleton.mp ha
  exact ⟨hid_self,Own.notFrm (b:=false) W₂ fresh⟩
 refine merged_star (wpAny_bind (jd.use (s:={ s₂ with heap:=s₂.heap.push (dictL [] 0) }) amb W₂' F₂' h₂ (λ m s₃ α₃ σ₃ c S₃ W₃ r₃ h₃ F₃=>wpAny_bind (wpAny_standAt (wpAny_pure λ E'=>?_))) λ z z p=>?_))
 ·obtain ⟨a1,a2,rfl,hsp'⟩:=h₃
  obtain ⟨ma,rfl,fm,es,ep,gm,⟨t1,v1,q1,eq1,i1,t2,v2,q2,eq2,i2,eq3⟩,hsys⟩:=r₃
  have O₃:=O₂.step S₃.2 W₂'
  have gD₃:s₃.heap.get? s₂.heap.objs.size=some (dictL [] 0):=O₂.keep W₂' S₃.2 (by simp) (λ q=>absurd q List.not_mem_nil) gD
  have hes:es.toList=[⟨PyData.keyHash B.w.params x,.str x t1,v1⟩,⟨PyData.keyHash B.w.params y,.str y t2,v2⟩]:=by rw [eq1,eq2,eq3]
  have gm':s₃.heap.get? ma=some (dictL [⟨PyData.keyHash B.w.params x,.str x t1,v1⟩,⟨PyData.keyHash B.w.params y,.str y t2,v2⟩] ep):=by rw [gm,<- hes]
  have hne:ma≠s₂.heap.objs.size:=λ q=>fm.1 (by rw [q];exact (O₃ _ (by simp)).1.liv)
  refine merge2 gm' gD₃ hne hsys hxy λ h₄ g₄ k₄=>?_
  refine keywordsIn_two (s:={ s₃ with heap:=h₄ }) g₄ ?_
  have hk₄:∀ b o,b∉[s₂.heap.objs.size]->s₃.heap.get? b=some o->h₄.get? b=some o:=λ b o hb e=>k₄.extBut b o (by simpa using hb) e
  have fr₂:∀ a∈[s₂.heap.objs.size],s₂.heap.get? a=none:=by simp [fresh]
  have T₃:Step B [] α₂ s₂.heap α₃ s₃.heap:=P₂.trans S₃.2
  have S₄:Step B [] α₂ s₂.heap (α₃.un α₂) h₄:=T₃.drop fr₂ hk₄
  have W₄:=Wd.drop W₂ T₃ W₃ O₃ fr₂ hk₄ (λ z z z z q=>nomatch q)
  have SS:SStep B [] α₂ s₂ (α₃.un α₂) { s₃ with heap:=h₄ }:=by
   obtain ⟨h3,t3,e3⟩:=S₃.1
   rw [e3]
   exact SStep.of S₄
  refine ⟨⟨hst _ _ _ W₄ (S₂.trans SS).2,hd⟩,?_⟩
  refine wpAny_mono (ja A fs (α₃.un α₂) σ₃ { s₃ with heap:=h₄ } _ vs [v1,v2] l [atomAV a1,atomAV a2] K X fr.hnd amb hf.1 W₄ (r₁.step (S₂.trans SS).2 ExOk.nil) (RelL.step' SS r₂) (RelL.cons (atom_rel i1) (RelL.one (atom_rel i2))) rfl hsp') (λ v s₄ p=>PostV.seq (S₁.trans (S₂.trans SS)) p) λ x s₄ p=>PostX.seq (S₁.trans (S₂.trans SS)) p
 ·exact (PostX.no p).elim
end
end
section
section
variable {B:BC} {κ:Sc} {k:Nat}
theorem J1.setC {x:Str} {p' pos:Pos} {e:Expr} {t:Tg} {f:PE} (je:JE B κ k e f) (ht:TgOk κ x t) (hs:∀ env:Env,env.scope=κ.scope->swapsWith e (some (.Name x p')) pos.line env=pure false):J1 B κ k (.Assign [.Name x p'] e pos) (S.set t f):=λ A fs env fr α σ N R Bk X s amb W F G hf=>by
 refine wpAny_Assign_Name (je.use amb W F hf (λ v s₁ α₁ σ₁ a S₁ W₁ r₁ h₁ F₁=>?_) λ z z p=>p.wide) (hs env F.scope)
 refine store_ok ht W₁ F₁ r₁ λ h' tk S' W' F'=>?_
 rw [fr_of_bindT] at F'
 exact ⟨α₁,_,S₁.wide.trans (SStep.of S'),W',_,F',h₁⟩
end
end
section
noncomputable def onNm {M:Expr->Type} (z:∀ e,M e) (f:∀ x p,M (.Name x p)) (e:Expr):M e:=
 @Expr.casesOn M e (λ o o o=>z _) (λ o o o=>z _) (λ o o o o=>z _) (λ o o o=>z _) (λ o o o o=>z _) (λ o o o o=>z _) (λ o o o=>z _) (λ o o o=>z _) (λ o o o o=>z _) (λ o o o o=>z _) (λ o o o o o=>z _) (λ o o o o=>z _) (λ o o=>z _) (λ o o=>z _) (λ o o=>z _)
  (λ o o o o=>z _) (λ o o o o=>z _) (λ o o o o=>z _) (λ o o=>z _) (λ o o o=>z _) (λ o o o=>z _) (λ o o o=>z _) (λ o o=>z _) f (λ o o=>z _) (λ o o o=>z _) (λ o o o o=>z _)
noncomputable def onTu {M:Expr->Type} (z:∀ e,M e) (f:∀ es n p,M (.Tuple es n p)) (e:Expr):M e:=
 @Expr.casesOn M e (λ o o o=>z _) (λ o o o=>z _) (λ o o o o=>z _) (λ o o o=>z _) (λ o o o o=>z _) (λ o o o o=>z _) (λ o o o=>z _) (λ o o o=>z _) (λ o o o o=>z _) (λ o o o o=>z _) (λ o o o o o=>z _) (λ o o o o=>z _) (λ o o=>z _) (λ o o=>z _) (λ o o=>z _)
  (λ o o o o=>z _) (λ o o o o=>z _) (λ o o o o=>z _) (λ o o=>z _) (λ o o o=>z _) (λ o o o=>z _) (λ o o o=>z _) (λ o o=>z _) (λ o o=>z _) (λ o o=>z _) f (λ o o o o=>z _)
noncomputable def onEx {M:Expr->Type} (z:∀ e,M e) (bo:∀ o l p,M (.BoolOp o l p)) (bi:∀ a o b p,M (.BinOp a o b p)) (un:∀ o a p,M (.UnaryOp o a p)) (it:∀ a b c p,M (.IfExp a b c p)) (lc:∀ e g s p,M (.ListComp e g s p)) (dc:∀ a b g s p,M (.DictComp a b g s p)) (cm:∀ l o r p,M (.Compare l o r p)) (ca:∀ f a w p,M (.Call f a w p)) (co:∀ c n p,M (.Constant c n p))
  (at':∀ e x p,M (.Attribute e x p)) (su:∀ a b p,M (.Subscript a b p)) (na:∀ x p,M (.Name x p)) (li:∀ l p,M (.List l p)) (tu:∀ l n p,M (.Tuple l n p)) (sl:∀ a b c p,M (.Slice a b c p)) (e:Expr):M e:=
 @Expr.casesOn M e bo (λ u u u=>z _) bi un (λ u u u u=>z _) it (λ u u u=>z _) (λ u u u=>z _) lc (λ u u u u=>z _) dc (λ u u u u=>z _) (λ u u=>z _) (λ u u=>z _) (λ u u=>z _)
  cm ca (λ u u u u=>z _) (λ u u=>z _) co at' su (λ u u=>z _) na li tu sl
noncomputable def onSt {M:Stmt->Type} (z:∀ s,M s) (fd:∀ x a b d r t s u n p,M (.FunctionDef x a b d r t s u n p)) (re:∀ e p,M (.Return e p)) (de:∀ l p,M (.Delete l p)) (as:∀ l e p,M (.Assign l e p)) (au:∀ a o e p,M (.AugAssign a o e p)) (fo:∀ a b c d p,M (.For a b c d p)) (wh:∀ a b c p,M (.While a b c p)) (it:∀ a b c p,M (.If a b c p)) (ra:∀ a b p,M (.Raise a b p)) (tr:∀ a b c d p,M (.Try a b c d p)) (at':∀ a b p,M (.Assert a b p)) (ex:∀ e p,M (.Expr e p)) (br:∀ p,M (.Break p)) (s:Stmt):M s:=
 @Stmt.casesOn M s fd (λ i i i i i i i i i i=>z _) (λ i i i i i i i i i i i=>z _) re de as (λ i i i i i i i=>z _) au (λ i i i i i=>z _) fo (λ i i i i i=>z _) wh it (λ i i i=>z _) (λ i i i=>z _) (λ i i i=>z _) ra tr (λ i i i i i=>z _) at' (λ i i=>z _) (λ i i i i=>z _) (λ i i=>z _) (λ i i=>z _) ex (λ i=>z _) br (λ i=>z _)
noncomputable def noSc:Scope:={ kind:=.function,names:=[],isGenerator:=false,isCoroutine:=false }
noncomputable def noPos:Pos:={ line:=0,col:=0,endLine:=0,endCol:=0 }
noncomputable def noEx:Expr:=.Constant .none 0 noPos
noncomputable def noArgs:Arguments:={ posonlyargs:=[],args:=[],vararg:=none,kwonlyargs:=[],kw_defaults:=[],kwarg:=none,defaults:=[] }
noncomputable def noCl:CloT:={ name:="",qual:="",params:=noArgs,body:=.stmts [],scope:=noSc,free:=[] }
noncomputable def stN (l:List Stmt) (i:Nat):Stmt:=l.getD i (.Break noPos)
noncomputable def kidS (s:Stmt):List (List Stmt):=onSt (M:=λ z=>List (List Stmt)) (λ z=>[]) (λ z z z z z z z z z z=>[]) (λ z z=>[]) (λ z z=>[]) (λ z z z=>[]) (λ z z z z=>[]) (λ z z b z z=>[b]) (λ z b z z=>[b]) (λ z b c z=>[b,c]) (λ z z z=>[]) (λ b h z z z=>b::h.map λ h=>@ExceptHandler.casesOn (λ z=>List Stmt) h λ z z b z=>b) (λ z z z=>[]) (λ z z=>[]) (λ z=>[]) s
noncomputable def stB (s:Stmt) (i:Nat):List Stmt:=(kidS s).getD i []
noncomputable def stE (s:Stmt):Expr:=onSt (M:=λ z=>Expr) (λ z=>noEx) (λ z z z z z z z z z z=>noEx) (λ e z=>e.getD noEx) (λ z z=>noEx) (λ z v z=>v) (λ z z e z=>e) (λ z i z z z=>i) (λ t z z z=>t) (λ t z z z=>t) (λ z z z=>noEx) (λ z z z z z=>noEx) (λ z z z=>noEx) (λ e z=>e) (λ z=>noEx) s
noncomputable def kidE (e:Expr):List Expr:=@Expr.casesOn (λ z=>List Expr) e (λ z z z=>[]) (λ z z z=>[]) (λ a z b z=>[a,b]) (λ z a z=>[a]) (λ z z z z=>[]) (λ a b c z=>[a,b,c]) (λ z z z=>[]) (λ z z z=>[]) (λ e g z z=>e::g.map λ g=>g.iter) (λ z z z z=>[]) (λ a z z z z=>[a]) (λ z z z z=>[]) (λ z z=>[]) (λ z z=>[]) (λ z z=>[]) (λ a z l z=>a::l) (λ f l z z=>f::l) (λ z z z z=>[]) (λ z z=>[]) (λ z z z=>[]) (λ a z z=>[a]) (λ a b z=>[a,b]) (λ z z=>[]) (λ z z=>[]) (λ l z=>l) (λ l z z=>l) (λ z z z z=>[])
noncomputable def exE (e:Expr) (i:Nat):Expr:=(kidE e).getD i noEx
noncomputable def stmtsOf:FuncBody->List Stmt
 | .stmts b=>b
 | _=>[]
noncomputable def exprOf:FuncBody->Expr
 | .expr b=>b
 | _=>noEx
noncomputable def scE (e:Expr):Scope:=@Expr.casesOn (λ z=>Scope) e (λ z z z=>noSc) (λ z z z=>noSc) (λ z z z z=>noSc) (λ z z z=>noSc) (λ z z s z=>s) (λ z z z z=>noSc) (λ z z z=>noSc) (λ z z z=>noSc) (λ z z s z=>s) (λ z z z z=>noSc) (λ z z z s z=>s) (λ z z z z=>noSc) (λ z z=>noSc) (λ z z=>noSc) (λ z z=>noSc) (λ z z z z=>noSc) (λ z z z z=>noSc) (λ z z z z=>noSc) (λ z z=>noSc) (λ z z z=>noSc) (λ z z z=>noSc) (λ z z z=>noSc) (λ z z=>noSc) (λ z z=>noSc) (λ z z=>noSc) (λ z z z=>noSc) (λ z z z z=>noSc)
noncomputable def cloS (qual:Str) (free:List Str) (s:Stmt):Pos×CloT:=onSt (M:=λ z=>Pos×CloT) (λ z=>(noPos,noCl)) (λ x ps b z z z sc z z pos=>(pos,{ name:=x,qual:=qual,params:=ps,body:=.stmts b,scope:=sc,free:=free })) (λ z z=>(noPos,noCl)) (λ z z=>(noPos,noCl)) (λ z z z=>(noPos,noCl)) (λ z z z z=>(noPos,noCl)) (λ z z z z z=>(noPos,noCl)) (λ z z z z=>(noPos,noCl)) (λ z z z z=>(noPos,noCl)) (λ z z z=>(noPos,noCl)) (λ z z z z z=>(noPos,noCl)) (λ z z z=>(noPos,noCl)) (λ z z=>(noPos,noCl)) (λ z=>(noPos,noCl)) s
noncomputable def cloE (qual:Str) (free:List Str) (e:Expr):Pos×CloT:=@Expr.casesOn (λ z=>Pos×CloT) e (λ z z z=>(noPos,noCl)) (λ z z z=>(noPos,noCl)) (λ z z z z=>(noPos,noCl)) (λ z z z=>(noPos,noCl)) (λ ps b sc pos=>(pos,{ name:="<lambda>",qual:=qual,params:=ps,body:=.expr b,scope:=sc,free:=free })) (λ z z z z=>(noPos,noCl)) (λ z z z=>(noPos,noCl)) (λ z z z=>(noPos,noCl)) (λ z z z z=>(noPos,noCl)) (λ z z z z=>(noPos,noCl)) (λ z z z z z=>(noPos,noCl)) (λ z z z z=>(noPos,noCl)) (λ z z=>(noPos,noCl)) (λ z z=>(noPos,noCl)) (λ z z=>(noPos,noCl)) (λ z z z z=>(noPos,noCl)) (λ z z z z=>(noPos,noCl)) (λ z z z z=>(noPos,noCl)) (λ z z=>(noPos,noCl)) (λ z z z=>(noPos,noCl)) (λ z z z=>(noPos,noCl)) (λ z z z=>(noPos,noCl)) (λ z z=>(noPos,noCl)) (λ z z=>(noPos,noCl)) (λ z z=>(noPos,noCl)) (λ z z z=>(noPos,noCl)) (λ z z z z=>(noPos,noCl))
noncomputable def bd (i:Nat):List Stmt:=stmtsOf (cloS "" [] (stN PySem.Challenge.pw_kl0252_01.main.body i)).2.body
noncomputable def sc (i:Nat):Scope:=(cloS "" [] (stN PySem.Challenge.pw_kl0252_01.main.body i)).2.scope
inductive FnK (K:Frag) (a c:Addr) (q:Str) (i:Nat) (bnd:FuncData->Prop):Prop
 | mk (o:Obj) (fd:FuncData) (z:K.lookup a=some o) (z:o.data=.func fd) (z:fd.scope=sc i) (z:fd.body=.stmts (bd i)) (z:fd.globals=mainGlobals) (z:fd.builtins=builtinsNs) (z:codeIn K fd.code fd.qualname=true)
  (z:fd.code=.ref c) (z:fd.qualname++".<locals>."=q) (z:bnd fd)
noncomputable def PosB (ps:List Str) (fd:FuncData):Prop:=∀ vs:List Value,vs.length=ps.length->bindArgs fd ⟨vs,[]⟩=pure (ps.zip vs)
noncomputable def KwB (ps:List Str) (nm:Str) (nms:List (List Str)) (fd:FuncData):Prop:=∀ names∈nms,∀ vs ws:List Value,vs.length=ps.length->ws.length=names.length->bindArgs fd ⟨vs,names.zip ws⟩=kwTree (ps.zip vs) (names.zip ws) nm
noncomputable def dEnt (K:Frag) (a:Addr):Array DictEntry:=match K.lookup a with
 | some ⟨_,_,.dict es _,_⟩=>es
 | _=>#[]
noncomputable def dNum (K:Frag) (a:Addr):Nat:=match K.lookup a with
 | some ⟨_,_,.dict _ n,_⟩=>n
 | _=>0
noncomputable def tokTab:List (Str×Int):=[("(",7),(")",8),("[",9),("]",10),(",",12),("|",18),("&",19),("^",32),("~",31)]
noncomputable def ct0:Pos×CloT:=cloS "_int2digits.<locals>.inner" ["a_digits","inner","n"] (stN (bd 4) 1)
noncomputable def ct1:Pos×CloT:=cloS "_digits2int.<locals>.inner" ["digits","inner","n"] (stN (bd 5) 0)
noncomputable def ct2:Pos×CloT:=cloE "law.<locals>.<lambda>" [] (exE (exE (stE (stN (bd 81) 3)) 0) 3)
noncomputable def ct3:Pos×CloT:=cloE "law.<locals>.<lambda>" [] (exE (exE (stE (stN (bd 81) 3)) 0) 4)
noncomputable def ct4:Pos×CloT:=cloE "_law_holds.<locals>.<lambda>" ["divisions","pattern","told"] (exE (stE (stN (stB (stN (bd 80) 6) 0) 0)) 2)
noncomputable def ct5:Pos×CloT:=cloE "_law_holds.<locals>.<lambda>" [] (exE (exE (exE (stE (stN (bd 80) 8)) 1) 0) 3)
noncomputable def ct6:Pos×CloT:=cloE "_law_holds.<locals>.<lambda>" [] (exE (exE (exE (stE (stN (bd 80) 8)) 1) 0) 4)
noncomputable def cloL:List (Pos×CloT):=[ct0,ct1,ct2,ct3,ct4,ct5,ct6]
noncomputable def cloTab (i:Nat):Option CloT:=(cloL[i]?).map (·.2)
noncomputable def tqTab (l c:Nat):Str:=match cloL.find? (λ q=>q.1.line==l&&q.1.col==c) with
 | some q=>q.2.qual
 | none=>""
noncomputable def buTab:List (Str×Value):=[("StopIteration",.type "StopIteration"),("ZeroDivisionError",.type "ZeroDivisionError"),("chr",.builtin "chr"),("divmod",.builtin "divmod"),("enumerate",.type "enumerate"),("isinstance",.builtin "isinstance"),("iter",.builtin "iter"),("len",.builtin "len"),("max",.builtin "max"),("min",.builtin "min"),("next",.builtin "next"),("range",.type "range"),("reversed",.type "reversed"),("str",.type "str"),("sum",.builtin "sum"),("tuple",.type "tuple"),("zip",.type "zip")]
noncomputable def gvTab:List (Str×Value):=[("_div2n1n",.ref 21),("_div3n2n",.ref 28),("_int2digits",.ref 35),("_digits2int",.ref 42),("_divmod_pos",.ref 49),("int_divmod",.ref 56),("UNKNOWN",.ref 79),("_get_name_info",.ref 86),("_parse_varint",.ref 93),("_ellipsis_match",.ref 100),("EXACT_TOKEN_TYPES",.ref 101),("ISTERMINAL",.ref 110),("ISNONTERMINAL",.ref 117),("ISEOF",.ref 124),("_law_formula",.ref 131),("_law_number",.ref 136),("_law_filled",.ref 141),("_law_tape",.ref 146),("_law_division",.ref 153),("_law_fits",.ref 158),("_law_answer",.ref 165),("_law_read",.ref 170),("_law_holds",.ref 175),("law",.ref 180),("_DIV_LIMIT",.int 4000 189),("ENDMARKER",.int 0 336),("NT_OFFSET",.int 256 434),("ELLIPSIS_MARKER",.str "..." 320)]
structure KOk (K:Frag) (P:Params):Prop where
 g0:buTab.map (λ q=>nsIn K mainGlobals q.1)=buTab.map λ o=>some none
 g1:gvTab.map (λ q=>nsIn K mainGlobals q.1)=gvTab.map λ q=>some (some q.2)
 f21:FnK K 21 20 "_div2n1n.<locals>." 2 (PosB ["a","b","n"])
 f35:FnK K 35 34 "_int2digits.<locals>." 4 (PosB ["a","n"])
 f42:FnK K 42 41 "_digits2int.<locals>." 5 (PosB ["digits","n"])
 f49:FnK K 49 48 "_divmod_pos.<locals>." 6 (PosB ["a","b"])
 f56:FnK K 56 55 "int_divmod.<locals>." 7 (PosB ["a","b"])
 f86:FnK K 86 85 "_get_name_info.<locals>." 11 (KwB ["name_index","get_name"] "extrainfo" [["number","text"],["number"]])
 f93:FnK K 93 92 "_parse_varint.<locals>." 12 (PosB ["iterator"])
 f100:FnK K 100 99 "_ellipsis_match.<locals>." 15 (PosB ["want","got"])
 f110:FnK K 110 109 "ISTERMINAL.<locals>." 68 (PosB ["x"])
 f117:FnK K 117 116 "ISNONTERMINAL.<locals>." 69 (PosB ["x"])
 f124:FnK K 124 123 "ISEOF.<locals>." 70 (PosB ["x"])
 f131:FnK K 131 130 "_law_formula.<locals>." 72 (PosB ["x","leaves","minus","join"])
 f136:FnK K 136 135 "_law_number.<locals>." 73 (PosB ["row"])
 f141:FnK K 141 140 "_law_filled.<locals>." 74 (PosB ["form","numerals"])
 f146:FnK K 146 145 "_law_tape.<locals>." 75 (PosB ["row","w"])
 f153:FnK K 153 152 "_law_division.<locals>." 76 (PosB ["y","number"])
 f158:FnK K 158 157 "_law_fits.<locals>." 77 (PosB ["pieces","text"])
 f165:FnK K 165 164 "_law_answer.<locals>." 78 (PosB ["index","number","text","divisions","pattern","told"])
 f170:FnK K 170 169 "_law_read.<locals>." 79 (PosB ["tape","ask"])
 f175:FnK K 175 174 "_law_holds.<locals>." 80 (PosB ["own","other","formula","shape","y","v","z","w"])
 f180:FnK K 180 179 "law.<locals>." 81 (PosB ["script"])
 t1:K.lookup 101=some ⟨.type "dict",none,.dict (dEnt K 101) (dNum K 101),#[]⟩
 t2:KeysLit P (dEnt K 101).toList
 t3:∀ x i,tokTab.lookup x=some i->∃ t,nsIn K 101 x=some (some (.int i t))
structure BOk (B:BC):Prop extends KOk B.K B.w.params where
 tabs:B.tabs=[(41,37),(174,172),(34,30),(179,177)]
 tq:B.tq=tqTab
 clo:B.clo=cloTab
end
section
noncomputable def opt {α β:Type} (z:β) (g:α->β) (o:Option α):β:=@Option.rec α (λ u=>β) z g o
noncomputable def key (p:Pos):Nat:=p.line*1000+p.col
noncomputable def fdI (x:Str) (l:List Str):Option {i:Nat // l[i]?=some x}:=
 @List.rec Str (λ l=>Option {i:Nat // l[i]?=some x}) none (λ y l r=>if h:y=x then some ⟨0,congrArg some h⟩ else opt none (λ q=>some ⟨q.1+1,q.2⟩) r) l
noncomputable def fdT {α:Type} (x:Str) (l:List (Str×α)):Option {a:α // (x,a)∈l}:=
 @List.rec (Str×α) (λ l=>Option {a:α // (x,a)∈l}) none (λ q l r=>if h:q.1=x then some ⟨q.2,by rw [<- h];exact .head _⟩ else opt none (λ a=>some ⟨a.1,.tail _ a.2⟩) r) l
noncomputable def onCo {M:Expr->Type} (z:∀ e,M e) (f:∀ c n p,M (.Constant c n p)) (e:Expr):M e:=
 onEx z (λ o o o=>z _) (λ o o o o=>z _) (λ o o o=>z _) (λ o o o o=>z _) (λ o o o o=>z _) (λ o o o o o=>z _) (λ o o o o=>z _) (λ o o o o=>z _) f (λ o o o=>z _) (λ o o o=>z _) (λ o o=>z _) (λ o o=>z _) (λ o o o=>z _) (λ o o o o=>z _) e
noncomputable def koK (o:Option Expr):Option {i:Int // ∃ n p,o=some (.Constant (.int i) n p)}:=
 @Option.casesOn Expr (λ o=>Option {i:Int // ∃ n p,o=some (.Constant (.int i) n p)}) o none (onCo (M:=λ e=>Option {i:Int // ∃ n p,some e=some (.Constant (.int i) n p)}) (λ z=>none) λ c n p=>
  @Const.casesOn (λ c=>Option {i:Int // ∃ m q,some (Expr.Constant c n p)=some (.Constant (.int i) m q)}) c none (λ z=>none) (λ i=>some ⟨i,n,p,rfl⟩) (λ z=>none) (λ z z=>none) (λ z=>none) (λ z=>none) none)
noncomputable def voK (e:Expr):Option {x:Str // ∃ n p,e=.Constant (.str x) n p}:=
 onCo (M:=λ e=>Option {x:Str // ∃ n p,e=.Constant (.str x) n p}) (λ z=>none) (λ c n p=>@Const.casesOn (λ c=>Option {x:Str // ∃ m q,Expr.Constant c n p=.Constant (.str x) m q}) c none (λ z=>none) (λ z=>none) (λ z=>none) (λ z z=>none) (λ x=>some ⟨x,n,p,rfl⟩) (λ z=>none) none) e
noncomputable def LitD (ks:List (Option Expr)) (vs:List Expr) (l:List (Int×Str)):Prop:=LitKV ks vs l/\ks.all (·.isSome)=true/\ks.length=l.length/\vs.length=l.length
theorem LitD.cons {k:Option Expr} {ks:List (Option Expr)} {v:Expr} {vs:List Expr} {i:Int} {x:Str} {l:List (Int×Str)} (h:∃ n p,k=some (.Constant (.int i) n p)) (h2:∃ n p,v=.Constant (.str x) n p) (d:LitD ks vs l):LitD (k::ks) (v::vs) ((i,x)::l):=by
 obtain ⟨n,p,rfl⟩:=h
 exact ⟨⟨⟨n,p,rfl⟩,h2,d.1⟩,d.2.1,congrArg (·+1) d.2.2.1,congrArg (·+1) d.2.2.2⟩
noncomputable def liK (ks:List (Option Expr)):∀ vs,Option {l:List (Int×Str) // LitD ks vs l}:=
 @List.rec (Option Expr) (λ ks=>∀ vs,Option {l:List (Int×Str) // LitD ks vs l}) (λ vs=>@List.casesOn Expr (λ vs=>Option {l:List (Int×Str) // LitD [] vs l}) vs (some ⟨[],trivial,rfl,rfl,rfl⟩) λ z z=>none)
  (λ k ks g vs=>@List.casesOn Expr (λ vs=>Option {l:List (Int×Str) // LitD (k::ks) vs l}) vs none λ v vs=>opt none (λ i=>opt none (λ x=>opt none (λ l=>some ⟨(i.1,x.1)::l.1,.cons i.2 x.2 l.2⟩) (g vs)) (voK v)) (koK k)) ks
theorem JE.dictC {B:BC} {κ:Sc} {k:Nat} {ks:List (Option Expr)} {vs:List Expr} {p:Pos} {l:List (Int×Str)} (h:LitD ks vs l) (h0:ks≠[]) (h15:l.length<=15) (hnd:(l.map (·.1)).Nodup):JE B κ k (.Dict ks vs p) (E.dict l):=
 JE.dict h.1 h.2.1 (h.2.2.1.trans h.2.2.2.symm) h0 (by rw [h.2.2.1];exact h15) hnd h15
structure Side (e:Expr):Prop where
 star:∀ es env,starEach (e::es) env=(false,eval e env)::starEach es env
 fold:∀ env x,foldedSetIterable e env x=pure x
 sub:∀ o i,subscripted e false o i=operate [o,i] (getItem o i)
 aug:∀ ov iv new,augStore e ov iv new=(do holding [new,ov,iv] (PySem.setItem ov iv new);release [new,ov,iv] [];pure .next)
 mark:∀ op,behindInMarks op e=false
noncomputable def side (e:Expr):Option (PLift (Side e)):=
 @Expr.casesOn (λ e=>Option (PLift (Side e))) e (λ z z z=>some ⟨λ z z=>rfl,λ z z=>rfl,λ z z=>rfl,λ z z z=>rfl,λ z=>rfl⟩) (λ z z z=>none) (λ z z z z=>some ⟨λ z z=>rfl,λ z z=>rfl,λ z z=>rfl,λ z z z=>rfl,λ z=>rfl⟩) (λ z z z=>some ⟨λ z z=>rfl,λ z z=>rfl,λ z z=>rfl,λ z z z=>rfl,λ z=>rfl⟩) (λ z z z z=>some ⟨λ z z=>rfl,λ z z=>rfl,λ z z=>rfl,λ z z z=>rfl,λ z=>rfl⟩) (λ z z z z=>some ⟨λ z z=>rfl,λ z z=>rfl,λ z z=>rfl,λ z z z=>rfl,λ z=>rfl⟩) (λ z z z=>none) (λ z z z=>none) (λ z z z z=>some ⟨λ z z=>rfl,λ z z=>rfl,λ z z=>rfl,λ z z z=>rfl,λ z=>rfl⟩) (λ z z z z=>none) (λ z z z z z=>some ⟨λ z z=>rfl,λ z z=>rfl,λ z z=>rfl,λ z z z=>rfl,λ z=>rfl⟩) (λ z z z z=>none) (λ z z=>none) (λ z z=>none) (λ z z=>none) (λ z z z z=>some ⟨λ z z=>rfl,λ z z=>rfl,λ z z=>rfl,λ z z z=>rfl,λ z=>rfl⟩) (λ z z z z=>some ⟨λ z z=>rfl,λ z z=>rfl,λ z z=>rfl,λ z z z=>rfl,λ z=>rfl⟩) (λ z z z z=>none) (λ z z=>none) (λ z z z=>some ⟨λ z z=>rfl,λ z z=>rfl,λ z z=>rfl,λ z z z=>rfl,λ z=>rfl⟩) (λ z z z=>none) (λ z z z=>some ⟨λ z z=>rfl,λ z z=>rfl,λ z z=>rfl,λ z z z=>rfl,λ z=>rfl⟩) (λ z z=>none) (λ z z=>some ⟨λ z z=>rfl,λ z z=>rfl,λ z z=>rfl,λ z z z=>rfl,λ z=>rfl⟩) (λ z z=>some ⟨λ z z=>rfl,λ z z=>rfl,λ z z=>rfl,λ z z z=>rfl,λ z=>rfl⟩) (λ z z z=>some ⟨λ z z=>rfl,λ z z=>rfl,λ z z=>rfl,λ z z z=>rfl,λ z=>rfl⟩) (λ z z z z=>none)
section
variable {B:BC} {k:Nat} {κ:Sc}
noncomputable abbrev RE (B:BC) (k:Nat) (κ:Sc) (e:Expr):={f:PE // JE B κ k e f}
noncomputable abbrev RT (B:BC) (k:Nat) (κ:Sc) (e:Expr):={f:PT // JT B κ k e f}
noncomputable abbrev RL (B:BC) (k:Nat) (κ:Sc) (es:List Expr):={f:PL // JL B κ k es f}
noncomputable abbrev RI (B:BC) (k:Nat) (κ:Sc) (e tgt:Expr):={f:PL // JI B κ k e tgt f}
noncomputable abbrev R1 (B:BC) (k:Nat) (κ:Sc) (st:Stmt):={f:PS // J1 B κ k st f}
noncomputable abbrev RX (B:BC) (k:Nat) (κ:Sc) (st:Stmt):={f:PS // J1x B κ k st f}
noncomputable abbrev RS (B:BC) (k:Nat) (κ:Sc) (l:List Stmt):={f:PS // JS B κ k l f}
noncomputable def RE.z {e:Expr}:RE B k κ e:=⟨λ o o o o=>False,λ o o o o o o o o o o o o h=>h.elim⟩
noncomputable def RT.z {e:Expr}:RT B k κ e:=⟨λ o o o o=>False,λ o o o o o o o o o o o o h=>h.elim⟩
noncomputable def RL.z {e:List Expr}:RL B k κ e:=⟨λ o o o o=>False,λ o o o o o o o o o o o o o h=>h.elim⟩
noncomputable def RI.z {e tgt:Expr}:RI B k κ e tgt:=⟨λ o o o o=>False,λ o o o o o o o o o o o o h=>h.elim⟩
noncomputable def R1.z {st:Stmt}:R1 B k κ st:=⟨λ o o o o o o=>False,λ o o o o o o o o o o o o o o o h=>h.elim⟩
noncomputable def RX.z {st:Stmt}:RX B k κ st:=⟨λ o o o o o o=>False,λ o o o o o o o o o o o o o o o h=>h.elim⟩
noncomputable def RS.z {l:List Stmt}:RS B k κ l:=⟨S.bot,JS.bot⟩
structure Hk (B:BC) (k:Nat) where
 hB:BOk B
 alt:List Nat
 ap:List (Str×{a:AV->Option FS // AppOk B k true a})
 ap0:List (Str×{a:AV->Option FS // AppOk B k false a})
 apK:List (Str×(List Str)×(AV->Option FS))
 hK:∀ q∈apK,AppOkK B k true q.2.1 q.2.2
 e:∀ κ e,RE B k κ e
 s:∀ κ st,R1 B k κ st
variable (H:Hk B k)
structure Bi (B:BC) where
 x:Str
 T:String
 o:OpL
 ok:BiOk B (.builtin T) o
 v:bootBuiltins x=some (.builtin T)
 n:x≠"__name__"
noncomputable def biL:List (Bi B):=[⟨"len","len",opLen,len_ok,by kernel_rfl,by decide⟩,⟨"divmod","divmod",opDivmod,divmod_ok,by kernel_rfl,by decide⟩,⟨"max","max",opMax,max_ok,by kernel_rfl,by decide⟩,⟨"sum","sum",opSum,sum_ok,by kernel_rfl,by decide⟩,⟨"min","min",opMin,min_ok,by kernel_rfl,by decide⟩,⟨"chr","chr",opChr,chr_ok,by kernel_rfl,by decide⟩,⟨"isinstance","isinstance",opIsTup,isTup_ok,by kernel_rfl,by decide⟩]
structure Bx (B:BC) where
 x:Str
 T:String
 o:FS
 ok:BxOk B (.builtin T) o
 v:bootBuiltins x=some (.builtin T)
 n:x≠"__name__"
noncomputable def bxL:List (Bx B):=[⟨"iter","iter",opIter,iter_ok,by kernel_rfl,by decide⟩,⟨"next","next",opNext,next_ok,by kernel_rfl,by decide⟩]
structure Me (B:BC) where
 x:Str
 T:String
 id:String
 o:OpM
 pa:PlainAttrs T
 sl:Slot T x id
 ty:typeOf (.builtin id)=pure (.type "method_descriptor")
 ok:MetOk B T id o
noncomputable def meL:List (Me B):=[⟨"bit_length",_,_,opBits,PySem.F.plainAttrs_int,PySem.F.slot_int_bit_length,rfl,bits_ok⟩,⟨"startswith",_,_,opStarts,PySem.F.plainAttrs_str,PySem.F.slot_str_startswith,rfl,starts_ok⟩,⟨"endswith",_,_,opEnds,PySem.F.plainAttrs_str,PySem.F.slot_str_endswith,rfl,ends_ok⟩,
 ⟨"find",_,_,opFind,PySem.F.plainAttrs_str,PySem.F.slot_str_find,rfl,find_ok⟩,⟨"append",_,_,opAppend,PySem.F.plainAttrs_list,PySem.F.slot_list_append,rfl,append_ok⟩,⟨"pop",_,_,opPop,PySem.F.plainAttrs_list,PySem.F.slot_list_pop,rfl,pop_ok⟩,⟨"reverse",_,_,opReverse,PySem.F.plainAttrs_list,PySem.F.slot_list_reverse,rfl,reverse_ok⟩,
 ⟨"split",_,_,opSplit,PySem.F.plainAttrs_str,PySem.F.slot_str_split,rfl,split_ok⟩,⟨"join",_,_,opJoin,PySem.F.plainAttrs_str,PySem.F.slot_str_join,rfl,join_ok⟩,⟨"get",_,_,opGet,PySem.F.plainAttrs_dict,PySem.F.slot_dict_get,rfl,get_ok⟩]
noncomputable def fdX {α:Type} (f:α->Str) (x:Str) (l:List α):Option {a:α // f a=x}:=@List.rec α (λ z=>Option {a:α // f a=x}) none (λ a z r=>if h:f a=x then some ⟨a,h⟩ else r) l
noncomputable def opK (op:Operator):Option {o:AV->AV->(AV->Prop)->Prop // OpOk B op o}:=
 @Operator.casesOn (λ op=>Option {o:AV->AV->(AV->Prop)->Prop // OpOk B op o}) op (some ⟨_,add_ok⟩) (some ⟨_,sub_ok⟩) (some ⟨_,mul_ok⟩) none none (some ⟨_,mod_ok⟩) (some ⟨_,pow_ok⟩) (some ⟨_,shl_ok⟩) (some ⟨_,shr_ok⟩) (some ⟨_,or_ok⟩) (some ⟨_,xor_ok⟩) (some ⟨_,and_ok⟩) (some ⟨_,div_ok⟩)
noncomputable def inK (op:Operator):Option {o:OpS // InOk B op o}:=
 @Operator.casesOn (λ op=>Option {o:OpS // InOk B op o}) op (some ⟨_,inAdd_ok⟩) (some ⟨_,inSub_ok⟩) none none none none none (some ⟨_,inShl_ok⟩) none (some ⟨_,inOr_ok⟩) none none none
noncomputable def shp (e:Expr):Nat:=onEx (M:=λ z=>Nat) (λ z=>0) (λ z z z=>0) (λ z z z z=>0) (λ z z z=>0) (λ z z z z=>0) (λ z z z z=>0) (λ z z z z z=>0) (λ z z z z=>0) (λ z z z z=>0) (λ c z z=>if c=.none then 2 else 1) (λ z z z=>0) (λ z z z=>0) (λ z z=>0) (λ l z=>if l.isEmpty then 3 else 0) (λ z z z=>0) (λ z z z z=>0) e
noncomputable def cmK (op:CmpOp) (c:Nat):Option {o:CmpS // CmpOk B op o}:=
 @CmpOp.casesOn (λ op=>Option {o:CmpS // CmpOk B op o}) op (some ⟨_,eq_ok⟩) (some ⟨_,ne_ok⟩) (some ⟨_,lt_ok⟩) (some ⟨_,le_ok⟩) (some ⟨_,gt_ok⟩) (some ⟨_,ge_ok⟩) (some ⟨_,is_ok⟩) (if c=2 then some ⟨_,isNotN_ok⟩ else some ⟨_,isNot_ok⟩) (if c=1 then some ⟨_,inS_ok⟩ else some ⟨_,in_ok⟩) (some ⟨_,notInS_ok⟩)
theorem gvK (hB:BOk B) {x:Str} {v:Value} (h:(x,v)∈gvTab):nsIn B.K mainGlobals x=some (some v):=List.map_inj_left.mp hB.g1 _ h
theorem buK (hB:BOk B) {x:Str} {v:Value} (h:(x,v)∈buTab):nsIn B.K mainGlobals x=some none:=List.map_inj_left.mp hB.g0 _ h
theorem buM (hB:BOk B) {x:Str} (h:x∈buTab.map (·.1)):nsIn B.K mainGlobals x=some none:=by
 obtain ⟨⟨y,v⟩,m,rfl⟩:=List.mem_map.mp h
 exact buK hB m
noncomputable def gvE (hB:BOk B) {x:Str} {p:Pos} (hl:κ.scope.names.lookup x=some .globalImplicit) (hd:(x==("__debug__":Str))=false) (v:Value) (h:nsIn B.K mainGlobals x=some (some v)):RE B k κ (.Name x p):=
 @Value.casesOn (λ v=>nsIn B.K mainGlobals x=some (some v)->RE B k κ (.Name x p)) v (λ o=>.z) (λ o=>.z) (λ o=>.z) (λ o o=>.z) (λ i t h=>⟨_,JE.gint hl hd h⟩) (λ o o o=>.z) (λ y t h=>⟨_,JE.gstr hl hd h⟩) (λ o o o=>.z) (λ o o=>.z) (λ o o=>.z) (λ a h=>⟨_,JE.gval hl hd h⟩) h
noncomputable def naE (x:Str) (p:Pos):RE B k κ (.Name x p):=
 if hd:(x==("__debug__":Str))=false then
  if hl:κ.scope.names.lookup x=some .local then opt .z (λ q=>⟨E.loc q.1,JE.loc q.2 hl hd⟩) (fdI x κ.loc)
  else if hl:κ.scope.names.lookup x=some .cell\/κ.scope.names.lookup x=some .free then
   if hc:(x==("__classdict__":Str))=false then opt .z (λ q=>⟨E.cel q.1,JE.cel q.2 hl hd hc⟩) (fdI x κ.cel) else .z
  else if hl:κ.scope.names.lookup x=some .globalImplicit then
   opt (opt .z (λ q=>if h:bootBuiltins x=some q.1/\x≠"__name__" then ⟨_,JE.bval hl hd (buK H.hB q.2) h.1 h.2⟩ else .z) (fdT x buTab)) (λ q=>gvE H.hB hl hd q.1 (gvK H.hB q.2)) (fdT x gvTab)
  else .z
 else .z
end
end
section
section
variable {B:BC} {k:Nat} {κ:Sc}
variable (H:Hk B k)
noncomputable def NS (es:List Expr):Prop:=∀ pos env,(backTo pos (starEach es env)).any (·.1)=false/\(backTo pos (starEach es env)).all (λ x=>!x.1)=true
theorem NS.cons {e:Expr} {es:List Expr} (h:Side e) (n:NS es):NS (e::es):=λ pos env=>by
 rw [h.star];exact n pos env
noncomputable def nsK (es:List Expr):Option (PLift (NS es)):=
 @List.rec Expr (λ es=>Option (PLift (NS es))) (some ⟨λ z z=>⟨rfl,rfl⟩⟩) (λ e es r=>opt none (λ h=>opt none (λ n=>some ⟨.cons h.1 n.1⟩) r) (side e)) es
noncomputable abbrev RR (B:BC) (k:Nat):=∀ κ e,RE B k κ e×RT B k κ e
variable (r:RR B k)
noncomputable def pL (κ:Sc) (es:List Expr):RL B k κ es:=
 @List.rec Expr (λ es=>RL B k κ es) ⟨L.nil,JL.nil⟩ (λ e es g=>opt .z (λ h=>⟨L.cons (r κ e).1.1 g.1,JL.cons (r κ e).1.2 g.2 (h.1.star es)⟩) (side e)) es
noncomputable def pO (κ:Sc) (op:BoolOp) (es:List Expr):{f:PE // JO B κ k op es f}:=
 @List.rec Expr (λ es=>{f:PE // JO B κ k op es f}) ⟨λ z z z z=>False,λ z z z z z z z z z z z z z h=>h.elim⟩ (λ e es=>
  @List.casesOn Expr (λ es=>{f:PE // JO B κ k op es f}->{f:PE // JO B κ k op (e::es) f}) es (λ z=>⟨(r κ e).1.1,JO.one (r κ e).1.2⟩) λ x es=>
   @BoolOp.casesOn (λ op=>{f:PE // JO B κ k op (x::es) f}->{f:PE // JO B κ k op (e::x::es) f}) op (λ g=>⟨_,JO.and (r κ e).1.2 g.2⟩) (λ g=>⟨_,JO.or (r κ e).1.2 g.2⟩)) es
noncomputable def pA (κ:Sc) (op:BoolOp) (es:List Expr):{f:PT // JA B κ k op es f}:=
 @BoolOp.casesOn (λ op=>{f:PT // JA B κ k op es f}) op (@List.rec Expr (λ es=>{f:PT // JA B κ k .And es f}) ⟨_,JA.andNil⟩ (λ e es g=>⟨_,JA.and (r κ e).2.2 g.2⟩) es) (@List.rec Expr (λ es=>{f:PT // JA B κ k .Or es f}) ⟨_,JA.orNil⟩ (λ e es g=>⟨_,JA.or (r κ e).2.2 g.2⟩) es)
noncomputable def pP (κ:Sc) (o:Option Expr):{f:PPart // JPart B κ k o f}:=
 @Option.casesOn Expr (λ o=>{f:PPart // JPart B κ k o f}) o ⟨_,JPart.no⟩ λ e=>⟨_,JPart.of (r κ e).1.2⟩
noncomputable def cX (κ:Sc) (x:Str) (np:Pos) (e:Expr) (es:List Expr) (p:Pos) (hg:κ.scope.names.lookup x=some .globalImplicit/\(x==("__debug__":Str))=false/\x∈buTab.map (·.1)):RE B k κ (.Call (.Name x np) (e::es) [] p):=
 @List.casesOn Expr (λ es=>RE B k κ (.Call (.Name x np) (e::es) [] p)) es (onNm (M:=λ e=>RE B k κ (.Call (.Name x np) [e] [] p)) (λ o=>.z) (λ y q=>if h:x="str"/\κ.scope.names.lookup y=some .local/\(y==("__debug__":Str))=false then
  opt .z (λ i=>⟨E.strX i.1,by obtain ⟨rfl,h2,h3⟩:=h;exact JE.strX hg.1 (buM H.hB hg.2.2) i.2 h2 h3 λ o=>rfl⟩) (fdI y κ.loc) else .z) e) λ o o=>.z
noncomputable def cN (κ:Sc) (x:Str) (np:Pos) (as:List Expr) (p:Pos):RE B k κ (.Call (.Name x np) as [] p):=
 @List.casesOn Expr (λ as=>RE B k κ (.Call (.Name x np) as [] p)) as .z λ e es=>opt .z (λ he=>
  if hg:κ.scope.names.lookup x=some .globalImplicit/\(x==("__debug__":Str))=false/\x∈buTab.map (·.1) then
   opt .z (λ hs=>
    opt (opt (cX H κ x np e es p hg) (λ q=>⟨E.appX q.1.o (pL r κ (e::es)).1,by
      rcases q with ⟨q,rfl⟩
      exact JE.appX q.ok hg.1 hg.2.1 (buM H.hB hg.2.2) q.v q.n (pL r κ (e::es)).2 (he.1.star es) λ env=>(hs.1 p env).1⟩) (fdX Bx.x x (bxL (B:=B))))
     (λ q=>⟨E.app q.1.o (pL r κ (e::es)).1,by
      rcases q with ⟨q,rfl⟩
      exact JE.appB q.ok hg.1 hg.2.1 (buM H.hB hg.2.2) q.v q.n (pL r κ (e::es)).2 (he.1.star es) λ env=>(hs.1 p env).1⟩) (fdX Bi.x x (biL (B:=B)))) (nsK es)
  else
   if key p∈H.alt then opt .z (λ a=>⟨_,JE.call a.1.2 (naE H x np).2 (pL r κ (e::es)).2 (he.1.star es) λ u=>rfl⟩) (fdT x H.ap0)
   else opt .z (λ a=>⟨_,JE.call a.1.2 (naE H x np).2 (pL r κ (e::es)).2 (he.1.star es) λ u=>rfl⟩) (fdT x H.ap)) (side e)
noncomputable def kwK (κ:Sc) (kws:List Keyword):Option {q:List Str×PL // JLK B κ k kws q.2/\∀ pos env,(backToKw pos (keywordEach kws env)).filterMap (·.1)=q.1/\(backToKw pos (keywordEach kws env)).all (·.1.isSome)=true/\kws.length=q.1.length}:=
 @List.rec Keyword (λ kws=>Option {q:List Str×PL // JLK B κ k kws q.2/\∀ pos env,(backToKw pos (keywordEach kws env)).filterMap (·.1)=q.1/\(backToKw pos (keywordEach kws env)).all (·.1.isSome)=true/\kws.length=q.1.length}) (some ⟨([],L.nil),JLK.nil,λ z z=>⟨rfl,rfl,rfl⟩⟩) (λ w ws g=>
  @Keyword.casesOn (λ w=>Option {q:List Str×PL // JLK B κ k (w::ws) q.2/\∀ pos env,(backToKw pos (keywordEach (w::ws) env)).filterMap (·.1)=q.1/\(backToKw pos (keywordEach (w::ws) env)).all (·.1.isSome)=true/\(w::ws).length=q.1.length}) w λ a v p=>
   @Option.casesOn Str (λ a=>Option {q:List Str×PL // JLK B κ k (⟨a,v,p⟩::ws) q.2/\∀ pos env,(backToKw pos (keywordEach (⟨a,v,p⟩::ws) env)).filterMap (·.1)=q.1/\(backToKw pos (keywordEach (⟨a,v,p⟩::ws) env)).all (·.1.isSome)=true/\(Keyword.mk a v p::ws).length=q.1.length}) a none λ x=>
    opt none (λ q=>some ⟨(x::q.1.1,L.cons (r κ v).1.1 q.1.2),JLK.cons (r κ v).1.2 q.2.1,λ pos env=>⟨congrArg (x::·) (q.2.2 pos env).1,(q.2.2 pos env).2.1,congrArg (·+1) (q.2.2 pos env).2.2⟩⟩) g) kws
noncomputable def cS (κ:Sc) (x:Str) (np:Pos) (e:Expr) (es:List Expr) (v:Expr) (kp p:Pos) (he:Side e):RE B k κ (.Call (.Name x np) (e::es) [⟨none,v,kp⟩] p):=
 opt .z (λ q=>if h:q.1.1=[("number":Str),"text"] then ⟨E.callS true q.1.2 "number" "text" (naE H x np).1 (pL r κ (e::es)).1 (r κ v).1.1,JE.callS (h▸H.hK _ q.2) (naE H x np).2 (pL r κ (e::es)).2 (r κ v).1.2 (by decide) (he.star es)⟩ else .z) (fdT x H.apK)
noncomputable def cK (κ:Sc) (x:Str) (np:Pos) (as:List Expr) (w:Keyword) (ws:List Keyword) (p:Pos):RE B k κ (.Call (.Name x np) as (w::ws) p):=
 @List.casesOn Expr (λ as=>RE B k κ (.Call (.Name x np) as (w::ws) p)) as .z λ e es=>opt .z (λ he=>
  opt (@Keyword.casesOn (λ w=>RE B k κ (.Call (.Name x np) (e::es) (w::ws) p)) w λ a v kp=>@Option.casesOn Str (λ a=>RE B k κ (.Call (.Name x np) (e::es) (⟨a,v,kp⟩::ws) p)) a (@List.casesOn Keyword (λ ws=>RE B k κ (.Call (.Name x np) (e::es) (⟨none,v,kp⟩::ws) p)) ws (cS H r κ x np e es v kp p he.1) λ o o=>.z) λ o=>.z)
   (λ d=>opt .z (λ q=>if h:q.1.1=d.1.1 then ⟨E.callK true q.1.2 (naE H x np).1 (pL r κ (e::es)).1 d.1.2,JE.callK (h▸H.hK _ q.2) (naE H x np).2 (pL r κ (e::es)).2 d.2.1 (he.1.star es) (λ env=>(d.2.2 p env).1) (λ env=>(d.2.2 p env).2.1) (d.2.2 p default).2.2⟩ else .z) (fdT x H.apK)) (kwK r κ (w::ws))) (side e)
theorem meSl (q:Me B) {x:Str} (h:q.x=x):Slot q.T x q.id:=h▸q.sl
noncomputable def bse (x:Str):∀ e,Option (PLift (∀ env,attributeBase e x env (eval e env)=eval e env)):=
 onEx (λ z=>none) (λ z z z=>none) (λ z z z z=>none) (λ z z z=>none) (λ z z z z=>none) (λ z z z z=>none) (λ z z z z z=>none) (λ z z z z=>none) (λ z z z z=>none) (λ z z z=>some ⟨λ z=>rfl⟩) (λ z z z=>none) (λ z z z=>none) (λ z z=>some ⟨λ z=>rfl⟩) (λ z z=>none) (λ z z z=>none) (λ z z z z=>none)
noncomputable def cM (κ:Sc) (ob:Expr) (x:Str) (ap:Pos) (as:List Expr) (p:Pos):RE B k κ (.Call (.Attribute ob x ap) as [] p):=
 opt .z (λ hb=>opt .z (λ q=>if hl:(ap.endLine==p.line)=true then
  @List.casesOn Expr (λ as=>RE B k κ (.Call (.Attribute ob x ap) as [] p)) as ⟨E.meth q.1.T q.1.o (r κ ob).1.1 L.nil,JE.meth0 q.1.pa (meSl q.1 q.2) q.1.ty q.1.ok (r κ ob).1.2 hb.1 hl⟩ λ e es=>
   opt .z (λ he=>opt .z (λ hs=>if hf:decide ((e::es).length+([]:List Keyword).length+(if ([]:List Keyword).isEmpty then 0 else 1)<30)=true then
    ⟨E.meth q.1.T q.1.o (r κ ob).1.1 (pL r κ (e::es)).1,JE.meth q.1.pa (meSl q.1 q.2) q.1.ty q.1.ok (r κ ob).1.2 (pL r κ (e::es)).2 hb.1 hl (λ env=>by rw [((NS.cons he.1 hs.1) p env).2];exact hf) (he.1.star es) λ env=>(hs.1 p env).1⟩ else .z) (nsK es)) (side e)
  else .z) (fdX Me.x x (meL (B:=B)))) (bse x ob)
noncomputable def cB (κ:Sc) (v s:Expr) (p:Pos):RE B k κ (.Subscript v s p):=
 opt .z (λ h=>onNm (M:=λ v=>RE B k κ (.Subscript v s p)) (λ v=>⟨_,JE.sub (r κ v).1.2 (r κ s).1.2 h.1.sub⟩) (λ x q=>
  if hx:κ.scope.names.lookup x=some .globalImplicit/\(x==("__debug__":Str))=false/\(x,Value.ref 101)∈gvTab then ⟨_,JE.subK H.hB.t1 H.hB.t2 H.hB.t3 (JE.gval hx.1 hx.2.1 (gvK H.hB hx.2.2)) (r κ s).1.2 h.1.sub⟩
  else ⟨_,JE.sub (r κ (.Name x q)).1.2 (r κ s).1.2 h.1.sub⟩) v) (side s)
noncomputable def cL (κ:Sc) (v:Expr) (lo hi st:Option Expr) (q p:Pos):RE B k κ (.Subscript v (.Slice lo hi st q) p):=
 @Option.casesOn Expr (λ st=>RE B k κ (.Subscript v (.Slice lo hi st q) p)) st (onNm (M:=λ v=>RE B k κ (.Subscript v (.Slice lo hi none q) p)) (λ o=>.z) (λ x n=>
  if x="text" then ⟨_,JE.sliceS (r κ (.Name x n)).1.2 (pP r κ lo).2 (pP r κ hi).2 λ o o=>rfl⟩ else ⟨_,JE.sliceL (r κ (.Name x n)).1.2 (pP r κ lo).2 (pP r κ hi).2 λ o o=>rfl⟩) v) λ o=>.z
noncomputable def loK (t:Expr):Option (PLift (∀ it v,letOwnedTupleGo t it v=pure ())):=onNm (M:=λ t=>Option (PLift (∀ it v,letOwnedTupleGo t it v=pure ()))) (λ z=>none) (λ z z=>some ⟨λ z z=>rfl⟩) t
noncomputable def iL (κ:Sc) (t e:Expr):RI B k κ e t:=opt .z (λ h=>⟨_,JI.lst (r κ e).1.2 h.1⟩) (loK t)
noncomputable def cI (κ:Sc) (t:Expr) (x:Str) (np:Pos) (as:List Expr) (p:Pos):RI B k κ (.Call (.Name x np) as [] p) t:=
 if hg:κ.scope.names.lookup x=some .globalImplicit/\x∈buTab.map (·.1) then
  @List.casesOn Expr (λ as=>RI B k κ (.Call (.Name x np) as [] p) t) as .z λ e es=>opt .z (λ he=>
   if h:x="range" then opt .z (λ hs=>opt .z (λ ht=>⟨Y.rng (pL r κ (e::es)).1,by subst h;exact JI.rng hg.1 (buM H.hB hg.2) (pL r κ (e::es)).2 (he.1.star es) (λ env=>(hs.1 p env).1) ht.1⟩) (loK t)) (nsK es)
   else @List.casesOn Expr (λ es=>RI B k κ (.Call (.Name x np) (e::es) [] p) t) es
    (if h:x="reversed" then opt .z (λ ht=>⟨Y.rev (pL r κ [e]).1,by subst h;exact JI.rev hg.1 (buM H.hB hg.2) (pL r κ [e]).2 (he.1.star []) ht.1⟩) (loK t)
     else if h:x="enumerate" then onTu (M:=λ t=>RI B k κ (.Call (.Name x np) [e] [] p) t) (λ o=>.z) (λ es n q=>⟨Y.enu (pL r κ [e]).1,by subst h;exact JI.enu hg.1 (buM H.hB hg.2) (pL r κ [e]).2 (he.1.star [])⟩) t else iL r κ t _)
    λ e₂ es=>@List.casesOn Expr (λ es=>RI B k κ (.Call (.Name x np) (e::e₂::es) [] p) t) es
      (if h:x="zip" then opt .z (λ hs=>onTu (M:=λ t=>RI B k κ (.Call (.Name x np) [e,e₂] [] p) t) (λ o=>.z) (λ es n q=>⟨Y.zip (pL r κ [e,e₂]).1,by subst h;exact JI.zip hg.1 (buM H.hB hg.2) (pL r κ [e,e₂]).2 (he.1.star [e₂]) λ env=>(hs.1 p env).1⟩) t) (nsK [e₂]) else .z) λ o o=>.z) (side e)
 else iL r κ t _
noncomputable def pI (κ:Sc) (t e:Expr):RI B k κ e t:=
 onEx (M:=λ e=>RI B k κ e t) (iL r κ t) (λ o o o=>iL r κ t _) (λ o o o o=>iL r κ t _) (λ o o o=>iL r κ t _) (λ o o o o=>iL r κ t _) (λ o o o o=>iL r κ t _) (λ o o o o o=>iL r κ t _) (λ o o o o=>iL r κ t _)
  (λ f as w p=>@List.casesOn Keyword (λ w=>RI B k κ (.Call f as w p) t) w (onNm (M:=λ f=>RI B k κ (.Call f as [] p) t) (λ o=>iL r κ t _) (λ x np=>cI H r κ t x np as p) f) λ o o=>.z)
  (λ c n p=>@Const.casesOn (λ c=>RI B k κ (.Constant c n p) t) c .z (λ o=>.z) (λ o=>.z) (λ o=>.z) (λ o o=>.z) (λ x=>if h:x.cps.all (·<128)=true then opt .z (λ ht=>⟨_,JI.str h ht.1⟩) (loK t) else .z) (λ o=>.z) .z)
  (λ o o o=>iL r κ t _) (λ o o o=>iL r κ t _) (λ o o=>iL r κ t _) (λ o o=>iL r κ t _) (λ l n p=>opt .z (λ h=>⟨_,JI.tup (r κ (.Tuple l n p)).1.2 h.1⟩) (loK t)) (λ o o o o=>iL r κ t _) e
noncomputable def tgK (κ:Sc) (x:Str):Option {t:Tg // TgOk κ x t}:=
 if hl:κ.scope.names.lookup x=some .local then opt none (λ q=>some ⟨.loc q.1,q.2,hl⟩) (fdI x κ.loc)
 else if hl:κ.scope.names.lookup x=some .cell then opt none (λ q=>some ⟨.cel q.1,q.2,hl⟩) (fdI x κ.cel) else none
noncomputable def tsK (κ:Sc) (es:List Expr):Option {ts:List Tg // TgsOk κ es ts}:=
 @List.rec Expr (λ es=>Option {ts:List Tg // TgsOk κ es ts}) (some ⟨[],trivial⟩) (λ e es g=>onNm (M:=λ e=>Option {ts:List Tg // TgsOk κ (e::es) ts}) (λ z=>none) (λ x p=>opt none (λ t=>opt none (λ q=>some ⟨t.1::q.1,⟨x,p,rfl,t.2⟩,q.2⟩) g) (tgK κ x)) e) es
noncomputable def tpK (κ:Sc) (e:Expr):Option {tp:TgP // TgPOk κ e tp}:=
 opt (onTu (M:=λ e=>Option {tp:TgP // TgPOk κ e tp}) (λ z=>none) (λ es n p=>opt none (λ q=>some ⟨.many q.1,es,n,p,rfl,q.2⟩) (tsK κ es)) e) some (onNm (M:=λ e=>Option {tp:TgP // TgPOk κ e tp}) (λ z=>none) (λ x p=>opt none (λ t=>some ⟨.one t.1,x,p,rfl,t.2⟩) (tgK κ x)) e)
noncomputable def nms (es:List Expr):List Str:=@List.rec Expr (λ z=>List Str) [] (λ e z g=>onNm (M:=λ z=>List Str) (λ z=>g) (λ x z=>x::g) e) es
noncomputable def tnm (e:Expr):List Str:=onTu (M:=λ z=>List Str) (λ e=>nms [e]) (λ es z z=>nms es) e
noncomputable def frs (sc:Scope):List Str:=(sc.names.filter λ q=>q.2== .free).map (·.1)
noncomputable def kC (κ:Sc) (sc:Scope) (gens:List Comprehension):Sc:=
 { scope:=relabelK κ.scope sc,loc:=(gens.flatMap λ g=>tnm g.target).filter λ x=>sc.names.lookup x==some .local,cel:=ownC sc.names++frs sc,code:=κ.code,qual:=κ.qual }
noncomputable def fmK (κ:Sc) (sc:Scope):List Nat:=(frs sc).map (κ.cel.idxOf ·)
noncomputable def okK (κ:Sc) (sc:Scope) (gens:List Comprehension):Option (PLift (CompOk κ (kC κ sc gens) sc (frs sc) (fmK κ sc))):=
 if h:sc.kind=.function/\(ownC sc.names).Nodup/\(∀ x∈frs sc,x∉ownC sc.names)/\(kC κ sc gens).loc.Nodup/\(sc.names.map (·.1)).Nodup/\(∀ x∈sc.names,x.2=.local->sc.names.lookup x.1=some .local)/\(∀ x∈sc.names,x.2=.free->x.1∈κ.cel)/\(∀ x∈frs sc,(x,NameKind.free)∈sc.names)/\(frs sc).map some=(fmK κ sc).map (κ.cel[·]?)
 then some ⟨rfl,h.1,rfl,h.2.1,h.2.2.1,h.2.2.2.1,h.2.2.2.2.1,h.2.2.2.2.2.1,h.2.2.2.2.2.2.1,h.2.2.2.2.2.2.2.1,h.2.2.2.2.2.2.2.2,λ c e=>⟨e,rfl⟩⟩ else none
noncomputable def ifK (κ:Sc) (l:List Expr):Option {t:PT // JF B κ k l t}:=
 @List.casesOn Expr (λ l=>Option {t:PT // JF B κ k l t}) l (some ⟨_,.nil⟩) λ c l=>@List.casesOn Expr (λ l=>Option {t:PT // JF B κ k (c::l) t}) l (some ⟨_,.one (r κ c).2.2⟩) λ z z=>none
noncomputable def inK2 (κ:Sc) (elt:Expr) (t i:Expr) (l:List Expr) (tp:TgP) (ts:PT) (rest:List Comprehension) (ht:TgPOk κ t tp) (hf:JF B κ k l ts):Option {c:PC // JC B κ k elt (⟨t,i,l,0⟩::rest) 0 t tp ts c}:=
 @List.casesOn Comprehension (λ rest=>Option {c:PC // JC B κ k elt (⟨t,i,l,0⟩::rest) 0 t tp ts c}) rest (some ⟨_,.last rfl rfl ht hf (r κ elt).1.2⟩) λ g rest=>@Comprehension.casesOn (λ g=>Option {c:PC // JC B κ k elt (⟨t,i,l,0⟩::g::rest) 0 t tp ts c}) g λ t' i' l' a=>
  @List.casesOn Comprehension (λ rest=>Option {c:PC // JC B κ k elt (⟨t,i,l,0⟩::⟨t',i',l',a⟩::rest) 0 t tp ts c}) rest (if ha:a=0 then opt none (λ tp'=>opt none (λ hi=>opt none (λ ts'=>some ⟨C.sub (pI H r κ t' i').1 tp'.1 ts'.1 (C.elt (r κ elt).1.1),by
   subst ha;exact .more rfl rfl ht hf (pI H r κ t' i').2 hi.1.fold (.last rfl rfl tp'.2 ts'.2 (r κ elt).1.2)⟩) (ifK r κ l')) (side i')) (tpK κ t') else none) λ z z=>none
noncomputable abbrev Cm (B:BC) (k:Nat) (κ:Sc) (elt t i:Expr) (l:List Expr) (rest:List Comprehension) (sc:Scope):={q:Sc×PL×TgP×PT×PC // CompOk κ q.1 sc (frs sc) (fmK κ sc)/\JI B κ k i t q.2.1/\JC B q.1 k elt (⟨t,i,l,0⟩::rest) 0 t q.2.2.1 q.2.2.2.1 q.2.2.2.2/\∀ env x,foldedSetIterable i env x=pure x}
noncomputable def cmp (κ:Sc) (elt t i:Expr) (l:List Expr) (rest:List Comprehension) (sc:Scope):Option (Cm B k κ elt t i l rest sc):=
 opt none (λ ok=>opt none (λ hi=>opt none (λ tp=>opt none (λ ts=>opt none (λ c=>some ⟨(kC κ sc (⟨t,i,l,0⟩::rest),(pI H r κ t i).1,tp.1,ts.1,c.1),ok.1,(pI H r κ t i).2,c.2,hi.1.fold⟩)
  (inK2 H r (kC κ sc (⟨t,i,l,0⟩::rest)) elt t i l tp.1 ts.1 rest tp.2 ts.2)) (ifK r (kC κ sc (⟨t,i,l,0⟩::rest)) l)) (tpK (kC κ sc (⟨t,i,l,0⟩::rest)) t)) (side i)) (okK κ sc (⟨t,i,l,0⟩::rest))
noncomputable def cmE {κ:Sc} {elt t i:Expr} {l:List Expr} {rest:List Comprehension} {sc:Scope} (c:Cm B k κ elt t i l rest sc):PE:=E.comp c.1.1.loc.length (ownC sc.names).length (fmK κ sc) c.1.2.1 c.1.2.2.1 c.1.2.2.2.1 c.1.2.2.2.2
noncomputable def cC (κ:Sc) (elt:Expr) (gens:List Comprehension) (sc:Scope) (p:Pos):RE B k κ (.ListComp elt gens sc p):=
 @List.casesOn Comprehension (λ gens=>RE B k κ (.ListComp elt gens sc p)) gens .z λ g rest=>@Comprehension.casesOn (λ g=>RE B k κ (.ListComp elt (g::rest) sc p)) g λ t i l a=>
  if ha:a=0 then opt .z (λ c=>⟨cmE c,by subst ha;exact JE.comp c.2.1 c.2.2.1 c.2.2.2.1 c.2.2.2.2⟩) (cmp H r κ elt t i l rest sc) else .z
noncomputable def cD (κ:Sc) (kx vx:Expr) (gens:List Comprehension) (sc:Scope) (p:Pos):RE B k κ (.DictComp kx vx gens sc p):=
 @List.casesOn Comprehension (λ gens=>RE B k κ (.DictComp kx vx gens sc p)) gens .z λ g rest=>@Comprehension.casesOn (λ g=>RE B k κ (.DictComp kx vx (g::rest) sc p)) g λ t i l a=>
  @List.casesOn Expr (λ l=>RE B k κ (.DictComp kx vx (⟨t,i,l,a⟩::rest) sc p)) l (@List.casesOn Comprehension (λ rest=>RE B k κ (.DictComp kx vx (⟨t,i,[],a⟩::rest) sc p)) rest
   (if ha:a=0 then opt .z (λ ok=>opt .z (λ hi=>opt .z (λ tp=>⟨E.dcomp (kC κ sc [⟨t,i,[],0⟩]).loc.length (ownC sc.names).length (fmK κ sc) (pI H r κ t i).1 tp.1 (r (kC κ sc [⟨t,i,[],0⟩]) kx).1.1 (r (kC κ sc [⟨t,i,[],0⟩]) vx).1.1,by
    subst ha;exact JE.dcomp ok.1 (pI H r κ t i).2 tp.2 (r _ kx).1.2 (r _ vx).1.2 hi.1.fold⟩) (tpK (kC κ sc [⟨t,i,[],0⟩]) t)) (side i)) (okK κ sc [⟨t,i,[],0⟩]) else .z) λ o o=>.z) λ o o=>.z
noncomputable def vT {κ:Sc} {e:Expr} (x:RE B k κ e) (h:∀ env whole,isTrue e env whole=(do let v <- whole;standAt e.pos;holding [v] (truthy v))):RE B k κ e×RT B k κ e:=(x,⟨T.val x.1,JT.val x.2 h⟩)
noncomputable def noT {κ:Sc} {e:Expr} (x:RE B k κ e):RE B k κ e×RT B k κ e:=(x,.z)
noncomputable def cP (κ:Sc) (l:Expr) (ops:List CmpOp) (rs:List Expr) (p:Pos):RE B k κ (.Compare l ops rs p)×RT B k κ (.Compare l ops rs p):=
 @List.casesOn CmpOp (λ ops=>RE B k κ (.Compare l ops rs p)×RT B k κ (.Compare l ops rs p)) ops (.z,.z) λ op ops=>@List.casesOn CmpOp (λ ops=>RE B k κ (.Compare l (op::ops) rs p)×RT B k κ (.Compare l (op::ops) rs p)) ops
  (@List.casesOn Expr (λ rs=>RE B k κ (.Compare l [op] rs p)×RT B k κ (.Compare l [op] rs p)) rs (.z,.z) λ x rs=>@List.casesOn Expr (λ rs=>RE B k κ (.Compare l [op] (x::rs) p)×RT B k κ (.Compare l [op] (x::rs) p)) rs
   (opt (.z,.z) (λ hm=>opt (.z,.z) (λ o=>(⟨_,JE.cmp o.2 (r κ l).1.2 (r κ x).1.2 (hm.1.mark op)⟩,if h:shp x=3/\op=.Eq then ⟨T.cmpD (r κ l).1.1 (r κ x).1.1,by obtain ⟨_,rfl⟩:=h;exact JT.cmpD (r κ l).1.2 (r κ x).1.2 (hm.1.mark _)⟩ else ⟨_,JT.cmp o.2 (r κ l).1.2 (r κ x).1.2 (hm.1.mark op)⟩)) (cmK op (shp x))) (side x)) λ u u=>(.z,.z)) λ u u=>(.z,.z)
noncomputable def isLi (e:Expr):Bool:=onEx (M:=λ z=>Bool) (λ z=>false) (λ z z z=>false) (λ z z z z=>false) (λ z z z=>false) (λ z z z z=>false) (λ z z z z=>false) (λ z z z z z=>false) (λ z z z z=>false) (λ z z z z=>false) (λ z z z=>false) (λ z z z=>false) (λ z z z=>false) (λ z z=>false) (λ z z=>true) (λ z z z=>false) (λ z z z z=>false) e
noncomputable def cDi (κ:Sc) (e:Expr):RE B k κ e:=@Expr.casesOn (λ e=>RE B k κ e) e (λ o o o=>H.e κ _) (λ o o o=>H.e κ _) (λ o o o o=>H.e κ _) (λ o o o=>H.e κ _) (λ o o o o=>H.e κ _) (λ o o o o=>H.e κ _) (λ ks vs p=>opt .z (λ l=>if c:ks.isEmpty=false/\l.1.length<=15/\(l.1.map (·.1)).Nodup then ⟨_,JE.dictC l.2 (λ h=>Bool.noConfusion ((congrArg List.isEmpty h).symm.trans c.1)) c.2.1 c.2.2⟩ else .z) (liK ks vs)) (λ o o o=>H.e κ _) (λ o o o o=>H.e κ _) (λ o o o o=>H.e κ _) (λ o o o o o=>H.e κ _) (λ o o o o=>H.e κ _) (λ o o=>H.e κ _) (λ o o=>H.e κ _) (λ o o=>H.e κ _) (λ o o o o=>H.e κ _) (λ o o o o=>H.e κ _) (λ o o o o=>H.e κ _) (λ o o=>H.e κ _) (λ o o o=>H.e κ _) (λ o o o=>H.e κ _) (λ o o o=>H.e κ _) (λ o o=>H.e κ _) (λ o o=>H.e κ _) (λ o o=>H.e κ _) (λ o o o=>H.e κ _) (λ o o o o=>H.e κ _)
noncomputable def stepE:RR B k:=λ κ=>onEx (M:=λ e=>RE B k κ e×RT B k κ e)
 (λ e=>noT (cDi H κ e))
 (λ o l p=>(⟨_,JE.boolop (pO r κ o l).2⟩,⟨_,JT.bool (pA r κ o l).2⟩))
 (λ a o b p=>vT (if h:o=.Mult/\isLi a=true then ⟨E.mulN (r κ a).1.1 (r κ b).1.1,by obtain ⟨rfl,_⟩:=h;exact JE.mulN (r κ a).1.2 (r κ b).1.2⟩ else opt .z (λ q=>⟨_,JE.bin q.2 (r κ a).1.2 (r κ b).1.2⟩) (opK o)) λ u u=>rfl)
 (λ o a p=>@UnaryOp.casesOn (λ o=>RE B k κ (.UnaryOp o a p)×RT B k κ (.UnaryOp o a p)) o (noT ⟨_,JE.inv (r κ a).1.2⟩) (⟨_,JE.not (r κ a).1.2⟩,⟨_,JT.not (r κ a).2.2⟩) (.z,.z) (noT ⟨_,JE.neg (r κ a).1.2⟩))
 (λ a b c p=>noT ⟨_,JE.ite (r κ a).2.2 (r κ b).1.2 (r κ c).1.2⟩) (λ e g s p=>noT (cC H r κ e g s p)) (λ a b g s p=>noT (cD H r κ a b g s p)) (λ l o x p=>cP r κ l o x p)
 (λ f as w p=>vT (onEx (M:=λ f=>RE B k κ (.Call f as w p)) (λ u=>.z) (λ u u u=>.z) (λ u u u u=>.z) (λ u u u=>.z) (λ u u u u=>.z) (λ u u u u=>.z) (λ u u u u u=>.z) (λ u u u u=>.z) (λ u u u u=>.z) (λ u u u=>.z)
  (λ ob x ap=>@List.casesOn Keyword (λ w=>RE B k κ (.Call (.Attribute ob x ap) as w p)) w (cM r κ ob x ap as p) λ u u=>.z) (λ u u u=>.z)
  (λ x np=>@List.casesOn Keyword (λ w=>RE B k κ (.Call (.Name x np) as w p)) w (cN H r κ x np as p) λ w ws=>cK H r κ x np as w ws p) (λ u u=>.z) (λ u u u=>.z) (λ u u u u=>.z) f) λ u u=>rfl)
 (λ c n p=>noT (@Const.casesOn (λ c=>RE B k κ (.Constant c n p)) c ⟨_,JE.cNone⟩ (λ u=>⟨_,JE.bool⟩) (λ u=>⟨_,JE.int⟩) (λ u=>.z) (λ u u=>.z) (λ u=>⟨_,JE.str⟩) (λ u=>.z) .z))
 (λ u u u=>(.z,.z)) (λ v s p=>vT (onEx (M:=λ s=>RE B k κ (.Subscript v s p)) (λ s=>cB H r κ v s p) (λ u u u=>cB H r κ v _ p) (λ u u u u=>cB H r κ v _ p) (λ u u u=>cB H r κ v _ p) (λ u u u u=>cB H r κ v _ p) (λ u u u u=>cB H r κ v _ p) (λ u u u u u=>cB H r κ v _ p) (λ u u u u=>cB H r κ v _ p) (λ u u u u=>cB H r κ v _ p) (λ u u u=>cB H r κ v _ p)
  (λ u u u=>cB H r κ v _ p) (λ u u u=>cB H r κ v _ p) (λ u u=>cB H r κ v _ p) (λ u u=>cB H r κ v _ p) (λ u u u=>cB H r κ v _ p) (λ lo hi st q=>cL r κ v lo hi st q p) s) λ u u=>rfl)
 (λ x p=>vT (if key p∈H.alt then ⟨_,JE.frz (naE H x p).2⟩ else naE H x p) λ u u=>rfl)
 (λ l p=>noT (if h:l.length<=100 then if key p∈H.alt then ⟨_,JE.new (pL r κ l).2 h⟩ else ⟨_,JE.lst (pL r κ l).2 h⟩ else .z))
 (λ l n p=>noT (if h:l.length<=100 then ⟨_,JE.tup (pL r κ l).2 h⟩ else .z))
 (λ u u u u=>(.z,.z))
noncomputable def prE (n:Nat):RR B k:=@Nat.rec (λ o=>RR B k) (λ o o=>(.z,.z)) (λ o r=>stepE H r) n
noncomputable def e0 (κ:Sc):Env:={ scope:=κ.scope,locals:=0,globals:=0,cells:=[] }
theorem sw0 {env:Env} {v:Expr} {t:Option Expr} {l:Nat} (h:env.scope=κ.scope):swapsWith v t l env=swapsWith v t l (e0 κ):=by
 cases env;cases h;rfl
theorem ss0 {env:Env} {v:Expr} {t:List Expr} (h:env.scope=κ.scope):swappedStores t v env=swappedStores t v (e0 κ):=by
 cases env;cases h;rfl
theorem swT {v t:Expr} {l:Nat} {b:Bool} (h:swapsWith v (some t) l (e0 κ)=pure b) (hb:b=false) (env:Env) (he:env.scope=κ.scope):swapsWithSole [t] v l env=pure false:=by
 subst hb;exact (sw0 (v:=v) (t:=some t) (l:=l) he).trans h
noncomputable def runK {α:Type} (m:Sem α):Option {a:α // m=pure a}:=
 @Sem.casesOn α (λ m=>Option {a:α // m=pure a}) m (λ a=>some ⟨a,rfl⟩) (λ z=>none) (λ z=>none) (λ z=>none) (λ z z=>none) (λ z z=>none) (λ z z z=>none) (λ z z z z=>none) (λ z z=>none) (λ z z=>none) (λ z z=>none) (λ z z=>none) (λ z=>none) (λ z=>none) (λ z z z=>none) (λ z z z=>none) (λ z z z z z=>none) (λ z z=>none) (λ z z=>none) (λ z z=>none) (λ z z z z=>none) (λ z z z z=>none) (λ z=>none) (λ z z=>none) (λ z=>none) (λ z z z z z=>none)
noncomputable def swK:∀ v,Option (PLift (∀ t l env,swapsWith v t l env=pure false)):=
 onEx (λ z=>none) (λ z z z=>none) (λ z z z z=>none) (λ z z z=>none) (λ z z z z=>none) (λ z z z z=>none) (λ z z z z z=>none) (λ z z z z=>none) (λ z z z z=>some ⟨λ z z z=>rfl⟩) (λ z z z=>none) (λ z z z=>none) (λ z z z=>none) (λ z z=>some ⟨λ z z z=>rfl⟩) (λ z z=>none) (λ z z z=>none) (λ z z z z=>none)
noncomputable def isLs (e:Expr):Bool:=onEx (M:=λ z=>Bool) (λ z=>false) (λ z z z=>false) (λ z z z z=>false) (λ z z z=>false) (λ z z z z=>false) (λ z z z z=>true) (λ z z z z z=>false) (λ z z z z=>false) (λ z z z z=>false) (λ z z z=>false) (λ z z z=>false) (λ z z z=>true) (λ z z=>false) (λ z z=>false) (λ z z z=>false) (λ z z z z=>false) e
noncomputable def aC (κ:Sc) (x:Str) (np:Pos) (elt:Expr) (gens:List Comprehension) (sc:Scope) (q p:Pos) (t:{t:Tg // TgOk κ x t}):swapsWith (.ListComp elt gens sc q) (some (.Name x np)) p.line (e0 κ)=pure true->R1 B k κ (.Assign [.Name x np] (.ListComp elt gens sc q) p):=
 @List.casesOn Comprehension (λ gens=>swapsWith (.ListComp elt gens sc q) (some (.Name x np)) p.line (e0 κ)=pure true->R1 B k κ (.Assign [.Name x np] (.ListComp elt gens sc q) p)) gens (λ o=>.z) λ g rest=>
  @Comprehension.casesOn (λ g=>swapsWith (.ListComp elt (g::rest) sc q) (some (.Name x np)) p.line (e0 κ)=pure true->R1 B k κ (.Assign [.Name x np] (.ListComp elt (g::rest) sc q) p)) g λ tg i l a h=>
   if ha:a=0 then opt .z (λ c=>⟨S.set t.1 (cmE c),by subst ha;exact J1.comp c.2.1 c.2.2.1 c.2.2.2.1 c.2.2.2.2 t.2 λ env he=>(sw0 he).trans h⟩) (cmp H r κ elt tg i l rest sc) else .z
noncomputable def aN (κ:Sc) (x:Str) (np:Pos) (v:Expr) (p:Pos):R1 B k κ (.Assign [.Name x np] v p):=
 opt .z (λ t=>opt .z (λ b=>if hb:b.1=false then ⟨_,J1.setC (r κ v).1.2 t.2 λ env he=>by rw [sw0 he,b.2,hb]⟩ else
  onEx (M:=λ v=>swapsWith v (some (.Name x np)) p.line (e0 κ)=pure true->R1 B k κ (.Assign [.Name x np] v p)) (λ o o=>.z) (λ o o o o=>.z) (λ o o o o o=>.z) (λ o o o o=>.z) (λ o o o o o=>.z) (λ e g s q=>aC H r κ x np e g s q p t) (λ o o o o o o=>.z) (λ o o o o o=>.z) (λ o o o o o=>.z) (λ o o o o=>.z)
   (λ o o o o=>.z) (λ o o o o=>.z) (λ o o o=>.z) (λ o o o=>.z) (λ o o o o=>.z) (λ o o o o o=>.z) v (by rw [b.2,(Bool.not_eq_false _).mp hb])) (runK (swapsWith v (some (.Name x np)) p.line (e0 κ)))) (tgK κ x)
noncomputable def nsO (κ:Sc) (xs:List Str):Option {ts:List Tg // NmsOk κ xs ts}:=
 @List.rec Str (λ xs=>Option {ts:List Tg // NmsOk κ xs ts}) (some ⟨[],trivial⟩) (λ x xs g=>opt none (λ t=>opt none (λ q=>some ⟨t.1::q.1,t.2,q.2⟩) g) (tgK κ x)) xs
noncomputable def aT (κ:Sc) (es:List Expr) (n:Nat) (tp:Pos) (v:Expr) (p:Pos):R1 B k κ (.Assign [.Tuple es n tp] v p):=
 opt .z (λ b=>if hb:b.1=false then opt .z (λ w=>@Option.casesOn (List Str) (λ o=>swappedStores [.Tuple es n tp] v (e0 κ)=pure o->R1 B k κ (.Assign [.Tuple es n tp] v p)) w.1
  (λ hw=>if isLs v then opt .z (λ ts=>⟨_,J1.setL (r κ v).1.2 ts.2 (swT b.2 hb) λ env he=>(ss0 he).trans hw⟩) (tsK κ es) else opt .z (λ t=>⟨_,J1.setP (r κ v).1.2 t.2 (swT b.2 hb) λ env he=>(ss0 he).trans hw⟩) (tpK κ (.Tuple es n tp)))
  (λ xs hw=>opt .z (λ ts=>if hl:xs.length=ts.1.reverse.length then ⟨_,J1.setW (ts:=ts.1.reverse) (r κ v).1.2 (by rw [List.reverse_reverse];exact ts.2) hl (swT b.2 hb) λ env he=>(ss0 he).trans hw⟩ else .z) (nsO κ xs.reverse)) w.2) (runK (swappedStores [.Tuple es n tp] v (e0 κ))) else .z) (runK (swapsWith v (some (.Tuple es n tp)) p.line (e0 κ)))
noncomputable def aS (κ:Sc) (o i:Expr) (q:Pos) (v:Expr) (p:Pos):R1 B k κ (.Assign [.Subscript o i q] v p):=opt .z (λ h=>⟨_,J1.setItem (r κ o).1.2 (r κ i).1.2 (r κ v).1.2 λ env=>h.1 _ _ env⟩) (swK v)
noncomputable def gA (κ:Sc) (ts:List Expr) (v:Expr) (p:Pos):R1 B k κ (.Assign ts v p):=
 @List.casesOn Expr (λ ts=>R1 B k κ (.Assign ts v p)) ts .z λ t ts=>@List.casesOn Expr (λ ts=>R1 B k κ (.Assign (t::ts) v p)) ts
  (onEx (M:=λ t=>R1 B k κ (.Assign [t] v p)) (λ u=>.z) (λ u u u=>.z) (λ u u u u=>.z) (λ u u u=>.z) (λ u u u u=>.z) (λ u u u u=>.z) (λ u u u u u=>.z) (λ u u u u=>.z) (λ u u u u=>.z) (λ u u u=>.z) (λ u u u=>.z) (λ o i q=>aS r κ o i q v p) (λ x np=>aN H r κ x np v p) (λ u u=>.z) (λ es n tp=>aT r κ es n tp v p) (λ u u u u=>.z) t) λ u u=>.z
noncomputable def gG (κ:Sc) (t:Expr) (op:Operator) (v:Expr) (p:Pos):R1 B k κ (.AugAssign t op v p):=
 opt .z (λ o=>onEx (M:=λ t=>R1 B k κ (.AugAssign t op v p)) (λ u=>.z) (λ u u u=>.z) (λ u u u u=>.z) (λ u u u=>.z) (λ u u u u=>.z) (λ u u u u=>.z) (λ u u u u u=>.z) (λ u u u u=>.z) (λ u u u u=>.z) (λ u u u=>.z) (λ u u u=>.z)
  (λ ob i q=>opt .z (λ h=>⟨_,J1.augItem o.2 (r κ ob).1.2 (r κ i).1.2 (r κ v).1.2 h.1.aug⟩) (side i)) (λ x q=>if hl:κ.scope.names.lookup x=some .local then opt .z (λ i=>⟨_,J1.aug o.2 i.2 hl (r κ v).1.2⟩) (fdI x κ.loc) else .z) (λ u u=>.z) (λ u u u=>.z) (λ u u u u=>.z) t) (inK op)
noncomputable def gX (κ:Sc):∀ st,RX B k κ st:=
 onSt (M:=λ st=>RX B k κ st) (λ o=>.z) (λ o o o o o o o o o o=>.z) (λ e p=>@Option.casesOn Expr (λ e=>RX B k κ (.Return e p)) e .z λ e=>⟨_,J1x.ret (r κ e).1.2⟩) (λ o o=>.z) (λ ts v p=>@List.casesOn Expr (λ ts=>RX B k κ (.Assign ts v p)) ts .z λ t ts=>@List.casesOn Expr (λ ts=>RX B k κ (.Assign (t::ts) v p)) ts (onNm (M:=λ t=>RX B k κ (.Assign [t] v p)) (λ o=>.z) (λ x o=>opt .z (λ t=>opt .z (λ h=>⟨_,J1x.set (r κ v).1.2 t.2 λ env=>h.1 _ _ env⟩) (swK v)) (tgK κ x)) t) λ o o=>.z) (λ o o o o=>.z) (λ o o o o o=>.z) (λ o o o o=>.z) (λ o o o o=>.z) (λ o o o=>.z) (λ o o o o o=>.z) (λ o o o=>.z) (λ o o=>.z) (λ o=>.z)
variable (s:∀ κ l,RS B k κ l)
theorem bbS:bootBuiltins ("StopIteration":Str)=some (.type "StopIteration"):=by kernel_rfl
theorem bbZ:bootBuiltins ("ZeroDivisionError":Str)=some (.type "ZeroDivisionError"):=by kernel_rfl
noncomputable def gT (κ:Sc) (st:Stmt) (x:Str) (np:Pos) (nm:Option Str) (b:Stmt) (bs:List Stmt) (hp p:Pos):R1 B k κ (.Try [st] [.ExceptHandler (some (.Name x np)) nm (b::bs) hp] [] [] p):=
 if hg:κ.scope.names.lookup x=some .globalImplicit/\(x==("__debug__":Str))=false/\x∈buTab.map (·.1)/\x≠"__name__" then
  @Option.casesOn Str (λ nm=>R1 B k κ (.Try [st] [.ExceptHandler (some (.Name x np)) nm (b::bs) hp] [] [] p)) nm
   (if h:x="StopIteration" then ⟨S.try "StopIteration" (gX r κ st).1 (s κ (b::bs)).1,J1.try (.inl rfl) hg.1 hg.2.1 (buM H.hB hg.2.2.1) (h▸bbS) hg.2.2.2 (gX r κ st).2 (s κ (b::bs)).2⟩ else .z)
   λ y=>if h:x="ZeroDivisionError"/\κ.scope.names.lookup y=some .local then opt .z (λ i=>⟨S.tryAs "ZeroDivisionError" i.1 (gX r κ st).1 (s κ (b::bs)).1,J1.tryAs (.inr rfl) hg.1 hg.2.1 (buM H.hB hg.2.2.1) (h.1▸bbZ) hg.2.2.2 i.2 h.2 (gX r κ st).2 (s κ (b::bs)).2⟩) (fdI y κ.loc) else .z
 else .z
noncomputable def gR (κ:Sc) (b:List Stmt) (hs:List ExceptHandler) (o f:List Stmt) (p:Pos):R1 B k κ (.Try b hs o f p):=match b,hs,o,f with
 | [st],[.ExceptHandler (some e) nm (b::bs) hp],[],[]=>onNm (M:=λ e=>R1 B k κ (.Try [st] [.ExceptHandler (some e) nm (b::bs) hp] [] [] p)) (λ u=>.z) (λ x np=>gT H r s κ st x np nm b bs hp p) e
 | _,_,_,_=>.z
noncomputable def gZ (κ:Sc) (e:Expr) (p:Pos):R1 B k κ (.Raise (some e) none p):=
 onNm (M:=λ e=>R1 B k κ (.Raise (some e) none p)) (λ o=>.z) (λ x np=>if h:x="ZeroDivisionError"/\κ.scope.names.lookup x=some .globalImplicit/\x∈buTab.map (·.1) then ⟨S.raiseZ,by obtain ⟨rfl,h1,h2⟩:=h;exact J1.raiseZ h1 (buM H.hB h2)⟩ else .z) e
noncomputable def onSu {M:Expr->Type} (z:∀ e,M e) (f:∀ o i p,M (.Subscript o i p)) (e:Expr):M e:=
 onEx z (λ u u u=>z _) (λ u u u u=>z _) (λ u u u=>z _) (λ u u u u=>z _) (λ u u u u=>z _) (λ u u u u u=>z _) (λ u u u u=>z _) (λ u u u u=>z _) (λ u u u=>z _) (λ u u u=>z _) f (λ u u=>z _) (λ u u=>z _) (λ u u u=>z _) (λ u u u u=>z _) e
noncomputable def g1 (κ:Sc):∀ st,R1 B k κ st:=
 onSt (M:=λ st=>R1 B k κ st) (λ u=>.z) (λ u u u u u u u u u u=>H.s κ _) (λ e p=>@Option.casesOn Expr (λ e=>R1 B k κ (.Return e p)) e ⟨_,J1.ret0⟩ λ e=>⟨_,J1.ret (r κ e).1.2⟩) (λ l p=>@List.casesOn Expr (λ l=>R1 B k κ (.Delete l p)) l .z λ e l=>@List.casesOn Expr (λ l=>R1 B k κ (.Delete (e::l) p)) l (onSu (M:=λ e=>R1 B k κ (.Delete [e] p)) (λ u=>.z) (λ o i u=>⟨_,J1.del (r κ o).1.2 (r κ i).1.2⟩) e) λ u u=>.z) (λ ts v p=>gA H r κ ts v p) (λ t op v p=>gG r κ t op v p) (λ t i b o p=>@List.casesOn Stmt (λ o=>R1 B k κ (.For t i b o p)) o (opt .z (λ h=>opt .z (λ tp=>⟨_,J1.for (pI H r κ t i).2 (s κ b).2 tp.2 h.1.fold⟩) (tpK κ t)) (side i)) λ u u=>.z) (λ t b o p=>@List.casesOn Stmt (λ o=>R1 B k κ (.While t b o p)) o ⟨_,J1.while (r κ t).2.2 (s κ b).2⟩ λ u u=>.z) (λ t b c p=>⟨_,J1.ite (r κ t).2.2 (s κ b).2 (s κ c).2⟩) (λ e c p=>@Option.casesOn Expr (λ e=>R1 B k κ (.Raise e c p)) e .z λ e=>@Option.casesOn Expr (λ c=>R1 B k κ (.Raise (some e) c p)) c (gZ H κ e p) λ u=>.z) (λ b h o f p=>gR H r s κ b h o f p) (λ t m p=>⟨_,J1.assert (r κ t).2.2⟩) (λ e p=>opt .z (λ h=>⟨_,J1.expr (r κ e).1.2 λ env=>h.1 _ _ env⟩) (swK e)) (λ p=>⟨_,J1.brk⟩)
noncomputable def posS:Stmt->Nat:=onSt (M:=λ st=>Nat) (λ z=>0) (λ z z z z z z z z z z=>0) (λ z p=>key p) (λ z z=>0) (λ z z p=>key p) (λ z z z z=>0) (λ z z z z z=>0) (λ z z z z=>0) (λ z z z p=>key p) (λ z z z=>0) (λ z z z z z=>0) (λ z z z=>0) (λ z z=>0) (λ z=>0)
noncomputable def gS (κ:Sc) (l:List Stmt):RS B k κ l:=@List.rec Stmt (λ l=>RS B k κ l) ⟨_,JS.nil⟩ (λ st l g=>if posS st∈H.alt then .z else ⟨_,JS.cons (g1 H r s κ st).2 g.2⟩) l
noncomputable def prS (n:Nat):∀ κ l,RS B k κ l:=@Nat.rec (λ o=>∀ κ l,RS B k κ l) (λ o o=>.z) (λ o s κ l=>gS H (prE H 30) s κ l) n
end
end
section
theorem js_of {B:BC} {k:Nat} {κ:Sc} {l:List Stmt} {p:PS} (x:RS B k κ l) (h:x.1=p):JS B κ k l p:=h▸x.2
theorem je_of {B:BC} {k:Nat} {κ:Sc} {e:Expr} {p:PE} (x:RE B k κ e) (h:x.1=p):JE B κ k e p:=h▸x.2
open Classical in
noncomputable def defS {B:BC} {k:Nat} (p:PS) (κ:Sc) (st:Stmt):R1 B k κ st:=if h:J1 B κ k st p then ⟨p,h⟩ else .z
theorem js_of1 {B:BC} {k:Nat} {κ κ':Sc} {l:List Stmt} {e:Stmt} {p:PS} (x:(∀ κ st,R1 B k κ st)->RS B k κ' l) (q:PS->PS) (h:∀ ls,(x ls).1=q (ls κ e).1) (j:J1 B κ k e p):JS B κ' k l (q p):=by
 have:=(x (defS p)).2
 rw [h,show (defS p κ e).1=p from congrArg Subtype.val (dif_pos j)] at this
 exact this
open Classical in
noncomputable def lamE {B:BC} {k:Nat} (t:List (Nat×PE)) (κ:Sc) (e:Expr):RE B k κ e:=opt .z (λ f=>if h:JE B κ k e f then ⟨f,h⟩ else .z) (t.lookup (key e.pos))
theorem lamE_eq {B:BC} {k:Nat} {t:List (Nat×PE)} {κ:Sc} {e:Expr} {f:PE} (h:t.lookup (key e.pos)=some f) (j:JE B κ k e f):(lamE (B:=B) (k:=k) t κ e).1=f:=by
 delta lamE
 rw [h]
 exact congrArg Subtype.val (dif_pos j)
noncomputable def gnE (e:Expr):List Comprehension:=@Expr.casesOn (λ z=>List Comprehension) e (λ z z z=>[]) (λ z z z=>[]) (λ z z z z=>[]) (λ z z z=>[]) (λ z z z z=>[]) (λ z z z z=>[]) (λ z z z=>[]) (λ z z z=>[]) (λ z g z z=>g) (λ z z z z=>[]) (λ z z z z z=>[]) (λ z z z z=>[]) (λ z z=>[]) (λ z z=>[]) (λ z z=>[]) (λ z z z z=>[]) (λ z z z z=>[]) (λ z z z z=>[]) (λ z z=>[]) (λ z z z=>[]) (λ z z z=>[]) (λ z z z=>[]) (λ z z=>[]) (λ z z=>[]) (λ z z=>[]) (λ z z z=>[]) (λ z z z z=>[])
noncomputable def κ_div2n1n:Sc:={ scope:=sc 2,loc:=["a","b","n","pad","half_n","mask","b1","b2","q1","r","q2"],cel:=[] }
noncomputable def P_div2n1n:PS:=
 (S.cons (S.ite (T.cmp cmpLe (E.bin opSub (E.meth "int" opBits (E.loc 0) L.nil) (E.loc 2)) (E.c (.int 4000))) (S.cons (S.ret (E.app opDivmod (L.cons (E.loc 0) (L.cons (E.loc 1) L.nil))))
 S.nil) S.nil)
 S.bot)
theorem j_div2n1n {B:BC} {k:Nat} (hB:BOk B):JS B κ_div2n1n k (bd 2) (P_div2n1n):=
 js_of (prS (⟨hB,[6004],[],[],[],nofun,λ o o=>.z,λ o o=>.z⟩:Hk B k) 20 κ_div2n1n (bd 2)) (by kernel_rfl)
noncomputable def κint_divmod:Sc:={ scope:=sc 7,loc:=["a","b","q","r"],cel:=[] }
noncomputable def Pint_divmod (ap_int_divmod:AV->Option FS) (ap__divmod_pos:AV->Option FS):PS:=
 (S.cons (S.ite (T.cmp cmpEq (E.loc 1) (E.c (.int 0))) (S.cons S.raiseZ
 S.nil) (S.cons (S.ite (T.cmp cmpLt (E.loc 1) (E.c (.int 0))) (S.cons (S.setP (.many [.loc 2,.loc 3]) (E.call true ap_int_divmod (E.c (.val (.ref 56))) (L.cons (E.neg (E.loc 0)) (L.cons (E.neg (E.loc 1)) L.nil))))
 (S.cons (S.ret (E.tup (L.cons (E.loc 2) (L.cons (E.neg (E.loc 3)) L.nil))))
 S.nil)) (S.cons (S.ite (T.cmp cmpLt (E.loc 0) (E.c (.int 0))) (S.cons (S.setP (.many [.loc 2,.loc 3]) (E.call true ap_int_divmod (E.c (.val (.ref 56))) (L.cons (E.inv (E.loc 0)) (L.cons (E.loc 1) L.nil))))
 (S.cons (S.ret (E.tup (L.cons (E.inv (E.loc 2)) (L.cons (E.bin opAdd (E.loc 1) (E.inv (E.loc 3))) L.nil))))
 S.nil)) (S.cons (S.ret (E.call true ap__divmod_pos (E.c (.val (.ref 49))) (L.cons (E.loc 0) (L.cons (E.loc 1) L.nil))))
 S.nil))
 S.nil))
 S.nil))
 S.nil)
theorem jint_divmod {B:BC} {k:Nat} (hB:BOk B) (ap_int_divmod:AV->Option FS) (ap__divmod_pos:AV->Option FS) (hap_int_divmod:AppOk B k true ap_int_divmod) (hap__divmod_pos:AppOk B k true ap__divmod_pos):JS B κint_divmod k (bd 7) (Pint_divmod ap_int_divmod ap__divmod_pos):=
 js_of (prS (⟨hB,[],[("int_divmod",⟨ap_int_divmod,hap_int_divmod⟩),("_divmod_pos",⟨ap__divmod_pos,hap__divmod_pos⟩)],[],[],nofun,λ o o=>.z,λ o o=>.z⟩:Hk B k) 20 κint_divmod (bd 7)) (by kernel_rfl)
noncomputable def κ_parse_varint:Sc:={ scope:=sc 12,loc:=["iterator","b","val"],cel:=[] }
noncomputable def P_parse_varint:PS:=
 (S.cons (S.set (.loc 1) (E.appX opNext (L.cons (E.loc 0) L.nil)))
 (S.cons (S.set (.loc 2) (E.bin opAnd (E.loc 1) (E.c (.int 63))))
 (S.cons (S.while (T.val (E.bin opAnd (E.loc 1) (E.c (.int 64)))) (S.cons (S.aug (.loc 2) inShl (E.loc 2) (E.c (.int 6)))
 (S.cons (S.set (.loc 1) (E.appX opNext (L.cons (E.loc 0) L.nil)))
 (S.cons (S.aug (.loc 2) inOr (E.loc 2) (E.bin opAnd (E.loc 1) (E.c (.int 63))))
 S.nil))))
 (S.cons (S.ret (E.loc 2))
 S.nil))))
theorem j_parse_varint {B:BC} {k:Nat} (hB:BOk B):JS B κ_parse_varint k (bd 12) (P_parse_varint):=
 js_of (prS (⟨hB,[],[],[],[],nofun,λ o o=>.z,λ o o=>.z⟩:Hk B k) 20 κ_parse_varint (bd 12)) (by kernel_rfl)
noncomputable def κISTERMINAL:Sc:={ scope:=sc 68,loc:=["x"],cel:=[] }
noncomputable def PISTERMINAL:PS:=
 (S.cons (S.ret (E.cmp cmpLt (E.loc 0) (E.c (.int 256))))
 S.nil)
theorem jISTERMINAL {B:BC} {k:Nat} (hB:BOk B):JS B κISTERMINAL k (bd 68) (PISTERMINAL):=
 js_of (prS (⟨hB,[],[],[],[],nofun,λ o o=>.z,λ o o=>.z⟩:Hk B k) 20 κISTERMINAL (bd 68)) (by kernel_rfl)
noncomputable def κISNONTERMINAL:Sc:={ scope:=sc 69,loc:=["x"],cel:=[] }
noncomputable def PISNONTERMINAL:PS:=
 (S.cons (S.ret (E.cmp cmpGe (E.loc 0) (E.c (.int 256))))
 S.nil)
theorem jISNONTERMINAL {B:BC} {k:Nat} (hB:BOk B):JS B κISNONTERMINAL k (bd 69) (PISNONTERMINAL):=
 js_of (prS (⟨hB,[],[],[],[],nofun,λ o o=>.z,λ o o=>.z⟩:Hk B k) 20 κISNONTERMINAL (bd 69)) (by kernel_rfl)
noncomputable def κISEOF:Sc:={ scope:=sc 70,loc:=["x"],cel:=[] }
noncomputable def PISEOF:PS:=
 (S.cons (S.ret (E.cmp cmpEq (E.loc 0) (E.c (.int 0))))
 S.nil)
theorem jISEOF {B:BC} {k:Nat} (hB:BOk B):JS B κISEOF k (bd 70) (PISEOF):=
 js_of (prS (⟨hB,[],[],[],[],nofun,λ o o=>.z,λ o o=>.z⟩:Hk B k) 20 κISEOF (bd 70)) (by kernel_rfl)
noncomputable def κ_ellipsis_match:Sc:={ scope:=sc 15,loc:=["want","got","ws","startpos","endpos","w"],cel:=[] }
noncomputable def P_ellipsis_match:PS:=
 (S.cons (S.ite (T.cmp cmpNotInS (E.c (.str "...")) (E.loc 0)) (S.cons (S.ret (E.cmp cmpEq (E.loc 0) (E.loc 1)))
 S.nil) S.nil)
 (S.cons (S.set (.loc 2) (E.meth "str" opSplit (E.loc 0) (L.cons (E.c (.str "...")) L.nil)))
 (S.cons (S.assert (T.cmp cmpGe (E.app opLen (L.cons (E.loc 2) L.nil)) (E.c (.int 2))))
 (S.cons (S.setW [.loc 3,.loc 4] (E.tup (L.cons (E.c (.int 0)) (L.cons (E.app opLen (L.cons (E.loc 1) L.nil)) L.nil))))
 (S.cons (S.set (.loc 5) (E.sub (E.loc 2) (E.c (.int 0))))
 (S.cons (S.ite (T.val (E.loc 5)) (S.cons (S.ite (T.val (E.meth "str" opStarts (E.loc 1) (L.cons (E.loc 5) L.nil))) (S.cons (S.set (.loc 3) (E.app opLen (L.cons (E.loc 5) L.nil)))
 (S.cons (S.del (E.loc 2) (E.c (.int 0)))
 S.nil)) (S.cons (S.ret (E.c (.bool false)))
 S.nil))
 S.nil) S.nil)
 (S.cons (S.set (.loc 5) (E.sub (E.loc 2) (E.neg (E.c (.int 1)))))
 (S.cons (S.ite (T.val (E.loc 5)) (S.cons (S.ite (T.val (E.meth "str" opEnds (E.loc 1) (L.cons (E.loc 5) L.nil))) (S.cons (S.aug (.loc 4) inSub (E.loc 4) (E.app opLen (L.cons (E.loc 5) L.nil)))
 (S.cons (S.del (E.loc 2) (E.neg (E.c (.int 1))))
 S.nil)) (S.cons (S.ret (E.c (.bool false)))
 S.nil))
 S.nil) S.nil)
 (S.cons (S.ite (T.cmp cmpGt (E.loc 3) (E.loc 4)) (S.cons (S.ret (E.c (.bool false)))
 S.nil) S.nil)
 (S.cons (S.for (Y.lst (E.frz (E.loc 2))) (.one (.loc 5)) (S.cons (S.set (.loc 3) (E.meth "str" opFind (E.loc 1) (L.cons (E.loc 5) (L.cons (E.loc 3) (L.cons (E.loc 4) L.nil)))))
 (S.cons (S.ite (T.cmp cmpLt (E.loc 3) (E.c (.int 0))) (S.cons (S.ret (E.c (.bool false)))
 S.nil) S.nil)
 (S.cons (S.aug (.loc 3) inAdd (E.loc 3) (E.app opLen (L.cons (E.loc 5) L.nil)))
 S.nil))))
 (S.cons (S.ret (E.c (.bool true)))
 S.nil)))))))))))
theorem j_ellipsis_match {B:BC} {k:Nat} (hB:BOk B):JS B κ_ellipsis_match k (bd 15) (P_ellipsis_match):=
 js_of (prS (⟨hB,[120013],[],[],[],nofun,λ o o=>.z,λ o o=>.z⟩:Hk B k) 20 κ_ellipsis_match (bd 15)) (by kernel_rfl)
noncomputable def κ_divmod_pos:Sc:={ scope:=sc 6,loc:=["a","b","n","a_digits","r","q_digits","a_digit","q_digit","q"],cel:=[] }
noncomputable def P_divmod_pos (ap__int2digits:AV->Option FS) (ap__div2n1n:AV->Option FS) (ap__digits2int:AV->Option FS):PS:=
 (S.cons (S.set (.loc 2) (E.meth "int" opBits (E.loc 1) L.nil))
 (S.cons (S.set (.loc 3) (E.call true ap__int2digits (E.c (.val (.ref 35))) (L.cons (E.loc 0) (L.cons (E.loc 2) L.nil))))
 (S.cons (S.set (.loc 4) (E.c (.int 0)))
 (S.cons (S.set (.loc 5) (E.new L.nil))
 (S.cons (S.for (Y.rev (L.cons (E.loc 3) L.nil)) (.one (.loc 6)) (S.cons (S.setP (.many [.loc 7,.loc 4]) (E.call true ap__div2n1n (E.c (.val (.ref 21))) (L.cons (E.bin opAdd (E.bin opShl (E.loc 4) (E.loc 2)) (E.loc 6)) (L.cons (E.loc 1) (L.cons (E.loc 2) L.nil)))))
 (S.cons (S.expr (E.meth "list" opAppend (E.loc 5) (L.cons (E.loc 7) L.nil)))
 S.nil)))
 (S.cons (S.expr (E.meth "list" opReverse (E.loc 5) L.nil))
 (S.cons (S.set (.loc 8) (E.call true ap__digits2int (E.c (.val (.ref 42))) (L.cons (E.frz (E.loc 5)) (L.cons (E.loc 2) L.nil))))
 (S.cons (S.ret (E.tup (L.cons (E.loc 8) (L.cons (E.loc 4) L.nil))))
 S.nil))))))))
theorem j_divmod_pos {B:BC} {k:Nat} (hB:BOk B) (ap__int2digits:AV->Option FS) (ap__div2n1n:AV->Option FS) (ap__digits2int:AV->Option FS) (hap__int2digits:AppOk B k true ap__int2digits) (hap__div2n1n:AppOk B k true ap__div2n1n) (hap__digits2int:AppOk B k true ap__digits2int):JS B κ_divmod_pos k (bd 6) (P_divmod_pos ap__int2digits ap__div2n1n ap__digits2int):=
 js_of (prS (⟨hB,[58015,63020],[("_int2digits",⟨ap__int2digits,hap__int2digits⟩),("_div2n1n",⟨ap__div2n1n,hap__div2n1n⟩),("_digits2int",⟨ap__digits2int,hap__digits2int⟩)],[],[],nofun,λ o o=>.z,λ o o=>.z⟩:Hk B k) 20 κ_divmod_pos (bd 6)) (by kernel_rfl)
noncomputable def κ_int2digits:Sc:={ scope:=sc 4,loc:=["a"],cel:=["n","a_digits","inner"],code:=some 34,qual:="_int2digits.<locals>." }
noncomputable def Q_int2digits (s0:PS) (ap_inner:AV->Option FS):PS:=
 (S.cons (S.set (.cel 1) (E.mulN (E.lst (L.cons (E.c (.int 0)) L.nil)) (E.bin opDiv (E.bin opSub (E.bin opAdd (E.meth "int" opBits (E.loc 0) L.nil) (E.cel 0)) (E.c (.int 1))) (E.cel 0))))
 (S.cons s0
 (S.cons (S.ite (T.val (E.loc 0)) (S.cons (S.expr (E.call true ap_inner (E.cel 2) (L.cons (E.loc 0) (L.cons (E.c (.int 0)) (L.cons (E.app opLen (L.cons (E.cel 1) L.nil)) L.nil)))))
 S.nil) S.nil)
 (S.cons (S.ret (E.frz (E.cel 1)))
 S.nil))))
noncomputable abbrev P_int2digits (ap_inner:AV->Option FS):PS:=Q_int2digits (S.def (.cel 2) 0 [1,2,0]) ap_inner
theorem hmk0 {B:BC} (hB:BOk B):MakeOk B κ_int2digits 0 ct0.2 [1,2,0] 34 30 ct0.1:=
 ⟨by rw [hB.clo];rfl,by kernel_rfl,by rw [hB.tabs];decide,λ p h1 h2=>by rw [hB.tq,h1,h2];kernel_rfl,of_decide_eq_true (by kernel_rfl),of_decide_eq_true (by kernel_rfl),of_decide_eq_true (by kernel_rfl),by kernel_rfl⟩
theorem j_int2digits {B:BC} {k:Nat} (hB:BOk B) (ap_inner:AV->Option FS) (hap_inner:AppOk B k true ap_inner):JS B κ_int2digits k (bd 4) (P_int2digits ap_inner):=
 js_of1 (λ ls=>prS (⟨hB,[44011],[("inner",⟨ap_inner,hap_inner⟩)],[],[],nofun,λ o o=>.z,ls⟩:Hk B k) 20 κ_int2digits (bd 4)) (e:=(stN (bd 4) 1)) (κ:=κ_int2digits) (λ s=>Q_int2digits s ap_inner) (λ ls=>by kernel_rfl)
  (J1.def (fm:=[1,2,0]) (hmk0 hB) rfl (λ env e q=>by cases env;cases e;cases q;kernel_rfl) rfl rfl rfl (λ o=>rfl) (λ o=>rfl) ⟨by kernel_rfl,by kernel_rfl⟩)
noncomputable def κc0:Sc:={ scope:=ct0.2.scope,loc:=["x","L","R","mid","shift","upper","lower"],cel:=["a_digits","inner","n"] }
noncomputable def Pc0 (ap_inner:AV->Option FS):PS:=
 (S.cons (S.ite (T.cmp cmpEq (E.bin opAdd (E.loc 1) (E.c (.int 1))) (E.loc 2)) (S.cons (S.setItem (E.cel 0) (E.loc 1) (E.loc 0))
 (S.cons S.ret0
 S.nil)) S.nil)
 (S.cons (S.set (.loc 3) (E.bin opShr (E.bin opAdd (E.loc 1) (E.loc 2)) (E.c (.int 1))))
 (S.cons (S.set (.loc 4) (E.bin opMul (E.bin opSub (E.loc 3) (E.loc 1)) (E.cel 2)))
 (S.cons (S.set (.loc 5) (E.bin opShr (E.loc 0) (E.loc 4)))
 (S.cons (S.set (.loc 6) (E.bin opXor (E.loc 0) (E.bin opShl (E.loc 5) (E.loc 4))))
 (S.cons (S.expr (E.call true ap_inner (E.cel 1) (L.cons (E.loc 6) (L.cons (E.loc 1) (L.cons (E.loc 3) L.nil)))))
 (S.cons (S.expr (E.call true ap_inner (E.cel 1) (L.cons (E.loc 5) (L.cons (E.loc 3) (L.cons (E.loc 2) L.nil)))))
 S.nil)))))))
theorem jc0 {B:BC} {k:Nat} (hB:BOk B) (ap_inner:AV->Option FS) (hap_inner:AppOk B k true ap_inner):JS B κc0 k (stmtsOf ct0.2.body) (Pc0 ap_inner):=
 js_of (prS (⟨hB,[],[("inner",⟨ap_inner,hap_inner⟩)],[],[],nofun,λ o o=>.z,λ o o=>.z⟩:Hk B k) 20 κc0 (stmtsOf ct0.2.body)) (by kernel_rfl)
noncomputable def κ_digits2int:Sc:={ scope:=sc 5,loc:=[],cel:=["digits","n","inner"],code:=some 41,qual:="_digits2int.<locals>." }
noncomputable def Q_digits2int (s1:PS) (ap_inner:AV->Option FS):PS:=
 (S.cons s1
 (S.cons (S.ret (E.ite (T.val (E.cel 0)) (E.call true ap_inner (E.cel 2) (L.cons (E.c (.int 0)) (L.cons (E.app opLen (L.cons (E.cel 0) L.nil)) L.nil))) (E.c (.int 0))))
 S.nil))
noncomputable abbrev P_digits2int (ap_inner:AV->Option FS):PS:=Q_digits2int (S.def (.cel 2) 1 [0,2,1]) ap_inner
theorem hmk1 {B:BC} (hB:BOk B):MakeOk B κ_digits2int 1 ct1.2 [0,2,1] 41 37 ct1.1:=
 ⟨by rw [hB.clo];rfl,by kernel_rfl,by rw [hB.tabs];decide,λ p h1 h2=>by rw [hB.tq,h1,h2];kernel_rfl,of_decide_eq_true (by kernel_rfl),of_decide_eq_true (by kernel_rfl),of_decide_eq_true (by kernel_rfl),by kernel_rfl⟩
theorem j_digits2int {B:BC} {k:Nat} (hB:BOk B) (ap_inner:AV->Option FS) (hap_inner:AppOk B k true ap_inner):JS B κ_digits2int k (bd 5) (P_digits2int ap_inner):=
 js_of1 (λ ls=>prS (⟨hB,[],[("inner",⟨ap_inner,hap_inner⟩)],[],[],nofun,λ o o=>.z,ls⟩:Hk B k) 20 κ_digits2int (bd 5)) (e:=(stN (bd 5) 0)) (κ:=κ_digits2int) (λ s=>Q_digits2int s ap_inner) (λ ls=>by kernel_rfl)
  (J1.def (fm:=[0,2,1]) (hmk1 hB) rfl (λ env e q=>by cases env;cases e;cases q;kernel_rfl) rfl rfl rfl (λ o=>rfl) (λ o=>rfl) ⟨by kernel_rfl,by kernel_rfl⟩)
noncomputable def κc1:Sc:={ scope:=ct1.2.scope,loc:=["L","R","mid","shift"],cel:=["digits","inner","n"] }
noncomputable def Pc1 (ap_inner:AV->Option FS):PS:=
 (S.cons (S.ite (T.cmp cmpEq (E.bin opAdd (E.loc 0) (E.c (.int 1))) (E.loc 1)) (S.cons (S.ret (E.sub (E.cel 0) (E.loc 0)))
 S.nil) S.nil)
 (S.cons (S.set (.loc 2) (E.bin opShr (E.bin opAdd (E.loc 0) (E.loc 1)) (E.c (.int 1))))
 (S.cons (S.set (.loc 3) (E.bin opMul (E.bin opSub (E.loc 2) (E.loc 0)) (E.cel 2)))
 (S.cons (S.ret (E.bin opAdd (E.bin opShl (E.call true ap_inner (E.cel 1) (L.cons (E.loc 2) (L.cons (E.loc 1) L.nil))) (E.loc 3)) (E.call true ap_inner (E.cel 1) (L.cons (E.loc 0) (L.cons (E.loc 2) L.nil)))))
 S.nil))))
theorem jc1 {B:BC} {k:Nat} (hB:BOk B) (ap_inner:AV->Option FS) (hap_inner:AppOk B k true ap_inner):JS B κc1 k (stmtsOf ct1.2.body) (Pc1 ap_inner):=
 js_of (prS (⟨hB,[],[("inner",⟨ap_inner,hap_inner⟩)],[],[],nofun,λ o o=>.z,λ o o=>.z⟩:Hk B k) 20 κc1 (stmtsOf ct1.2.body)) (by kernel_rfl)
noncomputable def κ_law_formula:Sc:={ scope:=sc 72,loc:=["x","leaves","minus","join","whole","u","k","part","one","two"],cel:=[] }
noncomputable def P_law_formula (ap_minus:AV->Option FS) (ap_join:AV->Option FS):PS:=
 (S.cons (S.setW [.loc 4,.loc 5] (E.tup (L.cons (E.sub (E.loc 1) (E.bin opMod (E.loc 0) (E.c (.int 3)))) (L.cons (E.bin opDiv (E.loc 0) (E.c (.int 3))) L.nil))))
 (S.cons (S.for (Y.tup (E.tup (L.cons (E.c (.int 1)) (L.cons (E.c (.int 2)) L.nil)))) (.one (.loc 6)) (S.cons (S.set (.loc 7) (E.ite (T.cmp cmpEq (E.bin opMod (E.loc 5) (E.c (.int 2))) (E.c (.int 1))) (E.call true ap_minus (E.loc 2) (L.cons (E.sub (E.loc 1) (E.bin opMod (E.bin opAdd (E.loc 0) (E.loc 6)) (E.c (.int 3)))) L.nil)) (E.sub (E.loc 1) (E.bin opMod (E.bin opAdd (E.loc 0) (E.loc 6)) (E.c (.int 3))))))
 (S.cons (S.setP (.many [.loc 8,.loc 9]) (E.ite (T.cmp cmpEq (E.bin opMod (E.bin opDiv (E.loc 5) (E.c (.int 2))) (E.c (.int 2))) (E.c (.int 0))) (E.tup (L.cons (E.loc 4) (L.cons (E.loc 7) L.nil))) (E.tup (L.cons (E.loc 7) (L.cons (E.loc 4) L.nil)))))
 (S.cons (S.setW [.loc 4,.loc 5] (E.tup (L.cons (E.call true ap_join (E.loc 3) (L.cons (E.sub (E.tup (L.cons (E.c (.int 18)) (L.cons (E.c (.int 19)) (L.cons (E.c (.int 32)) L.nil)))) (E.bin opMod (E.bin opDiv (E.loc 5) (E.c (.int 4))) (E.c (.int 3)))) (L.cons (E.loc 8) (L.cons (E.loc 9) L.nil)))) (L.cons (E.bin opDiv (E.loc 5) (E.c (.int 12))) L.nil))))
 S.nil))))
 (S.cons (S.ret (E.ite (T.cmp cmpEq (E.bin opMod (E.loc 5) (E.c (.int 2))) (E.c (.int 1))) (E.call true ap_minus (E.loc 2) (L.cons (E.loc 4) L.nil)) (E.loc 4)))
 S.nil)))
theorem j_law_formula {B:BC} {k:Nat} (hB:BOk B) (ap_minus:AV->Option FS) (ap_join:AV->Option FS) (hap_minus:AppOk B k true ap_minus) (hap_join:AppOk B k true ap_join):JS B κ_law_formula k (bd 72) (P_law_formula ap_minus ap_join):=
 js_of (prS (⟨hB,[],[("minus",⟨ap_minus,hap_minus⟩),("join",⟨ap_join,hap_join⟩)],[],[],nofun,λ o o=>.z,λ o o=>.z⟩:Hk B k) 20 κ_law_formula (bd 72)) (by kernel_rfl)
noncomputable def κ_law_number:Sc:={ scope:=sc 73,loc:=["row"],cel:=[] }
noncomputable def P_law_number:PS:=
 (S.cons (S.ret (E.app opSum (L.cons (E.comp 2 0 [] (Y.enu (L.cons (E.loc 0) L.nil)) (.many [.loc 0,.loc 1]) (T.c true) (C.elt (E.bin opMul (E.loc 1) (E.bin opPow (E.c (.int 16384)) (E.loc 0))))) L.nil)))
 S.nil)
theorem j_law_number {B:BC} {k:Nat} (hB:BOk B):JS B κ_law_number k (bd 73) (P_law_number):=
 js_of (prS (⟨hB,[],[],[],[],nofun,λ o o=>.z,λ o o=>.z⟩:Hk B k) 20 κ_law_number (bd 73)) (by kernel_rfl)
noncomputable def κ_law_filled:Sc:={ scope:=sc 74,loc:=["form"],cel:=["numerals"] }
noncomputable def P_law_filled:PS:=
 (S.cons (S.ret (E.comp 2 0 [0] (Y.lst (E.loc 0)) (.one (.loc 0)) (T.c true) (C.sub (Y.lst (E.ite (T.cmp cmpIn (E.loc 0) (E.tup (L.cons (E.c (.int 254)) (L.cons (E.c (.int 255)) L.nil)))) (E.sub (E.cel 0) (E.bin opSub (E.c (.int 255)) (E.loc 0))) (E.lst (L.cons (E.loc 0) L.nil)))) (.one (.loc 1)) (T.c true) (C.elt (E.loc 1)))))
 S.nil)
theorem j_law_filled {B:BC} {k:Nat} (hB:BOk B):JS B κ_law_filled k (bd 74) (P_law_filled):=
 js_of (prS (⟨hB,[],[],[],[],nofun,λ o o=>.z,λ o o=>.z⟩:Hk B k) 20 κ_law_filled (bd 74)) (by kernel_rfl)
noncomputable def κ_law_tape:Sc:={ scope:=sc 75,loc:=["row","octets"],cel:=["w"] }
noncomputable def P_law_tape:PS:=
 (S.cons (S.set (.loc 1) (E.comp 2 0 [] (Y.lst (E.loc 0)) (.one (.loc 0)) (T.c true) (C.sub (Y.rng (L.cons (E.bin opDiv (E.app opMax (L.cons (E.c (.int 0)) (L.cons (E.bin opSub (E.meth "int" opBits (E.loc 0) L.nil) (E.c (.int 1))) L.nil))) (E.c (.int 6))) (L.cons (E.neg (E.c (.int 1))) (L.cons (E.neg (E.c (.int 1))) L.nil)))) (.one (.loc 1)) (T.c true) (C.elt (E.bin opAdd (E.bin opMod (E.bin opDiv (E.loc 0) (E.bin opPow (E.c (.int 64)) (E.loc 1))) (E.c (.int 64))) (E.bin opMul (E.c (.int 64)) (E.cmp cmpGt (E.loc 1) (E.c (.int 0)))))))))
 (S.cons (S.ret (E.comp 2 0 [0] (Y.enu (L.cons (E.loc 1) L.nil)) (.many [.loc 0,.loc 1]) (T.c true) (C.elt (E.ite (T.cmp cmpEq (E.bin opMod (E.bin opAdd (E.loc 0) (E.cel 0)) (E.c (.int 3))) (E.c (.int 0))) (E.bin opAdd (E.loc 1) (E.c (.int 128))) (E.loc 1)))))
 S.nil))
theorem j_law_tape {B:BC} {k:Nat} (hB:BOk B):JS B κ_law_tape k (bd 75) (P_law_tape):=
 js_of (prS (⟨hB,[],[],[],[],nofun,λ o o=>.z,λ o o=>.z⟩:Hk B k) 20 κ_law_tape (bd 75)) (by kernel_rfl)
noncomputable def κ_law_division:Sc:={ scope:=sc 76,loc:=["y","number","size","dividend","divisor","right"],cel:=[] }
noncomputable def P_law_division:PS:=
 (S.cons (S.set (.loc 2) (E.ite (T.cmp cmpLt (E.bin opMod (E.bin opDiv (E.loc 0) (E.c (.int 8))) (E.c (.int 8))) (E.c (.int 7))) (E.bin opSub (E.bin opAdd (E.bin opPow (E.c (.int 2)) (E.bin opAdd (E.c (.int 20)) (E.bin opMod (E.bin opDiv (E.loc 0) (E.c (.int 64))) (E.c (.int 40))))) (E.bin opMod (E.bin opDiv (E.loc 0) (E.c (.int 2560))) (E.c (.int 1000)))) (E.c (.int 500))) (E.c (.int 0))))
 (S.cons (S.setW [.loc 3,.loc 4] (E.tup (L.cons (E.sub (E.lst (L.cons (E.loc 1) (L.cons (E.neg (E.loc 1)) (L.cons (E.inv (E.loc 1)) (L.cons (E.c (.int 0)) L.nil))))) (E.bin opMod (E.loc 0) (E.c (.int 4)))) (L.cons (E.ite (T.cmp cmpEq (E.bin opMod (E.bin opDiv (E.loc 0) (E.c (.int 4))) (E.c (.int 2))) (E.c (.int 1))) (E.neg (E.loc 2)) (E.loc 2)) L.nil))))
 (S.cons (S.set (.loc 5) (E.ite (T.cmp cmpGt (E.loc 2) (E.c (.int 0))) (E.tup (L.cons (E.bin opDiv (E.loc 3) (E.loc 4)) (L.cons (E.bin opMod (E.loc 3) (E.loc 4)) L.nil))) (E.tup (L.cons (E.c (.int 0)) (L.cons (E.c (.int 0)) L.nil)))))
 (S.cons (S.ret (E.lst (L.cons (E.bin opMod (E.loc 0) (E.c (.int 4))) (L.cons (E.loc 4) (L.cons (E.loc 5) (L.cons (E.tup (L.cons (E.bin opAdd (E.sub (E.loc 5) (E.c (.int 0))) (E.cmp cmpEq (E.bin opMod (E.bin opDiv (E.loc 0) (E.c (.int 8))) (E.c (.int 8))) (E.c (.int 5)))) (L.cons (E.bin opAdd (E.sub (E.loc 5) (E.c (.int 1))) (E.cmp cmpEq (E.bin opMod (E.bin opDiv (E.loc 0) (E.c (.int 8))) (E.c (.int 8))) (E.c (.int 4)))) L.nil))) L.nil))))))
 S.nil))))
theorem j_law_division {B:BC} {k:Nat} (hB:BOk B):JS B κ_law_division k (bd 76) (P_law_division):=
 js_of (prS (⟨hB,[],[],[],[],nofun,λ o o=>.z,λ o o=>.z⟩:Hk B k) 20 κ_law_division (bd 76)) (by kernel_rfl)
noncomputable def κ_law_fits:Sc:={ scope:=sc 77,loc:=["pieces","ends","least"],cel:=["text","piece"] }
noncomputable def P_law_fits:PS:=
 (S.cons (S.set (.loc 1) (E.ite (T.cmp cmpEq (E.sliceS (E.cel 0) Qp.no (Qp.of (E.app opLen (L.cons (E.sub (E.loc 0) (E.c (.int 0))) L.nil)))) (E.sub (E.loc 0) (E.c (.int 0)))) (E.lst (L.cons (E.app opLen (L.cons (E.sub (E.loc 0) (E.c (.int 0))) L.nil)) L.nil)) (E.lst L.nil)))
 (S.cons (S.for (Y.lst (E.sliceL (E.loc 0) (Qp.of (E.c (.int 1))) Qp.no)) (.one (.cel 1)) (S.cons (S.set (.loc 2) (E.bin opAdd (E.app opMin (L.cons (E.bin opAdd (E.loc 1) (E.lst (L.cons (E.bin opAdd (E.app opLen (L.cons (E.cel 0) L.nil)) (E.c (.int 1))) L.nil))) L.nil)) (E.app opLen (L.cons (E.cel 1) L.nil))))
 (S.cons (S.set (.loc 1) (E.comp 1 0 [1,0] (Y.rng (L.cons (E.loc 2) (L.cons (E.bin opAdd (E.app opLen (L.cons (E.cel 0) L.nil)) (E.c (.int 1))) L.nil))) (.one (.loc 0)) (T.cmp cmpEq (E.sliceS (E.cel 1) (Qp.of (E.bin opSub (E.loc 0) (E.app opLen (L.cons (E.cel 0) L.nil)))) (Qp.of (E.loc 0))) (E.cel 0)) (C.elt (E.loc 0))))
 S.nil)))
 (S.cons (S.ret (E.cmp cmpIn (E.app opLen (L.cons (E.cel 0) L.nil)) (E.loc 1)))
 S.nil)))
theorem j_law_fits {B:BC} {k:Nat} (hB:BOk B):JS B κ_law_fits k (bd 77) (P_law_fits):=
 js_of (prS (⟨hB,[],[],[],[],nofun,λ o o=>.z,λ o o=>.z⟩:Hk B k) 20 κ_law_fits (bd 77)) (by kernel_rfl)
noncomputable def κ_law_answer:Sc:={ scope:=sc 78,loc:=["index","number","text","divisions","pattern","told","answer","how","divisor","right","want"],cel:=[] }
noncomputable def P_law_answer (ap__ellipsis_match:AV->Option FS) (ap_int_divmod:AV->Option FS):PS:=
 (S.cons (S.ite (T.cmp cmpEq (E.loc 0) (E.c (.int 1))) (S.cons (S.set (.loc 6) (E.call true ap__ellipsis_match (E.c (.val (.ref 100))) (L.cons (E.loc 4) (L.cons (E.loc 2) L.nil))))
 (S.cons (S.expr (E.meth "list" opAppend (E.loc 5) (L.cons (E.lst (L.cons (E.loc 0) (L.cons (E.loc 1) (L.cons (E.loc 2) (L.cons (E.cmp cmpIs (E.loc 6) (E.c (.bool true))) (L.cons (E.cmp cmpIs (E.loc 6) (E.c (.bool false))) L.nil)))))) L.nil)))
 (S.cons (S.ret (E.loc 6))
 S.nil))) S.nil)
 (S.cons (S.setL [.loc 7,.loc 8,.loc 9,.loc 10] (E.sub (E.loc 3) (E.bin opDiv (E.loc 0) (E.c (.int 2)))))
 (S.cons (S.set (.loc 6) (E.call true ap_int_divmod (E.c (.val (.ref 56))) (L.cons (E.sub (E.lst (L.cons (E.loc 1) (L.cons (E.neg (E.loc 1)) (L.cons (E.inv (E.loc 1)) (L.cons (E.c (.int 0)) L.nil))))) (E.loc 7)) (L.cons (E.loc 8) L.nil))))
 (S.cons (S.expr (E.meth "list" opAppend (E.loc 5) (L.cons (E.lst (L.cons (E.loc 0) (L.cons (E.loc 1) (L.cons (E.loc 2) (L.cons (E.loc 6) L.nil))))) L.nil)))
 (S.cons (S.ret (E.cmp cmpEq (E.loc 6) (E.loc 10)))
 S.nil)))))
theorem j_law_answer {B:BC} {k:Nat} (hB:BOk B) (ap__ellipsis_match:AV->Option FS) (ap_int_divmod:AV->Option FS) (hap__ellipsis_match:AppOk B k true ap__ellipsis_match) (hap_int_divmod:AppOk B k true ap_int_divmod):JS B κ_law_answer k (bd 78) (P_law_answer ap__ellipsis_match ap_int_divmod):=
 js_of (prS (⟨hB,[],[("_ellipsis_match",⟨ap__ellipsis_match,hap__ellipsis_match⟩),("int_divmod",⟨ap_int_divmod,hap_int_divmod⟩)],[],[],nofun,λ o o=>.z,λ o o=>.z⟩:Hk B k) 20 κ_law_answer (bd 78)) (by kernel_rfl)
noncomputable def κc2:Sc:={ scope:=ct2.2.scope,loc:=["a"],cel:=[] }
noncomputable def Pc2:PE:=
 (E.bin opAdd (E.lst (L.cons (E.c (.int 31)) L.nil)) (E.loc 0))
theorem jc2 {B:BC} {k:Nat} (hB:BOk B):JE B κc2 k (exprOf ct2.2.body) (Pc2):=
 je_of ((prE (⟨hB,[],[],[],[],nofun,λ o o=>.z,λ o o=>.z⟩:Hk B k) 20 κc2 (exprOf ct2.2.body)).1) (by kernel_rfl)
noncomputable def κc3:Sc:={ scope:=ct3.2.scope,loc:=["op","a","b"],cel:=[] }
noncomputable def Pc3:PE:=
 (E.bin opAdd (E.bin opAdd (E.lst (L.cons (E.loc 0) L.nil)) (E.loc 1)) (E.loc 2))
theorem jc3 {B:BC} {k:Nat} (hB:BOk B):JE B κc3 k (exprOf ct3.2.body) (Pc3):=
 je_of ((prE (⟨hB,[],[],[],[],nofun,λ o o=>.z,λ o o=>.z⟩:Hk B k) 20 κc3 (exprOf ct3.2.body)).1) (by kernel_rfl)
noncomputable def κc4:Sc:={ scope:=ct4.2.scope,loc:=["index","number","text"],cel:=["divisions","pattern","told"] }
noncomputable def Pc4 (ap__law_answer:AV->Option FS):PE:=
 (E.call true ap__law_answer (E.c (.val (.ref 165))) (L.cons (E.loc 0) (L.cons (E.loc 1) (L.cons (E.loc 2) (L.cons (E.cel 0) (L.cons (E.cel 1) (L.cons (E.cel 2) L.nil)))))))
theorem jc4 {B:BC} {k:Nat} (hB:BOk B) (ap__law_answer:AV->Option FS) (hap__law_answer:AppOk B k true ap__law_answer):JE B κc4 k (exprOf ct4.2.body) (Pc4 ap__law_answer):=
 je_of ((prE (⟨hB,[],[("_law_answer",⟨ap__law_answer,hap__law_answer⟩)],[],[],nofun,λ o o=>.z,λ o o=>.z⟩:Hk B k) 20 κc4 (exprOf ct4.2.body)).1) (by kernel_rfl)
noncomputable def κc5:Sc:={ scope:=ct5.2.scope,loc:=["a"],cel:=[] }
noncomputable def Pc5:PE:=
 (E.not (E.loc 0))
theorem jc5 {B:BC} {k:Nat} (hB:BOk B):JE B κc5 k (exprOf ct5.2.body) (Pc5):=
 je_of ((prE (⟨hB,[],[],[],[],nofun,λ o o=>.z,λ o o=>.z⟩:Hk B k) 20 κc5 (exprOf ct5.2.body)).1) (by kernel_rfl)
noncomputable def κc6:Sc:={ scope:=ct6.2.scope,loc:=["op","a","b"],cel:=[] }
noncomputable def Pc6:PE:=
 (E.ite (T.cmp cmpEq (E.loc 0) (E.c (.int 32))) (E.cmp cmpNe (E.loc 1) (E.loc 2)) (E.ite (T.cmp cmpEq (E.loc 0) (E.c (.int 18))) (E.or (E.loc 1) (E.loc 2)) (E.and (E.loc 1) (E.loc 2))))
theorem jc6 {B:BC} {k:Nat} (hB:BOk B):JE B κc6 k (exprOf ct6.2.body) (Pc6):=
 je_of ((prE (⟨hB,[],[],[],[],nofun,λ o o=>.z,λ o o=>.z⟩:Hk B k) 20 κc6 (exprOf ct6.2.body)).1) (by kernel_rfl)
end
section
noncomputable def κ_get_name_info:Sc:={ scope:=sc 11,loc:=["name_index","get_name","extrainfo","argval"],cel:=[] }
noncomputable def P_get_name_info (ap_get_name:AV->Option FS):PS:=
 (S.cons (S.ite (T.cmp cmpIsNotN (E.loc 1) (E.c .none)) (S.cons (S.set (.loc 3) (E.callS true ap_get_name "number" "text" (E.loc 1) (L.cons (E.loc 0) L.nil) (E.loc 2)))
 (S.cons (S.ret (E.tup (L.cons (E.loc 3) (L.cons (E.loc 3) L.nil))))
 S.nil)) (S.cons (S.ret (E.tup (L.cons (E.c (.val (.ref 79))) (L.cons (E.c (.str "")) L.nil))))
 S.nil))
 S.nil)
theorem j_get_name_info {B:BC} {k:Nat} (hB:BOk B) (ap_get_name:AV->Option FS) (hap_get_name:AppOkK B k true ["number","text"] ap_get_name):JS B κ_get_name_info k (bd 11) (P_get_name_info ap_get_name):=
 js_of (prS (⟨hB,[],[],[],[("get_name",["number","text"],ap_get_name)],λ q m=>by obtain rfl:=List.mem_singleton.mp m;exact hap_get_name,λ o o=>.z,λ o o=>.z⟩:Hk B k) 20 κ_get_name_info (bd 11)) (by kernel_rfl)
noncomputable def κ_law_read:Sc:={ scope:=sc 79,loc:=["tape","ask","octets","row","numerals","pile","opens","one","digits","other","number","text","pair","a","b"],cel:=["signs"] }
noncomputable def P_law_read (ap_ISEOF:AV->Option FS) (ap__parse_varint:AV->Option FS) (ap_h_ISTERMINAL:AV->Option FS) (ap_ISNONTERMINAL:AV->Option FS) (ap__law_filled:AV->Option FS) (ap__int2digits:AV->Option FS) (ap__digits2int:AV->Option FS) (ap_ISTERMINAL:AV->Option FS) (ap__get_name_info:AV->Option FS):PS:=
 (S.cons (S.set (.cel 0) (E.dcomp 1 0 [] (Y.str "()[],|&^~") (.one (.loc 0)) (E.subK tokTab (E.loc 0)) (E.loc 0)))
 (S.cons (S.setP (.many [.loc 2,.loc 3,.loc 4,.loc 5]) (E.tup (L.cons (E.appX opIter (L.cons (E.loc 0) L.nil)) (L.cons (E.new L.nil) (L.cons (E.lst (L.cons (E.lst L.nil) L.nil)) (L.cons (E.new L.nil) L.nil))))))
 (S.cons (S.while (T.or (T.cmpD (E.loc 3) (E.lst L.nil)) (T.or (T.not (T.val (E.call true ap_ISEOF (E.c (.val (.ref 124))) (L.cons (E.sub (E.loc 3) (E.neg (E.c (.int 1)))) L.nil)))) (T.c false))) (S.cons (S.expr (E.meth "list" opAppend (E.loc 3) (L.cons (E.call true ap__parse_varint (E.c (.val (.ref 93))) (L.cons (E.loc 2) L.nil)) L.nil)))
 S.nil))
 (S.cons (S.try "StopIteration" (S.ret (E.lst (L.cons (E.loc 3) (L.cons (E.call true ap__parse_varint (E.c (.val (.ref 93))) (L.cons (E.loc 2) L.nil)) L.nil)))) (S.cons (S.set (.loc 6) (E.sub (E.comp 2 0 [0] (Y.enu (L.cons (E.sliceL (E.loc 3) Qp.no (Qp.of (E.neg (E.c (.int 1))))) L.nil)) (.many [.loc 0,.loc 1]) (T.and (T.val (E.call false ap_h_ISTERMINAL (E.c (.val (.ref 110))) (L.cons (E.loc 1) L.nil))) (T.and (T.cmp cmpInS (E.sub (E.cel 0) (E.loc 1)) (E.c (.str "(["))) (T.c true))) (C.elt (E.loc 0))) (E.c (.int 0))))
 S.nil))
 (S.cons (S.for (Y.lst (E.sliceL (E.loc 3) (Qp.of (E.bin opAdd (E.loc 6) (E.c (.int 1)))) (Qp.of (E.neg (E.c (.int 2)))))) (.one (.loc 7)) (S.cons (S.set (.loc 4) (E.ite (T.val (E.call true ap_ISNONTERMINAL (E.c (.val (.ref 117))) (L.cons (E.loc 7) L.nil))) (E.bin opAdd (E.sliceL (E.loc 4) Qp.no (Qp.of (E.neg (E.c (.int 1))))) (E.lst (L.cons (E.bin opAdd (E.sub (E.loc 4) (E.neg (E.c (.int 1)))) (E.lst (L.cons (E.loc 7) L.nil))) L.nil))) (E.bin opAdd (E.loc 4) (E.lst (L.cons (E.lst L.nil) L.nil)))))
 S.nil))
 (S.cons (S.set (.loc 8) (E.comp 1 0 [] (Y.lst (E.sub (E.loc 4) (E.ite (T.cmp cmpEq (E.sub (E.cel 0) (E.sub (E.loc 3) (E.loc 6))) (E.c (.str "("))) (E.c (.int 0)) (E.c (.int 1))))) (.one (.loc 0)) (T.c true) (C.elt (E.bin opSub (E.loc 0) (E.c (.int 256))))))
 (S.cons (S.set (.loc 9) (E.call true ap__law_filled (E.c (.val (.ref 141))) (L.cons (E.call true ap__int2digits (E.c (.val (.ref 35))) (L.cons (E.call true ap__digits2int (E.c (.val (.ref 42))) (L.cons (E.loc 8) (L.cons (E.c (.int 13)) L.nil))) (L.cons (E.c (.int 14)) L.nil))) (L.cons (E.loc 4) L.nil))))
 (S.cons (S.setW [.loc 10,.loc 11] (E.tup (L.cons (E.call true ap__digits2int (E.c (.val (.ref 42))) (L.cons (E.loc 9) (L.cons (E.c (.int 14)) L.nil))) (L.cons (E.meth "str" opJoin (E.c (.str "")) (L.cons (E.comp 1 0 [0] (Y.lst (E.loc 9)) (.one (.loc 0)) (T.c true) (C.elt (E.ite (T.val (E.call true ap_ISTERMINAL (E.c (.val (.ref 110))) (L.cons (E.loc 0) L.nil))) (E.meth "dict" opGet (E.cel 0) (L.cons (E.loc 0) (L.cons (E.c (.str "")) L.nil))) (E.app opChr (L.cons (E.loc 0) L.nil))))) L.nil)) L.nil))))
 (S.cons (S.for (Y.rev (L.cons (E.sliceL (E.loc 3) Qp.no (Qp.of (E.loc 6))) L.nil)) (.one (.loc 7)) (S.cons (S.ite (T.val (E.call true ap_ISNONTERMINAL (E.c (.val (.ref 117))) (L.cons (E.loc 7) L.nil))) (S.cons (S.set (.loc 12) (E.callK true ap__get_name_info (E.c (.val (.ref 86))) (L.cons (E.bin opSub (E.loc 7) (E.c (.int 256))) (L.cons (E.loc 1) L.nil)) (L.cons (E.loc 10) (L.cons (E.loc 11) L.nil))))
 (S.cons (S.ite (T.or (T.not (T.val (E.app opIsTup (L.cons (E.loc 12) (L.cons (E.c (.val (.type "tuple"))) L.nil))))) (T.or (T.cmp cmpIsNot (E.sub (E.loc 12) (E.c (.int 0))) (E.sub (E.loc 12) (E.c (.int 1)))) (T.c false))) S.bot S.nil)
 (S.cons (S.expr (E.meth "list" opAppend (E.loc 5) (L.cons (E.sub (E.loc 12) (E.c (.int 0))) L.nil)))
 S.nil))) (S.cons (S.ite (T.cmp cmpEq (E.sub (E.cel 0) (E.loc 7)) (E.c (.str "~"))) (S.cons (S.expr (E.meth "list" opAppend (E.loc 5) (L.cons (E.not (E.meth "list" opPop (E.loc 5) L.nil)) L.nil)))
 S.nil) (S.cons (S.setW [.loc 13,.loc 14] (E.tup (L.cons (E.meth "list" opPop (E.loc 5) L.nil) (L.cons (E.meth "list" opPop (E.loc 5) L.nil) L.nil))))
 (S.cons (S.expr (E.meth "list" opAppend (E.loc 5) (L.cons (E.ite (T.cmp cmpEq (E.sub (E.cel 0) (E.loc 7)) (E.c (.str "^"))) (E.cmp cmpNe (E.loc 13) (E.loc 14)) (E.ite (T.cmp cmpEq (E.sub (E.cel 0) (E.loc 7)) (E.c (.str "|"))) (E.or (E.loc 13) (E.loc 14)) (E.and (E.loc 13) (E.loc 14)))) L.nil)))
 S.nil)))
 S.nil))
 S.nil))
 (S.cons (S.ret (E.lst (L.cons (E.frz (E.loc 3)) (L.cons (E.frz (E.loc 5)) L.nil))))
 S.nil))))))))))
theorem j_law_read {B:BC} {k:Nat} (hB:BOk B) (ap_ISEOF:AV->Option FS) (ap__parse_varint:AV->Option FS) (ap_h_ISTERMINAL:AV->Option FS) (ap_ISNONTERMINAL:AV->Option FS) (ap__law_filled:AV->Option FS) (ap__int2digits:AV->Option FS) (ap__digits2int:AV->Option FS) (ap_ISTERMINAL:AV->Option FS) (ap__get_name_info:AV->Option FS) (hap_ISEOF:AppOk B k true ap_ISEOF) (hap__parse_varint:AppOk B k true ap__parse_varint) (hap_h_ISTERMINAL:AppOk B k false ap_h_ISTERMINAL) (hap_ISNONTERMINAL:AppOk B k true ap_ISNONTERMINAL) (hap__law_filled:AppOk B k true ap__law_filled) (hap__int2digits:AppOk B k true ap__int2digits) (hap__digits2int:AppOk B k true ap__digits2int) (hap_ISTERMINAL:AppOk B k true ap_ISTERMINAL) (hap__get_name_info:AppOkK B k true ["number","text"] ap__get_name_info):JS B κ_law_read k (bd 79) (P_law_read ap_ISEOF ap__parse_varint ap_h_ISTERMINAL ap_ISNONTERMINAL ap__law_filled ap__int2digits ap__digits2int ap_ISTERMINAL ap__get_name_info):=
 js_of (prS (⟨hB,[221047,221057,227056,237016,244012,244017],[("ISEOF",⟨ap_ISEOF,hap_ISEOF⟩),("_parse_varint",⟨ap__parse_varint,hap__parse_varint⟩),("ISNONTERMINAL",⟨ap_ISNONTERMINAL,hap_ISNONTERMINAL⟩),("_law_filled",⟨ap__law_filled,hap__law_filled⟩),("_int2digits",⟨ap__int2digits,hap__int2digits⟩),("_digits2int",⟨ap__digits2int,hap__digits2int⟩),("ISTERMINAL",⟨ap_ISTERMINAL,hap_ISTERMINAL⟩)],[("ISTERMINAL",⟨ap_h_ISTERMINAL,hap_h_ISTERMINAL⟩)],[("_get_name_info",["number","text"],ap__get_name_info)],λ q m=>by obtain rfl:=List.mem_singleton.mp m;exact hap__get_name_info,λ o o=>.z,λ o o=>.z⟩:Hk B k) 20 κ_law_read (bd 79)) (by kernel_rfl)
noncomputable def κ_law_holds:Sc:={ scope:=sc 80,loc:=["own","other","formula","shape","y","v","w","number","asked","a","b","c","pieces","fits","report","error","truths","due","index"],cel:=["z","signs","text","divisions","pattern","told"],code:=some 174,qual:="_law_holds.<locals>." }
noncomputable def Q_law_holds (l4:PE) (l6:PE) (l5:PE) (ap__law_number:AV->Option FS) (ap__law_division:AV->Option FS) (ap__law_fits:AV->Option FS) (ap__law_read:AV->Option FS) (ap__law_tape:AV->Option FS) (ap__law_formula:AV->Option FS):PS:=
 (S.cons (S.set (.cel 1) (E.dict [(7,"("),(8,")"),(9,"["),(10,"]"),(12,","),(18,"|"),(19,"&"),(31,"~"),(32,"^")]))
 (S.cons (S.setP (.many [.loc 7,.cel 2]) (E.tup (L.cons (E.call true ap__law_number (E.c (.val (.ref 136))) (L.cons (E.loc 1) L.nil)) (L.cons (E.meth "str" opJoin (E.c (.str "")) (L.cons (E.comp 1 0 [1] (Y.lst (E.loc 1)) (.one (.loc 0)) (T.c true) (C.elt (E.ite (T.cmp cmpLt (E.loc 0) (E.c (.int 256))) (E.sub (E.cel 0) (E.loc 0)) (E.app opChr (L.cons (E.loc 0) L.nil))))) L.nil)) L.nil))))
 (S.cons (S.setP (.many [.cel 3,.cel 5,.loc 8]) (E.tup (L.cons (E.lst (L.cons (E.call true ap__law_division (E.c (.val (.ref 153))) (L.cons (E.loc 4) (L.cons (E.loc 7) L.nil))) (L.cons (E.call true ap__law_division (E.c (.val (.ref 153))) (L.cons (E.loc 5) (L.cons (E.loc 7) L.nil))) L.nil))) (L.cons (E.new L.nil) (L.cons (E.new L.nil) L.nil)))))
 (S.cons (S.setL [.loc 9,.loc 10,.loc 11] (E.comp 1 0 [2,0] (Y.tup (E.tup (L.cons (E.c (.int 5)) (L.cons (E.c (.int 200)) (L.cons (E.c (.int 9000)) L.nil))))) (.one (.loc 0)) (T.c true) (C.elt (E.bin opMod (E.bin opDiv (E.cel 1) (E.loc 0)) (E.bin opAdd (E.app opLen (L.cons (E.cel 0) L.nil)) (E.c (.int 1)))))))
 (S.cons (S.set (.loc 12) (E.sub (E.lst (L.cons (E.lst (L.cons (E.sliceS (E.cel 2) Qp.no (Qp.of (E.loc 9))) (L.cons (E.sliceS (E.cel 2) (Qp.of (E.loc 10)) Qp.no) L.nil))) (L.cons (E.lst (L.cons (E.bin opAdd (E.sliceS (E.cel 2) Qp.no (Qp.of (E.loc 9))) (E.sliceS (E.cel 2) (Qp.of (E.bin opAdd (E.loc 9) (E.bin opMod (E.loc 10) (E.c (.int 2))))) Qp.no)) L.nil)) (L.cons (E.lst (L.cons (E.c (.str "")) (L.cons (E.sliceS (E.cel 2) (Qp.of (E.loc 9)) (Qp.of (E.bin opAdd (E.loc 9) (E.c (.int 3))))) (L.cons (E.sliceS (E.cel 2) (Qp.of (E.loc 10)) (Qp.of (E.bin opAdd (E.loc 10) (E.c (.int 2))))) (L.cons (E.c (.str "")) L.nil))))) (L.cons (E.lst (L.cons (E.sliceS (E.cel 2) (Qp.of (E.loc 9)) Qp.no) (L.cons (E.c (.str "")) (L.cons (E.sliceS (E.cel 2) Qp.no (Qp.of (E.loc 10))) L.nil)))) (L.cons (E.lst (L.cons (E.sliceS (E.cel 2) Qp.no (Qp.of (E.loc 9))) (L.cons (E.sliceS (E.cel 2) (Qp.of (E.loc 10)) (Qp.of (E.bin opAdd (E.loc 10) (E.c (.int 2))))) (L.cons (E.sliceS (E.cel 2) (Qp.of (E.loc 11)) Qp.no) L.nil)))) L.nil)))))) (E.bin opMod (E.cel 0) (E.c (.int 5)))))
 (S.cons (S.setP (.many [.loc 13,.cel 4]) (E.tup (L.cons (E.call true ap__law_fits (E.c (.val (.ref 158))) (L.cons (E.loc 12) (L.cons (E.cel 2) L.nil))) (L.cons (E.meth "str" opJoin (E.c (.str "...")) (L.cons (E.loc 12) L.nil)) L.nil))))
 (S.cons (S.tryAs "ZeroDivisionError" 15 (S.set (.loc 14) (E.call true ap__law_read (E.c (.val (.ref 170))) (L.cons (E.call true ap__law_tape (E.c (.val (.ref 146))) (L.cons (E.bin opAdd (E.loc 0) (E.lst (L.cons (E.c (.int 0)) L.nil))) (L.cons (E.loc 6) L.nil))) (L.cons l4 L.nil)))) (S.cons (S.set (.loc 14) (E.lst (L.cons (E.c (.str "ZeroDivisionError")) (L.cons (E.strX 15) L.nil))))
 S.nil))
 (S.cons (S.set (.loc 16) (E.lst (L.cons (E.cmp cmpEq (E.sub (E.sub (E.cel 3) (E.c (.int 0))) (E.c (.int 2))) (E.sub (E.sub (E.cel 3) (E.c (.int 0))) (E.c (.int 3)))) (L.cons (E.loc 13) (L.cons (E.cmp cmpEq (E.sub (E.sub (E.cel 3) (E.c (.int 1))) (E.c (.int 2))) (E.sub (E.sub (E.cel 3) (E.c (.int 1))) (E.c (.int 3)))) L.nil)))))
 (S.cons (S.set (.loc 17) (E.lst (L.cons (E.bin opAdd (E.loc 0) (E.lst (L.cons (E.c (.int 0)) L.nil))) (L.cons (E.lst (L.cons (E.call true ap__law_formula (E.c (.val (.ref 131))) (L.cons (E.loc 3) (L.cons (E.loc 16) (L.cons l5 (L.cons l6 L.nil))))) L.nil)) L.nil))))
 (S.cons (S.for (Y.lst (E.comp 1 0 [] (Y.rev (L.cons (E.loc 2) L.nil)) (.one (.loc 0)) (T.cmp cmpGt (E.loc 0) (E.c (.int 255))) (C.elt (E.bin opSub (E.loc 0) (E.c (.int 256)))))) (.one (.loc 18)) (S.cons (S.ite (T.and (T.cmp cmpNe (E.loc 18) (E.c (.int 1))) (T.and (T.cmp cmpEq (E.sub (E.sub (E.cel 3) (E.bin opDiv (E.loc 18) (E.c (.int 2)))) (E.c (.int 1))) (E.c (.int 0))) (T.c true))) (S.cons (S.set (.loc 17) (E.lst (L.cons (E.c (.str "ZeroDivisionError")) (L.cons (E.c (.str "")) L.nil))))
 (S.cons S.brk
 S.nil)) S.nil)
 (S.cons (S.expr (E.meth "list" opAppend (E.loc 8) (L.cons (E.ite (T.cmp cmpEq (E.loc 18) (E.c (.int 1))) (E.lst (L.cons (E.c (.int 1)) (L.cons (E.loc 7) (L.cons (E.cel 2) (L.cons (E.loc 13) (L.cons (E.not (E.loc 13)) L.nil)))))) (E.lst (L.cons (E.loc 18) (L.cons (E.loc 7) (L.cons (E.cel 2) (L.cons (E.sub (E.sub (E.cel 3) (E.bin opDiv (E.loc 18) (E.c (.int 2)))) (E.c (.int 2))) L.nil)))))) L.nil)))
 S.nil)))
 (S.cons (S.ret (E.cmp cmpEq (E.lst (L.cons (E.loc 14) (L.cons (E.frz (E.cel 5)) L.nil))) (E.lst (L.cons (E.loc 17) (L.cons (E.frz (E.loc 8)) L.nil)))))
 S.nil)))))))))))
noncomputable abbrev P_law_holds (ap__law_number:AV->Option FS) (ap__law_division:AV->Option FS) (ap__law_fits:AV->Option FS) (ap__law_read:AV->Option FS) (ap__law_tape:AV->Option FS) (ap__law_formula:AV->Option FS):PS:=Q_law_holds (E.lam 4 [3,4,5]) (E.lam 6 []) (E.lam 5 []) ap__law_number ap__law_division ap__law_fits ap__law_read ap__law_tape ap__law_formula
theorem hmk4 {B:BC} (hB:BOk B):MakeOk B κ_law_holds 4 ct4.2 [3,4,5] 174 172 ct4.1:=
 ⟨by rw [hB.clo];rfl,by kernel_rfl,by rw [hB.tabs];decide,λ p h1 h2=>by rw [hB.tq,h1,h2];kernel_rfl,of_decide_eq_true (by kernel_rfl),of_decide_eq_true (by kernel_rfl),of_decide_eq_true (by kernel_rfl),by kernel_rfl⟩
theorem hmk6 {B:BC} (hB:BOk B):MakeOk B κ_law_holds 6 ct6.2 [] 174 172 ct6.1:=
 ⟨by rw [hB.clo];rfl,by kernel_rfl,by rw [hB.tabs];decide,λ p h1 h2=>by rw [hB.tq,h1,h2];kernel_rfl,of_decide_eq_true (by kernel_rfl),of_decide_eq_true (by kernel_rfl),of_decide_eq_true (by kernel_rfl),by kernel_rfl⟩
theorem hmk5 {B:BC} (hB:BOk B):MakeOk B κ_law_holds 5 ct5.2 [] 174 172 ct5.1:=
 ⟨by rw [hB.clo];rfl,by kernel_rfl,by rw [hB.tabs];decide,λ p h1 h2=>by rw [hB.tq,h1,h2];kernel_rfl,of_decide_eq_true (by kernel_rfl),of_decide_eq_true (by kernel_rfl),of_decide_eq_true (by kernel_rfl),by kernel_rfl⟩
theorem jl4 {B:BC} {k:Nat} (hB:BOk B):JE B κ_law_holds k (exE (stE (stN (stB (stN (bd 80) 6) 0) 0)) 2) (E.lam 4 [3,4,5]):=JE.lam (fm:=[3,4,5]) (hmk4 hB) rfl (by kernel_rfl) rfl rfl rfl λ z=>rfl
theorem jl6 {B:BC} {k:Nat} (hB:BOk B):JE B κ_law_holds k (exE (exE (exE (stE (stN (bd 80) 8)) 1) 0) 4) (E.lam 6 []):=JE.lam (fm:=[]) (hmk6 hB) rfl (by kernel_rfl) rfl rfl rfl λ z=>rfl
theorem jl5 {B:BC} {k:Nat} (hB:BOk B):JE B κ_law_holds k (exE (exE (exE (stE (stN (bd 80) 8)) 1) 0) 3) (E.lam 5 []):=JE.lam (fm:=[]) (hmk5 hB) rfl (by kernel_rfl) rfl rfl rfl λ z=>rfl
theorem e_law_holds {B:BC} {k:Nat} (hB:BOk B) (ap__law_number:AV->Option FS) (ap__law_division:AV->Option FS) (ap__law_fits:AV->Option FS) (ap__law_read:AV->Option FS) (ap__law_tape:AV->Option FS) (ap__law_formula:AV->Option FS) (hap__law_number:AppOk B k true ap__law_number) (hap__law_division:AppOk B k true ap__law_division) (hap__law_fits:AppOk B k true ap__law_fits) (hap__law_read:AppOk B k true ap__law_read) (hap__law_tape:AppOk B k true ap__law_tape) (hap__law_formula:AppOk B k true ap__law_formula) (le:∀ κ e,RE B k κ e):(prS (⟨hB,[248084,248088,263020,263035],[("_law_number",⟨ap__law_number,hap__law_number⟩),("_law_division",⟨ap__law_division,hap__law_division⟩),("_law_fits",⟨ap__law_fits,hap__law_fits⟩),("_law_read",⟨ap__law_read,hap__law_read⟩),("_law_tape",⟨ap__law_tape,hap__law_tape⟩),("_law_formula",⟨ap__law_formula,hap__law_formula⟩)],[],[],nofun,le,λ o o=>.z⟩:Hk B k) 20 κ_law_holds (bd 80)).1=Q_law_holds (le κ_law_holds (exE (stE (stN (stB (stN (bd 80) 6) 0) 0)) 2)).1 (le κ_law_holds (exE (exE (exE (stE (stN (bd 80) 8)) 1) 0) 4)).1 (le κ_law_holds (exE (exE (exE (stE (stN (bd 80) 8)) 1) 0) 3)).1 ap__law_number ap__law_division ap__law_fits ap__law_read ap__law_tape ap__law_formula:=by kernel_rfl
theorem f_law_holds {B:BC} {k:Nat} (hB:BOk B) (ap__law_number:AV->Option FS) (ap__law_division:AV->Option FS) (ap__law_fits:AV->Option FS) (ap__law_read:AV->Option FS) (ap__law_tape:AV->Option FS) (ap__law_formula:AV->Option FS):Q_law_holds (lamE (B:=B) (k:=k) [(253052,E.lam 4 [3,4,5]),(257068,E.lam 6 []),(257051,E.lam 5 [])] κ_law_holds (exE (stE (stN (stB (stN (bd 80) 6) 0) 0)) 2)).1 (lamE (B:=B) (k:=k) [(253052,E.lam 4 [3,4,5]),(257068,E.lam 6 []),(257051,E.lam 5 [])] κ_law_holds (exE (exE (exE (stE (stN (bd 80) 8)) 1) 0) 4)).1 (lamE (B:=B) (k:=k) [(253052,E.lam 4 [3,4,5]),(257068,E.lam 6 []),(257051,E.lam 5 [])] κ_law_holds (exE (exE (exE (stE (stN (bd 80) 8)) 1) 0) 3)).1 ap__law_number ap__law_division ap__law_fits ap__law_read ap__law_tape ap__law_formula=P_law_holds ap__law_number ap__law_division ap__law_fits ap__law_read ap__law_tape ap__law_formula:=by
 rw [lamE_eq (t:=[(253052,E.lam 4 [3,4,5]),(257068,E.lam 6 []),(257051,E.lam 5 [])]) (by kernel_rfl) (jl4 (k:=k) hB),lamE_eq (t:=[(253052,E.lam 4 [3,4,5]),(257068,E.lam 6 []),(257051,E.lam 5 [])]) (by kernel_rfl) (jl6 (k:=k) hB),lamE_eq (t:=[(253052,E.lam 4 [3,4,5]),(257068,E.lam 6 []),(257051,E.lam 5 [])]) (by kernel_rfl) (jl5 (k:=k) hB)]
theorem j_law_holds {B:BC} {k:Nat} (hB:BOk B) (ap__law_number:AV->Option FS) (ap__law_division:AV->Option FS) (ap__law_fits:AV->Option FS) (ap__law_read:AV->Option FS) (ap__law_tape:AV->Option FS) (ap__law_formula:AV->Option FS) (hap__law_number:AppOk B k true ap__law_number) (hap__law_division:AppOk B k true ap__law_division) (hap__law_fits:AppOk B k true ap__law_fits) (hap__law_read:AppOk B k true ap__law_read) (hap__law_tape:AppOk B k true ap__law_tape) (hap__law_formula:AppOk B k true ap__law_formula):JS B κ_law_holds k (bd 80) (P_law_holds ap__law_number ap__law_division ap__law_fits ap__law_read ap__law_tape ap__law_formula):=
 @js_of _ _ _ _ _ _ ((e_law_holds hB ap__law_number ap__law_division ap__law_fits ap__law_read ap__law_tape ap__law_formula hap__law_number hap__law_division hap__law_fits hap__law_read hap__law_tape hap__law_formula (lamE [(253052,E.lam 4 [3,4,5]),(257068,E.lam 6 []),(257051,E.lam 5 [])])).trans (f_law_holds hB ap__law_number ap__law_division ap__law_fits ap__law_read ap__law_tape ap__law_formula))
noncomputable def κlaw:Sc:={ scope:=sc 81,loc:=["script","numbers","place","x","ring","forms","values","halves","rows","i","nobody","one"],cel:=["formulas","closes","numerals"],code:=some 179,qual:="law.<locals>." }
noncomputable def Qlaw (l3:PE) (l2:PE) (ap__law_formula:AV->Option FS) (ap__law_number:AV->Option FS) (ap__int2digits:AV->Option FS) (ap__law_filled:AV->Option FS) (ap__law_holds:AV->Option FS) (ap__get_name_info:AV->Option FS) (ap_ISEOF:AV->Option FS) (ap_ISNONTERMINAL:AV->Option FS) (ap_ISTERMINAL:AV->Option FS):PS:=
 (S.cons (S.set (.loc 1) (E.new (L.cons (E.c (.int 0)) (L.cons (E.c (.int 100)) (L.cons (E.c (.int 203)) (L.cons (E.c (.int 316165)) (L.cons (E.c (.int 320)) (L.cons (E.c (.int 109464)) (L.cons (E.c (.int 100119)) (L.cons (E.c (.int 1792866)) L.nil))))))))))
 (S.cons (S.for (Y.enu (L.cons (E.sliceL (E.loc 0) Qp.no (Qp.of (E.c (.int 60)))) L.nil)) (.many [.loc 2,.loc 3]) (S.cons (S.augItem inAdd (E.loc 1) (E.bin opMod (E.loc 2) (E.c (.int 8))) (E.bin opMod (E.loc 3) (E.bin opPow (E.c (.int 10)) (E.c (.int 6)))))
 S.nil))
 (S.cons (S.set (.loc 4) (E.bin opAdd (E.c (.int 1)) (E.bin opMod (E.sub (E.loc 1) (E.c (.int 0))) (E.c (.int 2)))))
 (S.cons (S.set (.cel 0) (E.comp 1 0 [] (Y.lst (E.sliceL (E.loc 1) (Qp.of (E.c (.int 1))) (Qp.of (E.bin opAdd (E.c (.int 1)) (E.loc 4))))) (.one (.loc 0)) (T.c true) (C.elt (E.call true ap__law_formula (E.c (.val (.ref 131))) (L.cons (E.loc 0) (L.cons (E.lst (L.cons (E.lst (L.cons (E.c (.int 256)) L.nil)) (L.cons (E.lst (L.cons (E.c (.int 257)) L.nil)) (L.cons (E.lst (L.cons (E.c (.int 258)) L.nil)) L.nil)))) (L.cons l2 (L.cons l3 L.nil))))))))
 (S.cons (S.set (.cel 1) (E.ite (T.cmp cmpEq (E.loc 4) (E.c (.int 1))) (E.lst (L.cons (E.lst (L.cons (E.c (.int 7)) (L.cons (E.c (.int 255)) (L.cons (E.c (.int 8)) L.nil)))) L.nil)) (E.lst (L.cons (E.lst (L.cons (E.c (.int 9)) (L.cons (E.c (.int 255)) (L.cons (E.c (.int 12)) (L.cons (E.c (.int 254)) (L.cons (E.c (.int 10)) L.nil)))))) (L.cons (E.lst (L.cons (E.c (.int 7)) (L.cons (E.c (.int 255)) (L.cons (E.c (.int 12)) (L.cons (E.c (.int 254)) (L.cons (E.c (.int 8)) L.nil)))))) L.nil)))))
 (S.cons (S.set (.loc 5) (E.comp 1 0 [1,0] (Y.rng (L.cons (E.loc 4) L.nil)) (.one (.loc 0)) (T.c true) (C.elt (E.bin opAdd (E.sub (E.cel 1) (E.loc 0)) (E.sub (E.cel 0) (E.loc 0))))))
 (S.cons (S.setW [.loc 6,.loc 7] (E.tup (L.cons (E.comp 1 0 [] (Y.lst (E.loc 5)) (.one (.loc 0)) (T.c true) (C.elt (E.call true ap__law_number (E.c (.val (.ref 136))) (L.cons (E.loc 0) L.nil)))) (L.cons (E.comp 1 0 [] (Y.lst (E.loc 5)) (.one (.loc 0)) (T.c true) (C.elt (E.bin opSub (E.bin opMul (E.c (.int 7)) (E.app opLen (L.cons (E.loc 0) L.nil))) (E.c (.int 5))))) L.nil))))
 (S.cons (S.ite (T.cmp cmpNe (E.comp 2 0 [] (Y.zip (L.cons (E.bin opAdd (E.loc 6) (E.lst (L.cons (E.c (.int 0)) L.nil))) (L.cons (E.bin opAdd (E.loc 7) (E.lst (L.cons (E.c (.int 9)) L.nil))) L.nil))) (.many [.loc 0,.loc 1]) (T.c true) (C.elt (E.call true ap__int2digits (E.c (.val (.ref 35))) (L.cons (E.loc 0) (L.cons (E.loc 1) L.nil))))) (E.bin opAdd (E.comp 2 0 [] (Y.zip (L.cons (E.loc 6) (L.cons (E.loc 7) L.nil))) (.many [.loc 0,.loc 1]) (T.c true) (C.elt (E.lst (L.cons (E.bin opMod (E.loc 0) (E.bin opPow (E.c (.int 2)) (E.loc 1))) (L.cons (E.bin opDiv (E.loc 0) (E.bin opPow (E.c (.int 2)) (E.loc 1))) L.nil))))) (E.lst (L.cons (E.lst L.nil) L.nil)))) (S.cons (S.ret (E.c (.bool false)))
 S.nil) S.nil)
 (S.cons (S.set (.cel 2) (E.comp 0 1 [] (Y.lst (E.loc 6)) (.one (.cel 0)) (T.c true) (C.elt (E.comp 1 0 [0] (Y.rng (L.cons (E.bin opDiv (E.bin opAdd (E.meth "int" opBits (E.cel 0) L.nil) (E.c (.int 12))) (E.c (.int 13))) L.nil)) (.one (.loc 0)) (T.c true) (C.elt (E.bin opAdd (E.c (.int 256)) (E.bin opMod (E.bin opDiv (E.cel 0) (E.bin opPow (E.c (.int 8192)) (E.loc 0))) (E.c (.int 8192)))))))))
 (S.cons (S.set (.loc 8) (E.comp 1 0 [2] (Y.lst (E.loc 5)) (.one (.loc 0)) (T.c true) (C.elt (E.call true ap__law_filled (E.c (.val (.ref 141))) (L.cons (E.loc 0) (L.cons (E.cel 0) L.nil))))))
 (S.cons (S.for (Y.rng (L.cons (E.loc 4) L.nil)) (.one (.loc 9)) (S.cons (S.ite (T.not (T.val (E.call true ap__law_holds (E.c (.val (.ref 175))) (L.cons (E.sub (E.loc 8) (E.loc 9)) (L.cons (E.sub (E.loc 8) (E.bin opSub (E.bin opSub (E.loc 4) (E.c (.int 1))) (E.loc 9))) (L.cons (E.sub (E.cel 0) (E.loc 9)) (L.cons (E.sub (E.loc 1) (E.bin opAdd (E.c (.int 1)) (E.loc 9))) (L.cons (E.sub (E.loc 1) (E.bin opAdd (E.c (.int 3)) (E.loc 9))) (L.cons (E.bin opAdd (E.sub (E.loc 1) (E.c (.int 7))) (E.bin opMul (E.c (.int 99)) (E.loc 9))) (L.cons (E.sub (E.loc 1) (E.bin opAdd (E.c (.int 5)) (E.loc 9))) (L.cons (E.bin opAdd (E.sub (E.loc 1) (E.c (.int 7))) (E.loc 9)) L.nil))))))))))) (S.cons (S.ret (E.c (.bool false)))
 S.nil) S.nil)
 S.nil))
 (S.cons (S.set (.loc 10) (E.callK true ap__get_name_info (E.c (.val (.ref 86))) (L.cons (E.sub (E.loc 1) (E.c (.int 7))) (L.cons (E.c .none) L.nil)) (L.cons (E.c (.int 0)) L.nil)))
 (S.cons (S.for (Y.lst (E.lst (L.cons (E.c (.int 0)) (L.cons (E.c (.int 1)) (L.cons (E.neg (E.c (.int 1))) (L.cons (E.c (.int 255)) (L.cons (E.c (.int 256)) (L.cons (E.call true ap__law_number (E.c (.val (.ref 136))) (L.cons (E.sub (E.loc 8) (E.c (.int 0))) L.nil)) (L.cons (E.neg (E.sub (E.loc 1) (E.c (.int 7)))) L.nil))))))))) (.one (.loc 11)) (S.cons (S.ite (T.or (T.cmp cmpIsNot (E.call true ap_ISTERMINAL (E.c (.val (.ref 110))) (L.cons (E.loc 11) L.nil)) (E.cmp cmpLt (E.loc 11) (E.c (.int 256)))) (T.or (T.cmp cmpIsNot (E.call true ap_ISNONTERMINAL (E.c (.val (.ref 117))) (L.cons (E.loc 11) L.nil)) (E.cmp cmpGt (E.loc 11) (E.c (.int 255)))) (T.or (T.cmp cmpIsNot (E.call true ap_ISEOF (E.c (.val (.ref 124))) (L.cons (E.loc 11) L.nil)) (E.cmp cmpEq (E.loc 11) (E.c (.int 0)))) (T.c false)))) (S.cons (S.ret (E.c (.bool false)))
 S.nil) S.nil)
 S.nil))
 (S.cons (S.ret (E.and (E.app opIsTup (L.cons (E.loc 10) (L.cons (E.c (.val (.type "tuple"))) L.nil))) (E.and (E.cmp cmpEq (E.app opLen (L.cons (E.loc 10) L.nil)) (E.c (.int 2))) (E.and (E.cmp cmpIs (E.sub (E.loc 10) (E.c (.int 0))) (E.c (.val (.ref 79)))) (E.cmp cmpEq (E.sub (E.loc 10) (E.c (.int 1))) (E.c (.str "")))))))
 S.nil))))))))))))))
noncomputable abbrev Plaw (ap__law_formula:AV->Option FS) (ap__law_number:AV->Option FS) (ap__int2digits:AV->Option FS) (ap__law_filled:AV->Option FS) (ap__law_holds:AV->Option FS) (ap__get_name_info:AV->Option FS) (ap_ISEOF:AV->Option FS) (ap_ISNONTERMINAL:AV->Option FS) (ap_ISTERMINAL:AV->Option FS):PS:=Qlaw (E.lam 3 []) (E.lam 2 []) ap__law_formula ap__law_number ap__int2digits ap__law_filled ap__law_holds ap__get_name_info ap_ISEOF ap_ISNONTERMINAL ap_ISTERMINAL
theorem hmk3 {B:BC} (hB:BOk B):MakeOk B (kC κlaw (scE (stE (stN (bd 81) 3))) (gnE (stE (stN (bd 81) 3)))) 3 ct3.2 [] 179 177 ct3.1:=
 ⟨by rw [hB.clo];rfl,by kernel_rfl,by rw [hB.tabs];decide,λ p h1 h2=>by rw [hB.tq,h1,h2];kernel_rfl,of_decide_eq_true (by kernel_rfl),of_decide_eq_true (by kernel_rfl),of_decide_eq_true (by kernel_rfl),by kernel_rfl⟩
theorem hmk2 {B:BC} (hB:BOk B):MakeOk B (kC κlaw (scE (stE (stN (bd 81) 3))) (gnE (stE (stN (bd 81) 3)))) 2 ct2.2 [] 179 177 ct2.1:=
 ⟨by rw [hB.clo];rfl,by kernel_rfl,by rw [hB.tabs];decide,λ p h1 h2=>by rw [hB.tq,h1,h2];kernel_rfl,of_decide_eq_true (by kernel_rfl),of_decide_eq_true (by kernel_rfl),of_decide_eq_true (by kernel_rfl),by kernel_rfl⟩
theorem jl3 {B:BC} {k:Nat} (hB:BOk B):JE B (kC κlaw (scE (stE (stN (bd 81) 3))) (gnE (stE (stN (bd 81) 3)))) k (exE (exE (stE (stN (bd 81) 3)) 0) 4) (E.lam 3 []):=JE.lam (fm:=[]) (hmk3 hB) rfl (by kernel_rfl) rfl rfl rfl λ z=>rfl
theorem jl2 {B:BC} {k:Nat} (hB:BOk B):JE B (kC κlaw (scE (stE (stN (bd 81) 3))) (gnE (stE (stN (bd 81) 3)))) k (exE (exE (stE (stN (bd 81) 3)) 0) 3) (E.lam 2 []):=JE.lam (fm:=[]) (hmk2 hB) rfl (by kernel_rfl) rfl rfl rfl λ z=>rfl
theorem elaw {B:BC} {k:Nat} (hB:BOk B) (ap__law_formula:AV->Option FS) (ap__law_number:AV->Option FS) (ap__int2digits:AV->Option FS) (ap__law_filled:AV->Option FS) (ap__law_holds:AV->Option FS) (ap__get_name_info:AV->Option FS) (ap_ISEOF:AV->Option FS) (ap_ISNONTERMINAL:AV->Option FS) (ap_ISTERMINAL:AV->Option FS) (hap__law_formula:AppOk B k true ap__law_formula) (hap__law_number:AppOk B k true ap__law_number) (hap__int2digits:AppOk B k true ap__int2digits) (hap__law_filled:AppOk B k true ap__law_filled) (hap__law_holds:AppOk B k true ap__law_holds) (hap__get_name_info:AppOkK B k true ["number"] ap__get_name_info) (hap_ISEOF:AppOk B k true ap_ISEOF) (hap_ISNONTERMINAL:AppOk B k true ap_ISNONTERMINAL) (hap_ISTERMINAL:AppOk B k true ap_ISTERMINAL) (le:∀ κ e,RE B k κ e):(prS (⟨hB,[265014],[("_law_formula",⟨ap__law_formula,hap__law_formula⟩),("_law_number",⟨ap__law_number,hap__law_number⟩),("_int2digits",⟨ap__int2digits,hap__int2digits⟩),("_law_filled",⟨ap__law_filled,hap__law_filled⟩),("_law_holds",⟨ap__law_holds,hap__law_holds⟩),("ISEOF",⟨ap_ISEOF,hap_ISEOF⟩),("ISNONTERMINAL",⟨ap_ISNONTERMINAL,hap_ISNONTERMINAL⟩),("ISTERMINAL",⟨ap_ISTERMINAL,hap_ISTERMINAL⟩)],[],[("_get_name_info",["number"],ap__get_name_info)],λ q m=>by obtain rfl:=List.mem_singleton.mp m;exact hap__get_name_info,le,λ o o=>.z⟩:Hk B k) 20 κlaw (bd 81)).1=Qlaw (le (kC κlaw (scE (stE (stN (bd 81) 3))) (gnE (stE (stN (bd 81) 3)))) (exE (exE (stE (stN (bd 81) 3)) 0) 4)).1 (le (kC κlaw (scE (stE (stN (bd 81) 3))) (gnE (stE (stN (bd 81) 3)))) (exE (exE (stE (stN (bd 81) 3)) 0) 3)).1 ap__law_formula ap__law_number ap__int2digits ap__law_filled ap__law_holds ap__get_name_info ap_ISEOF ap_ISNONTERMINAL ap_ISTERMINAL:=by kernel_rfl
theorem flaw {B:BC} {k:Nat} (hB:BOk B) (ap__law_formula:AV->Option FS) (ap__law_number:AV->Option FS) (ap__int2digits:AV->Option FS) (ap__law_filled:AV->Option FS) (ap__law_holds:AV->Option FS) (ap__get_name_info:AV->Option FS) (ap_ISEOF:AV->Option FS) (ap_ISNONTERMINAL:AV->Option FS) (ap_ISTERMINAL:AV->Option FS):Qlaw (lamE (B:=B) (k:=k) [(269075,E.lam 3 []),(269055,E.lam 2 [])] (kC κlaw (scE (stE (stN (bd 81) 3))) (gnE (stE (stN (bd 81) 3)))) (exE (exE (stE (stN (bd 81) 3)) 0) 4)).1 (lamE (B:=B) (k:=k) [(269075,E.lam 3 []),(269055,E.lam 2 [])] (kC κlaw (scE (stE (stN (bd 81) 3))) (gnE (stE (stN (bd 81) 3)))) (exE (exE (stE (stN (bd 81) 3)) 0) 3)).1 ap__law_formula ap__law_number ap__int2digits ap__law_filled ap__law_holds ap__get_name_info ap_ISEOF ap_ISNONTERMINAL ap_ISTERMINAL=Plaw ap__law_formula ap__law_number ap__int2digits ap__law_filled ap__law_holds ap__get_name_info ap_ISEOF ap_ISNONTERMINAL ap_ISTERMINAL:=by
 rw [lamE_eq (t:=[(269075,E.lam 3 []),(269055,E.lam 2 [])]) (by kernel_rfl) (jl3 (k:=k) hB),lamE_eq (t:=[(269075,E.lam 3 []),(269055,E.lam 2 [])]) (by kernel_rfl) (jl2 (k:=k) hB)]
theorem jlaw {B:BC} {k:Nat} (hB:BOk B) (ap__law_formula:AV->Option FS) (ap__law_number:AV->Option FS) (ap__int2digits:AV->Option FS) (ap__law_filled:AV->Option FS) (ap__law_holds:AV->Option FS) (ap__get_name_info:AV->Option FS) (ap_ISEOF:AV->Option FS) (ap_ISNONTERMINAL:AV->Option FS) (ap_ISTERMINAL:AV->Option FS) (hap__law_formula:AppOk B k true ap__law_formula) (hap__law_number:AppOk B k true ap__law_number) (hap__int2digits:AppOk B k true ap__int2digits) (hap__law_filled:AppOk B k true ap__law_filled) (hap__law_holds:AppOk B k true ap__law_holds) (hap__get_name_info:AppOkK B k true ["number"] ap__get_name_info) (hap_ISEOF:AppOk B k true ap_ISEOF) (hap_ISNONTERMINAL:AppOk B k true ap_ISNONTERMINAL) (hap_ISTERMINAL:AppOk B k true ap_ISTERMINAL):JS B κlaw k (bd 81) (Plaw ap__law_formula ap__law_number ap__int2digits ap__law_filled ap__law_holds ap__get_name_info ap_ISEOF ap_ISNONTERMINAL ap_ISTERMINAL):=
 @js_of _ _ _ _ _ _ ((elaw hB ap__law_formula ap__law_number ap__int2digits ap__law_filled ap__law_holds ap__get_name_info ap_ISEOF ap_ISNONTERMINAL ap_ISTERMINAL hap__law_formula hap__law_number hap__int2digits hap__law_filled hap__law_holds hap__get_name_info hap_ISEOF hap_ISNONTERMINAL hap_ISTERMINAL (lamE [(269075,E.lam 3 []),(269055,E.lam 2 [])])).trans (flaw hB ap__law_formula ap__law_number ap__int2digits ap__law_filled ap__law_holds ap__get_name_info ap_ISEOF ap_ISNONTERMINAL ap_ISTERMINAL))
end
section
variable {B:BC} {k:Nat}
theorem JApp.of {nh:Bool} {av:AV} {sp sp':FS} (j:JApp B k nh av sp') (h:∀ l σ K X,sp l σ K X->sp' l σ K X):JApp B k nh av sp:=
 λ A fs α σ s u vs l K X hk amb hn W r rl hf=>j A fs α σ s u vs l K X hk amb hn W r rl (h _ _ _ _ hf)
noncomputable def scOk (κ:Sc) (free:List Str):Bool:=(match κ.scope.kind with | .function=>true | _=>false)&&!κ.scope.isCoroutine&&!κ.scope.isGenerator&&decide (κ.cel=ownC κ.scope.names++free)&&decide (ownC κ.scope.names).Nodup&&decide (∀ x∈free,x∉ownC κ.scope.names)&&decide κ.loc.Nodup
structure ScOk (κ:Sc) (free:List Str):Prop where
 kind:κ.scope.kind=.function
 co:κ.scope.isCoroutine=false
 gen:κ.scope.isGenerator=false
 cel:κ.cel=ownC κ.scope.names++free
 own:(ownC κ.scope.names).Nodup
 dis:∀ x∈free,x∉ownC κ.scope.names
 loc:κ.loc.Nodup
theorem ScOk.of {κ:Sc} {free:List Str} (h:scOk κ free=true):ScOk κ free:=by
 unfold scOk at h
 simp only [Bool.and_eq_true,decide_eq_true_eq,Bool.not_eq_true'] at h
 obtain ⟨⟨⟨⟨⟨⟨h1,h2⟩,h3⟩,h4⟩,h5⟩,h6⟩,h7⟩:=h
 refine ⟨?_,h2,h3,h4,h5,h6,h7⟩
 cases q:κ.scope.kind<;>rw [q] at h1<;>first | rfl | cases h1
theorem JApp.fnK {κ:Sc} {fa c:Addr} {q:Str} {i:Nat} {ps:List Str} {nh:Bool} {ts:List Tg} {p:PS} (f:FnK B.K fa c q i (PosB ps)) (hsc:κ.scope=sc i) (hS:scOk κ []=true) (hmade:∀ c',κ.code=some c'->c'=c/\κ.qual=q) (hpl:ps.length=ts.length) (hps:NmsOk κ ps ts) (js:JS B κ k (bd i) p):
  JApp B (k+1) nh (.val (.ref fa)) (callS κ (ownC κ.scope.names).length [] nh ts p):=by
 obtain ⟨o,fd,h1,h2,h3,h4,h5,h6,h7,h8,h9,h10⟩:=f
 have S:=ScOk.of hS
 exact JApp.fn h1 h2 (h3.trans hsc.symm) h4 h5 h6 h7 (λ c' e=>by obtain ⟨rfl,e2⟩:=hmade c' e;exact ⟨h8,h9.trans e2.symm⟩) S.kind S.co S.gen (S.cel.trans (List.append_nil _)) S.own S.loc (λ vs h=>h10 vs (h.trans hpl.symm)) hpl hps js
theorem JApp.cloK {κ:Sc} {i:Nat} {cs:List Nat} {t:CloT} {nh:Bool} {ts:List Tg} {ps:List Str} {body:List Stmt} {p:PS} (ht:B.clo i=some t) (hsc:t.scope=κ.scope) (hnc:κ.code=none) (hbody:t.body=.stmts body) (hS:scOk κ t.free=true)
  (hbind:∀ (cl:List (Str×Addr)) (doc pm cd ct:Value) (vs:List Value),vs.length=ts.length->bindArgs (cloFn t cl doc pm cd ct) ⟨vs,[]⟩=pure (ps.zip vs)) (hpl:ps.length=ts.length) (hps:NmsOk κ ps ts) (js:JS B κ k body p):
  JApp B (k+1) nh (.clo i cs) (callS κ (ownC κ.scope.names).length cs nh ts p):=
 have S:=ScOk.of hS
 JApp.clo ht hsc hnc hbody S.kind S.co S.gen S.cel S.own S.dis S.loc hbind hpl hps js
theorem JApp.lamK {κ:Sc} {i:Nat} {cs:List Nat} {t:CloT} {nh:Bool} {ts:List Tg} {ps:List Str} {body:Expr} {f:PE} (ht:B.clo i=some t) (hsc:t.scope=κ.scope) (hnc:κ.code=none) (hbody:t.body=.expr body) (hS:scOk κ t.free=true)
  (hbind:∀ (cl:List (Str×Addr)) (doc pm cd ct:Value) (vs:List Value),vs.length=ts.length->bindArgs (cloFn t cl doc pm cd ct) ⟨vs,[]⟩=pure (ps.zip vs)) (hpl:ps.length=ts.length) (hps:NmsOk κ ps ts) (je:JE B κ k body f):
  JApp B (k+1) nh (.clo i cs) (callE κ (ownC κ.scope.names).length cs nh ts f):=
 have S:=ScOk.of hS
 JApp.lam ht hsc hnc hbody S.kind S.co S.gen S.cel S.own S.dis S.loc hbind hpl hps je
noncomputable def onVal (fa:Addr) (sp:FS):AV->Option FS
 | .val (.ref a)=>if a=fa then some sp else none
 | _=>none
theorem onVal_self {fa:Addr} {sp:FS}:onVal fa sp (.val (.ref fa))=some sp:=if_pos rfl
set_option tactic.hygienic true in
theorem onVal_inv {fa:Addr} {sp sp':FS} {av:AV} (e:onVal fa sp av=some sp'):av=.val (.ref fa)/\sp'=sp:=by
 unfold onVal at e
 split at e
 ·split at e
  ·rename_i a e';subst e';cases e;exact ⟨rfl,rfl⟩
  ·cases e
 ·cases e
theorem FnK.like {fa c:Addr} {q:Str} {i:Nat} {bnd:FuncData->Prop} (f:FnK B.K fa c q i bnd):FnLike B (.val (.ref fa)):=by
 obtain ⟨o,fd,h1,h2,_⟩:=f
 exact ⟨o,fd,B.inK _ _ h1,h2⟩
theorem onVal_ok {fa c:Addr} {q:Str} {i:Nat} {bnd:FuncData->Prop} {sp:FS} {nh:Bool} (f:FnK B.K fa c q i bnd) (j:JApp B k nh (.val (.ref fa)) sp):AppOk B k nh (onVal fa sp):=λ av sp' e=>by
 obtain ⟨rfl,rfl⟩:=onVal_inv e
 exact ⟨f.like,j⟩
theorem onValK_ok {fa c:Addr} {q:Str} {i:Nat} {bnd:FuncData->Prop} {sp:FS} {nh:Bool} {names:List Str} (f:FnK B.K fa c q i bnd) (j:JAppK B k nh (.val (.ref fa)) names sp):AppOkK B k nh names (onVal fa sp):=λ av sp' e=>by
 obtain ⟨rfl,rfl⟩:=onVal_inv e
 exact ⟨f.like,j⟩
noncomputable def onClo (i:Nat) (sp:List Nat->FS):AV->Option FS
 | .clo j cs=>if j=i then some (sp cs) else none
 | _=>none
theorem onClo_self {i:Nat} {sp:List Nat->FS} {cs:List Nat}:onClo i sp (.clo i cs)=some (sp cs):=if_pos rfl
set_option tactic.hygienic true in
theorem onClo_inv {i:Nat} {sp:List Nat->FS} {sp':FS} {av:AV} (e:onClo i sp av=some sp'):∃ cs,av=.clo i cs/\sp'=sp cs:=by
 unfold onClo at e
 split at e
 ·split at e
  ·rename_i a e';subst e';cases e;exact ⟨_,rfl,rfl⟩
  ·cases e
 ·cases e
theorem onClo_ok {i:Nat} {sp:List Nat->FS} {nh:Bool} (j:∀ cs,JApp B k nh (.clo i cs) (sp cs)):AppOk B k nh (onClo i sp):=λ av sp' e=>by
 obtain ⟨cs,rfl,rfl⟩:=onClo_inv e
 exact ⟨trivial,j _⟩
theorem onCloK_ok {i:Nat} {sp:List Nat->FS} {nh:Bool} {names:List Str} (j:∀ cs,JAppK B k nh (.clo i cs) names (sp cs)):AppOkK B k nh names (onClo i sp):=λ av sp' e=>by
 obtain ⟨cs,rfl,rfl⟩:=onClo_inv e
 exact ⟨trivial,j _⟩
theorem no_ok {nh:Bool}:AppOk B k nh λ z=>none:=λ z z e=>nomatch e
theorem cutOk_self {σ:St}:CutOk σ σ:=λ i ao h e=>.inl e
theorem cutOk_app {σ τ:St}:CutOk σ (σ++τ):=λ i ao h e=>.inl (by rwa [List.getElem?_append_left h] at e)
theorem cut_ret {σ:St} {K:PK} {v:AV} (hb:Bd σ.length v) (hk:K v σ):cutK σ K v σ:=⟨hb,cutOk_self,by rw [List.take_length];exact hk⟩
theorem cut_app {σ τ:St} {K:PK} {v:AV} (hb:Bd σ.length v) (hk:K v σ):cutK σ K v (σ++τ):=⟨hb,cutOk_app,by rw [List.take_append_of_le_length (Nat.le_refl _),List.take_length];exact hk⟩
theorem bdL_ints {N:Nat}:∀ ds:List Int,BdL N (ds.map .int)
 | []=>trivial
 | _::r=>⟨trivial,bdL_ints r⟩
theorem len0 {C:List Value->Prop} {vs:List Value} (h:vs.length=0) (k:C []):C vs:=by
 cases vs with
 | nil=>exact k
 | cons=>cases h
theorem len1 {C:List Value->Prop} {vs:List Value} (h:vs.length=1) (k:∀ a,C [a]):C vs:=by
 cases vs with
 | nil=>cases h
 | cons a r=>exact len0 (C:=λ r=>C (a::r)) (Nat.succ.inj h) (k a)
theorem len2 {C:List Value->Prop} {vs:List Value} (h:vs.length=2) (k:∀ a b,C [a,b]):C vs:=by
 cases vs with
 | nil=>cases h
 | cons a r=>exact len1 (C:=λ r=>C (a::r)) (Nat.succ.inj h) (k a)
theorem len3 {C:List Value->Prop} {vs:List Value} (h:vs.length=3) (k:∀ a b c,C [a,b,c]):C vs:=by
 cases vs with
 | nil=>cases h
 | cons a r=>exact len2 (C:=λ r=>C (a::r)) (Nat.succ.inj h) (k a)
theorem bind1 {fd:FuncData} {ps:List Str} (k:∀ a,bindArgs fd ⟨[a],[]⟩=pure (ps.zip [a])) (vs:List Value) (h:vs.length=1):bindArgs fd ⟨vs,[]⟩=pure (ps.zip vs):=len1 (C:=λ vs=>bindArgs fd ⟨vs,[]⟩=pure (ps.zip vs)) h k
theorem bind2 {fd:FuncData} {ps:List Str} (k:∀ a b,bindArgs fd ⟨[a,b],[]⟩=pure (ps.zip [a,b])) (vs:List Value) (h:vs.length=2):bindArgs fd ⟨vs,[]⟩=pure (ps.zip vs):=len2 (C:=λ vs=>bindArgs fd ⟨vs,[]⟩=pure (ps.zip vs)) h k
theorem bind3 {fd:FuncData} {ps:List Str} (k:∀ a b c,bindArgs fd ⟨[a,b,c],[]⟩=pure (ps.zip [a,b,c])) (vs:List Value) (h:vs.length=3):bindArgs fd ⟨vs,[]⟩=pure (ps.zip vs):=len3 (C:=λ vs=>bindArgs fd ⟨vs,[]⟩=pure (ps.zip vs)) h k
theorem call0 {κ:Sc} {χf:List Nat} {nh:Bool} {ts:List Tg} {p:PS} {l:List AV} {σ:St} {K:PK} {X:PX} {ρ:List (Option AV)} (hm:(ownC κ.scope.names).length=0) (hl:ts.length=l.length) (hb:∀ n,bindA (ts.zip l) (fr0 κ.loc.length n 0 χf (hkOf nh)) σ=(⟨ρ,χf,hkOf nh⟩,σ))
  (h:p ⟨ρ,χf,hkOf nh⟩ σ (λ z σ'=>cutK σ K .none σ') (cutK σ K) (λ z z=>False) (cutX σ X)):callS κ (ownC κ.scope.names).length χf nh ts p l σ K X:=by
 refine ⟨hl,?_⟩
 rw [hm,List.replicate_zero,List.append_nil,hb]
 exact h
theorem callM {κ:Sc} {χf χ:List Nat} {nh:Bool} {ts:List Tg} {p:PS} {l:List AV} {σ τ:St} {K:PK} {X:PX} {ρ:List (Option AV)} {m:Nat} (hm:(ownC κ.scope.names).length=m) (hl:ts.length=l.length) (hb:bindA (ts.zip l) (fr0 κ.loc.length σ.length m χf (hkOf nh)) (σ++List.replicate m (.cel none))=(⟨ρ,χ,hkOf nh⟩,σ++τ))
  (h:p ⟨ρ,χ,hkOf nh⟩ (σ++τ) (λ z σ'=>cutK σ K .none σ') (cutK σ K) (λ z z=>False) (cutX σ X)):callS κ (ownC κ.scope.names).length χf nh ts p l σ K X:=by
 refine ⟨hl,?_⟩
 rw [hm,hb]
 have e:fr0 κ.loc.length σ.length m χf (hkOf nh)=⟨(fr0 κ.loc.length σ.length m χf (hkOf nh)).ρ,χ,hkOf nh⟩:=by
  have:=bindA_fr (ts.zip l) (fr0 κ.loc.length σ.length m χf (hkOf nh)) (σ++List.replicate m (.cel none))
  rw [hb] at this
  have h1:=congrArg AFr.χ this
  exact congrArg (λ c=>(⟨_,c,hkOf nh⟩:AFr)) h1.symm
 rw [e]
 exact h
theorem set_app {α:Type} (σ l:List α) (i:Nat) (x:α):(σ++l).set (σ.length+i) x=σ++l.set i x:=by
 rw [List.set_append_right _ _ (by lia),Nat.add_sub_cancel_left]
theorem get_app {α:Type} (σ l:List α) (i:Nat):(σ++l)[σ.length+i]?=l[i]?:=by
 rw [List.getElem?_append_right (by lia),Nat.add_sub_cancel_left]
theorem sub_lst {l:List AV} {i:Nat} {x:AV} {σ:St} {Q:AV->Prop} (h:l[i]?=some x) (hl:i<2^63) (hp:Q x):subGet (.lst l) (.int (i:Nat)) σ Q:=by
 have hi:i<l.length:=(List.getElem?_eq_some_iff.mp h).1
 exact ⟨⟨by lia,by lia⟩,i,x,by rw [seqIndex_at (by lia) (by lia)];rfl,h,hp⟩
theorem sub_tup {l:List AV} {i:Nat} {x:AV} {σ:St} {Q:AV->Prop} (h:l[i]?=some x) (hl:i<2^63) (hp:Q x):subGet (.tup l) (.int (i:Nat)) σ Q:=by
 have hi:i<l.length:=(List.getElem?_eq_some_iff.mp h).1
 exact ⟨⟨by lia,by lia⟩,i,x,by rw [seqIndex_at (by lia) (by lia)];rfl,h,hp⟩
theorem bits_small {x:Int} {m:Nat} (h0:0<=x) (h:x<2^m):Builtin.Int.intBits x<=m:=by
 rw [intBits_le_iff]
 have:((x.natAbs:Nat):Int)<((2^m:Nat):Int):=by rw [Int.natAbs_of_nonneg h0,Int.natCast_pow];exact h
 exact Int.ofNat_lt.mp this
theorem two_le {a b:Nat} (h:a<=b):(2:Int)^a<=2^b:=by
 have:=Nat.pow_le_pow_right (n:=2) (by decide) h
 exact_mod_cast this
theorem two_lt {a b:Nat} (h:a<b):(2:Int)^a<2^b:=by
 have:=Nat.pow_lt_pow_right (a:=2) (by decide) h
 exact_mod_cast this
theorem two_pos (a:Nat):(0:Int)<2^a:=Int.pow_pos (by decide)
noncomputable abbrev AFr.at (fr:AFr) (ρ:List (Option AV)):AFr:={ fr with ρ:=ρ }
noncomputable def Ev (f:PE) (fr:AFr) (σ:St) (v:AV):Prop:=∀ (K:PK) (X:PX),K v σ->f fr σ K X
noncomputable def Tv (t:PT) (fr:AFr) (σ:St) (b:Bool):Prop:=∀ (K:PB) (X:PX),K b σ->t fr σ K X
noncomputable def Lv (g:PL) (fr:AFr) (σ:St) (l:List AV):Prop:=∀ (K:PKL) (X:PX),K l σ->g fr σ K X
noncomputable def Pv (g:PPart) (fr:AFr) (σ:St) (i:Option Int):Prop:=∀ (K:Option Int->St->Prop) (X:PX),K i σ->g fr σ K X
section
variable {fr:AFr} {σ:St} {f g:PE} {a b v:AV} {u w:PL} {l m:List AV} {t t':PT} {c₁ c₂:Bool} {q p p':PS} {N Bk:PN} {R:PK} {X:PX} {i j:Int}
theorem set_ev {t:Tg} (h:Ev f fr σ v) (hq:q (fr.at (bindT t v fr σ).1.ρ) (bindT t v fr σ).2 N R Bk X):S.cons (S.set t f) q fr σ N R Bk X:=h _ _ hq
theorem ret_ev (h:Ev f fr σ v) (hq:R v σ):S.cons (S.ret f) q fr σ N R Bk X:=h _ _ hq
theorem setW_ev {ts:List Tg} (hn:fr.hnd≠ .any) (h:Ev f fr σ (.tup l)) (hl:ts.length=l.length)
 (hq:q (fr.at (bindA (ts.reverse.zip l.reverse) fr σ).1.ρ) (bindA (ts.reverse.zip l.reverse) fr σ).2 N R Bk X):S.cons (S.setW ts f) q fr σ N R Bk X:=⟨hn,h _ _ ⟨l,rfl,hl,hq⟩⟩
theorem setP_ev {ts:List Tg} (hn:fr.hnd≠ .any) (h:Ev f fr σ (.tup l)) (hl:ts.length=l.length)
 (hq:q (fr.at (bindA (ts.zip l) fr σ).1.ρ) (bindA (ts.zip l) fr σ).2 N R Bk X):S.cons (S.setP (.many ts) f) q fr σ N R Bk X:=⟨hn,h _ _ ⟨_,if_pos hl,hq⟩⟩
theorem setL_ev {ts:List Tg} (hn:fr.hnd=.no) (h:Ev f fr σ (.lst l)) (hl:ts.length=l.length)
 (hq:q (fr.at (bindA (ts.zip l) fr σ).1.ρ) (bindA (ts.zip l) fr σ).2 N R Bk X):S.cons (S.setL ts f) q fr σ N R Bk X:=⟨hn,h _ _ ⟨l,rfl,hl,hq⟩⟩
theorem setNew_ev {t:Tg} (h:Lv u fr σ l) (hq:q (fr.at (bindT t (.loc σ.length) fr (σ++[.lst l])).1.ρ) (bindT t (.loc σ.length) fr (σ++[.lst l])).2 N R Bk X):S.cons (S.set t (E.new u)) q fr σ N R Bk X:=h _ _ hq
theorem ite_ev (h:Tv t fr σ c₁) (h1:c₁=true->p fr σ (λ ρ σ=>q (fr.at ρ) σ N R Bk X) R Bk X) (h2:c₁=false->p' fr σ (λ ρ σ=>q (fr.at ρ) σ N R Bk X) R Bk X):S.cons (S.ite t p p') q fr σ N R Bk X:=h _ _ ⟨h1,h2⟩
theorem if_no (h:Tv t fr σ false) (h2:q fr σ N R Bk X):S.cons (S.ite t p S.nil) q fr σ N R Bk X:=h _ _ ⟨λ q=>(nomatch q),λ z=>h2⟩
theorem for_lv {it:PL} {tp:TgP} (h:Lv it fr σ l) (hf:forK tp p l fr σ (λ ρ σ=>q (fr.at ρ) σ N R Bk X) R X):S.cons (S.for it tp p) q fr σ N R Bk X:=h _ _ hf
theorem Lv.nil:Lv L.nil fr σ []:=λ K X hK=>hK
theorem Lv.cons (h:Ev f fr σ v) (h2:Lv u fr σ l):Lv (L.cons f u) fr σ (v::l):=λ K X hK=>h _ _ (h2 _ _ hK)
theorem Lv.one (h:Ev f fr σ v):Lv (L.cons f L.nil) fr σ [v]:=λ K X hK=>h _ _ hK
theorem Ev.lst (h:Lv u fr σ l):Ev (E.lst u) fr σ (.lst l):=λ K X hK=>h _ _ hK
theorem Ev.tup (h:Lv u fr σ l):Ev (E.tup u) fr σ (.tup l):=λ K X hK=>h _ _ hK
theorem Ev.c:Ev (E.c v) fr σ v:=λ K X hK=>hK
theorem Ev.loc {i:Nat} (h:fr.ρ[i]?=some (some v)):Ev (E.loc i) fr σ v:=λ K X hK=>⟨v,h,hK⟩
theorem Ev.cel {i q:Nat} (h:fr.χ[i]?=some q) (h2:σ[q]?=some (.cel (some v))):Ev (E.cel i) fr σ v:=λ K X hK=>⟨q,v,h,h2,hK⟩
theorem Ev.bin {op:OpS} (h:Ev f fr σ a) (h2:Ev g fr σ b) (ho:∀ Q:AV->Prop,Q v->op a b Q):Ev (E.bin op f g) fr σ v:=λ K X hK=>h _ _ (h2 _ _ (ho _ hK))
theorem Ev.sub (h:Ev f fr σ a) (h2:Ev g fr σ b) (ho:∀ Q:AV->Prop,Q v->subGet a b σ Q):Ev (E.sub f g) fr σ v:=λ K X hK=>h _ _ (h2 _ _ (ho _ hK))
theorem Ev.cmp {o:CmpS} (h:Ev f fr σ a) (h2:Ev g fr σ b) (ho:∀ Q:Bool->Prop,Q c₁->o a b Q):Ev (E.cmp o f g) fr σ (.bool c₁):=λ K X hK=>h _ _ (h2 _ _ (ho _ hK))
theorem Tv.cmp {o:CmpS} (h:Ev f fr σ a) (h2:Ev g fr σ b) (ho:∀ Q:Bool->Prop,Q c₁->o a b Q):Tv (T.cmp o f g) fr σ c₁:=λ K X hK=>h _ _ (h2 _ _ (ho _ hK))
theorem Ev.app {o:OpL} (hn:fr.hnd=.no) (h:Lv u fr σ l) (ho:∀ Q:AV->Prop,Q v->o l σ Q):Ev (E.app o u) fr σ v:=λ K X hK=>⟨hn,h _ _ (ho _ hK)⟩
theorem Ev.call {ap:AV->Option FS} {sp:FS} (hn:fr.hnd=.no) (h:Ev f fr σ a) (ha:ap a=some sp) (h2:Lv u fr σ l) (ho:∀ (K:PK) (X:PX),K v σ->sp l σ K X):Ev (E.call true ap f u) fr σ v:=λ K X hK=>⟨λ z=>hn,h _ _ ⟨sp,ha,h2 _ _ (ho _ _ hK)⟩⟩
theorem Ev.callK {ap:AV->Option FS} {sp:FS} (hn:fr.hnd=.no) (h:Ev f fr σ a) (ha:ap a=some sp) (h2:Lv u fr σ l) (h3:Lv w fr σ m) (ho:∀ (K:PK) (X:PX),K v σ->sp (l++m) σ K X):Ev (E.callK true ap f u w) fr σ v:=λ K X hK=>⟨λ z=>hn,h _ _ ⟨sp,ha,h2 _ _ (h3 _ _ (ho _ _ hK))⟩⟩
theorem Ev.ite (ht:Tv t fr σ c₁) (h1:c₁=true->Ev f fr σ v) (h2:c₁=false->Ev g fr σ v):Ev (E.ite t f g) fr σ v:=λ K X hK=>ht _ _ ⟨λ q=>h1 q _ _ hK,λ q=>h2 q _ _ hK⟩
theorem Ev.iteT (ht:Tv t fr σ true) (h1:Ev f fr σ v):Ev (E.ite t f g) fr σ v:=λ K X hK=>ht _ _ ⟨λ q=>h1 _ _ hK,λ q=>(nomatch q)⟩
theorem Ev.iteF (ht:Tv t fr σ false) (h1:Ev g fr σ v):Ev (E.ite t f g) fr σ v:=λ K X hK=>ht _ _ ⟨λ q=>(nomatch q),λ q=>h1 _ _ hK⟩
theorem Ev.neg (h:Ev f fr σ (.int i)):Ev (E.neg f) fr σ (.int (-i)):=λ K X hK=>h _ _ ⟨i,rfl,hK⟩
theorem Ev.inv (h:Ev f fr σ (.int i)):Ev (E.inv f) fr σ (.int (Builtin.bitNot i)):=λ K X hK=>h _ _ ⟨i,rfl,hK⟩
theorem Ev.and (h:Ev f fr σ (.bool true)) (h2:Ev g fr σ v):Ev (E.and f g) fr σ v:=λ K X hK=>h _ _ ⟨λ z=>h2 _ _ hK,λ q=>(nomatch q)⟩
theorem Ev.meth {T:String} {o:OpM} (hn:fr.hnd=.no) (h:Ev f fr σ a) (hr:Recv T a σ) (h2:Lv u fr σ l) (ho:∀ (K:PK),K v σ->o a l σ K):Ev (E.meth T o f u) fr σ v:=λ K X hK=>⟨hn,h _ _ ⟨hr,h2 _ _ ⟨hr,ho _ hK⟩⟩⟩
theorem Pv.no:Pv Qp.no fr σ none:=λ K X hK=>hK
theorem Pv.of (h:Ev f fr σ (.int i)):Pv (Qp.of f) fr σ (some i):=λ K X hK=>h _ _ ⟨i,rfl,hK⟩
theorem Tv.c:Tv (T.c c₁) fr σ c₁:=λ K X hK=>hK
theorem Tv.val (h:Ev f fr σ a) (ho:∀ Q:Bool->Prop,Q c₁->truthS a Q):Tv (T.val f) fr σ c₁:=λ K X hK=>h _ _ (ho _ hK)
theorem Tv.not (h:Tv t fr σ c₁):Tv (T.not t) fr σ (!c₁):=λ K X hK=>h _ _ hK
theorem Tv.or2 (h:Tv t fr σ false) (h2:Tv t' fr σ c₂):Tv (T.or t t') fr σ c₂:=λ K X hK=>h _ _ ⟨λ z=>h2 _ _ hK,λ q=>(nomatch q)⟩
theorem Tv.and2 (h:Tv t fr σ c₁) (h2:c₁=true->Tv t' fr σ c₂) (h3:c₁=false->c₂=false):Tv (T.and t t') fr σ c₂:=λ K X hK=>h _ _ ⟨λ q=>h2 q _ _ hK,λ q=>by rw [h3 q] at hK;exact hK⟩
theorem eqv_int (i j:Int):PyData.eqv (.int i) (.int j)=decide (i=j):=by
 simp only [PyData.eqv]
 rfl
theorem cmpEq_int (Q:Bool->Prop) (h:Q (decide (i=j))):cmpEq (.int i) (.int j) Q:=⟨_,_,rfl,rfl,rfl,rfl,by rw [eqv_int];exact h⟩
theorem cmpNe_int (Q:Bool->Prop) (h:Q (!decide (i=j))):cmpNe (.int i) (.int j) Q:=⟨_,_,rfl,rfl,rfl,rfl,by rw [eqv_int];exact h⟩
theorem Ev.add (h:Ev f fr σ (.int i)) (h2:Ev g fr σ (.int j)):Ev (E.bin opAdd f g) fr σ (.int (i+j)):=Ev.bin h h2 λ z h=>h
theorem Ev.min (h:Ev f fr σ (.int i)) (h2:Ev g fr σ (.int j)):Ev (E.bin opSub f g) fr σ (.int (i - j)):=Ev.bin h h2 λ z h=>h
theorem Ev.mod (h:Ev f fr σ (.int i)) (h2:Ev g fr σ (.int j)) (hj:0<j):Ev (E.bin opMod f g) fr σ (.int (i%j)):=Ev.bin h h2 λ z h=>⟨Int.ne_of_gt hj,by rw [Int.fmod_eq_emod_of_nonneg _ (Int.le_of_lt hj)];exact h⟩
theorem Ev.div (h:Ev f fr σ (.int i)) (h2:Ev g fr σ (.int j)) (hj:0<j) (hp:Builtin.divisionGoesByPylong i j=false):Ev (E.bin opDiv f g) fr σ (.int (i/j)):=Ev.bin h h2 λ z h=>⟨Int.ne_of_gt hj,hp,by rw [Int.fdiv_eq_ediv_of_nonneg _ (Int.le_of_lt hj)];exact h⟩
theorem Tv.eqI (h:Ev f fr σ (.int i)) (h2:Ev g fr σ (.int j)):Tv (T.cmp cmpEq f g) fr σ (decide (i=j)):=Tv.cmp h h2 λ z h=>cmpEq_int _ h
end
inductive spTerm:FS
 | mk {σ K X} (i:Int) (z:K (.bool (decide (i<256))) σ):spTerm [.int i] σ K X
inductive spNonterm:FS
 | mk {σ K X} (i:Int) (z:K (.bool (decide (256<=i))) σ):spNonterm [.int i] σ K X
inductive spEof:FS
 | mk {σ K X} (i:Int) (z:K (.bool (decide (i=0))) σ):spEof [.int i] σ K X
theorem ISTERMINAL_ok (hB:BOk B):JApp B (k+1) true (.val (.ref 110)) spTerm:=
 JApp.of (JApp.fnK hB.f110 (κ:=κISTERMINAL) (ts:=[.loc 0]) rfl (by kernel_rfl) (λ z e=>nomatch e) rfl ⟨⟨rfl,rfl⟩,trivial⟩ (jISTERMINAL hB)) λ l σ K X h=>by
  obtain ⟨i,hk⟩:=h
  exact ⟨rfl,ret_ev (Ev.cmp (Ev.loc rfl) Ev.c λ Q hQ=>hQ) (cut_app trivial hk)⟩
theorem ISNONTERMINAL_ok (hB:BOk B):JApp B (k+1) true (.val (.ref 117)) spNonterm:=
 JApp.of (JApp.fnK hB.f117 (κ:=κISNONTERMINAL) (ts:=[.loc 0]) rfl (by kernel_rfl) (λ z e=>nomatch e) rfl ⟨⟨rfl,rfl⟩,trivial⟩ (jISNONTERMINAL hB)) λ l σ K X h=>by
  obtain ⟨i,hk⟩:=h
  exact ⟨rfl,ret_ev (Ev.cmp (Ev.loc rfl) Ev.c λ Q hQ=>hQ) (cut_app trivial hk)⟩
theorem ISEOF_ok (hB:BOk B):JApp B (k+1) true (.val (.ref 124)) spEof:=
 JApp.of (JApp.fnK hB.f124 (κ:=κISEOF) (ts:=[.loc 0]) rfl (by kernel_rfl) (λ z e=>nomatch e) rfl ⟨⟨rfl,rfl⟩,trivial⟩ (jISEOF hB)) λ l σ K X h=>by
  obtain ⟨i,hk⟩:=h
  exact ⟨rfl,ret_ev (Ev.cmp (Ev.loc rfl) Ev.c cmpEq_int) (cut_app trivial hk)⟩
end
section
variable {B:BC} {k:Nat}
noncomputable def digV (n:Nat):List Int->Int
 | []=>0
 | d::r=>d+2^n*digV n r
theorem digV_app (n:Nat):∀ a b:List Int,digV n (a++b)=digV n a+2^(n*a.length)*digV n b
 | [],b=>by show digV n b=0+2^(n*0)*digV n b;rw [Nat.mul_zero,Int.pow_zero,Int.one_mul,Int.zero_add]
 | d::r,b=>by
  show d+2^n*digV n (r++b)=d+2^n*digV n r+2^(n*(r.length+1))*digV n b
  rw [digV_app n r b,Nat.mul_succ,Int.pow_add,Int.mul_add,Int.mul_comm (2^(n*r.length)) (2^n),Int.mul_assoc,Int.add_assoc]
noncomputable def Digs (n:Nat) (l:List Int):Prop:=∀ d∈l,0<=d/\d<2^n
theorem digV_bound {n:Nat}:∀ {l:List Int},Digs n l->0<=digV n l/\digV n l<2^(n*l.length)
 | [],_=>⟨Int.le_refl 0,two_pos _⟩
 | d::r,h=>by
  have h1:=h d List.mem_cons_self
  have h2:=digV_bound (l:=r) λ x hx=>h x (List.mem_cons_of_mem _ hx)
  show 0<=d+2^n*digV n r/\d+2^n*digV n r<2^(n*(r.length+1))
  rw [Nat.mul_succ,Int.pow_add,Int.mul_comm (2^(n*r.length))]
  have hp:=Int.le_of_lt (two_pos n)
  have h3:2^n*(digV n r+1)<=2^n*2^(n*r.length):=Int.mul_le_mul_of_nonneg_left h2.2 hp
  rw [Int.mul_add,Int.mul_one] at h3
  have h4:=Int.mul_nonneg hp h2.1
  exact ⟨by lia,by lia⟩
noncomputable def slc (l:List Int) (L R:Nat):List Int:=(l.drop L).take (R - L)
theorem slc_app {l:List Int} {L M R:Nat} (h1:L<=M) (h2:M<=R):slc l L R=slc l L M++slc l M R:=by
 unfold slc
 rw [show R - L=(M - L)+(R - M) by lia,List.take_add,List.drop_drop,Nat.add_sub_cancel' h1]
theorem slc_len {l:List Int} {L R:Nat} (h:R<=l.length):(slc l L R).length=R - L:=by
 unfold slc;rw [List.length_take,List.length_drop];lia
theorem slc_digs {n:Nat} {l:List Int} {L R:Nat} (h:Digs n l):Digs n (slc l L R):=λ d hd=>h d (List.mem_of_mem_drop (List.mem_of_mem_take hd))
theorem slc_one {l:List Int} {L:Nat} {d:Int} (h:l[L]?=some d):slc l L (L+1)=[d]:=by
 unfold slc
 rw [Nat.add_sub_cancel_left,List.take_one,List.head?_drop,h];rfl
theorem half_ev {f g:PE} {fr:AFr} {σ:St} {a b:Nat} (h:Ev f fr σ (.int (a:Nat))) (h2:Ev g fr σ (.int (b:Nat))):Ev (E.bin opShr (E.bin opAdd f g) (E.c (.int 1))) fr σ (.int (((a+b)/2:Nat))):=
 Ev.bin (Ev.add h h2) Ev.c λ Q hQ=>⟨by decide,by
  have:((a:Int)+b).fdiv (2^(1:Int).toNat)=(((a+b)/2:Nat):Int):=by rw [Int.fdiv_eq_ediv_of_nonneg _ (by decide)];rfl
  rw [this];exact hQ⟩
theorem mul_ev {f g:PE} {fr:AFr} {σ:St} {i:Int} {a n:Nat} (h:Ev f fr σ (.int i)) (h2:Ev g fr σ (.int (n:Nat))) (hi:i=a) (ha:a<2^21) (hn:n<2^21):Ev (E.bin opMul f g) fr σ (.int (n*a:Nat)):=
 Ev.bin h h2 λ Q hQ=>⟨IntMulOk.of_le (m:=21) (n:=21) (bits_small (by lia) (by lia)) (bits_small (by lia) (by lia)) (by decide),by
  rw [hi,<- Int.natCast_mul,Nat.mul_comm];exact hQ⟩
inductive spIn1 (D:Nat) (cs:List Nat):FS
 | mk {σ:St} {K:PK} {X:PX} (c0 c1 c2:Nat) (ds:List Int) (n L R:Nat) (z:cs=[c0,c1,c2]) (z:σ[c0]?=some (.cel (some (.lst (ds.map .int))))) (z:σ[c1]?=some (.cel (some (.clo 1 cs))))
  (z:σ[c2]?=some (.cel (some (.int (n:Nat))))) (z:Digs n ds) (z:L<R) (z:R<=ds.length) (z:R - L<=2^D) (z:n*ds.length<=2^20) (z:0<n) (z:K (.int (digV n (slc ds L R))) σ):spIn1 D cs [.int (L:Nat),.int (R:Nat)] σ K X
theorem in1_step (hB:BOk B) {ap:AV->Option FS} (hap:AppOk B k true ap) {D:Nat} (h:∀ cs,(∃ E,D=E+1/\ap (.clo 1 cs)=some (spIn1 E cs))\/D=0) (cs:List Nat):JApp B (k+1) true (.clo 1 cs) (spIn1 D cs):=
 JApp.of (JApp.cloK (κ:=κc1) (t:=ct1.2) (ts:=[.loc 0,.loc 1]) (ps:=["L","R"]) (by rw [hB.clo];rfl) rfl rfl rfl (by kernel_rfl) (λ cl doc pm cd ct=>bind2 λ a b=>by kernel_rfl!) rfl ⟨⟨rfl,rfl⟩,⟨rfl,rfl⟩,trivial⟩ (jc1 hB ap hap)) λ l σ K X q=>by
 obtain ⟨c0,c1,c2,ds,n,a,b,rfl,e0,e1,e2,hd,hab,hb,hD,hn,hn0,hk⟩:=q
 refine call0 (ρ:=[some (.int (a:Nat)),some (.int (b:Nat)),none,none]) rfl rfl (λ z=>rfl) ?_
 refine ite_ev (Tv.eqI (Ev.add (Ev.loc rfl) Ev.c) (Ev.loc rfl)) (λ h1=>?_) λ h1=>?_
 ·obtain rfl:b=a+1:=by have:=of_decide_eq_true h1;lia
  have hd1:ds[a]?=some ds[a]:=List.getElem?_eq_getElem hb
  have hlen:ds.length<=2^20:=Nat.le_trans (Nat.le_mul_of_pos_left _ hn0) hn
  refine ret_ev (v:=.int ds[a]) (Ev.sub (Ev.cel rfl e0) (Ev.loc rfl) λ Q hQ=>sub_lst (by rw [List.getElem?_map,hd1];rfl) (by lia) hQ) (cut_ret trivial ?_)
  rw [slc_one hd1] at hk
  have e:digV n [ds[a]]=ds[a]:=by show ds[a]+2^n*0=ds[a];rw [Int.mul_zero,Int.add_zero]
  rw [e] at hk;exact hk
 ·have h1:=of_decide_eq_false h1
  refine set_ev (half_ev (Ev.loc rfl) (Ev.loc rfl)) ?_
  generalize hMM:(a+b)/2=M
  have g1:a<M:=by lia
  have g2:M<b:=by lia
  obtain ⟨E,rfl,hap'⟩:=(h [c0,c1,c2]).resolve_right (by rintro rfl;rw [Nat.pow_zero] at hD;lia)
  rw [Nat.pow_succ] at hD
  have g3:b - M<=2^E:=by lia
  have g4:M - a<=2^E:=by lia
  have hlen:ds.length<=2^20:=Nat.le_trans (Nat.le_mul_of_pos_left _ hn0) hn
  have hnn:n<=2^20:=Nat.le_trans (Nat.le_mul_of_pos_right _ (by lia)) hn
  have hM:n*(M - a)<=2^20:=Nat.le_trans (Nat.mul_le_mul_left _ (by lia)) hn
  have hb2:n*(b - M)<=2^20:=Nat.le_trans (Nat.mul_le_mul_left _ (by lia)) hn
  refine set_ev (mul_ev (a:=M - a) (Ev.min (Ev.loc rfl) (Ev.loc rfl)) (Ev.cel rfl e2) (by lia) (by lia) (by lia)) ?_
  have k1:=digV_bound (slc_digs (L:=M) (R:=b) hd)
  rw [slc_len hb] at k1
  have kb:=bits_small k1.1 k1.2
  rw [slc_app (Nat.le_of_lt g1) (Nat.le_of_lt g2),digV_app,slc_len (by lia),Int.add_comm,Int.mul_comm] at hk
  refine ret_ev (Ev.add (Ev.bin (v:=.int (digV n (slc ds M b)*2^(n*(M - a)))) (Ev.call rfl (Ev.cel rfl e1) hap' (Lv.cons (Ev.loc rfl) (Lv.one (Ev.loc rfl))) λ K X hK=>⟨c0,c1,c2,ds,n,M,b,rfl,e0,e1,e2,hd,g2,hb,g3,hn,hn0,hK⟩) (Ev.loc rfl) λ Q hQ=>⟨by lia,by lia,?_⟩)
   (Ev.call rfl (Ev.cel rfl e1) hap' (Lv.cons (Ev.loc rfl) (Lv.one (Ev.loc rfl))) λ K X hK=>⟨c0,c1,c2,ds,n,a,M,rfl,e0,e1,e2,hd,g1,by lia,g4,hn,hn0,hK⟩)) (cut_ret trivial hk)
  rw [Int.toNat_natCast];exact hQ
theorem in1_ok (hB:BOk B):∀ (D:Nat) (cs:List Nat),JApp B (k+D+1) true (.clo 1 cs) (spIn1 D cs)
 | 0,cs=>in1_step hB (ap:=λ z=>none) no_ok (λ z=>.inr rfl) cs
 | D+1,cs=>in1_step (k:=k+D+1) hB (ap:=onClo 1 (spIn1 D)) (onClo_ok λ cs=>in1_ok hB D cs) (λ cs=>.inl ⟨D,rfl,onClo_self⟩) cs
end
section
variable {B:BC} {k:Nat}
inductive spD2i (D:Nat):FS
 | mk {σ:St} {K:PK} {X:PX} (ds:List Int) (n:Nat) (z:Digs n ds) (z:ds.length<=2^D) (z:n*ds.length<=2^20) (z:0<n) (z:K (.int (digV n ds)) σ):spD2i D [.lst (ds.map .int),.int (n:Nat)] σ K X
theorem d2i_ok (hB:BOk B) (D:Nat):JApp B (k+D+2) true (.val (.ref 42)) (spD2i D):=
 JApp.of (JApp.fnK hB.f42 (κ:=κ_digits2int) (ts:=[.cel 0,.cel 1]) rfl (by kernel_rfl) (λ c e=>by cases e;exact ⟨rfl,rfl⟩) rfl ⟨⟨rfl,rfl⟩,⟨rfl,rfl⟩,trivial⟩ (j_digits2int hB _ (onClo_ok λ cs=>in1_ok (k:=k) hB D cs))) λ l σ K X q=>by
 obtain ⟨ds,n,hd,hD,hn,hn0,hk⟩:=q
 refine callM (m:=3) (ρ:=[]) (χ:=[σ.length+0,σ.length+1,σ.length+2]) (τ:=[.cel (some (.lst (ds.map .int))),.cel (some (.int n)),.cel none]) rfl rfl (by show (_,List.set (List.set _ (σ.length+0) _) (σ.length+1) _)=_;rw [set_app,set_app];rfl) ?_
 have hlen:ds.length<=2^20:=Nat.le_trans (Nat.le_mul_of_pos_left _ hn0) hn
 have hsl:(ds.map AV.int).length<=sizeLine:=by rw [List.length_map,sizeLine_eq];lia
 show S.cons _ _ _ (List.set _ (σ.length+2) _) _ _ _ _
 rw [set_app]
 have e0:Ev (E.cel 0) ⟨[],[σ.length+0,σ.length+1,σ.length+2],HK.no⟩ (σ++[.cel (some (.lst (ds.map .int))),.cel (some (.int n)),.cel (some (.clo 1 [σ.length+0,σ.length+2,σ.length+1]))]) (.lst (ds.map .int)):=Ev.cel rfl (get_app ..)
 refine ret_ev (v:=.int (digV n ds)) (Ev.ite (c₁:=!(ds.map AV.int).isEmpty) (Tv.val e0 λ Q hQ=>⟨hsl,hQ⟩) (λ h=>?_) λ h=>?_) (cut_app trivial hk)
 ·have hpos:0<ds.length:=by cases ds with | nil=>cases h | cons=>exact Nat.succ_pos _
  refine Ev.call rfl (Ev.cel rfl (get_app ..)) onClo_self (Lv.cons Ev.c (Lv.one (Ev.app (v:=.int (ds.length:Nat)) rfl (Lv.one e0) λ Q hQ=>⟨hsl,by rw [List.length_map];exact hQ⟩))) λ K X hK=>⟨_,_,_,ds,n,0,ds.length,rfl,get_app ..,get_app ..,get_app ..,hd,hpos,Nat.le_refl _,hD,hn,hn0,?_⟩
  have e:slc ds 0 ds.length=ds:=by unfold slc;rw [List.drop_zero,Nat.sub_zero,List.take_length]
  rw [e];exact hK
 ·cases ds with | nil=>exact Ev.c | cons=>cases h
end
section
variable {B:BC} {k:Nat}
theorem and_hi:∀ (t:Nat) (x:Int),Builtin.bitAnd x (x/2^t*2^t)=x/2^t*2^t
 | 0,x=>by rw [Int.pow_zero,Int.ediv_one,Int.mul_one,bitAnd_self]
 | t+1,x=>by
  have e1:x/2^(t+1)=x/2/2^t:=by rw [Int.pow_succ,Int.mul_comm,Int.ediv_ediv_of_nonneg (by decide)]
  have e2:x/2^(t+1)*2^(t+1)=2*(x/2/2^t*2^t):=by rw [e1,Int.pow_succ,<- Int.mul_assoc,Int.mul_comm]
  rw [kbt_halves,e2]
  generalize hz:x/2/2^t*2^t=z
  have e3:(2*z)/2=z:=Int.mul_ediv_cancel_left z (by decide)
  have e4:¬ (x%2=1/\(2*z)%2=1):=λ h=>absurd h.2 (by rw [Int.mul_emod_right];decide)
  rw [e3,if_neg e4,<- hz,and_hi t (x/2),hz]
  omega
theorem xor_hi (t:Nat) (x:Int):Builtin.bitXor x (x/2^t*2^t)=x%2^t:=by
 rw [bitXor_and,and_hi,Int.emod_def,Int.mul_comm (2^t)]
 lia
noncomputable def digL (n:Nat):Nat->Int->List Int
 | 0,_=>[]
 | c+1,x=>x%2^n::digL n c (x/2^n)
theorem digL_len {n:Nat}:∀ {c:Nat} {x:Int},(digL n c x).length=c
 | 0,_=>rfl
 | c+1,x=>congrArg (·+1) (digL_len (c:=c))
theorem digL_app (n:Nat):∀ (a b:Nat) (x:Int),digL n (a+b) x=digL n a x++digL n b (x/2^(n*a))
 | 0,b,x=>by rw [Nat.zero_add,Nat.mul_zero,Int.pow_zero,Int.ediv_one];rfl
 | a+1,b,x=>by
  rw [show a+1+b=(a+b)+1 by lia]
  show _::digL n (a+b) _=_::(digL n a _++_)
  rw [digL_app n a b,Int.ediv_ediv_of_nonneg (Int.le_of_lt (two_pos _)),<- Int.pow_add,Nat.mul_succ,Nat.add_comm n]
theorem mod_div (x b c:Int) (hb:0<b):x%(b*c)/b=x/b%c:=by
 rw [Int.emod_def,Int.emod_def,Int.ediv_ediv_of_nonneg (Int.le_of_lt hb),show x - b*c*(x/(b*c))=x+b*(-(c*(x/(b*c)))) by rw [Int.mul_neg,Int.mul_assoc];lia,Int.add_mul_ediv_left _ _ (Int.ne_of_gt hb)]
 lia
theorem digL_low (n:Nat):∀ (a:Nat) (x:Int),digL n a (x%2^(n*a))=digL n a x
 | 0,x=>rfl
 | a+1,x=>by
  show _::_=_::_
  rw [Nat.mul_succ,Nat.add_comm,Int.pow_add,Int.emod_emod_of_dvd _ ⟨_,rfl⟩,mod_div _ _ _ (two_pos n),digL_low n a]
theorem digL_zero (n:Nat):∀ c,digL n c 0=List.replicate c 0
 | 0=>rfl
 | c+1=>by
  show 0%2^n::digL n c (0/2^n)=_
  rw [Int.zero_emod,Int.zero_ediv,digL_zero n c,List.replicate_succ]
theorem digL_digs {n:Nat}:∀ {c:Nat} {x:Int},Digs n (digL n c x)
 | 0,x=>λ d hd=>absurd hd List.not_mem_nil
 | c+1,x=>λ d hd=>by
  have hp:=two_pos n
  rcases List.mem_cons.mp (show d∈_::_ from hd) with rfl | hd
  ·exact ⟨Int.emod_nonneg _ (Int.ne_of_gt hp),Int.emod_lt_of_pos _ hp⟩
  ·exact digL_digs d hd
theorem digV_digL {n:Nat}:∀ {c:Nat} {x:Int},0<=x->x<2^(n*c)->digV n (digL n c x)=x
 | 0,x,h0,h1=>by rw [Nat.mul_zero,Int.pow_zero] at h1;show 0=x;lia
 | c+1,x,h0,h1=>by
  have hp:=two_pos n
  show x%2^n+2^n*digV n (digL n c (x/2^n))=x
  rw [digV_digL (Int.ediv_nonneg h0 (Int.le_of_lt hp)) (Int.ediv_lt_of_lt_mul hp (by rw [<- Int.pow_add];exact h1)),Int.add_comm,Int.mul_ediv_add_emod]
noncomputable def put (ds:List Int) (a:Nat) (l:List Int):List Int:=ds.take a++(l++ds.drop (a+l.length))
theorem put_len {ds l:List Int} {a:Nat} (h:a+l.length<=ds.length):(put ds a l).length=ds.length:=by
 unfold put;rw [List.length_append,List.length_append,List.length_take,List.length_drop];lia
theorem put_put {ds l₁ l₂:List Int} {a:Nat} (h:a+l₁.length<=ds.length):put (put ds a l₁) (a+l₁.length) l₂=put ds a (l₁++l₂):=by
 unfold put
 have ht:(ds.take a++l₁).length=a+l₁.length:=by rw [List.length_append,List.length_take];lia
 rw [<- List.append_assoc (ds.take a) l₁ (ds.drop (a+l₁.length)),List.take_append_of_le_length (Nat.le_of_eq ht.symm),List.take_of_length_le (Nat.le_of_eq ht),List.drop_append,List.drop_of_length_le (by lia),List.nil_append,List.drop_drop,ht,List.length_append,List.append_assoc,List.append_assoc,show a+l₁.length+(a+l₁.length+l₂.length - (a+l₁.length))=a+(l₁.length+l₂.length) by lia]
theorem put_one {ds:List Int} {a:Nat} {x:Int} (h:a<ds.length):put ds a [x]=ds.set a x:=by
 unfold put
 rw [List.set_eq_take_append_cons_drop,if_pos h];rfl
end
section
variable {B:BC} {k:Nat}
theorem exprCall_ev {ap:AV->Option FS} {sp:FS} {f:PE} {u:PL} {q:PS} {fr:AFr} {σ:St} {a:AV} {l:List AV} {N Bk:PN} {R:PK} {X:PX} (hn:fr.hnd=.no) (h:Ev f fr σ a) (ha:ap a=some sp) (h2:Lv u fr σ l) (ho:sp l σ (λ z σ'=>q fr σ' N R Bk X) X):S.cons (S.expr (E.call true ap f u)) q fr σ N R Bk X:=⟨λ z=>hn,h _ _ ⟨sp,ha,h2 _ _ ho⟩⟩
theorem setItem_ev {f g e:PE} {q:PS} {fr:AFr} {σ:St} {m i:Nat} {l:List AV} {v:AV} {N Bk:PN} {R:PK} {X:PX} (he:Ev e fr σ v) (hf:Ev f fr σ (.loc m)) (hg:Ev g fr σ (.int (i:Nat))) (hm:σ[m]?=some (.lst l)) (hi:i<l.length) (h2:i<2^63) (hq:q fr (σ.set m (.lst (l.set i v))) N R Bk X):S.cons (S.setItem f g e) q fr σ N R Bk X:=
 he _ _ (hf _ _ (hg _ _ ⟨m,i,l,rfl,rfl,hm,Int.natCast_nonneg i,by lia,Int.ofNat_lt.mpr hi,hq⟩))
inductive spIn0 (D:Nat) (cs:List Nat):FS
 | mk {σ:St} {K:PK} {X:PX} (c0 c1 c2 m:Nat) (ds:List Int) (n a b:Nat) (x:Int) (z:cs=[c0,c1,c2]) (z:σ[c0]?=some (.cel (some (.loc m)))) (z:σ[m]?=some (.lst (ds.map .int)))
  (z:σ[c1]?=some (.cel (some (.clo 0 cs)))) (z:σ[c2]?=some (.cel (some (.int (n:Nat))))) (z:a<b) (z:b<=ds.length) (z:b - a<=2^D) (z:n*ds.length<=2^20) (z:0<n) (z:0<=x) (z:x<2^(n*(b - a)))
  (z:K .none (σ.set m (.lst ((put ds a (digL n (b - a) x)).map .int)))):spIn0 D cs [.int x,.int (a:Nat),.int (b:Nat)] σ K X
theorem cutK_lst {σ:St} {K:PK} {n:Nat} {tl:List AV} {v:AV} (hv:Bd σ.length v) (htl:BdL σ.length tl) (hk:K v (σ.set n (.lst tl))):cutK σ K v (σ.set n (.lst tl)):=by
 refine ⟨hv,λ i ao hi e=>?_,by rw [List.take_of_length_le (by rw [List.length_set];exact Nat.le_refl _)];exact hk⟩
 by_cases him:n=i
 ·subst him
  rw [List.getElem?_set_self hi] at e
  cases e
  exact .inr htl
 ·rw [List.getElem?_set_ne him] at e
  exact .inl e
theorem put_halves {ds:List Int} {n a M b:Nat} {x:Int} (h1:a<M) (h2:M<b) (h3:b<=ds.length):
  put (put ds a (digL n (M - a) x)) M (digL n (b - M) (x/2^(n*(M - a))))=put ds a (digL n (b - a) x):=by
 have e:M=a+(digL n (M - a) x).length:=by rw [digL_len,Nat.add_sub_cancel' (Nat.le_of_lt h1)]
 have:=put_put (ds:=ds) (a:=a) (l₁:=digL n (M - a) x) (l₂:=digL n (b - M) (x/2^(n*(M - a)))) (by rw [<- e];exact Nat.le_of_lt (Nat.lt_of_lt_of_le h2 h3))
 rw [<- e,<- digL_app,show M - a+(b - M)=b - a by lia] at this
 exact this
theorem shl_bits {x:Int} {n m:Nat} (h0:0<=x) (h:x<2^n) (hn:n<=2^20) (hm:m<=2^20) {f g:PE} {fr:AFr} {σ:St} (hf:Ev f fr σ (.int x)) (hg:Ev g fr σ (.int (m:Nat))):Ev (E.bin opShl f g) fr σ (.int (x*2^m)):=
 Ev.bin hf hg λ Q hQ=>⟨Int.natCast_nonneg m,by have:=bits_small h0 h;lia,by rw [Int.toNat_natCast];exact hQ⟩
theorem in0_step (hB:BOk B) {ap:AV->Option FS} (hap:AppOk B k true ap) {D:Nat} (h:∀ cs,(∃ E,D=E+1/\ap (.clo 0 cs)=some (spIn0 E cs))\/D=0) (cs:List Nat):JApp B (k+1) true (.clo 0 cs) (spIn0 D cs):=
 JApp.of (JApp.cloK (κ:=κc0) (t:=ct0.2) (ts:=[.loc 0,.loc 1,.loc 2]) (ps:=["x","L","R"]) (by rw [hB.clo];rfl) rfl rfl rfl (by kernel_rfl) (λ cl doc pm cd ct=>bind3 λ a b c=>by kernel_rfl!) rfl ⟨⟨rfl,rfl⟩,⟨rfl,rfl⟩,⟨rfl,rfl⟩,trivial⟩ (jc0 hB ap hap)) λ l σ K X q=>by
 obtain ⟨c0,c1,c2,m,ds,n,a,b,x,rfl,e0,em,e1,e2,hab,hb,hD,hn,hn0,hx0,hx1,hk⟩:=q
 refine call0 (ρ:=[some (.int x),some (.int (a:Nat)),some (.int (b:Nat)),none,none,none,none]) rfl rfl (λ z=>rfl) ?_
 have hm:m<σ.length:=(List.getElem?_eq_some_iff.mp em).1
 have hlen:ds.length<=2^20:=Nat.le_trans (Nat.le_mul_of_pos_left _ hn0) hn
 refine ite_ev (Tv.eqI (Ev.add (Ev.loc rfl) Ev.c) (Ev.loc rfl)) (λ h1=>?_) λ h1=>?_
 ·obtain rfl:b=a+1:=by have:=of_decide_eq_true h1;lia
  rw [Nat.add_sub_cancel_left] at hk hx1
  rw [Nat.mul_one] at hx1
  have e:put ds a (digL n 1 x)=ds.set a x:=by
   show put ds a [x%2^n]=_
   rw [Int.emod_eq_of_lt hx0 hx1,put_one hb]
  rw [e] at hk
  refine setItem_ev (Ev.loc rfl) (Ev.cel rfl e0) (Ev.loc rfl) em (by rw [List.length_map];exact hb) (by lia) ?_
  rw [<- List.map_set]
  exact cutK_lst trivial (bdL_ints _) hk
 ·have h1:=of_decide_eq_false h1
  refine set_ev (half_ev (Ev.loc rfl) (Ev.loc rfl)) ?_
  generalize hMM:(a+b)/2=M
  have g1:a<M:=by lia
  have g2:M<b:=by lia
  obtain ⟨E,rfl,hap'⟩:=(h [c0,c1,c2]).resolve_right (by rintro rfl;rw [Nat.pow_zero] at hD;lia)
  rw [Nat.pow_succ] at hD
  have g3:b - M<=2^E:=by lia
  have g4:M - a<=2^E:=by lia
  clear hMM h1 hD
  have hnn:n<=2^20:=Nat.le_trans (Nat.le_mul_of_pos_right _ (by lia)) hn
  have hM:n*(M - a)<=2^20:=Nat.le_trans (Nat.mul_le_mul_left _ (by lia)) hn
  have hb2:n*(b - M)<=2^20:=Nat.le_trans (Nat.mul_le_mul_left _ (by lia)) hn
  refine set_ev (mul_ev (a:=M - a) (Ev.min (Ev.loc rfl) (Ev.loc rfl)) (Ev.cel rfl e2) (by lia) (by lia) (by lia)) ?_
  have hp:=two_pos (n*(M - a))
  have hq0:0<=x/2^(n*(M - a)):=Int.ediv_nonneg hx0 (Int.le_of_lt hp)
  have hq1:x/2^(n*(M - a))<2^(n*(b - M)):=by
   refine Int.ediv_lt_of_lt_mul hp ?_
   rw [<- Int.pow_add,<- Nat.mul_add,show b - M+(M - a)=b - a by lia]
   exact hx1
  refine set_ev (v:=.int (x/2^(n*(M - a)))) (Ev.bin (Ev.loc rfl) (Ev.loc rfl) λ Q hQ=>⟨Int.natCast_nonneg _,by rw [Int.toNat_natCast,Int.fdiv_eq_ediv_of_nonneg _ (Int.le_of_lt hp)];exact hQ⟩) ?_
  refine set_ev (v:=.int (x%2^(n*(M - a)))) (Ev.bin (Ev.loc rfl) (shl_bits hq0 hq1 hb2 hM (Ev.loc rfl) (Ev.loc rfl)) λ Q hQ=>by rw [<- xor_hi (n*(M - a))] at hQ;exact hQ) ?_
  have nc:∀ (c:Nat) (v:AV),σ[c]?=some (.cel (some v))->∀ y,(σ.set m y)[c]?=some (.cel (some v)):=λ c v e y=>by rw [List.getElem?_set_ne (λ q=>by rw [<- q,em] at e;cases e)];exact e
  refine exprCall_ev rfl (Ev.cel rfl e1) hap' (Lv.cons (Ev.loc rfl) (Lv.cons (Ev.loc rfl) (Lv.one (Ev.loc rfl)))) ⟨c0,c1,c2,m,ds,n,a,M,_,rfl,e0,em,e1,e2,g1,by lia,g4,hn,hn0,Int.emod_nonneg _ (Int.ne_of_gt hp),Int.emod_lt_of_pos _ hp,?_⟩
  have hpl:(put ds a (digL n (M - a) (x%2^(n*(M - a))))).length=ds.length:=put_len (by rw [digL_len];lia)
  refine exprCall_ev rfl (Ev.cel rfl (nc _ _ e1 _)) hap' (Lv.cons (Ev.loc rfl) (Lv.cons (Ev.loc rfl) (Lv.one (Ev.loc rfl)))) ⟨c0,c1,c2,m,_,n,M,b,_,rfl,nc _ _ e0 _,List.getElem?_set_self hm,nc _ _ e1 _,nc _ _ e2 _,g2,by rw [hpl];exact hb,g3,by rw [hpl];exact hn,hn0,hq0,hq1,?_⟩
  show cutK σ K .none (List.set (List.set σ m _) m _)
  rw [List.set_set,digL_low,put_halves g1 g2 hb]
  exact cutK_lst trivial (bdL_ints _) hk
theorem in0_ok (hB:BOk B):∀ (D:Nat) (cs:List Nat),JApp B (k+D+1) true (.clo 0 cs) (spIn0 D cs)
 | 0,cs=>in0_step hB (ap:=λ z=>none) no_ok (λ z=>.inr rfl) cs
 | D+1,cs=>in0_step (k:=k+D+1) hB (ap:=onClo 0 (spIn0 D)) (onClo_ok λ cs=>in0_ok hB D cs) (λ cs=>.inl ⟨D,rfl,onClo_self⟩) cs
end
section
variable {B:BC} {k:Nat}
inductive spI2d (D:Nat):FS
 | mk {σ:St} {K:PK} {X:PX} (x:Int) (n c:Nat) (z:0<=x) (z:0<n) (z:(Builtin.Int.intBits x+n - 1)/n=c) (z:c<=2^D) (z:n*c<2^20) (z:n<2^20) (z:K (.lst ((digL n c x).map .int)) σ):spI2d D [.int x,.int (n:Nat)] σ K X
theorem noPylong {x y:Int} (h:y.natAbs<2^8000):Builtin.divisionGoesByPylong x y=false:=by
 unfold Builtin.divisionGoesByPylong
 by_cases hy:y=0
 ·subst hy;rfl
 ·have h1:(y==0)=false:=beq_eq_false_iff_ne.mpr hy
  have hl:y.natAbs.log2<8000:=(Nat.log2_lt (by lia)).mpr h
  have h2:decide (y.natAbs.log2/30+1>300)=false:=decide_eq_false (by lia)
  simp only [h1,h2,Bool.not_false,Bool.and_false,Bool.false_and,Bool.and_self,Bool.false_eq_true,if_false,Bool.or_self,Bool.or_false]
theorem noPy {x y:Int} (h:0<=y) (h2:y<2^7000):Builtin.divisionGoesByPylong x y=false:=noPylong (by
 have h3:y.natAbs<2^7000:=Int.ofNat_lt.mp (by rw [Int.natAbs_of_nonneg h,Int.natCast_pow];exact h2)
 exact Nat.lt_of_lt_of_le h3 (Nat.pow_le_pow_right (by decide) (by decide)))
theorem i2d_bits {x:Int} {n c:Nat} (hx:0<=x) (hn0:0<n) (hc:(Builtin.Int.intBits x+n - 1)/n=c):x<2^(n*c):=by
 have h1:=Nat.div_add_mod (Builtin.Int.intBits x+n - 1) n
 have h2:=Nat.mod_lt (Builtin.Int.intBits x+n - 1) hn0
 rw [hc] at h1
 have hb:=intBits_le_iff.mp (show Builtin.Int.intBits x<=n*c by lia)
 have h3:((x.natAbs:Nat):Int)<((2^(n*c):Nat):Int):=Int.ofNat_lt.mpr hb
 rw [Int.natAbs_of_nonneg hx,Int.natCast_pow] at h3
 exact h3
theorem frz_ev {f:PE} {q:PS} {fr:AFr} {σ:St} {n:Nat} {l:List AV} {N Bk:PN} {R:PK} {X:PX} (h:Ev f fr σ (.loc n)) (hn:σ[n]?=some (.lst l)) (hR:R (.lst l) (σ.set n .gone)):S.cons (S.ret (E.frz f)) q fr σ N R Bk X:=h _ _ ⟨l,hn,hR⟩
theorem setN_ev {f g:PE} {p:PS} {tg:Tg} {fr:AFr} {σ:St} {c:Int} {N Bk:PN} {R:PK} {X:PX} (hf:Ev f fr σ (.lst [.int 0])) (hg:Ev g fr σ (.int c)) (h0:0<=c) (h1:c<2^20)
  (h:p { fr with ρ:=(bindT tg (.loc σ.length) fr (σ++[.lst (List.replicate c.toNat (.int 0))])).1.ρ } (bindT tg (.loc σ.length) fr (σ++[.lst (List.replicate c.toNat (.int 0))])).2 N R Bk X):S.cons (S.set tg (E.mulN f g)) p fr σ N R Bk X:=
 hf _ _ ⟨rfl,hg _ _ ⟨c,rfl,h0,h1,h⟩⟩
theorem i2d_ok (hB:BOk B) (D:Nat):JApp B (k+D+2) true (.val (.ref 35)) (spI2d D):=
 JApp.of (JApp.fnK hB.f35 (κ:=κ_int2digits) (ts:=[.loc 0,.cel 0]) rfl (by kernel_rfl) (λ c e=>by cases e;exact ⟨rfl,rfl⟩) rfl ⟨⟨rfl,rfl⟩,⟨rfl,rfl⟩,trivial⟩ (j_int2digits hB _ (onClo_ok λ cs=>in0_ok (k:=k) hB D cs))) λ l σ K X q=>by
 obtain ⟨x,n,c,hx,hn0,hc,hD,hn,hn2,hk⟩:=q
 refine callM (m:=3) (ρ:=[some (.int x)]) (χ:=[σ.length+0,σ.length+1,σ.length+2]) (τ:=[.cel (some (.int n)),.cel none,.cel none]) rfl rfl (by show (_,List.set (σ++[AObj.cel none,.cel none,.cel none]) (σ.length+0) _)=_;rw [set_app];rfl) ?_
 have hxb:=i2d_bits hx hn0 hc
 have hcn:c<=n*c:=Nat.le_mul_of_pos_left _ hn0
 have e1:Ev (E.bin opDiv (E.bin opSub (E.bin opAdd (E.meth "int" opBits (E.loc 0) L.nil) (E.cel 0)) (E.c (.int 1))) (E.cel 0)) ⟨[some (.int x)],[σ.length+0,σ.length+1,σ.length+2],HK.no⟩ (σ++[.cel (some (.int n)),.cel none,.cel none]) (.int (c:Nat)):=by
  have e0:=Ev.div (Ev.min (Ev.add (Ev.meth (T:="int") (o:=opBits) (f:=E.loc 0) (a:=.int x) (l:=[]) (v:=.int ((Builtin.Int.intBits x:Nat):Int)) (fr:=⟨[some (.int x)],[σ.length+0,σ.length+1,σ.length+2],HK.no⟩) (σ:=σ++[.cel (some (.int n)),.cel none,.cel none]) rfl (Ev.loc rfl) rfl Lv.nil λ K h=>h) (Ev.cel (i:=0) (q:=σ.length+0) rfl (get_app ..))) (Ev.c (v:=.int 1))) (Ev.cel (i:=0) (q:=σ.length+0) rfl (get_app ..)) (Int.ofNat_lt.mpr hn0) (noPy (Int.natCast_nonneg n) (Int.lt_trans (show (n:Int)<2^20 by lia) (two_lt (by decide))))
  rw [show ((Builtin.Int.intBits x:Nat):Int)+n - 1=((Builtin.Int.intBits x+n - 1:Nat):Int) by lia,<- Int.natCast_ediv,hc] at e0
  exact e0
 refine setN_ev (Ev.lst (Lv.one Ev.c)) e1 (Int.natCast_nonneg c) (by lia) ?_
 show S.cons _ _ ⟨[some (.int x)],[σ.length+0,σ.length+1,σ.length+2],HK.no⟩ (List.set (_++_) (σ.length+1) (.cel (some (.loc (σ++[AObj.cel (some (.int n)),.cel none,.cel none]).length)))) _ _ _ _
 rw [Int.toNat_natCast,List.append_assoc,set_app,show (σ++[AObj.cel (some (.int n)),.cel none,.cel none]).length=σ.length+3 from List.length_append]
 show S.cons _ _ _ (List.set _ (σ.length+2) _) _ _ _ _
 rw [set_app]
 have hl:((List.replicate c (0:Int)).map AV.int).length=c:=by rw [List.length_map,List.length_replicate]
 have hrep:List.replicate c (AV.int 0)=(List.replicate c (0:Int)).map .int:=by rw [List.map_replicate]
 rw [hrep]
 have fin:∀ ds:List Int,digL n c x=ds->S.cons (S.ret (E.frz (E.cel 1))) S.nil ⟨[some (.int x)],[σ.length+0,σ.length+1,σ.length+2],HK.no⟩ (σ++[.cel (some (.int n)),.cel (some (.loc (σ.length+3))),.cel (some (.clo 0 [σ.length+1,σ.length+2,σ.length+0])),.lst (ds.map .int)]) (λ z σ'=>cutK σ K .none σ') (cutK σ K) (λ z z=>False) (cutX σ X):=λ ds e=>by
  rw [e] at hk
  refine frz_ev (Ev.cel rfl (get_app ..)) (get_app ..) ?_
  rw [set_app]
  exact cut_app (bdL_ints _) hk
 refine ite_ev (Tv.val (a:=.int x) (c₁:=x !=0) (Ev.loc rfl) λ Q h=>h) (λ hx0=>?_) λ hx0=>?_
 ·have hc0:0<c:=by
   rcases Nat.eq_zero_or_pos c with q | q
   ·rw [q,Nat.mul_zero,Int.pow_zero] at hxb
    have:=bne_iff_ne.mp hx0
    lia
   ·exact q
  refine exprCall_ev rfl (Ev.cel rfl (get_app ..)) onClo_self (Lv.cons (Ev.loc rfl) (Lv.cons Ev.c (Lv.one (Ev.app (v:=.int (c:Nat)) rfl (Lv.one (Ev.cel rfl (get_app ..))) λ Q hQ=>⟨_,get_app ..,by rw [hl,sizeLine_eq];lia,by rw [hl];exact hQ⟩))))
   ⟨_,_,_,σ.length+3,List.replicate c 0,n,0,c,x,rfl,get_app ..,get_app ..,get_app ..,get_app ..,hc0,by rw [List.length_replicate];exact Nat.le_refl _,hD,by rw [List.length_replicate];exact Nat.le_of_lt hn,hn0,hx,hxb,?_⟩
  show S.cons _ _ _ (List.set _ _ _) _ _ _ _
  rw [set_app]
  refine fin _ ?_
  unfold put
  rw [List.take_zero,Nat.sub_zero,digL_len,Nat.zero_add,List.drop_of_length_le (by rw [List.length_replicate];exact Nat.le_refl _),List.append_nil,List.nil_append]
 ·refine fin _ ?_
  have:x=0:=by have:=bne_eq_false_iff_eq.mp hx0;exact this
  rw [this,digL_zero]
end
section
variable {B:BC} {k:Nat}
inductive spDiv2:FS
 | mk {σ:St} {K:PK} {X:PX} (a b n:Int) (z:0<b) (z:(Builtin.Int.intBits a:Int) - n<=4000) (z:Builtin.divisionGoesByPylong a b=false) (z:K (.tup [.int (a/b),.int (a%b)]) σ):spDiv2 [.int a,.int b,.int n] σ K X
theorem bits_ev {f:PE} {fr:AFr} {σ:St} {i:Int} (hn:fr.hnd=.no) (h:Ev f fr σ (.int i)):Ev (E.meth "int" opBits f L.nil) fr σ (.int ((Builtin.Int.intBits i:Nat):Int)):=Ev.meth hn h rfl Lv.nil λ z h=>h
theorem div2_ok (hB:BOk B):JApp B (k+1) true (.val (.ref 21)) spDiv2:=
 JApp.of (JApp.fnK hB.f21 (κ:=κ_div2n1n) (ts:=[.loc 0,.loc 1,.loc 2]) rfl (by kernel_rfl) (λ z e=>nomatch e) rfl ⟨⟨rfl,rfl⟩,⟨rfl,rfl⟩,⟨rfl,rfl⟩,trivial⟩ (j_div2n1n hB)) λ l σ K X q=>by
 obtain ⟨a,b,n,hb,hn,hp,hk⟩:=q
 refine call0 (ρ:=some (.int a)::some (.int b)::some (.int n)::List.replicate 8 none) rfl rfl (λ z=>rfl) ?_
 refine ite_ev (c₁:=true) (Tv.cmp (Ev.min (bits_ev rfl (Ev.loc rfl)) (Ev.loc rfl)) Ev.c λ Q hQ=>?_) (λ z=>ret_ev (v:=.tup [.int (a/b),.int (a%b)]) (Ev.app rfl (Lv.cons (Ev.loc rfl) (Lv.one (Ev.loc rfl))) λ Q hQ=>⟨Int.ne_of_gt hb,hp,?_⟩) (cut_ret ⟨trivial,trivial,trivial⟩ hk)) λ q=>(nomatch q)
 ·show Q (decide _)
  rw [decide_eq_true hn];exact hQ
 ·rw [Int.fdiv_eq_ediv_of_nonneg _ (Int.le_of_lt hb),Int.fmod_eq_emod_of_nonneg _ (Int.le_of_lt hb)];exact hQ
end
section
variable {B:BC} {k:Nat}
noncomputable def ldiv (b:Int) (n:Nat):List Int->Int->List Int×Int
 | [],r=>([],r)
 | d::ds,r=>((ldiv b n ds ((r*2^n+d)%b)).1.cons ((r*2^n+d)/b),(ldiv b n ds ((r*2^n+d)%b)).2)
theorem ldiv_in {b r d:Int} {n:Nat} (hb:0<b) (h0:0<=r) (h1:r<b) (hd:0<=d/\d<2^n):0<=r*2^n+d/\r*2^n+d<2^n*b:=by
 have hp:=Int.le_of_lt (two_pos n)
 have h2:=Int.mul_nonneg h0 hp
 have h3:(r+1)*2^n<=b*2^n:=Int.mul_le_mul_of_nonneg_right h1 hp
 rw [Int.add_mul,Int.one_mul,Int.mul_comm b] at h3
 exact ⟨Int.add_nonneg h2 hd.1,Int.lt_of_lt_of_le (Int.add_lt_add_left hd.2 _) h3⟩
theorem ldiv_ok {b:Int} {n:Nat} (hb:0<b) (hbn:b<2^n):∀ (ds:List Int) (r:Int),Digs n ds->0<=r->r<b->
  (ldiv b n ds r).1.length=ds.length/\Digs n (ldiv b n ds r).1/\0<=(ldiv b n ds r).2/\(ldiv b n ds r).2<b/\
  r*2^(n*ds.length)+digV n ds.reverse=digV n (ldiv b n ds r).1.reverse*b+(ldiv b n ds r).2
 | [],r,_,h0,h1=>⟨rfl,λ d hd=>absurd hd List.not_mem_nil,h0,h1,by show r*2^(n*0)+0=0*b+r;rw [Nat.mul_zero,Int.pow_zero,Int.mul_one,Int.zero_mul,Int.add_zero,Int.zero_add]⟩
 | d::ds,r,hd,h0,h1=>by
  obtain ⟨hy0,hy1⟩:=ldiv_in hb h0 h1 (hd d List.mem_cons_self)
  obtain ⟨i1,i2,i3,i4,i5⟩:=ldiv_ok hb hbn ds ((r*2^n+d)%b) (λ x hx=>hd x (List.mem_cons_of_mem _ hx)) (Int.emod_nonneg _ (Int.ne_of_gt hb)) (Int.emod_lt_of_pos _ hb)
  refine ⟨congrArg (·+1) i1,λ x hx=>?_,i3,i4,?_⟩
  ·rcases List.mem_cons.mp (show x∈_::_ from hx) with rfl | hx
   ·exact ⟨Int.ediv_nonneg hy0 (Int.le_of_lt hb),Int.ediv_lt_of_lt_mul hb hy1⟩
   ·exact i2 x hx
  ·have one:∀ x:Int,digV n [x]=x:=λ x=>by show x+2^n*0=x;rw [Int.mul_zero,Int.add_zero]
   show r*2^(n*(ds.length+1))+digV n (d::ds).reverse=digV n (_::(ldiv b n ds _).1).reverse*b+(ldiv b n ds _).2
   rw [List.reverse_cons,List.reverse_cons,digV_app,digV_app,List.length_reverse,List.length_reverse,i1,one,one,Nat.mul_succ,Int.pow_add]
   generalize hT:(2:Int)^(n*ds.length)=T at i5 ⊢
   generalize hy:r*2^n+d=y at i5 ⊢
   have e1:r*(T*2^n)+T*d=T*y:=by rw [<- hy,Int.mul_add,Int.mul_left_comm T r]
   have e2:T*y=T*(y/b)*b+y%b*T:=by
    have h1:=Int.mul_ediv_add_emod y b
    rw [Int.mul_assoc,Int.mul_comm (y%b),<- Int.mul_add,Int.mul_comm (y/b),h1]
   rw [Int.add_mul]
   omega
end
section
variable {B:BC} {k:Nat}
theorem append_ev {f g:PE} {q:PS} {fr:AFr} {σ:St} {n:Nat} {l:List AV} {v:AV} {N Bk:PN} {R:PK} {X:PX} (hn:fr.hnd=.no) (h:Ev f fr σ (.loc n)) (h2:Ev g fr σ v) (e:σ[n]?=some (.lst l)) (hl:l.length<=sizeLine) (hq:q fr (σ.set n (.lst (l++[v]))) N R Bk X):S.cons (S.expr (E.meth "list" opAppend f (L.cons g L.nil))) q fr σ N R Bk X:=
 ⟨hn,h _ _ ⟨⟨rfl,l,e⟩,h2 _ _ ⟨⟨rfl,l,e⟩,l,e,hl,hq⟩⟩⟩
theorem reverse_ev {f:PE} {q:PS} {fr:AFr} {σ:St} {n:Nat} {l:List AV} {N Bk:PN} {R:PK} {X:PX} (hn:fr.hnd=.no) (h:Ev f fr σ (.loc n)) (e:σ[n]?=some (.lst l)) (hl:l.length<=sizeLine) (hq:q fr (σ.set n (.lst l.reverse)) N R Bk X):S.cons (S.expr (E.meth "list" opReverse f L.nil)) q fr σ N R Bk X:=
 ⟨hn,h _ _ ⟨⟨rfl,l,e⟩,⟨rfl,l,e⟩,l,e,hl,hq⟩⟩
inductive spPos (D:Nat):FS
 | mk {σ:St} {K:PK} {X:PX} (a b:Int) (c:Nat) (z:0<=a) (z:0<b) (z:(Builtin.Int.intBits a+Builtin.Int.intBits b - 1)/Builtin.Int.intBits b=c) (z:c<=2^D) (z:Builtin.Int.intBits b*c<2^20) (z:Builtin.Int.intBits b<2000) (z:K (.tup [.int (a/b),.int (a%b)]) σ):spPos D [.int a,.int b] σ K X
noncomputable def posBody:PS:=(S.cons (S.setP (.many [.loc 7,.loc 4]) (E.call true (onVal 21 spDiv2) (E.c (.val (.ref 21))) (L.cons (E.bin opAdd (E.bin opShl (E.loc 4) (E.loc 2)) (E.loc 6)) (L.cons (E.loc 1) (L.cons (E.loc 2) L.nil)))))
 (S.cons (S.expr (E.meth "list" opAppend (E.loc 5) (L.cons (E.loc 7) L.nil))) S.nil))
noncomputable abbrev posF (a b:Int) (n:Nat) (A:AV) (r:Int) (q:Nat) (x6 x7:Option AV):AFr:=⟨[some (.int a),some (.int b),some (.int (n:Nat)),some A,some (.int r),some (.loc q),x6,x7,none],[],HK.no⟩
theorem set_last (σ:St) (x y:AObj):(σ++[x]).set σ.length y=σ++[y]:=set_app σ [x] 0 y
theorem get_last (σ:St) (x:AObj):(σ++[x])[σ.length]?=some x:=get_app σ [x] 0
theorem bits_up {x:Int} (h0:0<=x):x<2^Builtin.Int.intBits x:=by
 have h1:=intBits_le_iff.mp (Nat.le_refl (Builtin.Int.intBits x))
 have h2:((x.natAbs:Nat):Int)<((2^Builtin.Int.intBits x:Nat):Int):=Int.ofNat_lt.mpr h1
 rw [Int.natAbs_of_nonneg h0,Int.natCast_pow] at h2
 exact h2
theorem bits_pos {x:Int} (h0:0<x):0<Builtin.Int.intBits x:=by
 rcases Nat.eq_zero_or_pos (Builtin.Int.intBits x) with q | q
 ·have:=bits_up (Int.le_of_lt h0)
  rw [q,Int.pow_zero] at this
  lia
 ·exact q
theorem pos_loop {a b:Int} {n:Nat} {A:AV} {σ:St} {N:PN} {R:PK} {X:PX} (hb:0<b) (hbn:b<2^n) (hn:n<2000):∀ (ds:List Int) (r:Int) (qs:List Int) (x6 x7:Option AV),Digs n ds->0<=r->r<b->qs.length+ds.length<=sizeLine->
  (∀ x6 x7,N (posF a b n A (ldiv b n ds r).2 σ.length x6 x7).ρ (σ++[.lst ((qs++(ldiv b n ds r).1).map .int)]))->
  forK (.one (.loc 6)) posBody (ds.map .int) (posF a b n A r σ.length x6 x7) (σ++[.lst (qs.map .int)]) N R X
 | [],r,qs,x6,x7,_,_,_,_,h=>by have:=h x6 x7;rw [show qs++(ldiv b n [] r).1=qs from List.append_nil _] at this;exact this
 | d::ds,r,qs,x6,x7,hd,h0,h1,hq,h=>by
  refine ⟨_,rfl,?_⟩
  have hd0:=hd d List.mem_cons_self
  obtain ⟨hy0,hy1⟩:=ldiv_in hb h0 h1 hd0
  rw [List.length_cons] at hq
  have b2:=bits_small hy0 (Int.lt_of_lt_of_le hy1 (show (2:Int)^n*b<=2^(n+n) by rw [Int.pow_add];exact Int.mul_le_mul_of_nonneg_left (Int.le_of_lt hbn) (Int.le_of_lt (two_pos n))))
  have hpy:Builtin.divisionGoesByPylong (r*2^n+d) b=false:=noPy (Int.le_of_lt hb) (Int.lt_trans hbn (two_lt (by lia)))
  refine setP_ev (l:=[.int ((r*2^n+d)/b),.int ((r*2^n+d)%b)]) (λ z=>(nomatch z)) (Ev.call rfl Ev.c onVal_self (Lv.cons (Ev.add (shl_bits (m:=n) (n:=n) h0 (Int.lt_trans h1 hbn) (by lia) (by lia) (Ev.loc rfl) (Ev.loc rfl)) (Ev.loc rfl)) (Lv.cons (Ev.loc rfl) (Lv.one (Ev.loc rfl)))) λ K X hK=>⟨_,b,n,hb,by lia,hpy,hK⟩) rfl ?_
  refine append_ev rfl (Ev.loc rfl) (Ev.loc rfl) (get_last ..) (by rw [List.length_map];lia) ?_
  show S.nil _ (List.set (σ++[AObj.lst (qs.map .int)]) σ.length _) _ _ _ _
  rw [set_last]
  have ih:=pos_loop (a:=a) (A:=A) (σ:=σ) (N:=N) (R:=R) (X:=X) hb hbn hn ds ((r*2^n+d)%b) (qs++[(r*2^n+d)/b]) (some (.int d)) (some (.int ((r*2^n+d)/b))) (λ x hx=>hd x (List.mem_cons_of_mem _ hx)) (Int.emod_nonneg _ (Int.ne_of_gt hb)) (Int.emod_lt_of_pos _ hb) (by rw [List.length_append,List.length_singleton];lia) λ x6 x7=>by rw [List.append_assoc];exact h x6 x7
  rw [List.map_append] at ih
  exact ih
theorem pos_ok (hB:BOk B) (D:Nat):JApp B (k+D+3) true (.val (.ref 49)) (spPos D):=
 JApp.of (JApp.fnK hB.f49 (k:=k+D+2) (κ:=κ_divmod_pos) (ts:=[.loc 0,.loc 1]) rfl (by kernel_rfl) (λ z e=>nomatch e) rfl ⟨⟨rfl,rfl⟩,⟨rfl,rfl⟩,trivial⟩
  (j_divmod_pos hB _ _ _ (onVal_ok hB.f35 (i2d_ok (k:=k) hB D)) (onVal_ok hB.f21 (div2_ok (k:=k+D+1) hB)) (onVal_ok hB.f42 (d2i_ok (k:=k) hB D)))) λ l σ K X q=>by
 obtain ⟨a,b,c,ha,hb,hc,hD,hn,hn2,hk⟩:=q
 refine call0 (ρ:=some (.int a)::some (.int b)::List.replicate 7 none) rfl rfl (λ z=>rfl) ?_
 have hn0:=bits_pos hb
 have hbn:=bits_up (Int.le_of_lt hb)
 have hab:=i2d_bits ha hn0 hc
 have hcl:c<=2^20:=Nat.le_trans (Nat.le_mul_of_pos_left _ hn0) (Nat.le_of_lt hn)
 refine set_ev (bits_ev rfl (Ev.loc rfl)) ?_
 refine set_ev (v:=.lst ((digL (Builtin.Int.intBits b) c a).map .int)) (Ev.call rfl Ev.c onVal_self (Lv.cons (Ev.loc rfl) (Lv.one (Ev.loc rfl))) λ K X hK=>⟨a,_,c,ha,hn0,hc,hD,hn,by lia,hK⟩) ?_
 clear hc
 generalize Builtin.Int.intBits b=n at*
 refine set_ev (v:=.int 0) Ev.c (setNew_ev (l:=[]) Lv.nil ?_)
 have hds:Digs n (digL n c a).reverse:=λ d hd=>digL_digs d (List.mem_reverse.mp hd)
 have hdl:(digL n c a).reverse.length=c:=by rw [List.length_reverse,digL_len]
 refine for_lv (l:=(digL n c a).reverse.map .int) (λ K X hK=>⟨rfl,Ev.loc rfl _ _ (by rw [List.map_reverse] at hK;exact hK)⟩) ?_
 refine pos_loop (a:=a) (n:=n) (qs:=[]) hb hbn hn2 _ 0 none none hds (Int.le_refl _) hb (by rw [hdl,sizeLine_eq,List.length_nil];lia) λ x6 x7=>?_
 obtain ⟨i1,i2,i3,i4,i5⟩:=ldiv_ok hb hbn _ 0 hds (Int.le_refl _) hb
 rw [List.reverse_reverse,digV_digL ha hab,Int.zero_mul,Int.zero_add] at i5
 rw [hdl] at i1
 rw [List.nil_append]
 generalize ldiv b n (digL n c a).reverse 0=L at*
 have i2':Digs n L.1.reverse:=λ d hd=>i2 d (List.mem_reverse.mp hd)
 have hL:(L.1.map AV.int).length=c:=by rw [List.length_map,i1]
 have hq:=(Int.ediv_emod_unique hb (a:=a) (r:=L.2) (q:=digV n L.1.reverse)).mpr ⟨by rw [Int.mul_comm b,i5,Int.add_comm],i3,i4⟩
 rw [hq.1,hq.2] at hk
 have hls:(L.1.map AV.int).length<=sizeLine:=by rw [hL,sizeLine_eq];lia
 refine reverse_ev rfl (Ev.loc rfl) (get_last ..) hls ?_
 show S.cons _ _ (posF a b n (.lst ((digL n c a).map .int)) L.2 σ.length x6 x7) (List.set (σ++[AObj.lst (L.1.map .int)]) σ.length _) _ _ _ _
 rw [set_last,<- List.map_reverse]
 refine ⟨λ z=>rfl,_,onVal_self,⟨_,rfl,_,get_last ..,?_⟩⟩
 rw [set_last]
 refine Ev.loc rfl _ _ ⟨L.1.reverse,n,i2',by rw [List.length_reverse,i1];exact hD,by rw [List.length_reverse,i1];exact Nat.le_of_lt hn,hn0,?_⟩
 exact ret_ev (Ev.tup (Lv.cons (Ev.loc rfl) (Lv.one (Ev.loc rfl)))) (cut_app ⟨trivial,trivial,trivial⟩ hk)
end
section
variable {B:BC} {k:Nat}
inductive spId (D V:Nat):FS
 | mk {σ:St} {K:PK} {X:PX} (a b:Int) (z:V=0->0<=a/\0<b) (z:V=1->0<b) (z:Builtin.Int.intBits b<2000) (z:Builtin.Int.intBits a+1<2^19) (z:Builtin.Int.intBits a+1<=2^D)
  (z:b=0->X "ZeroDivisionError" σ) (z:b≠0->K (.tup [.int (a.fdiv b),.int (a.fmod b)]) σ):spId D V [.int a,.int b] σ K X
theorem not_eq (x:Int):Builtin.bitNot x=-x - 1:=rfl
theorem not_div {a b:Int} (hb:0<b):Builtin.bitNot (Builtin.bitNot a/b)=a/b/\b+Builtin.bitNot (Builtin.bitNot a%b)=a%b:=by
 rw [not_eq,not_eq,not_eq]
 have h1:=Int.mul_ediv_add_emod (-a - 1) b
 have h2:=Int.emod_nonneg (-a - 1) (Int.ne_of_gt hb)
 have h3:=Int.emod_lt_of_pos (-a - 1) hb
 generalize (-a - 1)/b=q at*
 generalize (-a - 1)%b=r at*
 have hq:=(Int.ediv_emod_unique hb (a:=a) (r:=b+(-r - 1)) (q:=-q - 1)).mpr ⟨by rw [Int.mul_sub,Int.mul_neg,Int.mul_one];omega,by omega,by omega⟩
 exact ⟨hq.1.symm,hq.2.symm⟩
theorem bits_not (a:Int) (h:a<0):Builtin.Int.intBits (Builtin.bitNot a)<=Builtin.Int.intBits a:=by
 rw [intBits_le_iff]
 exact Nat.lt_of_le_of_lt (by rw [not_eq];lia) (intBits_le_iff.mp (Nat.le_refl (Builtin.Int.intBits a)))
theorem id_step (hB:BOk B) (D V:Nat) {ap:AV->Option FS} (hap:AppOk B (k+D+3) true ap) (h:V=0\/∃ U,V=U+1/\ap (.val (.ref 56))=some (spId D U)):JApp B (k+D+4) true (.val (.ref 56)) (spId D V):=
 JApp.of (JApp.fnK hB.f56 (k:=k+D+3) (κ:=κint_divmod) (ts:=[.loc 0,.loc 1]) rfl (by kernel_rfl) (λ o e=>nomatch e) rfl ⟨⟨rfl,rfl⟩,⟨rfl,rfl⟩,trivial⟩ (jint_divmod hB _ _ hap (onVal_ok hB.f49 (pos_ok (k:=k) hB D)))) λ l σ K X q=>by
 obtain ⟨a,b,hV0,hV1,hb2,ha2,hD,hz,hk⟩:=q
 refine call0 (ρ:=[some (.int a),some (.int b),none,none]) rfl rfl (λ o=>rfl) ?_
 refine ite_ev (Tv.eqI (Ev.loc rfl) Ev.c) (λ h0=>?_) λ h0=>?_
 ·exact ⟨rfl,cutOk_self,by rw [List.take_length];exact hz (of_decide_eq_true h0)⟩
 have hb0:=of_decide_eq_false h0
 refine ite_ev (Tv.cmp (Ev.loc rfl) Ev.c λ Q h=>h) (λ h1=>?_) λ h1=>?_
 ·have hbn:=of_decide_eq_true h1
  obtain ⟨U,rfl,hU⟩:=h.resolve_left (λ q=>by have:=hV0 q;lia)
  have ea:Builtin.Int.intBits (-a)<=Builtin.Int.intBits a:=intBits_neg_le (Nat.le_refl _)
  have eb:Builtin.Int.intBits (-b)<=Builtin.Int.intBits b:=intBits_neg_le (Nat.le_refl _)
  refine setP_ev (l:=[.int (a.fdiv b),.int ((-a).fmod (-b))]) (λ z=>(nomatch z)) (Ev.call rfl Ev.c hU (Lv.cons (Ev.neg (Ev.loc rfl)) (Lv.one (Ev.neg (Ev.loc rfl)))) λ K X hK=>⟨-a,-b,λ q=>by have:=hV1 (by rw [q]);lia,λ o=>by lia,Nat.lt_of_le_of_lt eb hb2,by lia,by lia,λ q=>by lia,λ o=>by rw [Int.neg_fdiv_neg];exact hK⟩) rfl ?_
  refine ret_ev (Ev.tup (Lv.cons (Ev.loc rfl) (Lv.one (Ev.neg (Ev.loc rfl))))) (cut_ret ⟨trivial,trivial,trivial⟩ ?_)
  have:=hk hb0
  rw [show a.fmod b=-((-a).fmod (-b)) by rw [Int.neg_fmod_neg,Int.neg_neg]] at this
  exact this
 have hb1:0<b:=by have:=of_decide_eq_false h1;lia
 have hk:=hk hb0
 rw [Int.fdiv_eq_ediv_of_nonneg _ (Int.le_of_lt hb1),Int.fmod_eq_emod_of_nonneg _ (Int.le_of_lt hb1)] at hk
 refine ite_ev (Tv.cmp (Ev.loc rfl) Ev.c λ Q h=>h) (λ h2=>?_) λ h2=>?_
 ·have han:=of_decide_eq_true h2
  obtain ⟨U,rfl,hU⟩:=h.resolve_left (λ q=>by have:=hV0 q;lia)
  have ea:=bits_not a han
  refine setP_ev (l:=[.int (Builtin.bitNot a/b),.int (Builtin.bitNot a%b)]) (λ z=>(nomatch z)) (Ev.call rfl Ev.c hU (Lv.cons (Ev.inv (Ev.loc rfl)) (Lv.one (Ev.loc rfl))) λ K X hK=>⟨Builtin.bitNot a,b,λ o=>⟨by rw [not_eq];lia,hb1⟩,λ o=>hb1,hb2,by lia,by lia,λ q=>absurd q hb0,λ o=>by rw [Int.fdiv_eq_ediv_of_nonneg _ (Int.le_of_lt hb1),Int.fmod_eq_emod_of_nonneg _ (Int.le_of_lt hb1)];exact hK⟩) rfl ?_
  obtain ⟨n1,n2⟩:=not_div (a:=a) hb1
  refine ret_ev (Ev.tup (Lv.cons (Ev.inv (Ev.loc rfl)) (Lv.one (Ev.add (Ev.loc rfl) (Ev.inv (Ev.loc rfl)))))) (cut_ret ⟨trivial,trivial,trivial⟩ ?_)
  rw [n1,n2]
  exact hk
 ·have ha0:0<=a:=by have:=of_decide_eq_false h2;lia
  have hn0:=bits_pos hb1
  have h1:=Nat.div_mul_le_self (Builtin.Int.intBits a+Builtin.Int.intBits b - 1) (Builtin.Int.intBits b)
  have h3:Builtin.Int.intBits a<=Builtin.Int.intBits a*Builtin.Int.intBits b:=Nat.le_mul_of_pos_right _ hn0
  refine ret_ev (v:=.tup [.int (a/b),.int (a%b)]) (Ev.call rfl Ev.c onVal_self (Lv.cons (Ev.loc rfl) (Lv.one (Ev.loc rfl))) λ K X hK=>⟨a,b,_,ha0,hb1,rfl,Nat.le_trans (Nat.le_of_lt_succ (Nat.div_lt_of_lt_mul ?_)) hD,by rw [Nat.mul_comm];lia,hb2,hK⟩) (cut_ret ⟨trivial,trivial,trivial⟩ hk)
  rw [Nat.mul_comm,Nat.succ_mul,Nat.succ_mul]
  lia
theorem id_ok (hB:BOk B) (D:Nat):JApp B (k+D+6) true (.val (.ref 56)) (spId D 2):=by
 have h0:JApp B (k+D+4) true (.val (.ref 56)) (spId D 0):=id_step hB D 0 (ap:=λ z=>none) no_ok (.inl rfl)
 have h1:=id_step (k:=k+1) hB D 1 (ap:=onVal 56 (spId D 0)) (onVal_ok hB.f56 (JApp.mono (by lia) h0)) (.inr ⟨0,rfl,onVal_self⟩)
 have h2:=id_step (k:=k+2) hB D 2 (ap:=onVal 56 (spId D 1)) (onVal_ok hB.f56 (JApp.mono (by lia) h1)) (.inr ⟨1,rfl,onVal_self⟩)
 exact JApp.mono (by lia) h2
end
section
variable {B:BC} {k:Nat}
theorem aug_ev {t:Tg} {o:OpS} {f g:PE} {q:PS} {fr:AFr} {σ:St} {a b v:AV} {N Bk:PN} {R:PK} {X:PX} (h:Ev f fr σ a) (h2:Ev g fr σ b) (ho:∀ Q:AV->Prop,Q v->o a b Q) (hq:q (fr.at (bindT t v fr σ).1.ρ) (bindT t v fr σ).2 N R Bk X):S.cons (S.aug t o f g) q fr σ N R Bk X:=h _ _ (h2 _ _ (ho _ hq))
theorem next_ev {t:Tg} {f:PE} {q:PS} {fr:AFr} {σ:St} {n i:Nat} {l:List AV} {x:AV} {N Bk:PN} {R:PK} {X:PX} (hn:fr.hnd=.no) (h:Ev f fr σ (.loc n)) (e:σ[n]?=some (.ite l i)) (hx:l[i]?=some x)
  (hq:q (fr.at (bindT t x fr (σ.set n (.ite l (i+1)))).1.ρ) (bindT t x fr (σ.set n (.ite l (i+1)))).2 N R Bk X):S.cons (S.set t (E.appX opNext (L.cons f L.nil))) q fr σ N R Bk X:=
 ⟨hn,h _ _ ⟨l,i,e,by rw [hx];exact hq⟩⟩
theorem stop_ev {t:Tg} {f:PE} {q:PS} {fr:AFr} {σ:St} {n i:Nat} {l:List AV} {N Bk:PN} {R:PK} {X:PX} (hn:fr.hnd=.no) (h:Ev f fr σ (.loc n)) (e:σ[n]?=some (.ite l i)) (hx:l[i]?=none) (hX:X "StopIteration" (σ.set n .gone)):S.cons (S.set t (E.appX opNext (L.cons f L.nil))) q fr σ N R Bk X:=
 ⟨hn,h _ _ ⟨l,i,e,by rw [hx];exact hX⟩⟩
theorem and_apart:∀ (t:Nat) (a r:Int),0<=r->r<2^t->Builtin.bitAnd (a*2^t) r=0
 | 0,a,r,h0,h1=>by
  obtain rfl:r=0:=by rw [Int.pow_zero] at h1;lia
  have:=bitAnd_range (a*2^0) (y:=0) (by decide)
  lia
 | t+1,a,r,h0,h1=>by
  have e:a*2^(t+1)=2*(a*2^t):=by rw [Int.pow_succ,<- Int.mul_assoc,Int.mul_comm]
  rw [e,kbt_halves,Int.mul_ediv_cancel_left _ (by decide),if_neg λ h=>absurd h.1 (by rw [Int.mul_emod_right];decide),and_apart t a (r/2) (Int.ediv_nonneg h0 (by decide)) (Int.ediv_lt_of_lt_mul (by decide) (by rw [Int.pow_succ,Int.mul_comm] at h1;rw [Int.mul_comm];exact h1))]
  rfl
noncomputable def pvL:Int->Int->List Int->Option (Int×Nat)
 | b,v,[]=>if b/64%2=1 then none else some (v,0)
 | b,v,c::r=>if b/64%2=1 then (pvL c (v*64+c%64) r).map λ q=>(q.1,q.2+1) else some (v,0)
noncomputable def pv:List Int->Option (Int×Nat)
 | []=>none
 | b::r=>(pvL b (b%64) r).map λ q=>(q.1,q.2+1)
noncomputable def varT:PT:=T.val (E.bin opAnd (E.loc 1) (E.c (AV.int 64)))
noncomputable def varB:PS:=(S.cons (S.aug (Tg.loc 2) inShl (E.loc 2) (E.c (AV.int 6)))
 (S.cons (S.set (Tg.loc 1) (E.appX opNext (L.cons (E.loc 0) L.nil)))
  (S.cons (S.aug (Tg.loc 2) inOr (E.loc 2) (E.bin opAnd (E.loc 1) (E.c (AV.int 63)))) S.nil)))
theorem p26:(2:Int)^6=64:=by decide
theorem shl_or (v c:Int):Builtin.bitOr (v*64) (Builtin.bitAnd c 63)=v*64+c%64:=by
 rw [bitAnd_m6,bitOr_and]
 have:=and_apart 6 v (c%64) (Int.emod_nonneg _ (by decide)) (by rw [p26];exact Int.emod_lt_of_pos _ (by decide))
 rw [p26] at this
 rw [this,Int.sub_zero]
theorem and64 (b:Int):(Builtin.bitAnd b 64!=0)=decide (b/64%2=1):=by
 have:=kbt_bit b 6
 rw [p26] at this
 rw [this]
 rcases Int.emod_two_eq (b/64) with h | h<;>rw [h]<;>rfl
theorem varT_ev {n:Nat} {b v:Int} {σ:St}:Tv varT ⟨[some (.loc n),some (.int b),some (.int v)],[],HK.no⟩ σ (decide (b/64%2=1)):=Tv.val (Ev.bin (Ev.loc rfl) Ev.c λ Q h=>h) λ Q h=>by rw [<- and64] at h;exact h
theorem drop_next {α:Type} {l r:List α} {x:α} {i:Nat} (h:l.drop i=x::r):l[i]?=some x/\l.drop (i+1)=r:=by
 constructor
 ·have:=congrArg (·[0]?) h
  rw [List.getElem?_drop] at this
  exact this
 ·rw [<- List.drop_drop,h];rfl
theorem pv_loop {n:Nat} {σ:St} {N:PN} {R:PK} {X:PX} {ls:List Int} (hn:n<σ.length):∀ (r:List Int) (b v:Int) (i j:Nat) (q:Int×Nat),ls.drop i=r->pvL b v r=some q->0<=v->v<2^(6*j)->j+r.length<=2000->
  (∀ ρ,ρ[2]?=some (some (AV.int q.1))->N ρ (σ.set n (.ite (ls.map .int) (i+q.2))))->
  whileK varT varB (r.length+1) ⟨[some (.loc n),some (.int b),some (.int v)],[],HK.no⟩ (σ.set n (.ite (ls.map .int) i)) N R X
 | [],b,v,i,j,q,hd,hq,h0,h1,hj,hN=>by
  refine varT_ev _ _ ⟨λ hb=>?_,λ hb=>?_⟩
  ·rw [pvL,if_pos (of_decide_eq_true hb)] at hq;cases hq
  ·rw [pvL,if_neg (of_decide_eq_false hb)] at hq;cases hq;exact hN _ rfl
 | c::r,b,v,i,j,q,hd,hq,h0,h1,hj,hN=>by
  refine varT_ev _ _ ⟨λ hb=>?_,λ hb=>?_⟩
  ·rw [pvL,if_pos (of_decide_eq_true hb)] at hq
   obtain ⟨q',hq',rfl⟩:=Option.map_eq_some_iff.mp hq
   obtain ⟨hi,hd'⟩:=drop_next hd
   have hbits:=bits_small h0 h1
   have hc0:=Int.emod_nonneg c (show (64:Int)≠0 by decide)
   have hc1:=Int.emod_lt_of_pos c (show (0:Int)<64 by decide)
   have hv0:0<=v*64+c%64:=by lia
   have hv1:v*64+c%64<2^(6*(j+1)):=by
    rw [Nat.mul_succ,Int.pow_add,p26]
    lia
   rw [List.length_cons] at hj ⊢
   refine aug_ev (v:=.int (v*64)) (Ev.loc rfl) Ev.c (λ Q h=>⟨by decide,by lia,by rw [show (2:Int)^(6:Int).toNat=64 from p26];exact h⟩) ?_
   refine next_ev rfl (Ev.loc rfl) (List.getElem?_set_self hn) (by rw [List.getElem?_map,hi];rfl) ?_
   refine aug_ev (v:=.int (v*64+c%64)) (Ev.loc rfl) (Ev.bin (Ev.loc rfl) Ev.c λ Q h=>h) (λ Q h=>by rw [<- shl_or] at h;exact h) ?_
   have ih:=pv_loop (N:=N) (X:=X) (R:=R) hn r c (v*64+c%64) (i+1) (j+1) q' hd' hq' hv0 hv1 (by lia) (λ ρ hρ=>by
    have:=hN ρ hρ
    rwa [show i+(q'.2+1)=i+1+q'.2 by lia] at this)
   show whileK _ _ _ _ (List.set (List.set σ n _) n _) _ _ _
   rw [List.set_set]
   exact ih
  ·rw [pvL,if_neg (of_decide_eq_false hb)] at hq;cases hq;exact hN _ rfl
inductive spVar:FS
 | some {σ:St} {K:PK} {X:PX} (n:Nat) (ls:List Int) (i:Nat) (q:Int×Nat) (z:σ[n]?=some (.ite (ls.map .int) i)) (z:ls.length<=1000) (z:pv (ls.drop i)=some q) (z:K (.int q.1) (σ.set n (.ite (ls.map .int) (i+q.2)))):spVar [.loc n] σ K X
 | stop {σ:St} {K:PK} {X:PX} (n:Nat) (ls:List Int) (i:Nat) (z:σ[n]?=some (.ite (ls.map .int) i)) (z:ls.length<=i) (z:X "StopIteration" (σ.set n .gone)):spVar [.loc n] σ K X
theorem cutOk_set {σ:St} {n:Nat} {ao:AObj} (h:BdO σ.length ao):CutOk σ (σ.set n ao):=λ m o hm e=>by
 by_cases hmn:n=m
 ·subst hmn
  rw [List.getElem?_set_self hm] at e
  cases e
  exact .inr h
 ·rw [List.getElem?_set_ne hmn] at e
  exact .inl e
theorem take_set {σ:St} {n:Nat} {ao:AObj}:(σ.set n ao).take σ.length=σ.set n ao:=List.take_of_length_le (by rw [List.length_set];exact Nat.le_refl _)
theorem var_ok (hB:BOk B):JApp B (k+1) true (.val (.ref 93)) spVar:=
 JApp.of (JApp.fnK hB.f93 (κ:=κ_parse_varint) (ts:=[.loc 0]) rfl (by kernel_rfl) (λ z e=>nomatch e) rfl ⟨⟨rfl,rfl⟩,trivial⟩ (j_parse_varint hB)) λ l σ K X q=>by
 cases q with
 | stop n ls i e hl hX=>
  refine call0 (ρ:=[.some (.loc n),none,none]) rfl rfl (λ z=>rfl) (stop_ev rfl (Ev.loc rfl) e (List.getElem?_eq_none (by rw [List.length_map];exact hl)) ⟨cutOk_set trivial,by rw [take_set];exact hX⟩)
 | some n ls i q e hl hp hk=>
  have hn:n<σ.length:=(List.getElem?_eq_some_iff.mp e).1
  refine call0 (ρ:=[.some (.loc n),none,none]) rfl rfl (λ z=>rfl) ?_
  cases hd:ls.drop i with
  | nil=>rw [hd] at hp;cases hp
  | cons b r=>
   rw [hd] at hp
   obtain ⟨q',hq',rfl⟩:=Option.map_eq_some_iff.mp hp
   obtain ⟨hi,hd'⟩:=drop_next hd
   have hlr:r.length<=1000:=by rw [<- hd',List.length_drop];lia
   refine next_ev rfl (Ev.loc rfl) e (by rw [List.getElem?_map,hi];rfl) ?_
   refine set_ev (v:=.int (b%64)) (Ev.bin (Ev.loc rfl) Ev.c λ Q h=>by rw [<- bitAnd_m6] at h;exact h) ?_
   refine ⟨r.length+1,pv_loop hn r b (b%64) (i+1) 1 q' hd' hq' (Int.emod_nonneg _ (by decide)) (by rw [Nat.mul_one,p26];exact Int.emod_lt_of_pos _ (by decide)) (by lia) λ ρ hρ=>ret_ev (Ev.loc hρ) ⟨trivial,cutOk_set (bdL_ints ls),?_⟩⟩
   rw [take_set]
   rwa [show i+(q'.2+1)=i+1+q'.2 by lia] at hk
end
section
variable {B:BC} {k:Nat}
theorem big_line:(2:Nat)^20<sizeLine:=by rw [sizeLine_eq];decide
inductive Turn (tp:TgP) (ts:PT) (inner:PC) (I:AFr->Prop) (σ:St) (test:AV->Bool) (G:AV->List AV) (x:AV) (fr:AFr):Prop
 | mk (b:List (Tg×AV)) (fr':AFr) (z:bndP tp x=some b) (z:bindA b fr σ=(fr',σ)) (z:I fr') (z:Tv ts fr' σ (test x))
  (z:test x=true->∀ (acc:List AV) (K:List AV->AFr->St->Prop),acc.length+(G x).length<=2^20->(∀ fr,I fr->K (acc++G x) fr σ)->inner fr' σ acc K)
noncomputable def outL (test:AV->Bool) (G:AV->List AV):List AV->List AV
 | []=>[]
 | x::r=>(if test x=true then G x else [])++outL test G r
theorem outL_map {g:AV->AV}:∀ l:List AV,outL (λ z=>true) (λ x=>[g x]) l=l.map g
 | []=>rfl
 | x::r=>congrArg (g x::·) (outL_map r)
theorem compG {tp:TgP} {ts:PT} {inner:PC} {I:AFr->Prop} {σ:St} {test:AV->Bool} {G:AV->List AV} {K:List AV->AFr->St->Prop}:∀ (l:List AV) (fr:AFr) (acc:List AV),I fr->(∀ x∈l,∀ fr,I fr->Turn tp ts inner I σ test G x fr)->
  acc.length+(outL test G l).length<=2^20->(∀ fr,I fr->K (acc++outL test G l) fr σ)->compK tp ts inner l fr σ acc K
 | [],fr,acc,hi,_,_,hK=>by have:=hK fr hi;rw [show acc++outL test G []=acc from List.append_nil _] at this;exact this
 | x::r,fr,acc,hi,h,hz,hK=>by
  obtain ⟨b,fr',h1,h2,h3,h4,h5⟩:=h x List.mem_cons_self fr hi
  have hr:=λ y (hy:y∈r)=>h y (List.mem_cons_of_mem _ hy)
  refine ⟨b,h1,?_⟩
  have e:({ fr with ρ:=(bindA b fr σ).1.ρ }:AFr)=fr':=by rw [<- bindA_fr,h2]
  rw [e,h2]
  rw [outL] at hz hK
  cases ht:test x with
  | true=>
   rw [if_pos ht] at hz hK
   rw [ht] at h4
   rw [List.length_append] at hz
   refine h4 _ _ ⟨λ z=>h5 ht acc _ (by lia) λ fr'' hi''=>?_,λ q=>(nomatch q)⟩
   exact compG r fr'' _ hi'' hr (by rw [List.length_append];lia) λ fr hi=>by rw [List.append_assoc];exact hK fr hi
  | false=>
   rw [if_neg (by rw [ht];exact Bool.false_ne_true)] at hz hK
   rw [ht] at h4
   exact h4 _ _ ⟨λ q=>(nomatch q),λ z=>compG r fr' acc h3 hr hz hK⟩
theorem elt_ev {e:PE} {fr:AFr} {σ:St} {v:AV} {acc:List AV} {K:List AV->AFr->St->Prop} (h:Ev e fr σ v) (hz:acc.length+1<=2^20) (hK:K (acc++[v]) fr σ):C.elt e fr σ acc K:=h _ _ ⟨Nat.lt_trans hz big_line,hK⟩
theorem comp_filter {nl:Nat} {fm χ':List Nat} {it:PL} {ts:PT} {e:PE} {l:List AV} {test:AV->Bool} {g:AV->AV} {fr:AFr} {σ:St} (h0:fr0 nl σ.length 0 (fm.map λ i=>fr.χ.getD i 0) fr.hnd=⟨[none],χ',fr.hnd⟩) (hf:Lv it fr σ l) (hl:(outL test (λ x=>[g x]) l).length<=1000) (ht:∀ x∈l,Tv ts ⟨[some x],χ',fr.hnd⟩ σ (test x)) (he:∀ x∈l,test x=true->Ev e ⟨[some x],χ',fr.hnd⟩ σ (g x)):
  Ev (E.comp nl 0 fm it (.one (.loc 0)) ts (C.elt e)) fr σ (.lst (outL test (λ x=>[g x]) l)):=λ K X hK=>by
 refine hf _ _ ?_
 rw [List.replicate_zero,List.append_nil,h0]
 refine compG (I:=λ fr'=>∃ z,fr'=⟨[z],χ',fr.hnd⟩) (test:=test) (G:=λ x=>[g x]) l _ [] ⟨none,rfl⟩ (λ x hx fr' hi=>?_) (by rw [List.length_nil];lia) λ fr' o=>hK
 obtain ⟨z,rfl⟩:=hi
 exact ⟨_,⟨[some x],χ',fr.hnd⟩,rfl,rfl,⟨_,rfl⟩,ht x hx,λ q acc K hz hK=>elt_ev (he x hx q) hz (hK _ ⟨_,rfl⟩)⟩
theorem comp_map {nl:Nat} {fm χ':List Nat} {it:PL} {e:PE} {l:List AV} {g:AV->AV} {fr:AFr} {σ:St} (h0:fr0 nl σ.length 0 (fm.map λ i=>fr.χ.getD i 0) fr.hnd=⟨[none],χ',fr.hnd⟩) (hf:Lv it fr σ l) (hl:l.length<=1000) (he:∀ x∈l,Ev e ⟨[some x],χ',fr.hnd⟩ σ (g x)):
  Ev (E.comp nl 0 fm it (.one (.loc 0)) (T.c true) (C.elt e)) fr σ (.lst (l.map g)):=by
 rw [<- outL_map]
 exact comp_filter h0 hf (by rw [outL_map,List.length_map];exact hl) (λ z z=>Tv.c) λ x hx z=>he x hx
theorem comp_filter2 {nl:Nat} {fm χ':List Nat} {it:PL} {ts:PT} {e:PE} {l:List (AV×AV)} {test:AV->AV->Bool} {g:AV->AV->AV} {fr:AFr} {σ:St} (h0:fr0 nl σ.length 0 (fm.map λ i=>fr.χ.getD i 0) fr.hnd=⟨[none,none],χ',fr.hnd⟩) (hf:Lv it fr σ (l.map λ q=>.tup [q.1,q.2])) (hl:l.length<=1000) (ht:∀ q∈l,Tv ts ⟨[some q.1,some q.2],χ',fr.hnd⟩ σ (test q.1 q.2)) (he:∀ q∈l,test q.1 q.2=true->Ev e ⟨[some q.1,some q.2],χ',fr.hnd⟩ σ (g q.1 q.2)):
  Ev (E.comp nl 0 fm it (.many [.loc 0,.loc 1]) ts (C.elt e)) fr σ (.lst ((l.filter λ q=>test q.1 q.2).map λ q=>g q.1 q.2)):=λ K X hK=>by
 refine hf _ _ ?_
 rw [List.replicate_zero,List.append_nil,h0]
 have eo:∀ l:List (AV×AV),outL (λ x=>match x with | .tup [a,b]=>test a b | _=>false) (λ x=>[match x with | .tup [a,b]=>g a b | _=>.none]) (l.map λ q=>AV.tup [q.1,q.2])=(l.filter λ q=>test q.1 q.2).map λ q=>g q.1 q.2:=λ l=>by
  induction l with
  | nil=>rfl
  | cons q r ih=>
   rw [List.map_cons,outL,ih,List.filter_cons]
   dsimp only
   by_cases h:test q.1 q.2=true
   ·rw [if_pos h,if_pos h];rfl
   ·rw [if_neg h,if_neg h];rfl
 refine compG (I:=λ fr'=>∃ y z,fr'=⟨[y,z],χ',fr.hnd⟩) (test:=λ x=>match x with | .tup [a,b]=>test a b | _=>false) (G:=λ x=>[match x with | .tup [a,b]=>g a b | _=>.none]) _ _ [] ⟨none,none,rfl⟩ (λ x hx fr' hi=>?_) (by rw [eo,List.length_map,List.length_nil,Nat.zero_add];exact Nat.le_trans (List.length_filter_le _ _) (Nat.le_trans hl (by decide))) λ fr' o=>by rw [eo];exact hK
 obtain ⟨q,hq,rfl⟩:=List.mem_map.mp hx
 obtain ⟨y,z,rfl⟩:=hi
 exact ⟨_,⟨[some q.1,some q.2],χ',fr.hnd⟩,rfl,rfl,⟨_,_,rfl⟩,ht q hq,λ h acc K hz hK=>elt_ev (he q hq h) hz (hK _ ⟨_,_,rfl⟩)⟩
theorem comp_map2 {nl:Nat} {fm χ':List Nat} {it:PL} {e:PE} {l:List (AV×AV)} {g:AV->AV->AV} {fr:AFr} {σ:St} (h0:fr0 nl σ.length 0 (fm.map λ i=>fr.χ.getD i 0) fr.hnd=⟨[none,none],χ',fr.hnd⟩) (hf:Lv it fr σ (l.map λ q=>.tup [q.1,q.2])) (hl:l.length<=1000) (he:∀ q∈l,Ev e ⟨[some q.1,some q.2],χ',fr.hnd⟩ σ (g q.1 q.2)):
  Ev (E.comp nl 0 fm it (.many [.loc 0,.loc 1]) (T.c true) (C.elt e)) fr σ (.lst (l.map λ q=>g q.1 q.2)):=by
 have h:=comp_filter2 (test:=λ z z=>true) h0 hf hl (λ z z=>Tv.c) λ q hq z=>he q hq
 rw [List.filter_eq_self.mpr λ z z=>rfl] at h
 exact h
theorem comp_flat {nl:Nat} {fm χ':List Nat} {it it':PL} {e:PE} {l:List AV} {g:AV->List AV} {h:AV->AV->AV} {fr:AFr} {σ:St} (h0:fr0 nl σ.length 0 (fm.map λ i=>fr.χ.getD i 0) fr.hnd=⟨[none,none],χ',fr.hnd⟩) (hf:Lv it fr σ l) (hl:(outL (λ o=>true) (λ x=>(g x).map (h x)) l).length<=2^20)
  (hi:∀ x∈l,∀ z,Lv it' ⟨[some x,z],χ',fr.hnd⟩ σ (g x)) (he:∀ x∈l,∀ y∈g x,Ev e ⟨[some x,some y],χ',fr.hnd⟩ σ (h x y)):
  Ev (E.comp nl 0 fm it (.one (.loc 0)) (T.c true) (C.sub it' (.one (.loc 1)) (T.c true) (C.elt e))) fr σ (.lst (outL (λ o=>true) (λ x=>(g x).map (h x)) l)):=λ K X hK=>by
 refine hf _ _ ?_
 rw [List.replicate_zero,List.append_nil,h0]
 refine compG (I:=λ fr'=>∃ y z,fr'=⟨[y,z],χ',fr.hnd⟩) (test:=λ o=>true) (G:=λ x=>(g x).map (h x)) l _ [] ⟨none,none,rfl⟩ (λ x hx fr' hI=>?_) (by rw [List.length_nil];lia) λ fr' o=>hK
 obtain ⟨y,z,rfl⟩:=hI
 refine ⟨_,⟨[some x,z],χ',fr.hnd⟩,rfl,rfl,⟨_,_,rfl⟩,Tv.c,λ o acc K hz hK=>hi x hx z _ _ ?_⟩
 refine compG (I:=λ fr'=>∃ z,fr'=⟨[some x,z],χ',fr.hnd⟩) (test:=λ o=>true) (G:=λ y=>[h x y]) (g x) _ acc ⟨z,rfl⟩ (λ y hy fr' hI=>?_) (by rw [outL_map];exact hz) λ fr' hI=>by rw [outL_map];obtain ⟨z,rfl⟩:=hI;exact hK _ ⟨_,_,rfl⟩
 obtain ⟨z,rfl⟩:=hI
 exact ⟨_,⟨[some x,some y],χ',fr.hnd⟩,rfl,rfl,⟨_,rfl⟩,Tv.c,λ o acc K hz hK=>elt_ev (he x hx y hy) hz (hK _ ⟨_,rfl⟩)⟩
theorem Lv.ylst {f:PE} {fr:AFr} {σ:St} {l:List AV} (hn:fr.hnd=.no) (h:Ev f fr σ (.lst l)):Lv (Y.lst f) fr σ l:=λ K X hK=>⟨hn,h _ _ ⟨l,rfl,hK⟩⟩
theorem Lv.yrev {f:PE} {fr:AFr} {σ:St} {l:List AV} (hn:fr.hnd=.no) (h:Ev f fr σ (.lst l)):Lv (Y.rev (L.cons f L.nil)) fr σ l.reverse:=λ K X hK=>⟨hn,h _ _ hK⟩
theorem Lv.yenu {f:PE} {fr:AFr} {σ:St} {l:List AV} (hn:fr.hnd=.no) (h:Ev f fr σ (.lst l)):Lv (Y.enu (L.cons f L.nil)) fr σ (enumL 0 l):=λ K X hK=>⟨by rw [hn];exact λ q=>(nomatch q),h _ _ hK⟩
theorem Lv.yzip {f g:PE} {fr:AFr} {σ:St} {l r:List AV} (hn:fr.hnd=.no) (h:Ev f fr σ (.lst l)) (h2:Ev g fr σ (.lst r)):Lv (Y.zip (L.cons f (L.cons g L.nil))) fr σ (zipL l r):=λ K X hK=>⟨hn,h _ _ (h2 _ _ hK)⟩
theorem pow14 (i:Nat):(16384:Int)^i=2^(14*i):=by rw [Int.pow_mul];rfl
noncomputable def enumP:Nat->List Int->List (AV×AV)
 | _,[]=>[]
 | k,x::r=>(.int (k:Nat),.int x)::enumP (k+1) r
theorem enumP_eq:∀ (row:List Int) (k:Nat),(enumP k row).map (λ q=>AV.tup [q.1,q.2])=enumL k (row.map .int)
 | [],_=>rfl
 | x::r,k=>congrArg (_::·) (enumP_eq r (k+1))
theorem enumP_len:∀ (row:List Int) (k:Nat),(enumP k row).length=row.length
 | [],_=>rfl
 | _::r,k=>congrArg (·+1) (enumP_len r (k+1))
theorem mem_enum:∀ {row:List Int} {k:Nat} {q:AV×AV},q∈enumP k row->∃ (i:Nat) (s:Int),q=(.int (i:Nat),.int s)/\k<=i/\i<k+row.length/\s∈row
 | [],_,_,h=>absurd h List.not_mem_nil
 | y::r,k,x,h=>by
  rcases List.mem_cons.mp (show x∈_::_ from h) with rfl | h
  ·exact ⟨k,y,rfl,Nat.le_refl _,Nat.lt_add_of_pos_right (Nat.succ_pos _),List.mem_cons_self⟩
  ·obtain ⟨i,s,e,h1,h2,h3⟩:=mem_enum h
   rw [List.length_cons]
   exact ⟨i,s,e,by lia,by lia,List.mem_cons_of_mem _ h3⟩
theorem toInts_map:∀ ns:List Int,toInts (ns.map .int)=some ns
 | []=>rfl
 | x::r=>by show (toInts (r.map .int)).map (x::·)=_;rw [toInts_map r];rfl
noncomputable def numL:Nat->List Int->List Int
 | _,[]=>[]
 | k,x::r=>x*16384^k::numL (k+1) r
noncomputable def numG:AV->AV->AV
 | .int i,.int s=>.int (s*16384^i.toNat)
 | _,_=>.none
theorem num_enum:∀ (row:List Int) (k:Nat),(enumP k row).map (λ q=>numG q.1 q.2)=(numL k row).map .int
 | [],_=>rfl
 | x::r,k=>congrArg (_::·) (num_enum r (k+1))
theorem numL_sum:∀ (row:List Int) (k:Nat),(numL k row).sum=16384^k*digV 14 row
 | [],k=>(Int.mul_zero _).symm
 | x::r,k=>by
  show x*16384^k+(numL (k+1) r).sum=16384^k*(x+2^14*digV 14 r)
  rw [numL_sum r (k+1),Int.pow_succ,Int.mul_add,show (2:Int)^14=16384 by decide,Int.mul_comm x,Int.mul_assoc]
inductive spNum:FS
 | mk {σ:St} {K:PK} {X:PX} (row:List Int) (z:row.length<=100) (z:∀ s∈row,0<=s/\s<16384) (z:K (.int (digV 14 row)) σ):spNum [.lst (row.map .int)] σ K X
theorem num_ok (hB:BOk B):JApp B (k+1) true (.val (.ref 136)) spNum:=
 JApp.of (JApp.fnK hB.f136 (κ:=κ_law_number) (ts:=[.loc 0]) rfl (by kernel_rfl) (λ z e=>nomatch e) rfl ⟨⟨rfl,rfl⟩,trivial⟩ (j_law_number hB)) λ l σ K X q=>by
 obtain ⟨row,hl,hs,hk⟩:=q
 refine call0 (ρ:=[some (.lst (row.map .int))]) rfl rfl (λ z=>rfl) ?_
 refine ret_ev (v:=.int (digV 14 row)) (Ev.app rfl (Lv.one (v:=.lst ((numL 0 row).map .int)) ?_) λ Q h=>⟨numL 0 row,toInts_map _,by rw [numL_sum,Int.pow_zero,Int.one_mul];exact h⟩) (cut_ret trivial hk)
 rw [<- num_enum]
 refine comp_map2 (χ':=[]) rfl (by rw [enumP_eq];exact Lv.yenu rfl (Ev.loc rfl)) (by rw [enumP_len];lia) λ q hq=>?_
 obtain ⟨i,s,rfl,h1,h2,h3⟩:=mem_enum hq
 have hb:Builtin.Int.intBits (16384^i)<=1500:=bits_small (Int.pow_nonneg (by decide)) (by rw [pow14];exact two_lt (by lia))
 refine Ev.bin (Ev.loc rfl) (Ev.bin (v:=.int (16384^i)) Ev.c (Ev.loc rfl) λ Q h=>⟨Int.natCast_nonneg i,?_,by rw [Int.toNat_natCast];exact h⟩) λ Q h=>⟨IntMulOk.of_le (m:=15) (n:=1500) (bits_small (hs s h3).1 (Int.lt_trans (hs s h3).2 (by decide))) hb (by decide),h⟩
 rw [show Builtin.Int.intBits 16384=15 by decide+kernel]
 lia
end
section
variable {B:BC} {k:Nat}
noncomputable def fillS (nums:List (List Int)) (s:Int):List Int:=if s=254\/s=255 then nums.getD (255 - s).toNat [] else [s]
noncomputable def filled (nums:List (List Int)):List Int->List Int
 | []=>[]
 | s::r=>fillS nums s++filled nums r
noncomputable abbrev nested (nums:List (List Int)):List AV:=nums.map λ r=>.lst (r.map .int)
noncomputable def fillG (nums:List (List Int)):AV->List AV
 | .int s=>(fillS nums s).map .int
 | _=>[]
theorem fill_out (nums:List (List Int)):∀ form:List Int,outL (λ z=>true) (λ x=>(fillG nums x).map id) (form.map .int)=(filled nums form).map .int
 | []=>rfl
 | s::r=>by
  rw [show filled nums (s::r)=fillS nums s++filled nums r from rfl,List.map_append,<- fill_out nums r]
  show ((fillS nums s).map AV.int).map id++_=_
  rw [List.map_id]
theorem fillS_len {nums:List (List Int)} {m:Nat} (h:∀ r∈nums,r.length<=m+1) (s:Int):(fillS nums s).length<=m+1:=by
 unfold fillS
 by_cases q:s=254\/s=255
 ·rw [if_pos q,List.getD_eq_getElem?_getD]
  cases q:nums[(255 - s).toNat]? with
  | none=>exact Nat.zero_le _
  | some r=>exact h r (List.mem_of_getElem? q)
 ·rw [if_neg q];exact Nat.le_add_left 1 m
theorem filled_len {nums:List (List Int)} {m:Nat} (h:∀ r∈nums,r.length<=m+1):∀ form:List Int,(filled nums form).length<=(m+1)*form.length
 | []=>Nat.zero_le _
 | s::r=>by
  rw [show filled nums (s::r)=fillS nums s++filled nums r from rfl,List.length_append,List.length_cons,Nat.mul_succ,Nat.add_comm]
  exact Nat.add_le_add (filled_len h r) (fillS_len h s)
inductive spFill:FS
 | mk {σ:St} {K:PK} {X:PX} (form:List Int) (nums:List (List Int)) (z:∀ s∈form,(s=254\/s=255)->(255 - s).toNat<nums.length) (z:form.length<=100) (z:∀ r∈nums,r.length<=100) (z:K (.lst ((filled nums form).map .int)) σ):spFill [.lst (form.map .int),.lst (nested nums)] σ K X
theorem fill_ok (hB:BOk B):JApp B (k+1) true (.val (.ref 141)) spFill:=
 JApp.of (JApp.fnK hB.f141 (κ:=κ_law_filled) (ts:=[.loc 0,.cel 0]) rfl (by kernel_rfl) (λ o e=>nomatch e) rfl ⟨⟨rfl,rfl⟩,⟨rfl,rfl⟩,trivial⟩ (j_law_filled hB)) λ l σ K X q=>by
 obtain ⟨form,nums,hs,hl,hn,hk⟩:=q
 refine callM (m:=1) (ρ:=[some (.lst (form.map .int))]) (χ:=[σ.length+0]) (τ:=[.cel (some (.lst (nested nums)))]) rfl rfl (by show (_,List.set (σ++[AObj.cel none]) (σ.length+0) _)=_;rw [set_app];rfl) ?_
 have hz:=filled_len hn form
 refine ret_ev (v:=.lst ((filled nums form).map .int)) ?_ (cut_app (bdL_ints _) hk)
 rw [<- fill_out]
 refine comp_flat (g:=fillG nums) (h:=λ o y=>y) (χ':=[σ.length+0]) rfl (Lv.ylst rfl (Ev.loc rfl)) (by rw [show (λ x=>(fillG nums x).map λ y=>y)=λ x=>(fillG nums x).map id from rfl,fill_out,List.length_map];lia) (λ x hx z=>?_) λ x hx y hy=>Ev.loc rfl
 obtain ⟨s,hs',rfl⟩:=List.mem_map.mp hx
 refine Lv.ylst rfl (Ev.ite (c₁:=decide (s=254\/s=255)) (Tv.cmp (Ev.loc rfl) (Ev.tup (Lv.cons Ev.c (Lv.one Ev.c))) λ Q h=>⟨[254,255],rfl,?_⟩) (λ h=>?_) λ h=>?_)
 ·have e:([254,255].any λ x=>x==s)=decide (s=254\/s=255):=by
   rw [Bool.eq_iff_iff,decide_eq_true_iff,List.any_cons,List.any_cons,List.any_nil,Bool.or_false,Bool.or_eq_true,beq_iff_eq,beq_iff_eq,@eq_comm _ s,@eq_comm _ s]
  rw [e];exact h
 ·have h:=of_decide_eq_true h
  have hlt:=hs s hs' h
  have hg:nums[(255 - s).toNat]?=some (nums.getD (255 - s).toNat []):=by
   rw [List.getD_eq_getElem?_getD,List.getElem?_eq_getElem hlt];rfl
  have he:(255:Int) - s=((255 - s).toNat:Nat):=by lia
  have hfs:fillG nums (.int s)=(nums.getD (255 - s).toNat []).map .int:=congrArg (List.map AV.int) (if_pos h)
  rw [hfs]
  refine Ev.sub (Ev.cel rfl (get_app ..)) (Ev.min Ev.c (Ev.loc rfl)) λ Q hQ=>?_
  rw [he]
  exact sub_lst (by rw [List.getElem?_map,hg];rfl) (by lia) hQ
 ·have hfs:fillG nums (.int s)=[.int s]:=congrArg (List.map AV.int) (if_neg (of_decide_eq_false h))
  rw [hfs]
  exact Ev.lst (Lv.one (Ev.loc rfl))
end
section
variable {B:BC} {k:Nat}
noncomputable def octG (s:Int) (j:Nat):Int:=s/64^j%64+64*(if 0<j then 1 else 0)
noncomputable def octR (s:Int):Nat->List Int
 | 0=>[octG s 0]
 | j+1=>octG s (j+1)::octR s j
noncomputable def topJ (s:Int):Nat:=(Builtin.Int.intBits s - 1)/6
noncomputable def octets (row:List Int):List Int:=row.flatMap λ s=>octR s (topJ s)
noncomputable def marks (w:Int):Nat->List Int->List Int
 | _,[]=>[]
 | i,o::r=>(if ((i:Int)+w)%3=0 then o+128 else o)::marks w (i+1) r
noncomputable def octX (s:AV):AV->AV
 | .int j=>match s with
  | .int s=>.int (octG s j.toNat)
  | _=>.none
 | _=>.none
noncomputable def octI:AV->List AV
 | .int s=>rangeL (topJ s:Int) (-1) (topJ s+1)
 | _=>[]
theorem down (n:Nat):rangeL ((n+1:Nat):Int) (-1) (n+1+1)=.int ((n+1:Nat):Int)::rangeL (n:Int) (-1) (n+1):=by
 have e:((n+1:Nat):Int)+-1=(n:Int):=Int.add_neg_cancel_right (n:Int) 1
 rw [rangeL,e]
theorem oct_out (s:Int):∀ n:Nat,(rangeL (n:Int) (-1) (n+1)).map (octX (.int s))=(octR s n).map .int
 | 0=>rfl
 | n+1=>by rw [down];exact congrArg (_::·) (oct_out s n)
theorem mem_range {x:AV}:∀ {n:Nat},x∈rangeL (n:Int) (-1) (n+1)->∃ j:Nat,x=.int (j:Nat)/\j<=n
 | 0,h=>⟨0,List.mem_singleton.mp h,Nat.le_refl _⟩
 | n+1,h=>by
  rw [down] at h
  rcases List.mem_cons.mp h with rfl | h
  ·exact ⟨n+1,rfl,Nat.le_refl _⟩
  ·obtain ⟨j,e1,e2⟩:=mem_range h
   exact ⟨j,e1,Nat.le_succ_of_le e2⟩
theorem octR_len (s:Int):∀ n:Nat,(octR s n).length=n+1
 | 0=>rfl
 | n+1=>congrArg (·+1) (octR_len s n)
theorem tape_out:∀ row:List Int,outL (λ z=>true) (λ x=>(octI x).map (octX x)) (row.map .int)=(octets row).map .int
 | []=>rfl
 | s::r=>by
  rw [show octets (s::r)=octR s (topJ s)++octets r from rfl,List.map_append,<- tape_out r,<- oct_out];rfl
theorem topJ_le {s:Int} (h0:0<=s) (h1:s<16384):topJ s<=2:=by
 have:=bits_small (m:=14) h0 h1
 unfold topJ;lia
theorem octets_len:∀ {row:List Int},(∀ s∈row,0<=s/\s<16384)->(octets row).length<=3*row.length
 | [],_=>Nat.zero_le _
 | s::r,h=>by
  have h1:=octets_len (row:=r) λ x hx=>h x (List.mem_cons_of_mem _ hx)
  have h2:=topJ_le (h s List.mem_cons_self).1 (h s List.mem_cons_self).2
  rw [show octets (s::r)=octR s (topJ s)++octets r from rfl,List.length_append,octR_len,List.length_cons]
  lia
noncomputable def markG (w:Int):AV->AV->AV
 | .int i,.int o=>.int (if (i+w)%3=0 then o+128 else o)
 | _,_=>.none
theorem mark_out (w:Int):∀ (os:List Int) (i:Nat),(enumP i os).map (λ q=>markG w q.1 q.2)=(marks w i os).map .int
 | [],_=>rfl
 | o::r,i=>congrArg (_::·) (mark_out w r (i+1))
inductive spTape:FS
 | mk {σ:St} {K:PK} {X:PX} (row:List Int) (w:Int) (z:row.length<=100) (z:∀ s∈row,0<=s/\s<16384) (z:K (.lst ((marks w 0 (octets row)).map .int)) σ):spTape [.lst (row.map .int),.int w] σ K X
theorem rng_down (n:Nat) (h:n<=2):Builtin.Range.small (n:Int) (-1) (-1)=true/\Builtin.Range.rangeSize (n:Int) (-1) (-1)=(n:Int)+1:=by
 match n,h with
 | 0,_=>exact ⟨by decide,by decide⟩
 | 1,_=>exact ⟨by decide,by decide⟩
 | 2,_=>exact ⟨by decide,by decide⟩
theorem max_ev {f:PE} {fr:AFr} {σ:St} {i:Int} (hn:fr.hnd=.no) (h:Ev f fr σ (.int i)):Ev (E.app opMax (L.cons (E.c (.int 0)) (L.cons f L.nil))) fr σ (.int (if i>0 then i else 0)):=Ev.app hn (Lv.cons Ev.c (Lv.one h)) λ z h=>h
theorem ev_octs {s:Int} {z:Option AV} {σ:St} (s0:0<=s) (s1:s<16384):Lv (Y.rng (L.cons (E.bin opDiv (E.app opMax (L.cons (E.c (.int 0)) (L.cons (E.bin opSub (E.meth "int" opBits (E.loc 0) L.nil) (E.c (.int 1))) L.nil))) (E.c (.int 6))) (L.cons (E.neg (E.c (.int 1))) (L.cons (E.neg (E.c (.int 1))) L.nil)))) ⟨[some (.int s),z],[],HK.no⟩ σ (octI (.int s)):=λ K X hK=>by
 have hT:(if ((Builtin.Int.intBits s:Nat):Int) - 1>0 then ((Builtin.Int.intBits s:Nat):Int) - 1 else 0)/6=(topJ s:Int):=by
  unfold topJ
  by_cases h:((Builtin.Int.intBits s:Nat):Int) - 1>0
  ·rw [if_pos h];omega
  ·rw [if_neg h];omega
 obtain ⟨r1,r2⟩:=rng_down (topJ s) (topJ_le s0 s1)
 have hn:rngSize (topJ s:Int) (-1) (-1)=topJ s+1:=by unfold rngSize;rw [r2];rfl
 have hd:=Ev.div (max_ev (fr:=⟨[some (.int s),z],[],HK.no⟩) (σ:=σ) rfl (Ev.min (bits_ev rfl (Ev.loc (i:=0) rfl)) (Ev.c (v:=.int 1)))) (Ev.c (v:=.int 6)) (by decide) (noPy (by decide) (by decide+kernel))
 rw [hT] at hd
 refine ⟨rfl,Lv.cons hd (Lv.cons (Ev.neg Ev.c) (Lv.one (Ev.neg Ev.c))) _ _ ⟨by decide,noPylong (Nat.one_lt_two_pow (by decide)),r1,by rw [r2];lia,?_⟩⟩
 rw [hn];exact hK
theorem tape_ok (hB:BOk B):JApp B (k+1) true (.val (.ref 146)) spTape:=
 JApp.of (JApp.fnK hB.f146 (κ:=κ_law_tape) (ts:=[.loc 0,.cel 0]) rfl (by kernel_rfl) (λ u e=>nomatch e) rfl ⟨⟨rfl,rfl⟩,⟨rfl,rfl⟩,trivial⟩ (j_law_tape hB)) λ l σ K X q=>by
 obtain ⟨row,w,hl,hs,hk⟩:=q
 refine callM (m:=1) (ρ:=[some (.lst (row.map .int)),none]) (χ:=[σ.length+0]) (τ:=[.cel (some (.int w))]) rfl rfl (by show (_,List.set (σ++[AObj.cel none]) (σ.length+0) _)=_;rw [set_app];rfl) ?_
 have hz:=octets_len hs
 refine set_ev (v:=.lst ((octets row).map .int)) ?_ (ret_ev (v:=.lst ((marks w 0 (octets row)).map .int)) ?_ (cut_app (bdL_ints _) hk))
 ·rw [<- tape_out]
  refine comp_flat (χ':=[]) rfl (Lv.ylst rfl (Ev.loc rfl)) (by rw [tape_out,List.length_map];lia) (λ x hx z=>?_) λ x hx y hy=>?_
  ·obtain ⟨s,hs',rfl⟩:=List.mem_map.mp hx
   exact ev_octs (hs s hs').1 (hs s hs').2
  ·obtain ⟨s,hs',rfl⟩:=List.mem_map.mp hx
   obtain ⟨j,rfl,hj⟩:=mem_range hy
   have hj2:j<=2:=Nat.le_trans hj (topJ_le (hs s hs').1 (hs s hs').2)
   have hp:(0:Int)<64^j:=Int.pow_pos (by decide)
   have hp2:(64:Int)^j<2^7000:=by
    rw [show (64:Int)^j=2^(6*j) by rw [Int.pow_mul];rfl]
    exact two_lt (by lia)
   have e:octX (.int s) (.int (j:Nat))=.int (s/64^j%64+64*(if decide ((0:Int)<j)=true then (1:Int) else 0)):=by
    show AV.int (octG s ((j:Nat):Int).toNat)=_
    rw [Int.toNat_natCast,octG]
    by_cases h:0<j
    ·rw [if_pos h,show decide ((0:Int)<j)=true from decide_eq_true (by lia)];rfl
    ·rw [if_neg h,show decide ((0:Int)<j)=false from decide_eq_false (by lia)];rfl
   rw [e]
   refine Ev.add (Ev.mod (Ev.div (Ev.loc rfl) (Ev.bin (v:=.int (64^j)) Ev.c (Ev.loc rfl) λ Q h=>⟨Int.natCast_nonneg j,?_,by rw [Int.toNat_natCast];exact h⟩) hp (noPy (Int.le_of_lt hp) hp2)) Ev.c (by decide)) (Ev.bin Ev.c (Ev.cmp (Ev.loc rfl) Ev.c λ u h=>h) λ u h=>h)
   rw [show Builtin.Int.intBits 64=7 by decide+kernel]
   lia
 ·rw [<- mark_out]
  refine comp_map2 (χ':=[σ.length+0]) rfl (by rw [enumP_eq];exact Lv.yenu rfl (Ev.loc rfl)) (by rw [enumP_len];lia) λ q hq=>?_
  obtain ⟨i,o,rfl,h1,h2,h3⟩:=mem_enum hq
  refine Ev.ite (Tv.eqI (Ev.mod (Ev.add (Ev.loc rfl) (Ev.cel rfl (get_app ..))) Ev.c (by decide)) Ev.c) (λ h=>?_) λ h=>?_
  ·rw [show markG w (.int (i:Nat)) (.int o)=.int (o+128) from congrArg AV.int (if_pos (of_decide_eq_true h))]
   exact Ev.add (Ev.loc rfl) Ev.c
  ·rw [show markG w (.int (i:Nat)) (.int o)=.int o from congrArg AV.int (if_neg (of_decide_eq_false h))]
   exact Ev.loc rfl
end
section
variable {B:BC} {k:Nat}
section
variable {fr:AFr} {σ:St} {f:PE} {i j:Int}
theorem small_py {x j:Int} (h0:0<j) (h:j<2^70):Builtin.divisionGoesByPylong x j=false:=noPy (Int.le_of_lt h0) (Int.lt_trans h (two_lt (by decide)))
theorem Ev.divC (h:Ev f fr σ (.int i)) (hj:0<j:=by decide) (h2:j<2^70:=by decide):Ev (E.bin opDiv f (E.c (.int j))) fr σ (.int (i/j)):=Ev.div h Ev.c hj (small_py hj h2)
theorem Ev.modC (h:Ev f fr σ (.int i)) (hj:0<j:=by decide):Ev (E.bin opMod f (E.c (.int j))) fr σ (.int (i%j)):=Ev.mod h Ev.c hj
theorem Ev.subL {l:List AV} {n:Nat} {v:AV} {g:PE} (h:Ev f fr σ (.lst l)) (h2:Ev g fr σ (.int i)) (e:i=n) (hn:l[n]?=some v) (hl:n<2^63):Ev (E.sub f g) fr σ v:=Ev.sub h h2 λ Q hQ=>by rw [e];exact sub_lst hn hl hQ
theorem Ev.subT {l:List AV} {n:Nat} {v:AV} {g:PE} (h:Ev f fr σ (.tup l)) (h2:Ev g fr σ (.int i)) (e:i=n) (hn:l[n]?=some v) (hl:n<2^63):Ev (E.sub f g) fr σ v:=Ev.sub h h2 λ Q hQ=>by rw [e];exact sub_tup hn hl hQ
end
noncomputable def dSize (y:Int):Int:=if y/8%8<7 then 2^(20+y/64%40).toNat+y/2560%1000 - 500 else 0
noncomputable def dPick (y n:Int):Int:=if y%4=0 then n else if y%4=1 then -n else if y%4=2 then Builtin.bitNot n else 0
noncomputable def dDiv (y:Int):Int:=if y/4%2=1 then -dSize y else dSize y
noncomputable def dRight (y n:Int):Int×Int:=if 0<dSize y then ((dPick y n).fdiv (dDiv y),(dPick y n).fmod (dDiv y)) else (0,0)
noncomputable def dWant (y n:Int):Int×Int:=((dRight y n).1+(if y/8%8=5 then 1 else 0),(dRight y n).2+(if y/8%8=4 then 1 else 0))
noncomputable abbrev pairA (p:Int×Int):AV:=.tup [.int p.1,.int p.2]
noncomputable abbrev divA (y n:Int):AV:=.lst [.int (y%4),.int (dDiv y),pairA (dRight y n),pairA (dWant y n)]
inductive spDvn:FS
 | mk {σ:St} {K:PK} {X:PX} (y n:Int) (z:0<=y) (z:K (divA y n) σ):spDvn [.int y,.int n] σ K X
theorem dSize_bound {y:Int}:0<=dSize y/\dSize y<2^61/\(0<dSize y↔y/8%8<7):=by
 unfold dSize
 by_cases h:y/8%8<7
 ·rw [if_pos h]
  have h3:=two_le (show (20+y/64%40).toNat<=59 by lia)
  have h4:=two_le (show 20<=(20+y/64%40).toNat by lia)
  generalize (2:Int)^(20+y/64%40).toNat=z at*
  have e1:(2:Int)^59=576460752303423488:=by decide
  have e2:(2:Int)^20=1048576:=by decide
  have e3:(2:Int)^61=2305843009213693952:=by decide
  rw [e1] at h3
  rw [e2] at h4
  rw [e3]
  have h5:=Int.emod_nonneg (y/2560) (show (1000:Int)≠0 by decide)
  have h6:=Int.emod_lt_of_pos (y/2560) (show (0:Int)<1000 by decide)
  generalize y/2560%1000=u at*
  exact ⟨by lia,by lia,iff_of_true (by lia) h⟩
 ·rw [if_neg h]
  exact ⟨by decide,by decide,iff_of_false (by decide) h⟩
theorem dDiv_bound (y:Int):(dDiv y).natAbs<2^8000:=by
 have b:=dSize_bound (y:=y)
 have h1:(dDiv y).natAbs=(dSize y).natAbs:=by
  unfold dDiv
  by_cases h:y/4%2=1
  ·rw [if_pos h,Int.natAbs_neg]
  ·rw [if_neg h]
 rw [h1]
 have h3:(dSize y).natAbs<2^61:=Int.ofNat_lt.mp (by rw [Int.natAbs_of_nonneg b.1,Int.natCast_pow];exact b.2.1)
 exact Nat.lt_of_lt_of_le h3 (Nat.pow_le_pow_right (by decide) (by decide))
theorem dDiv_zero {y:Int}:dDiv y=0↔dSize y=0:=by
 unfold dDiv
 by_cases h:y/4%2=1
 ·rw [if_pos h,Int.neg_eq_zero]
 ·rw [if_neg h]
theorem pick_ev {f g:PE} {fr:AFr} {σ:St} {y n:Int} (h:Ev f fr σ (.int n)) (h2:Ev g fr σ (.int (y%4))):Ev (E.sub (E.lst (L.cons f (L.cons (E.neg f) (L.cons (E.inv f) (L.cons (E.c (.int 0)) L.nil))))) g) fr σ (.int (dPick y n)):=by
 have l:=Ev.lst (Lv.cons h (Lv.cons (Ev.neg h) (Lv.cons (Ev.inv h) (Lv.one (Ev.c (v:=.int 0))))))
 unfold dPick
 have h4:y%4=0\/y%4=1\/y%4=2\/y%4=3:=by lia
 rcases h4 with q | q | q | q<;>rw [q] at h2 ⊢
 ·exact Ev.subL (n:=0) l h2 rfl rfl (by decide)
 ·exact Ev.subL (n:=1) l h2 rfl rfl (by decide)
 ·exact Ev.subL (n:=2) l h2 rfl rfl (by decide)
 ·exact Ev.subL (n:=3) l h2 rfl rfl (by decide)
theorem Ev.eqI {f g:PE} {fr:AFr} {σ:St} {i j:Int} (h:Ev f fr σ (.int i)) (h2:Ev g fr σ (.int j)):Ev (E.cmp cmpEq f g) fr σ (.bool (decide (i=j))):=Ev.cmp h h2 λ z h=>cmpEq_int _ h
theorem addB_ev {f g:PE} {fr:AFr} {σ:St} {i:Int} {p:Prop} [Decidable p] (h:Ev f fr σ (.int i)) (h2:Ev g fr σ (.bool (decide p))):Ev (E.bin opAdd f g) fr σ (.int (i+if p then 1 else 0)):=Ev.bin h h2 λ Q hQ=>by
 show Q (.int (i+if decide p=true then 1 else 0))
 by_cases q:p
 ·rw [if_pos q] at hQ;rw [if_pos (decide_eq_true q)];exact hQ
 ·rw [if_neg q] at hQ;rw [if_neg (λ z=>q (of_decide_eq_true z))];exact hQ
theorem dvn_ok (hB:BOk B):JApp B (k+1) true (.val (.ref 153)) spDvn:=
 JApp.of (JApp.fnK hB.f153 (κ:=κ_law_division) (ts:=[.loc 0,.loc 1]) rfl (by kernel_rfl) (λ z e=>nomatch e) rfl ⟨⟨rfl,rfl⟩,⟨rfl,rfl⟩,trivial⟩ (j_law_division hB)) λ l σ K X q=>by
 obtain ⟨y,n,h0,hk⟩:=q
 refine call0 (ρ:=[some (.int y),some (.int n),none,none,none,none]) rfl rfl (λ z=>rfl) ?_
 have y8:∀ {fr:AFr},fr.ρ[0]?=some (some (.int y))->Ev (E.bin opMod (E.bin opDiv (E.loc 0) (E.c (.int 8))) (E.c (.int 8))) fr σ (.int (y/8%8)):=λ h=>Ev.modC (Ev.divC (Ev.loc h))
 refine set_ev (v:=.int (dSize y)) (Ev.ite (Tv.cmp (y8 rfl) Ev.c λ z h=>h) (λ h=>?_) λ h=>?_) ?_
 ·rw [dSize,if_pos (of_decide_eq_true h)]
  exact Ev.min (Ev.add (Ev.bin (v:=.int (2^(20+y/64%40).toNat)) Ev.c (Ev.add Ev.c (Ev.modC (Ev.divC (Ev.loc rfl)))) λ Q hQ=>⟨by lia,by rw [show Builtin.Int.intBits 2=2 by decide+kernel];lia,hQ⟩) (Ev.modC (Ev.divC (Ev.loc rfl)))) Ev.c
 ·rw [dSize,if_neg (of_decide_eq_false h)]
  exact Ev.c
 have hW:Ev (E.tup (L.cons (E.sub (E.lst (L.cons (E.loc 1) (L.cons (E.neg (E.loc 1)) (L.cons (E.inv (E.loc 1)) (L.cons (E.c (.int 0)) L.nil))))) (E.bin opMod (E.loc 0) (E.c (.int 4)))) (L.cons (E.ite (T.cmp cmpEq (E.bin opMod (E.bin opDiv (E.loc 0) (E.c (.int 4))) (E.c (.int 2))) (E.c (.int 1))) (E.neg (E.loc 2)) (E.loc 2)) L.nil)))
   ⟨[some (.int y),some (.int n),some (.int (dSize y)),none,none,none],[],HK.no⟩ σ (.tup [.int (dPick y n),.int (dDiv y)]):=by
  refine Ev.tup (Lv.cons (pick_ev (Ev.loc rfl) (Ev.modC (Ev.loc rfl))) (Lv.one (Ev.ite (Tv.eqI (Ev.modC (Ev.divC (Ev.loc rfl))) Ev.c) (λ h=>?_) λ h=>?_)))
  ·rw [dDiv,if_pos (of_decide_eq_true h)];exact Ev.neg (Ev.loc rfl)
  ·rw [dDiv,if_neg (of_decide_eq_false h)];exact Ev.loc rfl
 refine setW_ev (λ q=>nomatch q) hW rfl ?_
 refine set_ev (v:=pairA (dRight y n)) (Ev.ite (Tv.cmp (Ev.loc rfl) Ev.c λ z h=>h) (λ h=>?_) λ h=>?_) ?_
 ·have h:=of_decide_eq_true h
  have hne:dDiv y≠0:=λ q=>by rw [dDiv_zero.mp q] at h;exact absurd h (by decide)
  rw [dRight,if_pos h]
  exact Ev.tup (Lv.cons (Ev.bin (Ev.loc rfl) (Ev.loc rfl) λ Q hQ=>⟨hne,noPylong (dDiv_bound y),hQ⟩) (Lv.one (Ev.bin (Ev.loc rfl) (Ev.loc rfl) λ Q hQ=>⟨hne,hQ⟩)))
 ·rw [dRight,if_neg (of_decide_eq_false h)]
  exact Ev.tup (Lv.cons Ev.c (Lv.one Ev.c))
 refine ret_ev (v:=divA y n) (Ev.lst (Lv.cons (Ev.modC (Ev.loc rfl)) (Lv.cons (Ev.loc rfl) (Lv.cons (Ev.loc rfl) (Lv.one (Ev.tup (Lv.cons (addB_ev (Ev.subT (n:=0) (Ev.loc rfl) Ev.c rfl rfl (by decide)) (Ev.eqI (y8 rfl) Ev.c)) (Lv.one (addB_ev (Ev.subT (n:=1) (Ev.loc rfl) Ev.c rfl rfl (by decide)) (Ev.eqI (y8 rfl) Ev.c))))))))))
  (cut_ret ⟨trivial,trivial,⟨trivial,trivial,trivial⟩,⟨trivial,trivial,trivial⟩,trivial⟩ hk)
end
section
open PySem.StrLaws Builtin.Str
theorem ofL_inj {a b:List Nat} (h:ofL a=ofL b):a=b:=by
 have:=congrArg (λ x:Str=>x.cps.toList) h
 simpa [ofL] using this
theorem ofL_cps (a:List Nat):(ofL a).cps.toList=a:=by simp [ofL]
noncomputable def occAt (t p:List Nat) (i:Nat):Bool:=(t.drop i).take p.length==p
theorem subAt_ofL (t p:List Nat) (i:Nat):subAt (ofL t) (ofL p) i=occAt t p i:=by
 rw [subAt_eq,ofL_cps,ofL_cps,ofL_len]
 rfl
noncomputable def occR (t p:List Nat) (hi limit:Nat):List Nat->Nat->Nat->List Nat
 | [],_,_=>[]
 | i::r,c,free=>if ((c<limit/\free<=i)/\i+p.length<=hi)/\occAt t p i=true then i::occR t p hi limit r (c+1) (i+p.length) else occR t p hi limit r c free
theorem occR_nil {t p:List Nat} {hi limit c free:Nat}:occR t p hi limit [] c free=[]:=rfl
theorem occR_cons {t p:List Nat} {hi limit i c free:Nat} {r:List Nat}:occR t p hi limit (i::r) c free=if ((c<limit/\free<=i)/\i+p.length<=hi)/\occAt t p i=true then i::occR t p hi limit r (c+1) (i+p.length) else occR t p hi limit r c free:=rfl
theorem occ_run (t p:List Nat) (hi limit:Nat):∀ (l:List Nat) (st:Array Nat×Nat),(forIn l st (occBody (ofL t) (ofL p) hi limit)).run.fst.toList=st.fst.toList++occR t p hi limit l st.fst.size st.snd
 | [],st=>by simp [occR_nil]
 | a::l,st=>by
  rw [List.forIn_cons]
  have hb:occBody (ofL t) (ofL p) hi limit a st=if ((st.fst.size<limit/\st.snd<=a)/\a+p.length<=hi)/\occAt t p a=true then pure (ForInStep.yield (st.fst.push a,a+p.length)) else pure (ForInStep.yield (st.fst,st.snd)):=by
   unfold occBody
   simp only [subAt_ofL,ofL_len]
  rw [hb]
  simp only [occR_cons]
  split
  ·have:=occ_run t p hi limit l (st.fst.push a,a+p.length)
   simp only [Array.size_push,Array.toList_push,List.append_assoc,List.singleton_append] at this
   exact this
  ·exact occ_run t p hi limit l st
theorem occ_list (t p:List Nat) (lo hi limit:Nat):occurrences (ofL t) (ofL p) lo hi limit=occR t p hi limit (List.range' lo (hi+1 - lo)) 0 lo:=by
 rw [occ_eq,occ_run]
 simp
noncomputable def firstIn (t p:List Nat) (lo hi:Nat):Option Nat:=(List.range' lo (hi+1 - lo)).find? λ i=>decide (i+p.length<=hi)&&occAt t p i
theorem occR_full (t p:List Nat) (hi:Nat):∀ (l:List Nat) (c free:Nat),1<=c->occR t p hi 1 l c free=[]
 | [],_,_,_=>rfl
 | i::r,c,free,h=>by
  simp only [occR_cons]
  rw [if_neg (by lia),occR_full t p hi r c free h]
theorem occR_one (t p:List Nat) (hi:Nat):∀ (l:List Nat) (free:Nat),(∀ i∈l,free<=i)->occR t p hi 1 l 0 free=((l.find? λ i=>decide (i+p.length<=hi)&&occAt t p i).map λ i=>[i]).getD []
 | [],_,_=>rfl
 | i::r,free,h=>by
  have hi':=h i List.mem_cons_self
  simp only [occR_cons,List.find?_cons]
  by_cases q:i+p.length<=hi/\occAt t p i=true
  ·rw [if_pos ⟨⟨⟨by lia,hi'⟩,q.1⟩,q.2⟩,occR_full t p hi r _ _ (by lia)]
   simp [q.1,q.2]
  ·rw [if_neg (λ z=>q ⟨z.1.2,z.2⟩),occR_one t p hi r free λ j hj=>h j (List.mem_cons_of_mem _ hj)]
   have:(decide (i+p.length<=hi)&&occAt t p i)=false:=by
    cases h2:occAt t p i
    ·simp
    ·have h3:¬ (i+p.length<=hi):=λ h3=>q ⟨h3,h2⟩
     simp [h3]
   rw [this]
theorem find_list (t p:List Nat) (lo hi:Nat):occurrences (ofL t) (ofL p) lo hi 1=((firstIn t p lo hi).map λ i=>[i]).getD []:=by
 rw [occ_list,occR_one]
 ·rfl
 ·intro i h
  rw [List.mem_range'_1] at h
  lia
theorem firstIn_some {t p:List Nat} {lo hi i:Nat} (h:firstIn t p lo hi=some i):lo<=i/\i+p.length<=hi/\occAt t p i=true:=by
 have h1:=List.find?_some h
 have h2:=List.mem_of_find?_eq_some h
 rw [List.mem_range'_1] at h2
 simp at h1
 exact ⟨by lia,h1.1,h1.2⟩
theorem firstIn_least {t p:List Nat} {lo hi i j:Nat} (h:firstIn t p lo hi=some i) (hj:lo<=j) (hj2:j+p.length<=hi) (ho:occAt t p j=true):i<=j:=by
 unfold firstIn at h
 rw [List.find?_eq_some_iff_append] at h
 obtain ⟨h1,as,bs,h2,h3⟩:=h
 rcases Nat.lt_or_ge j i with q | q
 ·exfalso
  have hm:j∈as:=by
   have h4:j∈List.range' lo (hi+1 - lo):=by rw [List.mem_range'_1];lia
   have hs:(List.range' lo (hi+1 - lo)).Pairwise (·<·):=List.pairwise_lt_range'
   rw [h2] at h4 hs
   rcases List.mem_append.mp h4 with h5 | h5
   ·exact h5
   ·rcases List.mem_cons.mp h5 with rfl | h5
    ·lia
    ·have:=(List.pairwise_append.mp hs).2.1
     have:=(List.pairwise_cons.mp this).1 j h5
     lia
  have:=h3 j hm
  simp [hj2,ho] at this
 ·exact q
theorem firstIn_none {t p:List Nat} {lo hi:Nat} (h:firstIn t p lo hi=none) {j:Nat} (hj:lo<=j) (hj2:j+p.length<=hi):occAt t p j=false:=by
 unfold firstIn at h
 rw [List.find?_eq_none] at h
 have:=h j (by rw [List.mem_range'_1];lia)
 cases q:occAt t p j
 ·rfl
 ·simp [hj2,q] at this
end
section
open PySem.StrLaws Builtin.Str
noncomputable def dots:List Nat:=[46,46,46]
noncomputable def glue:List Nat->List (List Nat)->List Nat
 | p,[]=>p
 | p,q::r=>p++(dots++glue q r)
noncomputable def NoDot (p:List Nat):Prop:=∀ c∈p,c≠46
noncomputable def cutsOf:Nat->List Nat->List (List Nat)->List Nat
 | _,_,[]=>[]
 | a,p,q::r=>(a+p.length)::cutsOf (a+p.length+3) q r
theorem skip_occ {t p:List Nat} {hi limit i n c free:Nat} (h:occAt t p i=false\/i<free):occR t p hi limit (List.range' i (n+1)) c free=occR t p hi limit (List.range' (i+1) n) c free:=by
 rw [List.range'_succ]
 simp only [occR_cons]
 rw [if_neg]
 rintro ⟨⟨⟨_,h1⟩,_⟩,h2⟩
 rcases h with h | h
 ·rw [h] at h2;cases h2
 ·lia
theorem occ_ch {t:List Nat} {i ch:Nat} {r:List Nat} (h:t.drop i=ch::r) (hc:ch≠46):occAt t dots i=false:=by
 unfold occAt
 rw [h]
 show ((ch::r).take 3==dots)=false
 rw [List.take_succ_cons]
 simp [dots,hc]
theorem drop_len {t:List Nat} {a:Nat} {l:List Nat} (h:t.drop a=l) (ha:a<=t.length):t.length=a+l.length:=by
 have:=congrArg List.length h
 rw [List.length_drop] at this
 lia
noncomputable def OccOk (r:List (List Nat)) (p:List Nat):Prop:=∀ (t:List Nat) (a c free:Nat),t.drop a=glue p r->a<=t.length->NoDot p->free<=a->c<=a->occR t dots t.length (t.length+1) (List.range' a (t.length+1 - a)) c free=cutsOf a p r
theorem occ_more {r:List (List Nat)} (h0:OccOk r []):∀ p,OccOk r p
 | []=>h0
 | ch::p=>λ t a c free h ha hp hf hc=>by
  have h':t.drop a=ch::glue p r:=by cases r<;>exact h
  have hl:=drop_len h' ha
  rw [List.length_cons] at hl
  have e:t.length+1 - a=(t.length+1 - (a+1))+1:=by lia
  rw [e,skip_occ (.inl (occ_ch h' (hp ch List.mem_cons_self)))]
  have h1:t.drop (a+1)=glue p r:=by rw [<- List.drop_drop,h'];rfl
  rw [occ_more h0 p t (a+1) c free h1 (by lia) (λ x hx=>hp x (List.mem_cons_of_mem _ hx)) (Nat.le_succ_of_le hf) (Nat.le_succ_of_le hc)]
  cases r with
  | nil=>rfl
  | cons q r=>
   rw [cutsOf,cutsOf,List.length_cons,show a+1+p.length=a+(p.length+1) by lia]
theorem occ_all:∀ (r:List (List Nat)),(∀ q∈r,NoDot q)->∀ p,OccOk r p
 | [],_=>occ_more λ t a c free h ha o hf hc=>by
  have hl:=drop_len h ha
  rw [show glue [] []=[] from rfl,List.length_nil,Nat.add_zero] at hl
  rw [hl,Nat.add_sub_cancel_left,show List.range' a 1=[a] from rfl,occR_cons,if_neg λ z=>absurd z.1.2 (by rw [show dots.length=3 from rfl];lia)]
  rfl
 | q::r,hq=>occ_more λ t a c free h ha o hf hc=>by
  have hl:=drop_len h ha
  rw [show glue [] (q::r)=46::46::46::glue q r from rfl,List.length_cons,List.length_cons,List.length_cons] at hl
  have h':t.drop a=46::46::46::glue q r:=h
  have ho:occAt t dots a=true:=by unfold occAt;rw [h'];rfl
  have hr:List.range' a (t.length+1 - a)=a::List.range' (a+1) ((t.length+1 - (a+3))+1+1):=by rw [show t.length+1 - a=(t.length+1 - (a+3))+1+1+1 by lia,List.range'_succ]
  have hd:dots.length=3:=rfl
  rw [hr,occR_cons,if_pos ⟨⟨⟨by lia,hf⟩,by rw [hd];lia⟩,ho⟩,hd,skip_occ (.inr (by lia)),skip_occ (.inr (by lia))]
  have h3:t.drop (a+3)=glue q r:=by rw [<- List.drop_drop,h'];rfl
  rw [occ_all r (λ x hx=>hq x (List.mem_cons_of_mem _ hx)) q t (a+3) (c+1) (a+3) h3 (by lia) (hq q List.mem_cons_self) (Nat.le_refl _) (by lia)]
  rfl
theorem sub_ofL (t:List Nat) (i j:Nat):strSub (ofL t) i j=ofL ((t.drop i).take (j - i)):=by
 have:=strSub_toList (ofL t) i j
 rw [ofL_cps] at this
 rw [<- ofL_toList (strSub (ofL t) i j),this]
theorem parts_glue:∀ (r:List (List Nat)) (p t:List Nat) (a:Nat),t.drop a=glue p r->a<=t.length->partsFrom (ofL t) 3 a (cutsOf a p r)=(p::r).map ofL
 | [],p,t,a,h,ha=>by
  have hl:=drop_len h ha
  simp only [cutsOf,partsFrom,sub_ofL,ofL_len,glue] at*
  rw [h,List.take_of_length_le (by lia)]
  rfl
 | q::r,p,t,a,h,ha=>by
  have hl:=drop_len h ha
  simp only [glue,List.length_append,dots,List.length_cons,List.length_nil] at hl
  have h3:t.drop (a+p.length+3)=glue q r:=by
   rw [<- List.drop_drop,<- List.drop_drop,h]
   simp [glue,dots]
  have hp:(t.drop a).take (a+p.length - a)=p:=by
   rw [h,Nat.add_sub_cancel_left]
   simp [glue]
  simp only [cutsOf,partsFrom,sub_ofL,List.map_cons]
  rw [hp,parts_glue r q t (a+p.length+3) h3 (by lia)]
  rfl
theorem split_glue {r:List (List Nat)} {p:List Nat} (hp:NoDot p) (hr:∀ q∈r,NoDot q):
  occurrences (ofL (glue p r)) (ofL dots) 0 (ofL (glue p r)).length ((ofL (glue p r)).length+1)=cutsOf 0 p r/\parts (ofL (glue p r)) (ofL dots)=(p::r).map ofL:=by
 have h:=occ_all r hr p (glue p r) 0 0 0 rfl (Nat.zero_le _) hp (Nat.le_refl _) (Nat.le_refl _)
 have e:occurrences (ofL (glue p r)) (ofL dots) 0 (ofL (glue p r)).length ((ofL (glue p r)).length+1)=cutsOf 0 p r:=by
  rw [ofL_len,occ_list];exact h
 refine ⟨e,?_⟩
 unfold parts
 rw [e,ofL_len,partsBetween_eq]
 exact parts_glue r p _ 0 rfl (Nat.zero_le _)
theorem no_dots {p:List Nat} (hp:NoDot p):(occurrences (ofL p) (ofL dots) 0 (ofL p).length 1).isEmpty=true:=by
 rw [ofL_len,find_list]
 cases h:firstIn p dots 0 p.length with
 | none=>rfl
 | some i=>
  obtain ⟨_,h1,h2⟩:=firstIn_some h
  exfalso
  simp only [dots,List.length_cons,List.length_nil] at h1
  have hlt:i<p.length:=by lia
  have hd:p.drop i=p[i]::p.drop (i+1):=List.drop_eq_getElem_cons hlt
  rw [occ_ch hd (hp _ (List.getElem_mem hlt))] at h2
  cases h2
theorem some_dots (p q:List Nat) (r:List (List Nat)):(occurrences (ofL (glue p (q::r))) (ofL dots) 0 (ofL (glue p (q::r))).length 1).isEmpty=false:=by
 rw [ofL_len,find_list]
 cases h:firstIn (glue p (q::r)) dots 0 (glue p (q::r)).length with
 | some i=>rfl
 | none=>
  have:=firstIn_none h (j:=p.length) (Nat.zero_le _) (by simp [glue,dots])
  have h2:occAt (glue p (q::r)) dots p.length=true:=by
   unfold occAt
   simp [glue,dots]
  rw [h2] at this
  cases this
end
section
noncomputable def suf (t p:List Nat):Bool:=t.drop (t.length - p.length)==p
noncomputable def lawFits (t:List Nat):Nat->List (List Nat)->Bool
 | _,[]=>false
 | m,p::r=>if r=[] then decide (m+p.length<=t.length)&&suf t p else match firstIn t p m t.length with
  | some i=>lawFits t (i+p.length) r
  | none=>false
noncomputable def fits (t p:List Nat) (r:List (List Nat)):Bool:=if r=[] then t==p else (t.take p.length==p)&&lawFits t p.length r
noncomputable def goFits (t:List Nat) (e:Nat):Nat->List (List Nat)->Bool
 | m,[]=>decide (m<=e)
 | m,p::r=>match firstIn t p m e with
  | some i=>goFits t e (i+p.length) r
  | none=>false
theorem law_big {t l:List Nat}:∀ (mid:List (List Nat)) (m:Nat),t.length<m+l.length->lawFits t m (mid++[l])=false
 | [],m,h=>by
  simp only [List.nil_append,lawFits,if_true]
  have:¬ (m+l.length<=t.length):=by lia
  simp [this]
 | p::r,m,h=>by
  simp only [List.cons_append,lawFits]
  rw [if_neg (by simp)]
  cases q:firstIn t p m t.length with
  | none=>rfl
  | some i=>
   have:=firstIn_some q
   exact law_big r _ (by lia)
theorem law_nosuf {t l:List Nat} (hs:suf t l=false):∀ (mid:List (List Nat)) (m:Nat),lawFits t m (mid++[l])=false
 | [],m=>by simp [lawFits,hs]
 | p::r,m=>by
  simp only [List.cons_append,lawFits]
  rw [if_neg (by simp)]
  cases q:firstIn t p m t.length with
  | none=>rfl
  | some i=>exact law_nosuf hs r _
theorem law_go {t l:List Nat} (hl:l.length<=t.length) (hs:suf t l=true):∀ (mid:List (List Nat)) (m:Nat),lawFits t m (mid++[l])=goFits t (t.length - l.length) m mid
 | [],m=>by
  simp only [List.nil_append,lawFits,if_true,hs,goFits,Bool.and_true]
  congr 1
  apply propext
  lia
 | p::r,m=>by
  simp only [List.cons_append,lawFits,goFits]
  rw [if_neg (by simp)]
  cases q:firstIn t p m (t.length - l.length) with
  | some i=>
   obtain ⟨a1,a2,a3⟩:=firstIn_some q
   cases q2:firstIn t p m t.length with
   | none=>rw [firstIn_none q2 a1 (by lia)] at a3;cases a3
   | some j=>
    obtain ⟨b1,b2,b3⟩:=firstIn_some q2
    have h1:=firstIn_least q2 a1 (by lia) a3
    have h2:=firstIn_least q b1 (by lia) b3
    have:i=j:=by lia
    subst this
    exact law_go hl hs r _
  | none=>
   cases q2:firstIn t p m t.length with
   | none=>rfl
   | some j=>
    obtain ⟨b1,b2,b3⟩:=firstIn_some q2
    refine law_big r _ ?_
    rcases Nat.lt_or_ge (t.length - l.length) (j+p.length) with h | h
    ·lia
    ·rw [firstIn_none q b1 h] at b3;cases b3
theorem first_nil (t:List Nat) (m e:Nat):firstIn t [] m e=if m<=e then some m else none:=by
 by_cases h:m<=e
 ·rw [if_pos h]
  unfold firstIn
  have:e+1 - m=(e - m)+1:=by lia
  rw [this,List.range'_succ,List.find?_cons]
  simp [occAt,h]
 ·rw [if_neg h]
  unfold firstIn
  have:e+1 - m=0:=by lia
  rw [this];rfl
theorem go_nil (t:List Nat) (e m:Nat) (r:List (List Nat)) (h:m<=e):goFits t e m ([]::r)=goFits t e m r:=by
 simp only [goFits,first_nil,if_pos h]
 rfl
theorem go_end (t:List Nat) (e:Nat):∀ (mid:List (List Nat)) (m:Nat),goFits t e m (mid++[[]])=goFits t e m mid
 | [],m=>by
  simp only [List.nil_append,goFits,first_nil]
  by_cases h:m<=e<;>simp [h]
 | p::r,m=>by
  simp only [List.cons_append,goFits]
  cases firstIn t p m e with
  | none=>rfl
  | some i=>exact go_end t e r _
noncomputable def mnL (n:Nat):List Nat->Nat
 | []=>n
 | x::r=>if x<=mnL n r then x else mnL n r
theorem mnL_le (n:Nat):∀ (l:List Nat),mnL n l<=n/\(∀ x∈l,mnL n l<=x)/\(mnL n l=n\/mnL n l∈l)
 | []=>⟨Nat.le_refl _,λ z h=>absurd h List.not_mem_nil,.inl rfl⟩
 | x::r=>by
  obtain ⟨a,b,c⟩:=mnL_le n r
  simp only [mnL]
  split
  ·refine ⟨by lia,λ y hy=>?_,.inr List.mem_cons_self⟩
   rcases List.mem_cons.mp hy with rfl | hy
   ·lia
   ·have:=b y hy;lia
  ·refine ⟨a,λ y hy=>?_,c.imp id λ h=>List.mem_cons_of_mem _ h⟩
   rcases List.mem_cons.mp hy with rfl | hy
   ·lia
   ·exact b y hy
noncomputable def endsStep (t:List Nat) (E p:List Nat):List Nat:=(List.range' (mnL (t.length+1) E+p.length) (t.length+1 - (mnL (t.length+1) E+p.length))).filter λ e=>occAt t p (e - p.length)
noncomputable def endsAll (t:List Nat):List Nat->List (List Nat)->List Nat
 | E,[]=>E
 | E,p::r=>endsAll t (endsStep t E p) r
theorem ends_empty (t:List Nat):∀ r,endsAll t [] r=[]
 | []=>rfl
 | p::r=>by
  have:endsStep t [] p=[]:=by
   unfold endsStep
   simp only [mnL]
   have:t.length+1 - (t.length+1+p.length)=0:=by lia
   rw [this];rfl
  rw [endsAll,this,ends_empty t r]
theorem mem_ends {t E p:List Nat} {e:Nat}:e∈endsStep t E p↔mnL (t.length+1) E+p.length<=e/\e<=t.length/\occAt t p (e - p.length)=true:=by
 unfold endsStep
 rw [List.mem_filter,List.mem_range'_1]
 constructor
 ·rintro ⟨⟨a,b⟩,c⟩;exact ⟨a,by lia,c⟩
 ·rintro ⟨a,b,c⟩;exact ⟨⟨a,by lia⟩,c⟩
theorem occ_end {t p:List Nat} (h:p.length<=t.length):occAt t p (t.length - p.length)=suf t p:=by
 unfold occAt suf
 rw [List.take_of_length_le (by rw [List.length_drop];lia)]
theorem ends_law {t:List Nat}:∀ (r:List (List Nat)) (E:List Nat) (m:Nat),r≠[]->E≠[]->mnL (t.length+1) E=m->(t.length∈endsAll t E r↔lawFits t m r=true)
 | [],_,_,h,_,_=>absurd rfl h
 | [p],E,m,_,hE,hm=>by
  simp only [endsAll,lawFits,if_true]
  rw [mem_ends,hm,Bool.and_eq_true,decide_eq_true_iff]
  constructor
  ·rintro ⟨a,b,c⟩;exact ⟨a,by rw [<- occ_end (by lia)];exact c⟩
  ·rintro ⟨a,c⟩;exact ⟨a,Nat.le_refl _,by rw [occ_end (by lia)];exact c⟩
 | p::q::r,E,m,_,hE,hm=>by
  rw [endsAll,lawFits,if_neg (by simp)]
  cases hf:firstIn t p m t.length with
  | none=>
   have:endsStep t E p=[]:=by
    apply List.eq_nil_iff_forall_not_mem.mpr
    intro e he
    obtain ⟨a,b,c⟩:=mem_ends.mp he
    rw [hm] at a
    rw [firstIn_none hf (j:=e - p.length) (by lia) (by lia)] at c
    cases c
   rw [this,ends_empty]
   simp
  | some i=>
   obtain ⟨a1,a2,a3⟩:=firstIn_some hf
   have hmem:i+p.length∈endsStep t E p:=mem_ends.mpr ⟨by lia,a2,by rwa [Nat.add_sub_cancel]⟩
   obtain ⟨b1,b2,b3⟩:=mnL_le (t.length+1) (endsStep t E p)
   have hle:=b2 _ hmem
   refine ends_law (q::r) (endsStep t E p) (i+p.length) (by simp) (List.ne_nil_of_mem hmem) ?_
   rcases b3 with b3 | b3
   ·lia
   ·obtain ⟨c1,c2,c3⟩:=mem_ends.mp b3
    have:=firstIn_least hf (j:=mnL (t.length+1) (endsStep t E p) - p.length) (by lia) (by lia) c3
    lia
end
section
variable {B:BC} {k:Nat}
noncomputable abbrev txt (t:List Nat):AV:=.str (ofL t)
noncomputable abbrev natL (l:List Nat):List AV:=l.map λ (n:Nat)=>.int (n:Int)
noncomputable def TxtOk (t:List Nat):Prop:=∀ c∈t,c<0x110000
theorem eqv_txt (a b:List Nat):PyData.eqv (.str (ofL a)) (.str (ofL b))=(a==b):=by
 rw [show PyData.eqv (.str (ofL a)) (.str (ofL b))=decide (ofL a=ofL b) by simp only [PyData.eqv];rfl,Bool.eq_iff_iff,decide_eq_true_iff,beq_iff_eq]
 exact ⟨ofL_inj,congrArg _⟩
theorem shaped_txt {t:List Nat} (h:TxtOk t):SeqAt.shaped (.str (ofL t))=true:=by
 have e:PyData.canLay0 (.str (ofL t))=true:=by
  simp only [PyData.canLay0]
  show (Array.all t.toArray _)=true
  rw [List.all_toArray,List.all_eq_true]
  exact λ x hx=>decide_eq_true (h x hx)
 unfold SeqAt.shaped
 rw [e]
 rfl
theorem TxtOk.take {t:List Nat} (h:TxtOk t) (n:Nat):TxtOk (t.take n):=λ c hc=>h c (List.mem_of_mem_take hc)
theorem TxtOk.drop {t:List Nat} (h:TxtOk t) (n:Nat):TxtOk (t.drop n):=λ c hc=>h c (List.mem_of_mem_drop hc)
theorem eqTxt {a b:List Nat} (ha:TxtOk a) (hb:TxtOk b) (P:Bool->Prop) (h:P (a==b)):cmpEq (txt a) (txt b) P:=
 ⟨_,_,rfl,rfl,shaped_txt ha,shaped_txt hb,by rw [eqv_txt];exact h⟩
theorem clip_nat (n d m:Nat):pyClip (some (n:Int)) d m=min n m:=by
 show (max 0 (min (if (n:Int)<0 then (n:Int)+m else n) m)).toNat=min n m
 rw [if_neg (Int.not_lt.mpr (Int.natCast_nonneg n)),Int.max_eq_right (Int.le_min.mpr ⟨Int.natCast_nonneg _,Int.natCast_nonneg _⟩)]
 rcases Nat.le_total n m with h | h
 ·rw [Nat.min_eq_left h,Int.min_eq_left (Int.ofNat_le.mpr h)];rfl
 ·rw [Nat.min_eq_right h,Int.min_eq_right (Int.ofNat_le.mpr h)];rfl
theorem slice_nat {β:Type} (l:List β) (a b:Nat):pySlice l (some (a:Int)) (some (b:Int))=(l.drop a).take (b - a):=by
 unfold pySlice
 rw [clip_nat,clip_nat]
 rcases Nat.le_total a l.length with h | h
 ·rw [Nat.min_eq_left h]
  rcases Nat.le_total b l.length with h2 | h2
  ·rw [Nat.min_eq_left h2]
  ·rw [Nat.min_eq_right h2,List.take_of_length_le (by rw [List.length_drop];exact Nat.le_refl _),List.take_of_length_le (by rw [List.length_drop];exact Nat.sub_le_sub_right h2 a)]
 ·rw [Nat.min_eq_right h,List.drop_of_length_le (Nat.le_refl _),List.drop_of_length_le h,List.take_nil,List.take_nil]
theorem slice_to {β:Type} (l:List β) (b:Nat):pySlice l none (some (b:Int))=l.take b:=slice_nat l 0 b
theorem slice_from {β:Type} (l:List β) (a:Nat):pySlice l (some (a:Int)) none=l.drop a:=by
 rw [show pySlice l (some (a:Int)) none=(l.drop (pyClip (some (a:Int)) 0 l.length)).take (l.length - pyClip (some (a:Int)) 0 l.length) from rfl,clip_nat]
 rcases Nat.le_total a l.length with h | h
 ·rw [Nat.min_eq_left h,List.take_of_length_le (by rw [List.length_drop];exact Nat.le_refl _)]
 ·rw [Nat.min_eq_right h,List.drop_of_length_le (Nat.le_refl _),List.drop_of_length_le h,List.take_nil]
theorem small_len {n:Nat} (h:n<=20000):n<=sizeLine:=Nat.le_of_lt (Nat.lt_of_le_of_lt h (Nat.lt_trans (by decide) big_line))
theorem len_txt (t:List Nat):(ofL t).length=t.length:=ofL_len t
section
variable {fr:AFr} {σ:St} {f g:PE} {u:PL} {t r:List Nat} {l m:List AV} {n:Nat} {i j:Option Int} {lo hi:PPart}
theorem Ev.lenS (hn:fr.hnd=.no) (h:Ev f fr σ (txt t)) (ht:t.length<=20000):Ev (E.app opLen (L.cons f L.nil)) fr σ (.int t.length):=Ev.app hn (Lv.one h) λ Q hQ=>⟨by rw [len_txt];exact small_len ht,by rw [len_txt];exact hQ⟩
theorem Ev.lenL (hn:fr.hnd=.no) (h:Ev f fr σ (.lst l)) (ht:l.length<=20000):Ev (E.app opLen (L.cons f L.nil)) fr σ (.int l.length):=Ev.app hn (Lv.one h) λ Q hQ=>⟨small_len ht,hQ⟩
theorem Ev.sliceS (h:Ev f fr σ (txt t)) (h1:Pv lo fr σ i) (h2:Pv hi fr σ j) (hl:t.length<=20000) (hr:pySlice t i j=r):Ev (E.sliceS f lo hi) fr σ (txt r):=λ K X hK=>h _ _ (h1 _ _ (h2 _ _ ⟨by rw [len_txt];exact small_len hl,by rw [ofL_cps,hr];exact hK⟩))
theorem Ev.sliceL (h:Ev f fr σ (.lst l)) (h1:Pv lo fr σ i) (h2:Pv hi fr σ j) (hl:l.length<=20000) (hr:pySlice l i j=m):Ev (E.sliceL f lo hi) fr σ (.lst m):=λ K X hK=>h _ _ (h1 _ _ (h2 _ _ ⟨small_len hl,by rw [hr];exact hK⟩))
theorem range_nat:∀ n a:Nat,rangeL (a:Int) 1 n=natL (List.range' a n)
 | 0,a=>rfl
 | n+1,a=>congrArg (_::·) (range_nat n (a+1))
theorem fit62 {a:Nat} (h:a<2^40):-(2^62)<=(a:Int)/\(a:Int)<2^62:=⟨Int.le_trans (by decide) (Int.natCast_nonneg a),Int.lt_trans (Int.ofNat_lt.mpr h) (by decide)⟩
theorem Lv.yrng {a b:Nat} (hn:fr.hnd=.no) (h:Lv u fr σ [.int (a:Nat),.int (b:Nat)]) (ha:a<2^40) (hb:b<2^40):Lv (Y.rng u) fr σ (natL (List.range' a (b - a))):=λ K X hK=>by
 have e:Builtin.Range.rangeSize (a:Int) (b:Int) 1=((b - a:Nat):Int):=by rw [rangeSize_nat,Int.toNat_sub]
 refine ⟨hn,h _ _ ⟨small_one (fit62 ha).1 (fit62 ha).2 (fit62 hb).1 (fit62 hb).2,by rw [e];exact Int.natCast_nonneg _,?_⟩⟩
 unfold rngSize
 rw [e,Int.toNat_natCast,range_nat]
 exact hK
end
theorem toInts_nat:∀ l:List Nat,toInts (natL l)=some (l.map λ (n:Nat)=>(n:Int))
 | []=>rfl
 | x::r=>by show (toInts (natL r)).map _=_;rw [toInts_nat r];rfl
theorem minL_nat:∀ (l:List Nat) (x:Nat),∃ m:Nat,minL (x:Int) (l.map λ (n:Nat)=>(n:Int))=(m:Int)/\m∈x::l/\∀ y∈x::l,m<=y
 | [],x=>⟨x,rfl,List.mem_cons_self,λ y hy=>by cases List.mem_singleton.mp hy;exact Nat.le_refl _⟩
 | y::r,x=>by
  show ∃ m:Nat,minL (if (y:Int)<(x:Int) then (y:Int) else (x:Int)) (r.map λ (n:Nat)=>(n:Int))=(m:Int)/\_
  by_cases h:y<x
  ·rw [if_pos (Int.ofNat_lt.mpr h)]
   obtain ⟨m,h1,h2,h3⟩:=minL_nat r y
   refine ⟨m,h1,List.mem_cons_of_mem _ h2,λ z hz=>?_⟩
   rcases List.mem_cons.mp hz with rfl | hz
   ·exact Nat.le_trans (h3 y List.mem_cons_self) (Nat.le_of_lt h)
   ·exact h3 z hz
  ·rw [if_neg (λ q=>h (Int.ofNat_lt.mp q))]
   obtain ⟨m,h1,h2,h3⟩:=minL_nat r x
   refine ⟨m,h1,?_,λ z hz=>?_⟩
   ·rcases List.mem_cons.mp h2 with rfl | h2
    ·exact List.mem_cons_self
    ·exact List.mem_cons_of_mem _ (List.mem_cons_of_mem _ h2)
   ·rcases List.mem_cons.mp hz with rfl | hz
    ·exact h3 z List.mem_cons_self
    ·rcases List.mem_cons.mp hz with rfl | hz
     ·exact Nat.le_trans (h3 x List.mem_cons_self) (Nat.not_lt.mp h)
     ·exact h3 z (List.mem_cons_of_mem _ hz)
theorem min_app (n:Nat) (Z:List Nat):∃ a as,toInts (natL (Z++[n]))=some (a::as)/\minL a as=((mnL n Z:Nat):Int):=by
 obtain ⟨y,r,e⟩:∃ y r,Z++[n]=y::r:=by cases Z<;>exact ⟨_,_,rfl⟩
 rw [e]
 obtain ⟨m,h1,h2,h3⟩:=minL_nat r y
 refine ⟨_,_,toInts_nat (y::r),h1.trans (congrArg _ ?_)⟩
 rw [<- e] at h2 h3
 obtain ⟨a,b,c⟩:=mnL_le n Z
 refine Nat.le_antisymm (h3 _ (List.mem_append.mpr (c.elim (λ q=>.inr (by rw [q];exact List.mem_cons_self)) .inl))) ?_
 rcases List.mem_append.mp h2 with h | h
 ·exact b _ h
 ·rw [List.mem_singleton.mp h];exact a
theorem out_nat {test:AV->Bool} {q:Nat->Bool} (h:∀ n:Nat,test (.int n)=q n):∀ l:List Nat,outL test (λ x=>[x]) (natL l)=natL (l.filter q)
 | []=>rfl
 | x::r=>by
  rw [List.filter_cons]
  rw [show natL (x::r)=.int (x:Int)::natL r from rfl,outL,h x,out_nat h r]
  cases q x<;>rfl
noncomputable def fitB:PS:=(S.cons (S.set (.loc 2) (E.bin opAdd (E.app opMin (L.cons (E.bin opAdd (E.loc 1) (E.lst (L.cons (E.bin opAdd (E.app opLen (L.cons (E.cel 0) L.nil)) (E.c (.int 1))) L.nil))) L.nil)) (E.app opLen (L.cons (E.cel 1) L.nil))))
 (S.cons (S.set (.loc 1) (E.comp 1 0 [1,0] (Y.rng (L.cons (E.loc 2) (L.cons (E.bin opAdd (E.app opLen (L.cons (E.cel 0) L.nil)) (E.c (.int 1))) L.nil))) (.one (.loc 0)) (T.cmp cmpEq (E.sliceS (E.cel 1) (Qp.of (E.bin opSub (E.loc 0) (E.app opLen (L.cons (E.cel 0) L.nil)))) (Qp.of (E.loc 0))) (E.cel 0)) (C.elt (E.loc 0))))
 S.nil))
noncomputable def testE (t p:List Nat):AV->Bool:=λ x=>match x with
 | .int i=>occAt t p (i.toNat - p.length)
 | _=>false
theorem testE_int {t p:List Nat} (n:Nat):testE t p (.int n)=occAt t p (n - p.length):=by
 show occAt t p ((n:Int).toNat - p.length)=_
 rw [Int.toNat_natCast]
theorem ends_len (t Z p:List Nat):(endsStep t Z p).length<=t.length+1:=by
 refine Nat.le_trans (List.length_filter_le _ _) ?_
 rw [List.length_range']
 exact Nat.sub_le _ _
theorem fit_turn {t p Z:List Nat} {σ:St} {a c:Option AV} {N:PN} {R:PK} {Bk:PN} {X:PX} {i j:Nat} (h0:σ[i]?=some (.cel (some (txt t)))) (h1:σ[j]?=some (.cel (some (txt p)))) (ht:t.length<=999) (hp:p.length<=1000) (hE:Z.length<=2000) (okt:TxtOk t) (okp:TxtOk p)
  (hN:N [a,some (.lst (natL (endsStep t Z p))),some (.int ((mnL (t.length+1) Z+p.length:Nat):Int))] σ):
  fitB ⟨[a,some (.lst (natL Z)),c],[i,j],HK.no⟩ σ N R Bk X:=by
 have lt:∀ ρ,Ev (E.bin opAdd (E.app opLen (L.cons (E.cel 0) L.nil)) (E.c (.int 1))) ⟨ρ,[i,j],HK.no⟩ σ (.int ((t.length+1:Nat):Int)):=λ ρ=>Ev.add (Ev.lenS rfl (Ev.cel rfl h0) (Nat.le_trans ht (by decide))) Ev.c
 obtain ⟨x,xs,e1,e2⟩:=min_app (t.length+1) Z
 have hm:=(mnL_le (t.length+1) Z).1
 refine set_ev (v:=.int ((mnL (t.length+1) Z+p.length:Nat):Int)) (Ev.add (i:=((mnL (t.length+1) Z:Nat):Int)) (j:=((p.length:Nat):Int)) (Ev.app (o:=opMin) rfl (Lv.one (v:=.lst (natL (Z++[t.length+1]))) (Ev.bin (Ev.loc rfl) (Ev.lst (Lv.one (lt _))) λ Q h=>⟨?_,by rw [natL,List.map_append] at h;exact h⟩)) λ Q h=>⟨x,xs,e1,by rw [e2];exact h⟩) (Ev.lenS rfl (Ev.cel rfl h1) (Nat.le_trans hp (by decide)))) ?_
 ·rw [List.length_map]
  exact small_len (Nat.le_trans (Nat.add_le_add_right hE 1) (by decide))
 refine set_ev (v:=.lst (natL (endsStep t Z p))) ?_ hN
 have eo:outL (testE t p) (λ x=>[x]) (natL (List.range' (mnL (t.length+1) Z+p.length) (t.length+1 - (mnL (t.length+1) Z+p.length))))=natL (endsStep t Z p):=out_nat testE_int _
 rw [<- eo]
 refine comp_filter (χ':=[j,i]) (g:=λ x=>x) rfl (Lv.yrng rfl (Lv.cons (Ev.loc rfl) (Lv.one (lt _))) (by lia) (by lia)) (by rw [eo,List.length_map];exact Nat.le_trans (ends_len t Z p) (Nat.succ_le_succ ht)) (λ x hx=>?_) λ x z z=>Ev.loc rfl
 obtain ⟨e,he,rfl⟩:=List.mem_map.mp hx
 rw [List.mem_range'_1] at he
 have hle:p.length<=e:=Nat.le_trans (Nat.le_add_left _ _) he.1
 refine Tv.cmp (Ev.sliceS (Ev.cel rfl h0) (Pv.of (Ev.min (Ev.loc rfl) (Ev.lenS rfl (Ev.cel rfl h1) (Nat.le_trans hp (by decide))))) (Pv.of (Ev.loc rfl)) (Nat.le_trans ht (by decide)) (by rw [<- Int.ofNat_sub hle];exact slice_nat t _ e)) (Ev.cel rfl h1) λ Q h=>eqTxt ((okt.drop _).take _) okp _ ?_
 rw [testE_int] at h
 rw [Nat.sub_sub_self hle]
 exact h
theorem fit_loop {t:List Nat} {σ:St} {a:Option AV} {N:PN} {R:PK} {X:PX} (ht:t.length<=999) (okt:TxtOk t):∀ (r:List (List Nat)) (Z:List Nat) (c pv:Option AV),(∀ q∈r,q.length<=1000/\TxtOk q)->Z.length<=2000->
  (∀ c pv,N [a,some (.lst (natL (endsAll t Z r))),c] (σ++[.cel (some (txt t)),.cel pv]))->
  forK (.one (.cel 1)) fitB (r.map txt) ⟨[a,some (.lst (natL Z)),c],[σ.length+0,σ.length+1],HK.no⟩ (σ++[.cel (some (txt t)),.cel pv]) N R X
 | [],Z,c,pv,_,_,hN=>hN c pv
 | p::r,Z,c,pv,hr,hz,hN=>by
  refine ⟨_,rfl,?_⟩
  show fitB _ (List.set (σ++_) (σ.length+1) _) _ _ _ _
  rw [set_app]
  obtain ⟨h1,h2⟩:=hr p List.mem_cons_self
  exact fit_turn (t:=t) (p:=p) (Z:=Z) (get_app ..) (get_app ..) ht h1 hz okt h2 (fit_loop ht okt r (endsStep t Z p) _ _ (λ q hq=>hr q (List.mem_cons_of_mem _ hq)) (Nat.le_trans (ends_len t Z p) (Nat.le_trans (Nat.succ_le_succ ht) (by decide))) hN)
theorem in_nat (n:Nat) (l:List Nat):((l.map λ (n:Nat)=>(n:Int)).any (·==(n:Int)))=decide (n∈l):=by
 rw [Bool.eq_iff_iff,List.any_eq_true,decide_eq_true_iff]
 constructor
 ·rintro ⟨x,hx,e⟩
  obtain ⟨y,hy,rfl⟩:=List.mem_map.mp hx
  rw [<- Int.ofNat.inj (eq_of_beq e)]
  exact hy
 ·exact λ h=>⟨_,List.mem_map.mpr ⟨n,h,rfl⟩,beq_self_eq_true _⟩
theorem fits_ends {t p:List Nat} {r:List (List Nat)}:decide (t.length∈endsAll t (if t.take p.length==p then [p.length] else []) r)=fits t p r:=by
 rw [Bool.eq_iff_iff,decide_eq_true_iff]
 cases h:t.take p.length==p with
 | true=>
  rw [if_pos rfl]
  have hle:p.length<=t.length:=by rw [<- eq_of_beq h,List.length_take];exact Nat.min_le_right ..
  unfold fits
  by_cases hr0:r=[]
  ·subst hr0
   rw [if_pos rfl,beq_iff_eq]
   refine List.mem_singleton.trans ⟨λ h2=>?_,λ h2=>by rw [h2]⟩
   rw [<- h2,List.take_length] at h
   exact eq_of_beq h
  ·rw [if_neg hr0,h,Bool.true_and]
   exact ends_law r [p.length] p.length hr0 (List.cons_ne_nil _ _) (if_pos (Nat.le_succ_of_le hle))
 | false=>
  rw [if_neg Bool.false_ne_true,ends_empty]
  refine iff_of_false List.not_mem_nil λ h2=>?_
  unfold fits at h2
  by_cases hr0:r=[]
  ·subst hr0
   rw [if_pos rfl] at h2
   rw [eq_of_beq h2,List.take_length,beq_self_eq_true] at h
   exact nomatch h
  ·rw [if_neg hr0,h] at h2
   exact nomatch h2
inductive spFits:FS
 | mk {σ:St} {K:PK} {X:PX} (p:List Nat) (r:List (List Nat)) (t:List Nat) (z:t.length<=999) (z:r.length<=10) (z:∀ q∈p::r,q.length<=1000/\TxtOk q) (z:TxtOk t) (z:K (.bool (fits t p r)) σ):spFits [.lst ((p::r).map txt),txt t] σ K X
theorem fits_ok (hB:BOk B):JApp B (k+1) true (.val (.ref 158)) spFits:=
 JApp.of (JApp.fnK hB.f158 (κ:=κ_law_fits) (ts:=[.loc 0,.cel 0]) rfl (by kernel_rfl) (λ z e=>nomatch e) rfl ⟨⟨rfl,rfl⟩,⟨rfl,rfl⟩,trivial⟩ (j_law_fits hB)) λ l σ K X q=>by
 obtain ⟨p,r,t,ht,hr,hq,okt,hk⟩:=q
 obtain ⟨hp,okp⟩:=hq p List.mem_cons_self
 have ht':t.length<=20000:=Nat.le_trans ht (by decide)
 have hp':p.length<=20000:=Nat.le_trans hp (by decide)
 refine callM (m:=2) (ρ:=[some (.lst ((p::r).map txt)),none,none]) (χ:=[σ.length+0,σ.length+1]) (τ:=[.cel (some (txt t)),.cel none]) rfl rfl (by show (_,List.set (σ++[AObj.cel none,.cel none]) (σ.length+0) _)=_;rw [set_app];rfl) ?_
 have e0:Ev (E.sub (E.loc 0) (E.c (.int 0))) ⟨[some (.lst ((p::r).map txt)),none,none],[σ.length+0,σ.length+1],HK.no⟩ (σ++[.cel (some (txt t)),.cel none]) (txt p):=Ev.subL (n:=0) (Ev.loc rfl) Ev.c rfl rfl (by decide)
 refine set_ev (v:=.lst (natL (if t.take p.length==p then [p.length] else []))) (Ev.ite (Tv.cmp (Ev.sliceS (Ev.cel rfl (get_app ..)) Pv.no (Pv.of (Ev.lenS rfl e0 hp')) ht' (slice_to t p.length)) e0 λ Q h=>eqTxt (okt.take _) okp _ h) (λ h=>?_) λ h=>?_) ?_
 ·rw [if_pos h];exact Ev.lst (Lv.one (Ev.lenS rfl e0 hp'))
 ·rw [if_neg (by rw [h];exact Bool.false_ne_true)];exact Ev.lst Lv.nil
 have hZ:(if t.take p.length==p then [p.length] else []).length<=2000:=by
  cases t.take p.length==p with
  | true=>exact Nat.le_of_ble_eq_true rfl
  | false=>exact Nat.zero_le _
 refine for_lv (Lv.ylst rfl (Ev.sliceL (m:=r.map txt) (Ev.loc rfl) (Pv.of Ev.c) Pv.no (by rw [List.length_map,List.length_cons];lia) (slice_from (txt p::r.map txt) 1))) (fit_loop ht okt r _ none none (λ q h=>hq q (List.mem_cons_of_mem _ h)) hZ λ c pv=>?_)
 refine ret_ev (v:=.bool (fits t p r)) (Ev.cmp (Ev.lenS rfl (Ev.cel rfl (get_app ..)) ht') (Ev.loc rfl) λ Q h=>⟨_,toInts_nat _,by rw [in_nat,fits_ends];exact h⟩) (cut_app trivial hk)
end
section
variable {B:BC} {k:Nat}
noncomputable def fnd:Option Nat->Int
 | some i=>(i:Int)
 | none=>-1
theorem from_nat (a n:Nat):fromIndex n (a:Int)=a:=by
 unfold fromIndex
 rw [if_neg (Int.not_lt.mpr (Int.natCast_nonneg a)),Int.max_eq_right (Int.natCast_nonneg a),Int.toNat_natCast]
theorem findAt_nat {t p:List Nat} {m e:Nat} (h:e<=t.length):findAt (ofL t) (ofL p) (m:Int) (e:Int)=fnd (firstIn t p m e):=by
 unfold findAt
 rw [from_nat,from_nat,ofL_len,Nat.min_eq_left h,find_list]
 cases firstIn t p m e<;>rfl
section
variable {fr:AFr} {σ:St} {f g:PE} {q:PS} {n j:Nat} {i:Int} {l:List AV} {x:AV} {p:List Nat} {N Bk:PN} {R:PK} {X:PX}
theorem del_ev (h:Ev f fr σ (.loc n)) (h2:Ev g fr σ (.int i)) (e:σ[n]?=some (.lst l)) (hl:l.length<=20000) (hi:Builtin.List.listFitsIndex i=true) (hj:seqIndex? i l.length=some j) {σ':St} (hs:σ.set n (.lst (l.eraseIdx j))=σ') (hq:q fr σ' N R Bk X):S.cons (S.del f g) q fr σ N R Bk X:=h _ _ (h2 _ _ ⟨n,i,l,j,rfl,rfl,e,small_len hl,hi,hj,by rw [hs];exact hq⟩)
theorem Ev.subO (h:Ev f fr σ (.loc n)) (h2:Ev g fr σ (.int i)) (e:σ[n]?=some (.lst l)) (hi:Fit i) (hj:seqIndex? i l.length=some j) (hx:l[j]?=some x):Ev (E.sub f g) fr σ x:=Ev.sub h h2 λ Q hQ=>⟨hi,l,j,x,e,hj,hx,hQ⟩
theorem Ev.lenO (hn:fr.hnd=.no) (h:Ev f fr σ (.loc n)) (e:σ[n]?=some (.lst l)) (hl:l.length<=20000):Ev (E.app opLen (L.cons f L.nil)) fr σ (.int l.length):=Ev.app hn (Lv.one h) λ Q hQ=>⟨l,e,small_len hl,hQ⟩
theorem assert_ev {t:PT} (h:Tv t fr σ true) (hq:q fr σ N R Bk X):S.cons (S.assert t) q fr σ N R Bk X:=h _ _ ⟨rfl,hq⟩
theorem Tv.txt (h:Ev f fr σ (txt p)) (hl:p.length<=1000):Tv (T.val f) fr σ (!(p==[])):=Tv.val h λ Q hQ=>⟨by rw [len_txt];exact small_len (Nat.le_trans hl (by decide)),by rw [len_txt,show (p.length !=0)=!(p==[]) by cases p<;>rfl];exact hQ⟩
end
theorem firstIx {α:Type} (x:α) (l:List α):seqIndex? 0 (x::l).length=some 0:=seqIndex_at (Int.le_refl 0) (Int.ofNat_lt.mpr (Nat.succ_pos l.length))
theorem lastIx {α:Type} (l:List α) (x:α):seqIndex? (-1) (l++[x]).length=some l.length:=by
 rw [List.length_append];exact seqIndex?_neg_one (Nat.succ_pos _)
theorem eraseLast {α:Type} (l:List α) (x:α):(l++[x]).eraseIdx l.length=l:=by
 rw [List.eraseIdx_append_of_length_le (Nat.le_refl _),Nat.sub_self];exact List.append_nil l
theorem set_lastE {σ:St} {x y z:AObj} (h:y=z):(σ++[x]).set σ.length y=σ++[z]:=by rw [set_last,h]
noncomputable def ellB:PS:=(S.cons (S.set (.loc 3) (E.meth "str" opFind (E.loc 1) (L.cons (E.loc 5) (L.cons (E.loc 3) (L.cons (E.loc 4) L.nil)))))
 (S.cons (S.ite (T.cmp cmpLt (E.loc 3) (E.c (.int 0))) (S.cons (S.ret (E.c (.bool false)))
 S.nil) S.nil)
 (S.cons (S.aug (.loc 3) inAdd (E.loc 3) (E.app opLen (L.cons (E.loc 5) L.nil)))
 S.nil)))
noncomputable abbrev ellF (a ws c:Option AV) (t:List Nat) (m e:Nat):AFr:=⟨[a,some (txt t),ws,some (.int (m:Int)),some (.int (e:Int)),c],[],HK.no⟩
theorem ell_loop {t:List Nat} {σ:St} {a ws:Option AV} {N:PN} {R:PK} {X:PX} {e:Nat} (he:e<=t.length) (hN:∀ ρ,R (.bool true) σ->N ρ σ):∀ (W:List (List Nat)) (m:Nat) (c:Option AV),(∀ q∈W,q.length<=1000)->m<=e->R (.bool (goFits t e m W)) σ->
  forK (.one (.loc 5)) ellB (W.map txt) (ellF a ws c t m e) σ N R X
 | [],m,c,_,hm,hR=>by
  rw [goFits,decide_eq_true hm] at hR
  exact hN _ hR
 | p::W,m,c,hq,hm,hR=>by
  refine ⟨_,rfl,?_⟩
  have hp:=hq p List.mem_cons_self
  rw [goFits] at hR
  refine set_ev (v:=.int (fnd (firstIn t p m e))) (Ev.meth rfl (Ev.loc rfl) rfl (Lv.cons (Ev.loc rfl) (Lv.cons (Ev.loc rfl) (Lv.one (Ev.loc rfl)))) λ K h=>by rw [<- findAt_nat he] at h;exact h) ?_
  cases hf:firstIn t p m e with
  | none=>
   rw [hf] at hR
   exact ite_ev (c₁:=true) (Tv.cmp (Ev.loc rfl) Ev.c λ z h=>h) (λ z=>ret_ev Ev.c hR) λ q=>nomatch q
  | some i=>
   rw [hf] at hR
   obtain ⟨h1,h2,h3⟩:=firstIn_some hf
   refine if_no (Tv.cmp (Ev.loc rfl) Ev.c λ Q h=>?_) (aug_ev (Ev.loc rfl) (Ev.lenS rfl (Ev.loc rfl) (Nat.le_trans hp (by decide))) (λ z h=>h) (ell_loop he hN W (i+p.length) (some (txt p)) (λ q h=>hq q (List.mem_cons_of_mem _ h)) h2 hR))
   show Q (decide ((i:Int)<0))
   rw [decide_eq_false (Int.not_lt.mpr (Int.natCast_nonneg i))]
   exact h
noncomputable def ellTail:PS:=(S.cons (S.ite (T.cmp cmpGt (E.loc 3) (E.loc 4)) (S.cons (S.ret (E.c (.bool false)))
 S.nil) S.nil)
 (S.cons (S.for (Y.lst (E.frz (E.loc 2))) (.one (.loc 5)) ellB)
 (S.cons (S.ret (E.c (.bool true)))
 S.nil)))
theorem ell_tail {t:List Nat} {σ:St} {a c:Option AV} {N:PN} {R:PK} {Bk:PN} {X:PX} {m e:Nat} {W:List (List Nat)} (he:e<=t.length) (hq:∀ q∈W,q.length<=1000) (hR:∀ τ,R (.bool (decide (m<=e)&&goFits t e m W)) (σ++[τ])):
  ellTail (ellF a (some (.loc σ.length)) c t m e) (σ++[.lst (W.map txt)]) N R Bk X:=by
 refine ite_ev (Tv.cmp (Ev.loc rfl) (Ev.loc rfl) λ z h=>h) (λ hb=>ret_ev Ev.c ?_) λ hb=>⟨rfl,⟨_,rfl,W.map txt,get_last ..,?_⟩⟩
 ·have h:=hR (.lst (W.map txt))
  rw [decide_eq_false (Nat.not_le.mpr (Int.ofNat_lt.mp (of_decide_eq_true hb)))] at h
  exact h
 ·have hm:m<=e:=Int.ofNat_le.mp (Int.not_lt.mp (of_decide_eq_false hb))
  have h:=hR .gone
  rw [decide_eq_true hm] at h
  rw [set_last]
  exact ⟨_,rfl,ell_loop he (λ ρ h=>h) W m c hq hm h⟩
noncomputable def ellE:PS:=(S.cons (S.set (.loc 5) (E.sub (E.loc 2) (E.neg (E.c (.int 1)))))
 (S.cons (S.ite (T.val (E.loc 5)) (S.cons (S.ite (T.val (E.meth "str" opEnds (E.loc 1) (L.cons (E.loc 5) L.nil))) (S.cons (S.aug (.loc 4) inSub (E.loc 4) (E.app opLen (L.cons (E.loc 5) L.nil)))
 (S.cons (S.del (E.loc 2) (E.neg (E.c (.int 1))))
 S.nil)) (S.cons (S.ret (E.c (.bool false)))
 S.nil))
 S.nil) S.nil)
 ellTail))
theorem starts_eq (t p:List Nat):Txt.startswith (ofL t) (ofL p)=(t.take p.length==p):=by
 unfold Txt.startswith
 rw [subAt_ofL,len_txt,len_txt,Nat.zero_add,occAt,List.drop_zero]
 cases h:t.take p.length==p with
 | false=>exact Bool.and_false _
 | true=>rw [decide_eq_true (by rw [<- eq_of_beq h,List.length_take];exact Nat.min_le_right ..)];rfl
theorem ends_eq (t p:List Nat):Txt.endswith (ofL t) (ofL p)=(decide (p.length<=t.length)&&suf t p):=by
 unfold Txt.endswith
 rw [subAt_ofL,len_txt,len_txt,Nat.zero_add]
 by_cases h:p.length<=t.length
 ·rw [occ_end h]
 ·rw [decide_eq_false h];rfl
theorem ell_end {t l:List Nat} {σ:St} {a c:Option AV} {N:PN} {R:PK} {Bk:PN} {X:PX} {m:Nat} {W:List (List Nat)} (hW:W.length<=100) (hl:l.length<=1000) (hq:∀ q∈W,q.length<=1000) (hm:m<=t.length)
  (hR:∀ τ,R (.bool (decide (l.length<=t.length)&&suf t l&&(decide (m<=t.length - l.length)&&goFits t (t.length - l.length) m W))) (σ++[τ])):
  ellE (ellF a (some (.loc σ.length)) c t m t.length) (σ++[.lst (W.map txt++[txt l])]) N R Bk X:=by
 have l2:l.length<=20000:=Nat.le_trans hl (by decide)
 have l3:(W.map txt++[txt l]).length<=20000:=by rw [List.length_append,List.length_map];exact Nat.le_trans (Nat.add_le_add_right hW 1) (by decide)
 have hs:=lastIx (W.map txt) (txt l)
 refine set_ev (Ev.subO (Ev.loc rfl) (Ev.neg Ev.c) (get_last ..) ⟨by decide,by decide⟩ hs (get_app _ _ 0)) ?_
 refine ite_ev (Tv.txt (Ev.loc rfl) hl) (λ hb=>?_) λ hb=>?_
 ·refine ite_ev (Tv.val (Ev.meth (v:=.bool (decide (l.length<=t.length)&&suf t l)) rfl (Ev.loc rfl) rfl (Lv.one (Ev.loc rfl)) λ K h=>by rw [<- ends_eq] at h;exact h) λ z h=>h) (λ hb=>?_) λ hb=>?_
  ·rw [hb] at hR
   have h1:=of_decide_eq_true (Bool.and_eq_true_iff.mp hb).1
   refine aug_ev (v:=.int ((t.length - l.length:Nat):Int)) (Ev.loc rfl) (Ev.lenS rfl (Ev.loc rfl) l2) (λ Q h=>by rw [Int.ofNat_sub h1] at h;exact h) (del_ev (Ev.loc rfl) (Ev.neg Ev.c) (get_last ..) l3 (by decide) hs (set_lastE (congrArg _ (eraseLast ..))) (ell_tail (Nat.sub_le _ _) hq hR))
  ·rw [hb] at hR
   exact ret_ev Ev.c (hR _)
 ·obtain rfl:l=[]:=eq_of_beq (by cases h:(l==[]) with | true=>rfl | false=>rw [h] at hb;exact nomatch hb)
  have hs:suf t []=true:=by show (t.drop t.length==[])=true;rw [List.drop_length];rfl
  rw [hs,<- go_end] at hR
  rw [show W.map txt++[txt []]=(W++[[]]).map txt by rw [List.map_append];rfl]
  refine ell_tail (e:=t.length) (Nat.le_refl _) (λ q h=>?_) hR
  rcases List.mem_append.mp h with h | h
  ·exact hq q h
  ·cases List.mem_singleton.mp h;exact Nat.zero_le _
noncomputable def ellS:PS:=(S.cons (S.set (.loc 5) (E.sub (E.loc 2) (E.c (.int 0))))
 (S.cons (S.ite (T.val (E.loc 5)) (S.cons (S.ite (T.val (E.meth "str" opStarts (E.loc 1) (L.cons (E.loc 5) L.nil))) (S.cons (S.set (.loc 3) (E.app opLen (L.cons (E.loc 5) L.nil)))
 (S.cons (S.del (E.loc 2) (E.c (.int 0)))
 S.nil)) (S.cons (S.ret (E.c (.bool false)))
 S.nil))
 S.nil) S.nil)
 ellE))
theorem fits_end (t p l:List Nat) (mid:List (List Nat)):fits t p (mid++[l])=((t.take p.length==p)&&(decide (l.length<=t.length)&&suf t l&&(decide (p.length<=t.length - l.length)&&goFits t (t.length - l.length) p.length mid))):=by
 unfold fits
 rw [if_neg (List.append_ne_nil_of_right_ne_nil _ (List.cons_ne_nil _ _))]
 refine congrArg (_&&·) ?_
 by_cases h1:l.length<=t.length
 ·rw [decide_eq_true h1]
  cases h2:suf t l with
  | true=>
   by_cases h3:p.length<=t.length - l.length
   ·rw [law_go h1 h2,decide_eq_true h3];rfl
   ·rw [law_big mid _ (by lia),decide_eq_false h3];rfl
  | false=>rw [law_nosuf h2];rfl
 ·rw [law_big mid _ (by lia),decide_eq_false h1];rfl
theorem ell_start {t p l:List Nat} {mid:List (List Nat)} {σ:St} {a c:Option AV} {N:PN} {R:PK} {Bk:PN} {X:PX} (hm:mid.length<=50) (hp:p.length<=1000) (hl:l.length<=1000) (hq:∀ q∈mid,q.length<=1000) (hR:∀ τ,R (.bool (fits t p (mid++[l]))) (σ++[τ])):
  ellS (ellF a (some (.loc σ.length)) c t 0 t.length) (σ++[.lst (txt p::(mid.map txt++[txt l]))]) N R Bk X:=by
 rw [fits_end] at hR
 refine set_ev (Ev.subO (Ev.loc rfl) Ev.c (get_last ..) ⟨by decide,by decide⟩ (firstIx _ _) rfl) ?_
 refine ite_ev (Tv.txt (Ev.loc rfl) hp) (λ hb=>?_) λ hb=>?_
 ·refine ite_ev (Tv.val (Ev.meth (v:=.bool (t.take p.length==p)) rfl (Ev.loc rfl) rfl (Lv.one (Ev.loc rfl)) λ K h=>by rw [<- starts_eq] at h;exact h) λ z h=>h) (λ hb=>?_) λ hb=>?_
  ·rw [hb] at hR
   refine set_ev (Ev.lenS rfl (Ev.loc rfl) (Nat.le_trans hp (by decide))) (del_ev (Ev.loc rfl) Ev.c (get_last ..) (by rw [List.length_cons,List.length_append,List.length_map,List.length_singleton];lia) (by decide) (firstIx _ _) (set_lastE rfl) (ell_end (Nat.le_trans hm (by decide)) hl hq (by rw [<- eq_of_beq hb,List.length_take];exact Nat.min_le_right ..) hR))
  ·rw [hb] at hR
   exact ret_ev Ev.c (hR _)
 ·obtain rfl:p=[]:=eq_of_beq (by cases h:(p==[]) with | true=>rfl | false=>rw [h] at hb;exact nomatch hb)
  refine ell_end (W:=[]::mid) (m:=0) (by rw [List.length_cons];lia) hl (λ q h=>?_) (Nat.zero_le _) λ τ=>?_
  ·rcases List.mem_cons.mp h with rfl | h
   ·exact Nat.zero_le _
   ·exact hq q h
  ·rw [go_nil _ _ _ _ (Nat.zero_le _)]
   exact hR τ
inductive spEll:FS
 | mk {σ:St} {K:PK} {X:PX} (p:List Nat) (r:List (List Nat)) (t:List Nat) (z:t.length<=1000) (z:r.length<=10) (z:∀ q∈p::r,q.length<=1000/\TxtOk q/\NoDot q) (z:TxtOk t) (z:(glue p r).length<=20000) (z:K (.bool (fits t p r)) σ):spEll [txt (glue p r),txt t] σ K X
theorem split_ev {p q:List Nat} {r:List (List Nat)} {fr:AFr} {σ:St} {f:PE} {K:PK} {X:PX} (hn:fr.hnd=.no) (hp:∀ s∈p::q::r,NoDot s) (hg:(glue p (q::r)).length<=20000) (hr:r.length<=100) (h:Ev f fr σ (txt (glue p (q::r)))) (hK:K (.loc σ.length) (σ++[.lst ((p::q::r).map txt)])):E.meth "str" opSplit f (L.cons (E.c (.str "...")) L.nil) fr σ K X:=by
 obtain ⟨h1,h2⟩:=split_glue (hp p List.mem_cons_self) λ s h=>hp s (List.mem_cons_of_mem _ h)
 refine ⟨hn,h _ _ ⟨rfl,rfl,?_⟩⟩
 show (decide ((ofL (glue p (q::r))).length<(ofL dots).length)||decide (Builtin.Str.strKind (ofL (glue p (q::r)))<Builtin.Str.strKind (ofL dots)))=false/\_/\(Builtin.Str.occurrences (ofL (glue p (q::r))) (ofL dots) 0 (ofL (glue p (q::r))).length ((ofL (glue p (q::r))).length+1)).isEmpty=false/\_/\(parts (ofL (glue p (q::r))) (ofL dots)).length<=sizeLine/\K _ (σ++[.lst (strL (parts (ofL (glue p (q::r))) (ofL dots)))])
 have k1:Builtin.Str.strKind (ofL dots)=1:=by decide+kernel
 rw [h1,h2,len_txt,k1]
 refine ⟨?_,rfl,rfl,small_len hg,?_,?_⟩
 ·rw [decide_eq_false (Nat.not_lt.mpr (strKind_pos _)),Bool.or_false]
  refine decide_eq_false (Nat.not_lt.mpr ?_)
  show 3<=_
  rw [glue,List.length_append,List.length_append]
  exact Nat.le_trans (Nat.le_add_right _ _) (Nat.le_add_left _ _)
 ·rw [List.length_map,List.length_cons,List.length_cons]
  exact small_len (Nat.le_trans (Nat.add_le_add_right hr 2) (by decide))
 ·rw [strL,List.map_map];exact hK
theorem ell_ok (hB:BOk B):JApp B (k+1) true (.val (.ref 100)) spEll:=
 JApp.of (JApp.fnK hB.f100 (κ:=κ_ellipsis_match) (ts:=[.loc 0,.loc 1]) rfl (by kernel_rfl) (λ z e=>nomatch e) rfl ⟨⟨rfl,rfl⟩,⟨rfl,rfl⟩,trivial⟩ (j_ellipsis_match hB)) λ l σ K X q=>by
 obtain ⟨p,r,t,ht,hr,hq,okt,hg,hk⟩:=q
 refine call0 (ρ:=[some (txt (glue p r)),some (txt t),none,none,none,none]) rfl rfl (λ z=>rfl) ?_
 obtain ⟨hp,okp,dp⟩:=hq p List.mem_cons_self
 rcases r.eq_nil_or_concat with rfl | ⟨mid,l,e⟩
 ·-- one piece alone
  have hf:Tv (T.cmp cmpNotInS (E.c (.str "...")) (E.loc 0)) ⟨[some (txt p),some (txt t),none,none,none,none],[],HK.no⟩ σ true:=Tv.cmp Ev.c (Ev.loc rfl) λ Q h=>by
   show Q (!(!(Builtin.Str.occurrences (ofL p) (ofL dots) 0 (ofL p).length 1).isEmpty))
   rw [no_dots dp];exact h
  refine ite_ev hf (λ z=>ret_ev (v:=.bool (fits t p [])) (Ev.cmp (Ev.loc rfl) (Ev.loc rfl) λ Q h=>eqTxt okp okt _ ?_) (cut_ret trivial hk)) λ h=>nomatch h
  unfold fits at h
  rw [if_pos rfl,Bool.beq_comm] at h
  exact h
 ·obtain ⟨q,r',hqr⟩:∃ q r',r=q::r':=by
   rw [e];cases mid<;>exact ⟨_,_,rfl⟩
  rw [List.concat_eq_append] at e
  have hf:Tv (T.cmp cmpNotInS (E.c (.str "...")) (E.loc 0)) ⟨[some (txt (glue p r)),some (txt t),none,none,none,none],[],HK.no⟩ σ false:=Tv.cmp Ev.c (Ev.loc rfl) λ Q h=>by
   show Q (!(!(Builtin.Str.occurrences (ofL (glue p r)) (ofL dots) 0 (ofL (glue p r)).length 1).isEmpty))
   rw [hqr,some_dots];exact h
  refine if_no hf ?_
  have hl:(p::r).map txt=txt p::(mid.map txt++[txt l]):=by rw [e,List.map_cons,List.map_append];rfl
  have hz:((p::r).map txt).length<=20000/\mid.length<=50:=by
   have:=hr
   rw [e,List.length_append,List.length_singleton] at this
   rw [List.length_map,List.length_cons]
   lia
  have hq':∀ s∈r,s.length<=1000:=λ s h=>(hq s (List.mem_cons_of_mem _ h)).1
  have h2:2<=((p::r).map txt).length:=by rw [hqr,List.length_map];exact Nat.succ_le_succ (Nat.succ_le_succ (Nat.zero_le _))
  subst hqr
  refine split_ev rfl (λ s h=>(hq s h).2.2) hg (Nat.le_trans (Nat.le_of_succ_le hr) (by decide)) (Ev.loc rfl) ?_
  -- assert;the two bounds
  refine assert_ev (Tv.cmp (Ev.lenO rfl (Ev.loc rfl) (get_last ..) hz.1) Ev.c λ Q h=>by rw [<- decide_eq_true (Int.ofNat_le.mpr h2)] at h;exact h) ?_
  refine setW_ev (λ q=>nomatch q) (Ev.tup (Lv.cons Ev.c (Lv.one (Ev.lenS rfl (Ev.loc rfl) (Nat.le_trans ht (by decide)))))) rfl ?_
  rw [hl]
  rw [e] at hk hq'
  exact ell_start hz.2 hp (hq' l (List.mem_append_right _ List.mem_cons_self)) (λ q h=>hq' q (List.mem_append_left _ h)) λ τ=>cut_app trivial hk
end
section
variable {B:BC} {k:Nat}
structure FT (α:Type) where
 rep:α->AV
 minus:α->α
 join:Int->α->α->α
 sz:α->Nat
 hm:∀ a,sz (minus a)<=sz a+1
 hj:∀ op a b,sz (join op a b)<=sz a+sz b+1
 bd:∀ N a,Bd N (rep a)
variable {α:Type} (F:FT α)
noncomputable def opJ (u:Int):Int:=if u=0 then 18 else if u=1 then 19 else 32
noncomputable def leafOf (l0 l1 l2:α) (i:Int):α:=if i=0 then l0 else if i=1 then l1 else l2
noncomputable def partOf (lf:Int->α) (x i u:Int):α:=if u%2=1 then F.minus (lf ((x+i)%3)) else lf ((x+i)%3)
noncomputable def oneOf (u:Int) (w p:α):α:=if u/2%2=0 then w else p
noncomputable def twoOf (u:Int) (w p:α):α:=if u/2%2=0 then p else w
noncomputable def fStep (lf:Int->α) (x i:Int) (w:α) (u:Int):α:=F.join (opJ (u/4%3)) (oneOf u w (partOf F lf x i u)) (twoOf u w (partOf F lf x i u))
noncomputable def formu (lf:Int->α) (x:Int):α:=
 if x/3/12/12%2=1 then F.minus (fStep F lf x 2 (fStep F lf x 1 (lf (x%3)) (x/3)) (x/3/12)) else fStep F lf x 2 (fStep F lf x 1 (lf (x%3)) (x/3)) (x/3/12)
inductive MinC (ap:AV->Option FS) (c:AV):Prop
 | mk (sp:FS) (z:ap c=some sp) (z:∀ (a:α) (σ:St) (K:PK) (X:PX),F.sz a<=60->K (F.rep (F.minus a)) σ->sp [F.rep a] σ K X)
inductive JoinC (ap:AV->Option FS) (c:AV):Prop
 | mk (sp:FS) (z:ap c=some sp) (z:∀ (op:Int) (a b:α) (σ:St) (K:PK) (X:PX),F.sz a+F.sz b<=60->K (F.rep (F.join op a b)) σ->sp [.int op,F.rep a,F.rep b] σ K X)
inductive spForm (apm apj:AV->Option FS):FS
 | mk {σ:St} {K:PK} {X:PX} (x:Int) (l0 l1 l2:α) (cm cj:AV) (z:MinC F apm cm) (z:JoinC F apj cj) (z:∀ i,F.sz (leafOf l0 l1 l2 i)<=1) (z:K (F.rep (formu F (leafOf l0 l1 l2) x)) σ):spForm apm apj [.int x,.lst [F.rep l0,F.rep l1,F.rep l2],cm,cj] σ K X
variable {F}
section
variable {fr:AFr} {σ:St} {f g:PE} {y:Int}
theorem leaf_ev {l0 l1 l2:α} (h:Ev f fr σ (.lst [F.rep l0,F.rep l1,F.rep l2])) (h2:Ev g fr σ (.int y)):Ev (E.sub f (E.bin opMod g (E.c (.int 3)))) fr σ (F.rep (leafOf l0 l1 l2 (y%3))):=by
 have hm:=Ev.modC (j:=3) h2
 rcases (show y%3=0\/y%3=1\/y%3=2 by lia) with q | q | q<;>rw [q] at hm ⊢
 ·exact Ev.subL (n:=0) h hm rfl rfl (by decide)
 ·exact Ev.subL (n:=1) h hm rfl rfl (by decide)
 ·exact Ev.subL (n:=2) h hm rfl rfl (by decide)
theorem op_ev (h2:Ev g fr σ (.int y)):Ev (E.sub (E.tup (L.cons (E.c (.int 18)) (L.cons (E.c (.int 19)) (L.cons (E.c (.int 32)) L.nil)))) (E.bin opMod g (E.c (.int 3)))) fr σ (.int (opJ (y%3))):=by
 have hm:=Ev.modC (j:=3) h2
 have h:=Ev.tup (fr:=fr) (σ:=σ) (Lv.cons (Ev.c (v:=.int 18)) (Lv.cons (Ev.c (v:=.int 19)) (Lv.one (Ev.c (v:=.int 32)))))
 rcases (show y%3=0\/y%3=1\/y%3=2 by lia) with q | q | q<;>rw [q] at hm ⊢
 ·exact Ev.subT (n:=0) h hm rfl rfl (by decide)
 ·exact Ev.subT (n:=1) h hm rfl rfl (by decide)
 ·exact Ev.subT (n:=2) h hm rfl rfl (by decide)
theorem Ev.min1 {ap:AV->Option FS} {c:AV} {a:α} (hm:MinC F ap c) (hn:fr.hnd=.no) (h:Ev f fr σ c) (h2:Ev g fr σ (F.rep a)) (hz:F.sz a<=60):Ev (E.call true ap f (L.cons g L.nil)) fr σ (F.rep (F.minus a)):=by
 obtain ⟨sp,e,ok⟩:=hm
 exact Ev.call hn h e (Lv.one h2) λ K X hK=>ok _ _ _ _ hz hK
end
theorem part_sz {lf:Int->α} {x i u:Int} (h:∀ i,F.sz (lf i)<=1):F.sz (partOf F lf x i u)<=2:=by
 unfold partOf
 by_cases q:u%2=1
 ·rw [if_pos q];exact Nat.le_trans (F.hm _) (Nat.succ_le_succ (h _))
 ·rw [if_neg q];exact Nat.le_succ_of_le (h _)
theorem two_sz {u:Int} {w p:α} {n m:Nat} (h:F.sz w<=n) (h2:F.sz p<=m):F.sz (oneOf u w p)+F.sz (twoOf u w p)<=n+m:=by
 unfold oneOf twoOf
 by_cases q:u/2%2=0
 ·rw [if_pos q,if_pos q];exact Nat.add_le_add h h2
 ·rw [if_neg q,if_neg q,Nat.add_comm];exact Nat.add_le_add h h2
theorem step_sz {lf:Int->α} {x i u:Int} {w:α} {n:Nat} (h:∀ i,F.sz (lf i)<=1) (hw:F.sz w<=n):F.sz (fStep F lf x i w u)<=n+3:=Nat.le_trans (F.hj _ _ _) (Nat.succ_le_succ (two_sz hw (part_sz h)))
noncomputable def formB (apm apj:AV->Option FS):PS:=(S.cons (S.set (.loc 7) (E.ite (T.cmp cmpEq (E.bin opMod (E.loc 5) (E.c (.int 2))) (E.c (.int 1))) (E.call true apm (E.loc 2) (L.cons (E.sub (E.loc 1) (E.bin opMod (E.bin opAdd (E.loc 0) (E.loc 6)) (E.c (.int 3)))) L.nil)) (E.sub (E.loc 1) (E.bin opMod (E.bin opAdd (E.loc 0) (E.loc 6)) (E.c (.int 3))))))
 (S.cons (S.setP (.many [.loc 8,.loc 9]) (E.ite (T.cmp cmpEq (E.bin opMod (E.bin opDiv (E.loc 5) (E.c (.int 2))) (E.c (.int 2))) (E.c (.int 0))) (E.tup (L.cons (E.loc 4) (L.cons (E.loc 7) L.nil))) (E.tup (L.cons (E.loc 7) (L.cons (E.loc 4) L.nil)))))
 (S.cons (S.setW [.loc 4,.loc 5] (E.tup (L.cons (E.call true apj (E.loc 3) (L.cons (E.sub (E.tup (L.cons (E.c (.int 18)) (L.cons (E.c (.int 19)) (L.cons (E.c (.int 32)) L.nil)))) (E.bin opMod (E.bin opDiv (E.loc 5) (E.c (.int 4))) (E.c (.int 3)))) (L.cons (E.loc 8) (L.cons (E.loc 9) L.nil)))) (L.cons (E.bin opDiv (E.loc 5) (E.c (.int 12))) L.nil))))
 S.nil)))
noncomputable abbrev formF (x:Int) (l0 l1 l2:α) (cm cj:AV) (w:α) (u:Int) (z6 z7 z8 z9:Option AV):AFr:=⟨[some (.int x),some (.lst [F.rep l0,F.rep l1,F.rep l2]),some cm,some cj,some (F.rep w),some (.int u),z6,z7,z8,z9],[],HK.no⟩
theorem form_turn {apm apj:AV->Option FS} {x i u:Int} {l0 l1 l2 w:α} {cm cj:AV} {σ:St} {N:PN} {R:PK} {Bk:PN} {X:PX} {z7 z8 z9:Option AV} (hm:MinC F apm cm) (hj:JoinC F apj cj) (hlf:∀ i,F.sz (leafOf l0 l1 l2 i)<=1) (hw:F.sz w<=20)
  (hN:∀ z7 z8 z9,N (formF (F:=F) x l0 l1 l2 cm cj (fStep F (leafOf l0 l1 l2) x i w u) (u/12) (some (.int i)) z7 z8 z9).ρ σ):
  formB apm apj (formF (F:=F) x l0 l1 l2 cm cj w u (some (.int i)) z7 z8 z9) σ N R Bk X:=by
 refine set_ev (v:=F.rep (partOf F (leafOf l0 l1 l2) x i u)) (Ev.ite (Tv.eqI (Ev.modC (Ev.loc rfl)) Ev.c) (λ h=>?_) λ h=>?_) ?_
 ·rw [partOf,if_pos (of_decide_eq_true h)]
  exact Ev.min1 hm rfl (Ev.loc rfl) (leaf_ev (Ev.loc rfl) (Ev.add (Ev.loc rfl) (Ev.loc rfl))) (Nat.le_trans (hlf _) (by decide))
 ·rw [partOf,if_neg (of_decide_eq_false h)]
  exact leaf_ev (Ev.loc rfl) (Ev.add (Ev.loc rfl) (Ev.loc rfl))
 have hp:=part_sz (F:=F) (x:=x) (i:=i) (u:=u) hlf
 rw [fStep] at hN
 generalize partOf F (leafOf l0 l1 l2) x i u=pt at*
 refine setP_ev (l:=[F.rep (oneOf u w pt),F.rep (twoOf u w pt)]) (λ q=>nomatch q) (Ev.ite (Tv.eqI (Ev.modC (Ev.divC (Ev.loc rfl))) Ev.c) (λ h=>?_) λ h=>?_) rfl ?_
 ·rw [oneOf,twoOf,if_pos (of_decide_eq_true h),if_pos (of_decide_eq_true h)]
  exact Ev.tup (Lv.cons (Ev.loc rfl) (Lv.one (Ev.loc rfl)))
 ·rw [oneOf,twoOf,if_neg (of_decide_eq_false h),if_neg (of_decide_eq_false h)]
  exact Ev.tup (Lv.cons (Ev.loc rfl) (Lv.one (Ev.loc rfl)))
 obtain ⟨spj,ej,okj⟩:=hj
 exact setW_ev (λ q=>nomatch q) (Ev.tup (Lv.cons (Ev.call rfl (Ev.loc rfl) ej (Lv.cons (op_ev (Ev.divC (Ev.loc rfl))) (Lv.cons (Ev.loc rfl) (Lv.one (Ev.loc rfl)))) λ K X hK=>okj _ _ _ _ _ _ (Nat.le_trans (two_sz hw hp) (by decide)) hK) (Lv.one (Ev.divC (Ev.loc rfl))))) rfl (hN _ _ _)
theorem form_ok (hB:BOk B) {apm apj:AV->Option FS} (hm:AppOk B k true apm) (hj:AppOk B k true apj):JApp B (k+1) true (.val (.ref 131)) (spForm F apm apj):=
 JApp.of (JApp.fnK hB.f131 (κ:=κ_law_formula) (ts:=[.loc 0,.loc 1,.loc 2,.loc 3]) rfl (by kernel_rfl) (λ z e=>nomatch e) rfl ⟨⟨rfl,rfl⟩,⟨rfl,rfl⟩,⟨rfl,rfl⟩,⟨rfl,rfl⟩,trivial⟩ (j_law_formula hB apm apj hm hj)) λ l σ K X q=>by
 obtain ⟨x,l0,l1,l2,cm,cj,okm,okj,hlf,hk⟩:=q
 refine call0 (ρ:=[some (.int x),some (.lst [F.rep l0,F.rep l1,F.rep l2]),some cm,some cj,none,none,none,none,none,none]) rfl rfl (λ z=>rfl) ?_
 refine setW_ev (λ q=>nomatch q) (Ev.tup (Lv.cons (leaf_ev (Ev.loc rfl) (Ev.loc rfl)) (Lv.one (Ev.divC (Ev.loc rfl))))) rfl ?_
 refine ⟨rfl,⟨_,rfl,_,rfl,?_⟩⟩
 have s0:=hlf (x%3)
 have s1:=step_sz (F:=F) (x:=x) (i:=1) (u:=x/3) hlf s0
 refine form_turn okm okj hlf (Nat.le_trans s0 (by decide)) λ z7 z8 z9=>⟨_,rfl,form_turn okm okj hlf (Nat.le_trans s1 (by decide)) λ z7 z8 z9=>?_⟩
 refine ret_ev (v:=F.rep (formu F (leafOf l0 l1 l2) x)) (Ev.ite (Tv.eqI (Ev.modC (Ev.loc rfl)) Ev.c) (λ h=>?_) λ h=>?_) (cut_ret (F.bd _ _) hk)
 ·rw [formu,if_pos (of_decide_eq_true h)]
  exact Ev.min1 okm rfl (Ev.loc rfl) (Ev.loc rfl) (Nat.le_trans (step_sz hlf s1) (by decide))
 ·rw [formu,if_neg (of_decide_eq_false h)]
  exact Ev.loc rfl
noncomputable def FL:FT (List Int) where
 rep l:=.lst (l.map .int)
 minus a:=31::a
 join op a b:=op::(a++b)
 sz:=List.length
 hm _:=Nat.le_refl _
 hj op a b:=Nat.succ_le_succ (Nat.le_of_eq List.length_append)
 bd N a:=bdL_ints a
noncomputable def FB:FT Bool where
 rep b:=.bool b
 minus b:=!b
 join op a b:=if op=32 then a !=b else if op=18 then a||b else a&&b
 sz _:=0
 hm _:=Nat.zero_le _
 hj _ _ _:=Nat.zero_le _
 bd N a:=trivial
inductive spC2 (cs:List Nat):FS
 | mk {σ:St} {K:PK} {X:PX} (a:List Int) (z:a.length<=60) (z:K (FL.rep (FL.minus a)) σ):spC2 cs [.lst (a.map .int)] σ K X
inductive spC3 (cs:List Nat):FS
 | mk {σ:St} {K:PK} {X:PX} (op:Int) (a b:List Int) (z:a.length+b.length<=60) (z:K (FL.rep (FL.join op a b)) σ):spC3 cs [.int op,.lst (a.map .int),.lst (b.map .int)] σ K X
inductive spC5 (cs:List Nat):FS
 | mk {σ:St} {K:PK} {X:PX} (a:Bool) (z:K (.bool (!a)) σ):spC5 cs [.bool a] σ K X
inductive spC6 (cs:List Nat):FS
 | mk {σ:St} {K:PK} {X:PX} (op:Int) (a b:Bool) (z:K (.bool (FB.join op a b)) σ):spC6 cs [.int op,.bool a,.bool b] σ K X
theorem callE0 {κ:Sc} {χf:List Nat} {nh:Bool} {ts:List Tg} {f:PE} {l:List AV} {σ:St} {K:PK} {X:PX} {v:AV} {ρ:List (Option AV)} (hm:(ownC κ.scope.names).length=0) (hl:ts.length=l.length) (hb:∀ n,bindA (ts.zip l) (fr0 κ.loc.length n 0 χf (hkOf nh)) σ=(⟨ρ,χf,hkOf nh⟩,σ)) (h:Ev f ⟨ρ,χf,hkOf nh⟩ σ v) (hv:Bd σ.length v) (hk:K v σ):
  callE κ (ownC κ.scope.names).length χf nh ts f l σ K X:=by
 refine ⟨hl,?_⟩
 rw [hm,List.replicate_zero,List.append_nil,hb]
 exact h _ _ (cut_ret hv hk)
theorem cat_ev {f g:PE} {fr:AFr} {σ:St} {a b:List AV} (h:Ev f fr σ (.lst a)) (h2:Ev g fr σ (.lst b)) (hz:a.length+b.length<=20000):Ev (E.bin opAdd f g) fr σ (.lst (a++b)):=Ev.bin h h2 λ Q hQ=>⟨small_len hz,hQ⟩
theorem c2_ok (hB:BOk B) (cs:List Nat):JApp B (k+1) true (.clo 2 cs) (spC2 cs):=
 JApp.of (JApp.lamK (κ:=κc2) (t:=ct2.2) (ts:=[.loc 0]) (ps:=["a"]) (body:=exprOf ct2.2.body) (f:=Pc2) (by rw [hB.clo];rfl) rfl rfl rfl (by kernel_rfl) (λ cl doc pm cd ct=>bind1 λ a=>by kernel_rfl!) rfl ⟨⟨rfl,rfl⟩,trivial⟩ (jc2 hB)) λ l σ K X q=>by
 obtain ⟨a,h,hk⟩:=q
 exact callE0 (ρ:=[some (FL.rep a)]) rfl rfl (λ z=>rfl) (cat_ev (Ev.lst (Lv.one Ev.c)) (Ev.loc rfl) (by rw [List.length_map,List.length_singleton];lia)) (bdL_ints (31::a)) hk
theorem c3_ok (hB:BOk B) (cs:List Nat):JApp B (k+1) true (.clo 3 cs) (spC3 cs):=
 JApp.of (JApp.lamK (κ:=κc3) (t:=ct3.2) (ts:=[.loc 0,.loc 1,.loc 2]) (ps:=["op","a","b"]) (body:=exprOf ct3.2.body) (f:=Pc3) (by rw [hB.clo];rfl) rfl rfl rfl (by kernel_rfl) (λ cl doc pm cd ct=>bind3 λ a b c=>by kernel_rfl!) rfl ⟨⟨rfl,rfl⟩,⟨rfl,rfl⟩,⟨rfl,rfl⟩,trivial⟩ (jc3 hB)) λ l σ K X q=>by
 obtain ⟨op,a,b,h,hk⟩:=q
 have e:FL.rep (FL.join op a b)=.lst (([.int op]++a.map .int)++b.map .int):=congrArg (λ l=>AV.lst (_::l)) (List.map_append ..)
 rw [e] at hk
 refine callE0 (ρ:=[some (.int op),some (FL.rep a),some (FL.rep b)]) rfl rfl (λ z=>rfl) (cat_ev (cat_ev (Ev.lst (Lv.one (Ev.loc rfl))) (Ev.loc rfl) ?_) (Ev.loc rfl) ?_) (by rw [<- e];exact FL.bd _ _) hk
 ·rw [List.length_map,List.length_singleton];lia
 ·rw [List.length_append,List.length_map,List.length_map,List.length_singleton];lia
theorem c5_ok (hB:BOk B) (cs:List Nat):JApp B (k+1) true (.clo 5 cs) (spC5 cs):=
 JApp.of (JApp.lamK (κ:=κc5) (t:=ct5.2) (ts:=[.loc 0]) (ps:=["a"]) (body:=exprOf ct5.2.body) (f:=Pc5) (by rw [hB.clo];rfl) rfl rfl rfl (by kernel_rfl) (λ cl doc pm cd ct=>bind1 λ a=>by kernel_rfl!) rfl ⟨⟨rfl,rfl⟩,trivial⟩ (jc5 hB)) λ l σ K X q=>by
 obtain ⟨a,hk⟩:=q
 exact callE0 (ρ:=[some (.bool a)]) rfl rfl (λ z=>rfl) (v:=.bool (!a)) (λ K X h=>⟨_,rfl,h⟩) trivial hk
theorem eqv_bool (a b:Bool):PyData.eqv (.bool a) (.bool b)=(a==b):=by cases a<;>cases b<;>decide+kernel
theorem Ev.orB {f g:PE} {fr:AFr} {σ:St} {a b:Bool} (h:Ev f fr σ (.bool a)) (h2:Ev g fr σ (.bool b)):Ev (E.or f g) fr σ (.bool (a||b)):=match a with
 | true=>λ K X hK=>h _ _ ⟨λ q=>(nomatch q),λ z=>hK⟩
 | false=>λ K X hK=>h _ _ ⟨λ z=>h2 _ _ hK,λ q=>(nomatch q)⟩
theorem Ev.andB {f g:PE} {fr:AFr} {σ:St} {a b:Bool} (h:Ev f fr σ (.bool a)) (h2:Ev g fr σ (.bool b)):Ev (E.and f g) fr σ (.bool (a&&b)):=match a with
 | true=>λ K X hK=>h _ _ ⟨λ z=>h2 _ _ hK,λ q=>(nomatch q)⟩
 | false=>λ K X hK=>h _ _ ⟨λ q=>(nomatch q),λ z=>hK⟩
theorem join_ev {f g:PE} {t t':PT} {fr:AFr} {σ:St} {op:Int} {a b:Bool} (h:Tv t fr σ (decide (op=32))) (h':Tv t' fr σ (decide (op=18))) (h1:Ev f fr σ (.bool a)) (e2:Ev g fr σ (.bool b)):Ev (E.ite t (E.cmp cmpNe f g) (E.ite t' (E.or f g) (E.and f g))) fr σ (.bool (FB.join op a b)):=by
 refine Ev.ite h (λ h=>?_) λ h=>Ev.ite h' (λ h2=>?_) λ h2=>?_
 ·rw [show FB.join op a b=(a !=b) from if_pos (of_decide_eq_true h)]
  exact Ev.cmp h1 e2 λ Q hQ=>⟨_,_,rfl,rfl,rfl,rfl,by rw [eqv_bool];exact hQ⟩
 ·rw [show FB.join op a b=(a||b) from (if_neg (of_decide_eq_false h)).trans (if_pos (of_decide_eq_true h2))]
  exact Ev.orB h1 e2
 ·rw [show FB.join op a b=(a&&b) from (if_neg (of_decide_eq_false h)).trans (if_neg (of_decide_eq_false h2))]
  exact Ev.andB h1 e2
theorem c6_ok (hB:BOk B) (cs:List Nat):JApp B (k+1) true (.clo 6 cs) (spC6 cs):=
 JApp.of (JApp.lamK (κ:=κc6) (t:=ct6.2) (ts:=[.loc 0,.loc 1,.loc 2]) (ps:=["op","a","b"]) (body:=exprOf ct6.2.body) (f:=Pc6) (by rw [hB.clo];rfl) rfl rfl rfl (by kernel_rfl) (λ cl doc pm cd ct=>bind3 λ a b c=>by kernel_rfl!) rfl ⟨⟨rfl,rfl⟩,⟨rfl,rfl⟩,⟨rfl,rfl⟩,trivial⟩ (jc6 hB)) λ l σ K X q=>by
 obtain ⟨op,a,b,hk⟩:=q
 exact callE0 (ρ:=[some (.int op),some (.bool a),some (.bool b)]) rfl rfl (λ z=>rfl) (join_ev (Tv.eqI (Ev.loc rfl) Ev.c) (Tv.eqI (Ev.loc rfl) Ev.c) (Ev.loc rfl) (Ev.loc rfl)) trivial hk
end
section
variable {B:BC} {k:Nat}
theorem eqPair {p q:Int×Int} {Q:Bool->Prop} (h:Q (p==q)):cmpEq (pairA p) (pairA q) Q:=
 ⟨_,_,rfl,rfl,rfl,rfl,by
  rw [show PyData.eqv (.tuple [.int p.1,.int p.2]) (.tuple [.int q.1,.int q.2])=(p==q) by simp only [PyData.eqv,PyData.eqvAll,Bool.and_true];rfl]
  exact h⟩
noncomputable def toldF (num:Int) (t:List Nat) (b:Bool):AV:=.lst [.int 1,.int num,txt t,.bool b,.bool (!b)]
noncomputable def toldD (ix num:Int) (t:List Nat) (y:Int):AV:=.lst [.int ix,.int num,txt t,pairA (dRight y num)]
structure AnsOk (num:Int) (t p:List Nat) (r:List (List Nat)) (y v:Int):Prop where
 n0:0<=num
 n1:num<2^1000
 y0:0<=y
 v0:0<=v
 tl:t.length<=1000
 rl:r.length<=10
 q:∀ q∈p::r,q.length<=1000/\TxtOk q/\NoDot q
 okt:TxtOk t
 g:(glue p r).length<=20000
inductive AnsK (ix num:Int) (t p:List Nat) (r:List (List Nat)) (y v:Int) (n:Nat) (σ:St) (K:PK) (X:PX):Prop
 | fit (tl:List AV) (o:AnsOk num t p r y v) (o:σ[n]?=some (.lst tl)) (o:tl.length<=100) (o:∀ N,BdL N tl) (o:ix=1) (o:K (.bool (fits t p r)) (σ.set n (.lst (tl++[toldF num t (fits t p r)]))))
 | div (z:Int) (tl:List AV) (o:AnsOk num t p r y v) (o:σ[n]?=some (.lst tl)) (o:tl.length<=100) (o:∀ N,BdL N tl)
  (o:(ix=0/\z=y)\/(ix=2/\z=v)) (o:dDiv z=0->X "ZeroDivisionError" σ) (o:dDiv z≠0->K (.bool (dRight z num==dWant z num)) (σ.set n (.lst (tl++[toldD ix num t z]))))
inductive spAns:FS
 | mk {σ:St} {K:PK} {X:PX} (ix num:Int) (t p:List Nat) (r:List (List Nat)) (y v:Int) (n:Nat) (z:AnsK ix num t p r y v n σ K X):spAns [.int ix,.int num,txt t,.lst [divA y num,divA v num],txt (glue p r),.loc n] σ K X
theorem bdL_app {N:Nat}:∀ {a b:List AV},BdL N a->BdL N b->BdL N (a++b)
 | [],b,_,h=>h
 | x::a,b,h,h2=>⟨h.1,bdL_app h.2 h2⟩
theorem toldF_bd (num:Int) (t:List Nat) (b:Bool) (N:Nat):BdL N [toldF num t b]:=⟨⟨trivial,trivial,trivial,trivial,trivial,trivial⟩,trivial⟩
theorem toldD_bd (ix num:Int) (t:List Nat) (y:Int) (N:Nat):BdL N [toldD ix num t y]:=⟨⟨trivial,trivial,trivial,⟨trivial,trivial,trivial⟩,trivial⟩,trivial⟩
theorem dDiv_bits (z:Int):Builtin.Int.intBits (dDiv z)<2000:=by
 have h1:=bits_small dSize_bound.1 (dSize_bound (y:=z)).2.1
 unfold dDiv
 by_cases h:z/4%2=1
 ·rw [if_pos h];exact Nat.lt_of_le_of_lt (intBits_neg_le h1) (by decide)
 ·rw [if_neg h];exact Nat.lt_of_le_of_lt h1 (by decide)
theorem dPick_bits {z num:Int} (n0:0<=num) (n1:num<2^1000):Builtin.Int.intBits (dPick z num)<=1001:=by
 have h1:Builtin.Int.intBits num<=1000:=bits_small n0 n1
 unfold dPick
 by_cases h:z%4=0
 ·rw [if_pos h];exact Nat.le_succ_of_le h1
 rw [if_neg h]
 by_cases h:z%4=1
 ·rw [if_pos h];exact Nat.le_succ_of_le (intBits_neg_le h1)
 rw [if_neg h]
 by_cases h:z%4=2
 ·rw [if_pos h,show Builtin.bitNot num=-(num+1) from (Int.neg_add ..).symm]
  exact intBits_neg_le (bits_small (Int.le_add_one n0) (Int.lt_of_le_of_lt (Int.add_one_le_of_lt n1) (two_lt (by decide))))
 ·rw [if_neg h];decide
theorem dRight_no {z num:Int} (h:dDiv z≠0):dRight z num=((dPick z num).fdiv (dDiv z),(dPick z num).fmod (dDiv z)):=
 if_pos (Int.lt_iff_le_and_ne.mpr ⟨dSize_bound.1,λ q=>h (dDiv_zero.mpr q.symm)⟩)
theorem tell_ev {g:PE} {q:PS} {fr:AFr} {σ:St} {n:Nat} {tl:List AV} {v:AV} {N Bk:PN} {R:PK} {X:PX} (hn:fr.hnd=.no) (hf:fr.ρ[5]?=some (some (.loc n))) (h2:Ev g fr σ v) (e:σ[n]?=some (.lst tl)) (hl:tl.length<=100) (hq:q fr (σ.set n (.lst (tl++[v]))) N R Bk X):S.cons (S.expr (E.meth "list" opAppend (E.loc 5) (L.cons g L.nil))) q fr σ N R Bk X:=
 append_ev hn (Ev.loc hf) h2 e (small_len (Nat.le_trans hl (by decide))) hq
theorem cutX_self {σ:St} {X:PX} {c:String} (h:X c σ):cutX σ X c σ:=⟨cutOk_self,by rw [List.take_length];exact h⟩
theorem ans_ok (hB:BOk B):JApp B (k+17) true (.val (.ref 165)) spAns:=
 JApp.of (JApp.fnK (k:=k+16) hB.f165 (κ:=κ_law_answer) (ts:=[.loc 0,.loc 1,.loc 2,.loc 3,.loc 4,.loc 5]) (p:=P_law_answer (onVal 100 spEll) (onVal 56 (spId 10 2))) rfl (by kernel_rfl) (λ o e=>nomatch e) rfl ⟨⟨rfl,rfl⟩,⟨rfl,rfl⟩,⟨rfl,rfl⟩,⟨rfl,rfl⟩,⟨rfl,rfl⟩,⟨rfl,rfl⟩,trivial⟩
  (j_law_answer hB _ _ (onVal_ok hB.f100 (ell_ok (k:=k+15) hB)) (onVal_ok hB.f56 (id_ok (k:=k) hB 10)))) λ l σ K X q=>by
 obtain ⟨ix,num,t,p,r,y,v,n,h⟩:=q
 refine call0 (ρ:=[some (.int ix),some (.int num),some (txt t),some (.lst [divA y num,divA v num]),some (txt (glue p r)),some (.loc n),none,none,none,none,none]) rfl rfl (λ o=>rfl) ?_
 cases h with
 | fit tl ok e hz hbd hix hk=>
  subst hix
  refine ite_ev (Tv.eqI (Ev.loc rfl) Ev.c) (λ o=>?_) λ q=>nomatch q
  refine set_ev (v:=.bool (fits t p r)) (Ev.call rfl Ev.c onVal_self (Lv.cons (Ev.loc rfl) (Lv.one (Ev.loc rfl))) λ K X h=>⟨p,r,t,ok.tl,ok.rl,ok.q,ok.okt,ok.g,h⟩) ?_
  refine tell_ev (v:=toldF num t (fits t p r)) rfl rfl (Ev.lst (Lv.cons (Ev.loc rfl) (Lv.cons (Ev.loc rfl) (Lv.cons (Ev.loc rfl) (Lv.cons (Ev.cmp (Ev.loc rfl) Ev.c λ Q h=>?_) (Lv.one (Ev.cmp (Ev.loc rfl) Ev.c λ Q h=>?_))))))) e hz (ret_ev (Ev.loc rfl) (cutK_lst trivial (bdL_app (hbd _) (toldF_bd ..)) hk))
  ·show Q (fits t p r==true)
   rw [show (fits t p r==true)=fits t p r by cases fits t p r<;>rfl];exact h
  ·show Q (fits t p r==false)
   rw [show (fits t p r==false)=!fits t p r by cases fits t p r<;>rfl];exact h
 | div z tl ok e hz hbd hzz hkz hkk=>
  have h1:decide (ix=1)=false:=by rcases hzz with ⟨rfl,_⟩ | ⟨rfl,_⟩<;>rfl
  refine if_no (by rw [<- h1];exact Tv.eqI (Ev.loc rfl) Ev.c) ?_
  refine setL_ev (l:=[.int (z%4),.int (dDiv z),pairA (dRight z num),pairA (dWant z num)]) rfl ?_ rfl ?_
  ·rcases hzz with ⟨rfl,rfl⟩ | ⟨rfl,rfl⟩
   ·exact Ev.subL (n:=0) (Ev.loc rfl) (Ev.divC (Ev.loc rfl)) rfl rfl (by decide)
   ·exact Ev.subL (n:=1) (Ev.loc rfl) (Ev.divC (Ev.loc rfl)) rfl rfl (by decide)
  refine ⟨λ o=>rfl,⟨_,onVal_self,pick_ev (Ev.loc rfl) (Ev.loc rfl) _ _ ⟨_,rfl,.mk (dPick z num) (dDiv z) (λ h=>absurd h (by decide)) (λ h=>absurd h (by decide)) (dDiv_bits z) ?_ ?_ (λ h=>cutX_self (hkz h)) λ h=>?_⟩⟩⟩
  ·exact Nat.lt_of_le_of_lt (Nat.succ_le_succ (dPick_bits ok.n0 ok.n1)) (by decide)
  ·exact Nat.le_trans (Nat.succ_le_succ (dPick_bits ok.n0 ok.n1)) (by decide)
  ·have hk:=hkk h
   rw [toldD,dRight_no h] at hk
   exact tell_ev rfl rfl (Ev.lst (Lv.cons (Ev.loc rfl) (Lv.cons (Ev.loc rfl) (Lv.cons (Ev.loc rfl) (Lv.one (Ev.loc rfl)))))) e hz (ret_ev (Ev.cmp (Ev.loc rfl) (Ev.loc rfl) λ Q h=>eqPair h) (cutK_lst trivial (bdL_app (hbd _) ⟨⟨trivial,trivial,trivial,⟨trivial,trivial,trivial⟩,trivial⟩,trivial⟩) hk))
end
section
variable {B:BC} {k:Nat}
theorem JAppK.of {nh:Bool} {av:AV} {names:List Str} {sp sp':FS} (j:JAppK B k nh av names sp') (h:∀ l σ K X,sp l σ K X->sp' l σ K X):JAppK B k nh av names sp:=λ A fs α σ s u vs ws l m K X hk amb hn W rv rl rm hw q=>j A fs α σ s u vs ws l m K X hk amb hn W rv rl rm hw (h _ _ _ _ q)
theorem JAppK.fnK {κ:Sc} {fa c:Addr} {q:Str} {i:Nat} {ps names:List Str} {nm:Str} {nms:List (List Str)} {nh:Bool} {ts:List Tg} {p:PS} (f:FnK B.K fa c q i (KwB ps nm nms)) (hsc:κ.scope=sc i) (hS:scOk κ []=true) (hmade:∀ c',κ.code=some c'->c'=c/\κ.qual=q) (hin:names∈nms) (hpl:ps.length+1=ts.length) (hps:NmsOk κ (ps++[nm]) ts) (hnd:names.Nodup) (js:JS B κ k (bd i) p):
  JAppK B (k+1) nh (.val (.ref fa)) names (kwS ps.length names (callS κ (ownC κ.scope.names).length [] nh ts p)):=by
 obtain ⟨o,fd,h1,h2,h3,h4,h5,h6,h7,h8,h9,h10⟩:=f
 have S:=ScOk.of hS
 exact JAppK.fn h1 h2 (h3.trans hsc.symm) h4 h5 h6 h7 (λ c' e=>by obtain ⟨rfl,e2⟩:=hmade c' e;exact ⟨h8,h9.trans e2.symm⟩) S.kind S.co S.gen (S.cel.trans (List.append_nil _)) S.own S.loc (h10 names hin) hpl hps hnd js
theorem AnsK.cut {ix num:Int} {t p:List Nat} {r:List (List Nat)} {y v:Int} {n:Nat} {σ:St} {K K':PK} {X:PX} (f:AV->AV) (hf:∀ b N,Bd N (f (.bool b))) (hK:∀ a σ',cutK σ K (f a) σ'->K' a σ') (h:AnsK ix num t p r y v n σ (λ a σ'=>K (f a) σ') X):AnsK ix num t p r y v n σ K' (cutX σ X):=by
 cases h with
 | fit tl ok e hz hbd hix hk=>exact .fit tl ok e hz hbd hix (hK _ _ (cutK_lst (hf _ _) (bdL_app (hbd _) (toldF_bd ..)) hk))
 | div z tl ok e hz hbd hzz hkz hkk=>exact .div z tl ok e hz hbd hzz (λ h=>cutX_self (hkz h)) λ h=>hK _ _ (cutK_lst (hf _ _) (bdL_app (hbd _) (toldD_bd ..)) (hkk h))
theorem bind12 {fd:FuncData} {ps names:List Str} {vs ws:List Value} (k:∀ a b c,bindArgs fd ⟨[a],names.zip [b,c]⟩=pure (ps.zip [a,b,c])) (h:vs.length=1) (h2:ws.length=2):bindArgs fd ⟨vs,names.zip ws⟩=pure (ps.zip (vs++ws)):=
 len1 (C:=λ vs=>bindArgs fd ⟨vs,names.zip ws⟩=pure (ps.zip (vs++ws))) h λ a=>len2 (C:=λ ws=>bindArgs fd ⟨[a],names.zip ws⟩=pure (ps.zip ([a]++ws))) h2 λ b c=>k a b c
inductive spC4:List Nat->FS
 | mk {σ:St} {K:PK} {X:PX} (c0 c1 c2:Nat) (ix num:Int) (t p:List Nat) (r:List (List Nat)) (y v:Int) (n:Nat) (z:σ[c0]?=some (.cel (some (.lst [divA y num,divA v num])))) (z:σ[c1]?=some (.cel (some (txt (glue p r))))) (z:σ[c2]?=some (.cel (some (.loc n))))
  (z:AnsK ix num t p r y v n σ K X):spC4 [c0,c1,c2] [.int ix,.int num,txt t] σ K X
theorem c4_ok (hB:BOk B) (cs:List Nat):JAppK B (k+18) true (.clo 4 cs) ["number","text"] (spC4 cs):=
 have S:=ScOk.of (κ:=κc4) (free:=ct4.2.free) (by kernel_rfl)
 JAppK.of (JAppK.lam (n:=0) (κ:=κc4) (t:=ct4.2) (ts:=[.loc 0,.loc 1,.loc 2]) (ps:=["index","number","text"]) (body:=exprOf ct4.2.body) (f:=Pc4 (onVal 165 spAns)) (by rw [hB.clo];rfl) rfl rfl rfl S.kind S.co S.gen S.cel S.own S.dis S.loc
  (λ cl doc pm cd ct vs ws h h2=>bind12 (λ a b c=>by kernel_rfl!) (Nat.succ.inj (Nat.succ.inj h)) h2) rfl ⟨⟨rfl,rfl⟩,⟨rfl,rfl⟩,⟨rfl,rfl⟩,trivial⟩ (jc4 hB _ (onVal_ok hB.f165 (ans_ok (k:=k) hB)))) λ l σ K X q=>by
 obtain ⟨c0,c1,c2,ix,num,t,p,r,y,v,n,e0,e1,e2,h⟩:=q
 refine ⟨rfl,⟨λ z=>rfl,⟨_,onVal_self,?_⟩⟩⟩
 show L.cons _ _ ⟨[some (.int ix),some (.int num),some (txt t)],[c0,c1,c2],HK.no⟩ (σ++[]) _ _
 rw [List.append_nil]
 exact Lv.cons (Ev.loc rfl) (Lv.cons (Ev.loc rfl) (Lv.cons (Ev.loc rfl) (Lv.cons (Ev.cel rfl e0) (Lv.cons (Ev.cel rfl e1) (Lv.one (Ev.cel rfl e2)))))) _ _ ⟨ix,num,t,p,r,y,v,n,h.cut id (λ z z=>trivial) λ z z h=>h⟩
inductive spName:FS
 | mk {σ:St} {K:PK} {X:PX} (c0 c1 c2:Nat) (ix num:Int) (t p:List Nat) (r:List (List Nat)) (y v:Int) (n:Nat) (z:σ[c0]?=some (.cel (some (.lst [divA y num,divA v num])))) (z:σ[c1]?=some (.cel (some (txt (glue p r))))) (z:σ[c2]?=some (.cel (some (.loc n))))
  (z:AnsK ix num t p r y v n σ (λ a σ'=>K (.tup [a,a]) σ') X):spName [.int ix,.clo 4 [c0,c1,c2],.int num,txt t] σ K X
theorem name_ok (hB:BOk B):JAppK B (k+19) true (.val (.ref 86)) ["number","text"] spName:=
 JAppK.of (JAppK.fnK (k:=k+18) hB.f86 (κ:=κ_get_name_info) (ts:=[.loc 0,.loc 1,.loc 2]) (p:=P_get_name_info (onClo 4 spC4)) rfl (by kernel_rfl) (λ z e=>nomatch e) List.mem_cons_self rfl ⟨⟨rfl,rfl⟩,⟨rfl,rfl⟩,⟨rfl,rfl⟩,trivial⟩ (by decide) (j_get_name_info hB _ (onCloK_ok λ cs=>c4_ok (k:=k) hB cs))) λ l σ K X q=>by
 obtain ⟨c0,c1,c2,ix,num,t,p,r,y,v,n,e0,e1,e2,h⟩:=q
 refine ⟨[("number",.int num),("text",.str (ofL t))],⟨.int num,_,_,rfl,rfl,.str (ofL t),_,_,rfl,rfl,rfl,rfl⟩,call0 (ρ:=[some (.int ix),some (.clo 4 [c0,c1,c2]),some (.dct (.kwd [("number",.int num),("text",.str (ofL t))])),none]) rfl rfl (λ z=>rfl) ?_⟩
 refine ite_ev (c₁:=true) (Tv.cmp (Ev.loc rfl) Ev.c λ z h=>h) (λ z=>?_) λ q=>nomatch q
 refine ⟨λ z=>rfl,⟨_,rfl,⟨_,onClo_self,Lv.one (Ev.loc rfl) _ _ ⟨_,rfl,⟨_,_,rfl,?_⟩⟩⟩⟩⟩
 refine .mk c0 c1 c2 ix num t p r y v n e0 e1 e2 ?_
 exact h.cut (λ a=>.tup [a,a]) (λ z z=>⟨trivial,trivial,trivial⟩) λ a σ' h=>ret_ev (Ev.tup (Lv.cons (Ev.loc rfl) (Lv.one (Ev.loc rfl)))) h
inductive spName0:FS
 | mk {σ:St} {K:PK} {X:PX} (i:Int) (z:K (.tup [.val (.ref 79),.str ""]) σ):spName0 [.int i,.none,.int 0] σ K X
theorem name0_ok (hB:BOk B):JAppK B (k+1) true (.val (.ref 86)) ["number"] spName0:=
 JAppK.of (JAppK.fnK hB.f86 (κ:=κ_get_name_info) (ts:=[.loc 0,.loc 1,.loc 2]) (p:=P_get_name_info (λ z=>none)) rfl (by kernel_rfl) (λ z e=>nomatch e) (List.mem_cons_of_mem _ List.mem_cons_self) rfl ⟨⟨rfl,rfl⟩,⟨rfl,rfl⟩,⟨rfl,rfl⟩,trivial⟩ (by decide) (j_get_name_info hB _ (λ z z e=>nomatch e))) λ l σ K X q=>by
 obtain ⟨i,hK⟩:=q
 refine ⟨[("number",.int 0)],⟨.int 0,_,_,rfl,rfl,rfl,rfl⟩,call0 (ρ:=[some (.int i),some .none,some (.dct (.kwd [("number",.int 0)])),none]) rfl rfl (λ z=>rfl) ?_⟩
 exact ite_ev (c₁:=false) (Tv.cmp (Ev.loc rfl) Ev.c λ z h=>h) (λ q=>nomatch q) λ z=>ret_ev (Ev.tup (Lv.cons Ev.c (Lv.one Ev.c))) (cut_ret ⟨trivial,trivial,trivial⟩ hK)
end
section
inductive Tm where
 | leaf (i:Int)
 | neg (a:Tm)
 | bin (op:Int) (a b:Tm)
noncomputable def flat:Tm->List Int
 | .leaf i=>[256+i]
 | .neg a=>31::flat a
 | .bin op a b=>op::(flat a++flat b)
noncomputable def TmOk:Tm->Prop
 | .leaf i=>i=0\/i=1\/i=2
 | .neg a=>TmOk a
 | .bin op a b=>(op=18\/op=19\/op=32)/\TmOk a/\TmOk b
noncomputable def zOf (y v i:Int):Int:=if i=0 then y else v
noncomputable def truthOf (num:Int) (t p:List Nat) (r:List (List Nat)) (y v i:Int):Bool:=if i=1 then fits t p r else dRight (zOf y v i) num==dWant (zOf y v i) num
noncomputable def valT (tr:Int->Bool):Tm->Bool
 | .leaf i=>tr i
 | .neg a=>!valT tr a
 | .bin op a b=>FB.join op (valT tr a) (valT tr b)
noncomputable def askT (num:Int) (t p:List Nat) (r:List (List Nat)) (y v:Int):Tm->List AV->Bool×List AV
 | .leaf i,tl=>if i=1 then (true,tl++[toldF num t (fits t p r)]) else if dDiv (zOf y v i)=0 then (false,tl) else (true,tl++[toldD i num t (zOf y v i)])
 | .neg a,tl=>askT num t p r y v a tl
 | .bin _ a b,tl=>if (askT num t p r y v b tl).1=true then askT num t p r y v a (askT num t p r y v b tl).2 else askT num t p r y v b tl
theorem ask_leaf {num:Int} {t p:List Nat} {r:List (List Nat)} {y v i:Int} {tl:List AV}:askT num t p r y v (.leaf i) tl=if i=1 then (true,tl++[toldF num t (fits t p r)]) else if dDiv (zOf y v i)=0 then (false,tl) else (true,tl++[toldD i num t (zOf y v i)]):=rfl
theorem ask_bin {num:Int} {t p:List Nat} {r:List (List Nat)} {y v op:Int} {a b:Tm} {tl:List AV}:askT num t p r y v (.bin op a b) tl=if (askT num t p r y v b tl).1=true then askT num t p r y v a (askT num t p r y v b tl).2 else askT num t p r y v b tl:=rfl
theorem ask_ok (num:Int) (t p:List Nat) (r:List (List Nat)) (y v:Int):∀ (T:Tm) (tl:List AV),(∀ N,BdL N tl)->(∀ N,BdL N (askT num t p r y v T tl).2)/\(askT num t p r y v T tl).2.length<=tl.length+(flat T).length
 | .leaf i,tl,h=>by
  rw [ask_leaf]
  by_cases q:i=1
  ·rw [if_pos q];exact ⟨λ N=>bdL_app (h N) (toldF_bd _ _ _ _),Nat.le_of_eq List.length_append⟩
  ·rw [if_neg q]
   by_cases q:dDiv (zOf y v i)=0
   ·rw [if_pos q];exact ⟨h,Nat.le_add_right _ _⟩
   ·rw [if_neg q];exact ⟨λ N=>bdL_app (h N) (toldD_bd _ _ _ _ _),Nat.le_of_eq List.length_append⟩
 | .neg a,tl,h=>⟨(ask_ok num t p r y v a tl h).1,Nat.le_succ_of_le (ask_ok num t p r y v a tl h).2⟩
 | .bin op a b,tl,h=>by
  obtain ⟨h1,h2⟩:=ask_ok num t p r y v b tl h
  rw [ask_bin,show (flat (.bin op a b)).length=(flat a++flat b).length+1 from rfl,List.length_append]
  by_cases q:(askT num t p r y v b tl).1=true
  ·rw [if_pos q]
   obtain ⟨h3,h4⟩:=ask_ok num t p r y v a _ h1
   exact ⟨h3,by lia⟩
  ·rw [if_neg q]
   exact ⟨h1,by lia⟩
noncomputable def FTm:FT Tm where
 rep _:=.none
 minus:=.neg
 join:=.bin
 sz T:=(flat T).length
 hm _:=Nat.le_refl _
 hj op a b:=Nat.succ_le_succ (Nat.le_of_eq List.length_append)
 bd _ _:=trivial
theorem formu_rel {α β:Type} {F:FT α} {G:FT β} {R:α->β->Prop} (hm:∀ {a b},R a b->R (F.minus a) (G.minus b)) (hj:∀ {a b c d} (u:Int),R a b->R c d->R (F.join (opJ u) a c) (G.join (opJ u) b d)) {lf:Int->α} {lg:Int->β} (hl:∀ i,R (lf i) (lg i)) (x:Int):R (formu F lf x) (formu G lg x):=by
 have hs:∀ i w w' u,R w w'->R (fStep F lf x i w u) (fStep G lg x i w' u):=λ i w w' u hw=>by
  have hp:R (partOf F lf x i u) (partOf G lg x i u):=by
   unfold partOf
   by_cases q:u%2=1
   ·rw [if_pos q,if_pos q];exact hm (hl _)
   ·rw [if_neg q,if_neg q];exact hl _
  unfold fStep oneOf twoOf
  by_cases q:u/2%2=0
  ·rw [if_pos q,if_pos q,if_pos q,if_pos q];exact hj _ hw hp
  ·rw [if_neg q,if_neg q,if_neg q,if_neg q];exact hj _ hp hw
 have h2:=hs 2 _ _ (x/3/12) (hs 1 _ _ (x/3) (hl (x%3)))
 unfold formu
 by_cases q:x/3/12/12%2=1
 ·rw [if_pos q,if_pos q];exact hm h2
 ·rw [if_neg q,if_neg q];exact h2
theorem leaf_rel {α β:Type} {R:α->β->Prop} {a b c:α} {d e f:β} (h:R a d) (h1:R b e) (h2:R c f) (i:Int):R (leafOf a b c i) (leafOf d e f i):=by
 unfold leafOf
 by_cases q:i=0
 ·rw [if_pos q,if_pos q];exact h
 ·rw [if_neg q,if_neg q]
  by_cases q:i=1
  ·rw [if_pos q,if_pos q];exact h1
  ·rw [if_neg q,if_neg q];exact h2
noncomputable def tmOf (x:Int):Tm:=formu FTm (leafOf (.leaf 0) (.leaf 1) (.leaf 2)) x
theorem flat_formu (x:Int):formu FL (leafOf [256] [257] [258]) x=flat (tmOf x):=
 formu_rel (F:=FL) (G:=FTm) (R:=λ a b=>a=flat b) (congrArg _) (λ u h h2=>by rw [h,h2];rfl) (leaf_rel (R:=λ a b=>a=flat b) (d:=.leaf 0) (e:=.leaf 1) (f:=.leaf 2) rfl rfl rfl) x
theorem val_formu (tr:Int->Bool) (x:Int):formu FB (leafOf (tr 0) (tr 1) (tr 2)) x=valT tr (tmOf x):=
 formu_rel (F:=FB) (G:=FTm) (R:=λ a b=>a=valT tr b) (congrArg _) (λ u h h2=>by rw [h,h2];rfl) (leaf_rel (R:=λ a b=>a=valT tr b) (d:=.leaf 0) (e:=.leaf 1) (f:=.leaf 2) rfl rfl rfl) x
theorem opJ_ok (u:Int):opJ u=18\/opJ u=19\/opJ u=32:=by
 unfold opJ
 by_cases q:u=0
 ·rw [if_pos q];exact .inl rfl
 ·rw [if_neg q]
  by_cases q:u=1
  ·rw [if_pos q];exact .inr (.inl rfl)
  ·rw [if_neg q];exact .inr (.inr rfl)
theorem tm_ok (x:Int):TmOk (tmOf x)/\(flat (tmOf x)).length<=8:=by
 refine ⟨formu_rel (F:=FTm) (G:=FTm) (R:=λ a z=>TmOk a) (lg:=leafOf (.leaf 0) (.leaf 0) (.leaf 0)) id (λ u h h2=>⟨opJ_ok u,h,h2⟩) (leaf_rel (R:=λ a (z:Tm)=>TmOk a) (a:=.leaf 0) (b:=.leaf 1) (c:=.leaf 2) (d:=.leaf 0) (e:=.leaf 0) (f:=.leaf 0) (Or.inl rfl) (Or.inr (Or.inl rfl)) (Or.inr (Or.inr rfl))) x,?_⟩
 have hl:∀ i,FTm.sz (leafOf (.leaf 0) (.leaf 1) (.leaf 2) i)<=1:=leaf_rel (R:=λ a (z:Tm)=>FTm.sz a<=1) (d:=.leaf 0) (e:=.leaf 0) (f:=.leaf 0) (Nat.le_refl _) (Nat.le_refl _) (Nat.le_refl _)
 have h2:=step_sz (F:=FTm) (x:=x) (i:=2) (u:=x/3/12) hl (step_sz (i:=1) (x:=x) (u:=x/3) hl (hl (x%3)))
 show FTm.sz (formu FTm (leafOf (.leaf 0) (.leaf 1) (.leaf 2)) x)<=8
 unfold formu
 by_cases q:x/3/12/12%2=1
 ·rw [if_pos q];exact Nat.succ_le_succ h2
 ·rw [if_neg q];exact Nat.le_succ_of_le h2
noncomputable def syms:List Int:=[18,19,31,32,256,257,258]
theorem flat_syms:∀ (T:Tm),TmOk T->∀ s∈flat T,s∈syms
 | .leaf i,h,s,hs=>by
  cases List.mem_singleton.mp hs
  rcases h with rfl | rfl | rfl<;>decide
 | .neg a,h,s,hs=>by
  rcases List.mem_cons.mp hs with rfl | hs
  ·decide
  ·exact flat_syms a h s hs
 | .bin op a b,h,s,hs=>by
  obtain ⟨h1,h2,h3⟩:=h
  rcases List.mem_cons.mp hs with rfl | hs
  ·rcases h1 with rfl | rfl | rfl<;>decide
  ·exact (List.mem_append.mp hs).elim (flat_syms a h2 s) (flat_syms b h3 s)
theorem marks_cons {w o:Int} {i:Nat} {r:List Int}:marks w i (o::r)=(if ((i:Int)+w)%3=0 then o+128 else o)::marks w (i+1) r:=rfl
theorem marks_app (w:Int):∀ (a b:List Int) (i:Nat),marks w i (a++b)=marks w i a++marks w (i+a.length) b
 | [],b,i=>rfl
 | x::a,b,i=>by
  rw [List.cons_append,marks_cons,marks_app w a b (i+1),List.length_cons,Nat.add_right_comm,<- Nat.add_assoc];rfl
theorem marks_len (w:Int):∀ (a:List Int) (i:Nat),(marks w i a).length=a.length
 | [],_=>rfl
 | x::a,i=>congrArg (·+1) (marks_len w a (i+1))
theorem pvL_stop {b v:Int} (h:b/64%2=0) (r:List Int):pvL b v r=some (v,0):=by
 cases r<;>exact if_neg (by rw [h];decide)
theorem pvL_go {b v c:Int} (h:b/64%2=1) (r:List Int):pvL b v (c::r)=(pvL c (v*64+c%64) r).map λ q=>(q.1,q.2+1):=if_pos h
theorem mark_one (o:Int) (c:Prop) [Decidable c]:(if c then o+128 else o)/64%2=o/64%2/\(if c then o+128 else o)%64=o%64:=by
 by_cases q:c
 ·rw [if_pos q,show o+128=o+2*64 from rfl,Int.add_mul_ediv_right _ _ (by decide),Int.add_mul_emod_self_right,Int.add_emod_right]
  exact ⟨rfl,rfl⟩
 ·rw [if_neg q];exact ⟨rfl,rfl⟩
theorem octR_succ {s:Int} {j:Nat}:octR s (j+1)=octG s (j+1)::octR s j:=rfl
theorem pv_cons {b:Int} {r:List Int}:pv (b::r)=(pvL b (b%64) r).map λ q=>(q.1,q.2+1):=rfl
theorem mod64 (q:Int):q%64/64=0:=Int.ediv_eq_zero_of_lt (Int.emod_nonneg _ (by decide)) (Int.emod_lt_of_pos _ (by decide))
theorem octG_head (s:Int) (j:Nat):octG s (j+1)/64%2=1/\octG s (j+1)%64=s/64^(j+1)%64:=by
 rw [octG,if_pos (Nat.succ_pos j),show (64:Int)*1=1*64 from rfl,Int.add_mul_ediv_right _ _ (by decide),Int.add_mul_emod_self_right,Int.emod_emod,mod64]
 exact ⟨rfl,rfl⟩
theorem octG_last (s:Int):octG s 0/64%2=0/\octG s 0%64=s%64:=by
 rw [octG,if_neg (Nat.lt_irrefl 0),Int.pow_zero,Int.ediv_one,Int.mul_zero,Int.add_zero,mod64,Int.emod_emod]
 exact ⟨rfl,rfl⟩
theorem div64 (s:Int) (j:Nat):s/64^(j+1)*64+s/64^j%64=s/64^j:=by
 rw [Int.pow_succ,<- Int.ediv_ediv_of_nonneg (Int.pow_nonneg (by decide)),Int.mul_comm]
 exact Int.mul_ediv_add_emod _ _
theorem pvL_oct (s w:Int) (rest:List Int):∀ (j i:Nat) (b:Int),b/64%2=1->pvL b (s/64^(j+1)) (marks w i (octR s j)++rest)=some (s,j+1)
 | 0,i,b,hb=>by
  have m:=mark_one (octG s 0) (((i:Int)+w)%3=0)
  rw [show octR s 0=[octG s 0] from rfl,marks_cons,List.cons_append,pvL_go hb,pvL_stop (m.1.trans (octG_last s).1),m.2,(octG_last s).2]
  have h:=div64 s 0
  rw [Int.pow_zero,Int.ediv_one] at h
  rw [h];rfl
 | j+1,i,b,hb=>by
  have m:=mark_one (octG s (j+1)) (((i:Int)+w)%3=0)
  rw [octR_succ,marks_cons,List.cons_append,pvL_go hb,m.2,(octG_head s j).2,div64,pvL_oct s w rest j (i+1) _ (m.1.trans (octG_head s j).1)];rfl
theorem read_one {s:Int} (h0:0<=s) (w:Int) (i:Nat) (rest:List Int):pv (marks w i (octR s (topJ s))++rest)=some (s,topJ s+1):=by
 have hb:Builtin.Int.intBits s<=6*(topJ s+1):=Nat.le_of_pred_lt (Nat.lt_mul_div_succ (Builtin.Int.intBits s - 1) (by decide))
 have hs:s<64^(topJ s+1):=by
  rw [show (64:Int)^(topJ s+1)=2^(6*(topJ s+1)) by rw [Int.pow_mul];rfl]
  exact Int.lt_of_lt_of_le (bits_up h0) (two_le hb)
 revert hs
 generalize topJ s=j
 intro hs
 have hd:s/64^j%64=s/64^j:=Int.emod_eq_of_lt (Int.ediv_nonneg h0 (Int.pow_nonneg (by decide))) (Int.ediv_lt_of_lt_mul (Int.pow_pos (by decide)) (by rw [Int.mul_comm,<- Int.pow_succ];exact hs))
 cases j with
 | zero=>
  have m:=mark_one (octG s 0) (((i:Int)+w)%3=0)
  rw [show octR s 0=[octG s 0] from rfl,marks_cons,List.cons_append,pv_cons,pvL_stop (m.1.trans (octG_last s).1),m.2,(octG_last s).2]
  rw [Int.pow_zero,Int.ediv_one] at hd
  rw [hd];rfl
 | succ j=>
  have m:=mark_one (octG s (j+1)) (((i:Int)+w)%3=0)
  rw [octR_succ,marks_cons,List.cons_append,pv_cons,m.2,(octG_head s j).2,hd,pvL_oct s w rest j (i+1) _ (m.1.trans (octG_head s j).1)];rfl
end
section
variable {B:BC} {k:Nat}
noncomputable def sgL:List (Int×Str):=[(7,⟨#[40]⟩),(8,⟨#[41]⟩),(9,⟨#[91]⟩),(10,⟨#[93]⟩),(12,⟨#[44]⟩),(18,⟨#[124]⟩),(19,⟨#[38]⟩),(32,⟨#[94]⟩),(31,⟨#[126]⟩)]
theorem dc_all {χ:List Nat} {hn:HK} {σ:St} {K:List (Int×Str)->St->Prop}:∀ (cs l:List (Int×Str)) (y:Option AV),(∀ q∈cs,tokTab.lookup q.2=some q.1)->((l++cs).map (·.1)).Nodup->(l++cs).length<=50->K (l++cs) σ->
  dcK (.one (.loc 0)) (E.subK tokTab (E.loc 0)) (E.loc 0) (cs.map λ q=>.str q.2) ⟨[y],χ,hn⟩ σ l K
 | [],l,y,_,_,_,hK=>by rw [List.append_nil] at hK;exact hK
 | (i,c)::cs,l,y,h,hnd,hz,hK=>by
  refine ⟨_,rfl,_,rfl,c,i,rfl,h _ List.mem_cons_self,i,rfl,_,rfl,c,rfl,?_,?_,?_⟩
  ·rw [List.map_append] at hnd
   exact λ hm=>(List.nodup_append.mp hnd).2.2 i hm i List.mem_cons_self rfl
  ·rw [List.length_append] at hz;exact Nat.lt_of_le_of_lt (Nat.le_trans (Nat.le_add_right _ _) hz) (by decide)
  ·rw [show l++(i,c)::cs=(l++[(i,c)])++cs from List.append_cons ..] at hnd hz hK
   exact dc_all cs (l++[(i,c)]) _ (λ q hq=>h q (List.mem_cons_of_mem _ hq)) hnd hz hK
theorem ev_signs {fr:AFr} {σ:St} (hn:fr.hnd=.no):Ev (E.dcomp 1 0 [] (Y.str "()[],|&^~") (.one (.loc 0)) (E.subK tokTab (E.loc 0)) (E.loc 0)) fr σ (.dct (.numd (dctOf sgL))):=λ K X hK=>by
 have e:("()[],|&^~":Str).cps.toList=[40,41,91,93,44,124,38,94,126]:=by decide+kernel
 refine ⟨hn,?_⟩
 rw [e]
 show dcK _ _ _ _ _ (σ++[]) [] _
 rw [List.append_nil]
 exact dc_all sgL [] none (by decide+kernel) (by decide) (by decide) hK
theorem toPDs_ints:∀ l:List Int,toPDs (l.map .int)=some (l.map .int)
 | []=>rfl
 | x::r=>by show (match some (PyData.int x),toPDs (r.map .int) with | some d,some ds=>some (d::ds) | _,_=>none)=_;rw [toPDs_ints r];rfl
theorem lay_ints:∀ l:List Int,PyData.canLayAll0 (l.map .int)=true/\PyData.depthAll (l.map .int)=0
 | []=>⟨rfl,rfl⟩
 | x::r=>by
  rw [List.map_cons,PyData.canLayAll0,PyData.depthAll,(lay_ints r).1,(lay_ints r).2]
  exact ⟨rfl,rfl⟩
theorem eqNil (l:List Int) (Q:Bool->Prop) (h:Q l.isEmpty):cmpEq (.lst (l.map .int)) (.lst []) Q:=by
 refine ⟨.list (l.map .int),.list [],by show Option.map _ (toPDs _)=_;rw [toPDs_ints];rfl,rfl,?_,rfl,?_⟩
 ·unfold SeqAt.shaped
  rw [PyData.canLay0,PyData.depth,(lay_ints l).1,(lay_ints l).2];rfl
 ·rw [show PyData.eqv (.list (l.map .int)) (.list [])=l.isEmpty by rw [PyData.eqv];cases l<;>rw [List.map,PyData.eqvAll]<;>first | rfl | exact λ q=>nomatch q]
  exact h
section
variable {fr:AFr} {σ:St} {f g:PE} {t u:PT} {c:Bool} {n:Nat} {l:List AV} {b:AV}
theorem Tv.cmpD (h:Ev f fr σ (.loc n)) (h2:Ev g fr σ b) (e:σ[n]?=some (.lst l)) (ho:∀ Q:Bool->Prop,Q c->cmpEq (.lst l) b Q):Tv (T.cmpD f g) fr σ c:=λ K X hK=>h _ _ (h2 _ _ ⟨n,l,rfl,e,ho _ hK⟩)
theorem Tv.orT (h:Tv t fr σ true):Tv (T.or t u) fr σ true:=λ K X hK=>h _ _ ⟨λ q=>(nomatch q),λ z=>hK⟩
theorem Tv.orF (h:Tv t fr σ c):Tv (T.or t (T.c false)) fr σ c:=match c with
 | true=>Tv.orT h
 | false=>Tv.or2 h Tv.c
end
noncomputable def readT:PT:=(T.or (T.cmpD (E.loc 3) (E.lst L.nil)) (T.or (T.not (T.val (E.call true (onVal 124 spEof) (E.c (.val (.ref 124))) (L.cons (E.sub (E.loc 3) (E.neg (E.c (.int 1)))) L.nil)))) (T.c false)))
noncomputable def readB:PS:=(S.cons (S.expr (E.meth "list" opAppend (E.loc 3) (L.cons (E.call true (onVal 93 spVar) (E.c (.val (.ref 93))) (L.cons (E.loc 2) L.nil)) L.nil))) S.nil)
noncomputable abbrev rdS (β:St) (ls:List Int) (i:Nat) (done:List Int) (z:AObj):St:=β++[.ite (ls.map .int) i,.lst (done.map .int),z]
section
variable {β:St} {ρ:List (Option AV)} {χ:List Nat} {N:PN} {R:PK} {X:PX} {ls:List Int} {w:Int} {z:AObj} {Bk:PN}
theorem read_last {i:Nat} {d:List Int} {x:Int} (h3:ρ[3]?=some (some (.loc (β.length+1)))):Tv readT ⟨ρ,χ,HK.no⟩ (rdS β ls i (d++[x]) z) (!decide (x=0)):=by
 refine Tv.or2 (Tv.cmpD (Ev.loc h3) (Ev.lst Lv.nil) (get_app ..) λ Q h=>eqNil _ Q ?_) (Tv.orF (Tv.not (Tv.val (Ev.call rfl Ev.c onVal_self (Lv.one (Ev.subO (l:=d.map .int++[.int x]) (x:=.int x) (Ev.loc h3) (Ev.neg Ev.c) ?_ ⟨by decide,by decide⟩ (lastIx _ _) (get_app _ _ 0))) λ K X h=>⟨x,h⟩) λ o h=>h)))
 ·rw [show (d++[x]).isEmpty=false by cases d<;>rfl];exact h
 ·exact (get_app ..).trans (congrArg (λ l=>some (AObj.lst l)) (List.map_append ..))
theorem read_step {i:Nat} {d:List Int} {s:Int} {m:Nat} (h2:ρ[2]?=some (some (.loc (β.length+0)))) (h3:ρ[3]?=some (some (.loc (β.length+1)))) (hls:ls.length<=1000) (hd:d.length<=300) (hp:pv (ls.drop i)=some (s,m)) (hN:N ρ (rdS β ls (i+m) (d++[s]) z)):
  readB ⟨ρ,χ,HK.no⟩ (rdS β ls i d z) N R Bk X:=by
 have hg:∀ i,(rdS β ls i d z)[β.length+1]?=some (.lst (d.map .int)):=λ i=>get_app ..
 refine ⟨rfl,Ev.loc h3 _ _ ?_⟩
 refine ⟨⟨rfl,_,hg i⟩,⟨λ o=>rfl,Ev.c _ _ ⟨_,onVal_self,Ev.loc h2 _ _ (.some (β.length+0) ls i (s,m) (get_app ..) hls hp ?_)⟩⟩⟩
 rw [show List.set (rdS β ls i d z) (β.length+0) _=rdS β ls (i+m) d z from set_app ..]
 refine ⟨⟨rfl,_,hg _⟩,⟨_,hg _,by rw [List.length_map];exact small_len (Nat.le_trans hd (by decide)),?_⟩⟩
 show N ρ (List.set (rdS β ls (i+m) d z) (β.length+1) (.lst (d.map AV.int++[.int s])))
 rw [show d.map AV.int++[.int s]=(d++[s]).map .int by rw [List.map_append];rfl,show List.set (rdS β ls (i+m) d z) (β.length+1) (.lst ((d++[s]).map .int))=rdS β ls (i+m) (d++[s]) z from set_app ..]
 exact hN
theorem read_loop (h2:ρ[2]?=some (some (.loc (β.length+0)))) (h3:ρ[3]?=some (some (.loc (β.length+1)))) (hls:ls.length<=1000):
  ∀ (rem d:List Int) (i:Nat),(∀ s∈rem,0<s)->Tv readT ⟨ρ,χ,HK.no⟩ (rdS β ls i d z) true->d.length+rem.length<=200->ls.drop i=marks w i (octets (rem++[0]))->i<=ls.length->
  N ρ (rdS β ls ls.length (d++rem++[0]) z)->whileK readT readB (rem.length+2) ⟨ρ,χ,HK.no⟩ (rdS β ls i d z) N R X
 | [],d,i,_,ht,hlen,hdrop,hi,hN=>by
  have e:=congrArg List.length hdrop
  rw [List.length_drop,marks_len,show octets ([]++[0])=octR 0 (topJ 0)++[] from rfl,List.append_nil,octR_len] at e
  rw [List.append_nil,show ls.length=i+(topJ 0+1) by lia] at hN
  exact ht _ _ ⟨λ o=>read_step h2 h3 hls (Nat.le_trans (Nat.le_add_right _ _) (Nat.le_trans hlen (by decide))) (by rw [hdrop];exact read_one (Int.le_refl 0) w i []) ((show Tv readT _ _ false from read_last (x:=0) h3) _ _ ⟨λ q=>(nomatch q),λ o=>hN⟩),λ q=>nomatch q⟩
 | s::rem,d,i,hs,ht,hlen,hdrop,hi,hN=>by
  have s0:=hs s List.mem_cons_self
  rw [show octets (s::rem++[0])=octR s (topJ s)++octets (rem++[0]) from rfl,marks_app,octR_len] at hdrop
  have hm:(marks w i (octR s (topJ s))).length=topJ s+1:=by rw [marks_len,octR_len]
  have e:=congrArg List.length hdrop
  rw [List.length_drop,List.length_append,hm] at e
  rw [List.length_cons] at hlen
  refine ht _ _ ⟨λ o=>read_step h2 h3 hls (by lia) (by rw [hdrop];exact read_one (Int.le_of_lt s0) w i _) (read_loop h2 h3 hls rem (d++[s]) (i+(topJ s+1)) (λ x hx=>hs x (List.mem_cons_of_mem _ hx)) ?_ ?_ ?_ (by lia) ?_),λ q=>nomatch q⟩
  ·have h:=read_last (β:=β) (ρ:=ρ) (χ:=χ) (ls:=ls) (z:=z) (i:=i+(topJ s+1)) (d:=d) (x:=s) h3
   rw [decide_eq_false (Int.ne_of_gt s0)] at h
   exact h
  ·rw [List.length_append,List.length_singleton];lia
  ·rw [<- List.drop_drop,hdrop,<- hm,List.drop_left]
  ·rw [List.append_assoc d];exact hN
end
end
section
variable {B:BC} {k:Nat}
structure C4At (σ:St) (cs:List Nat) (num:Int) (t p:List Nat) (r:List (List Nat)) (y v:Int) (n:Nat) (tl:List AV):Prop where
 c0:σ[cs[0]!]?=some (.cel (some (.lst [divA y num,divA v num])))
 c1:σ[cs[1]!]?=some (.cel (some (txt (glue p r))))
 c2:σ[cs[2]!]?=some (.cel (some (.loc n)))
 cs:cs=[cs[0]!,cs[1]!,cs[2]!]
 at_:σ[n]?=some (.lst tl)
 len:tl.length<=100
 bd:∀ N,BdL N tl
 ok:AnsOk num t p r y v
noncomputable abbrev sgD:AV:=.dct (.numd (dctOf sgL))
noncomputable def stt (μ:St) (row:List Int) (st:List Bool):St:=μ++[.cel (some sgD),.gone,.lst (row.map .int),.lst (st.reverse.map .bool)]
noncomputable def evB:PS:=(S.cons (S.ite (T.val (E.call true (onVal 117 spNonterm) (E.c (.val (.ref 117))) (L.cons (E.loc 7) L.nil))) (S.cons (S.set (.loc 12) (E.callK true (onVal 86 spName) (E.c (.val (.ref 86))) (L.cons (E.bin opSub (E.loc 7) (E.c (.int 256))) (L.cons (E.loc 1) L.nil)) (L.cons (E.loc 10) (L.cons (E.loc 11) L.nil))))
 (S.cons (S.ite (T.or (T.not (T.val (E.app opIsTup (L.cons (E.loc 12) (L.cons (E.c (.val (.type "tuple"))) L.nil))))) (T.or (T.cmp cmpIsNot (E.sub (E.loc 12) (E.c (.int 0))) (E.sub (E.loc 12) (E.c (.int 1)))) (T.c false))) S.bot S.nil)
 (S.cons (S.expr (E.meth "list" opAppend (E.loc 5) (L.cons (E.sub (E.loc 12) (E.c (.int 0))) L.nil)))
 S.nil))) (S.cons (S.ite (T.cmp cmpEq (E.sub (E.cel 0) (E.loc 7)) (E.c (.str "~"))) (S.cons (S.expr (E.meth "list" opAppend (E.loc 5) (L.cons (E.not (E.meth "list" opPop (E.loc 5) L.nil)) L.nil)))
 S.nil) (S.cons (S.setW [.loc 13,.loc 14] (E.tup (L.cons (E.meth "list" opPop (E.loc 5) L.nil) (L.cons (E.meth "list" opPop (E.loc 5) L.nil) L.nil))))
 (S.cons (S.expr (E.meth "list" opAppend (E.loc 5) (L.cons (E.ite (T.cmp cmpEq (E.sub (E.cel 0) (E.loc 7)) (E.c (.str "^"))) (E.cmp cmpNe (E.loc 13) (E.loc 14)) (E.ite (T.cmp cmpEq (E.sub (E.cel 0) (E.loc 7)) (E.c (.str "|"))) (E.or (E.loc 13) (E.loc 14)) (E.and (E.loc 13) (E.loc 14)))) L.nil)))
 S.nil)))
 S.nil))
 S.nil)
theorem get_l {σ τ:St} {i:Nat} {x:AObj} (h:σ[i]?=some x):(σ++τ)[i]?=some x:=by
 rw [List.getElem?_append_left (List.getElem?_eq_some_iff.mp h).1];exact h
section
variable {σ μ τ:St} {cs:List Nat} {num:Int} {t p:List Nat} {r:List (List Nat)} {y v:Int} {n q0:Nat} {tl tl':List AV} {row:List Int} {st:List Bool}
theorem C4At.upd (C:C4At σ cs num t p r y v n tl) (hl:tl'.length<=100) (hb:∀ N,BdL N tl'):C4At (σ.set n (.lst tl')) cs num t p r y v n tl':=by
 have hn:n<σ.length:=(List.getElem?_eq_some_iff.mp C.at_).1
 have g:∀ {i:Nat} {x:Option AV},σ[i]?=some (.cel x)->(σ.set n (.lst tl'))[i]?=some (.cel x):=λ {i x} h=>by
  rw [List.getElem?_set_ne λ q=>by rw [<- q,C.at_] at h;exact nomatch h];exact h
 exact ⟨g C.c0,g C.c1,g C.c2,C.cs,List.getElem?_set_self hn,hl,hb,C.ok⟩
theorem C4At.ask {ix:Int} {K:PK} {X:PX} (C:C4At μ cs num t p r y v n tl) (hl:tl.length+1<=100) (hix:ix=0\/ix=1\/ix=2) (h1:(askT num t p r y v (.leaf ix) tl).1=true->K (.bool (truthOf num t p r y v ix)) ((μ++τ).set n (.lst (askT num t p r y v (.leaf ix) tl).2))) (h2:(askT num t p r y v (.leaf ix) tl).1=false->X "ZeroDivisionError" (μ++τ)):
  AnsK ix num t p r y v n (μ++τ) K X:=by
 rw [ask_leaf] at h1 h2
 unfold truthOf at h1
 by_cases e:ix=1
 ·rw [if_pos e,if_pos e] at h1
  exact .fit tl C.ok (get_l C.at_) C.len C.bd e (h1 rfl)
 ·rw [if_neg e,if_neg e] at h1
  rw [if_neg e] at h2
  refine .div (zOf y v ix) tl C.ok (get_l C.at_) C.len C.bd ?_ (λ q=>?_) λ q=>?_
  ·unfold zOf
   rcases hix with rfl | rfl | rfl
   ·exact .inl ⟨rfl,rfl⟩
   ·exact absurd rfl e
   ·exact .inr ⟨rfl,rfl⟩
  ·rw [if_pos q] at h2;exact h2 rfl
  ·rw [if_neg q] at h1;exact h1 rfl
theorem stt_set {x:AObj} (h:n<μ.length):(stt μ row st).set n x=stt (μ.set n x) row st:=List.set_append_left _ _ h
theorem stt_get (hq:μ.length=q0):(stt μ row st)[q0+3]?=some (.lst (st.reverse.map .bool)):=by rw [<- hq];exact get_app ..
theorem stt_put {st':List Bool} (hq:μ.length=q0):(stt μ row st).set (q0+3) (.lst (st'.reverse.map .bool))=stt μ row st':=by rw [<- hq];exact set_app ..
theorem rev_cons (b:Bool) (st:List Bool):((b::st).reverse.map AV.bool)=st.reverse.map .bool++[.bool b]:=by rw [List.reverse_cons,List.map_append];rfl
theorem st_len (h:st.length<=100):(st.reverse.map AV.bool).length<=sizeLine:=by rw [List.length_map,List.length_reverse];exact small_len (Nat.le_trans h (by decide))
theorem push_st {b:Bool} {K:PK} (hq:μ.length=q0) (hst:st.length<=100) (hK:K .none (stt μ row (b::st))):opAppend (.loc (q0+3)) [.bool b] (stt μ row st) K:=by
 refine ⟨_,stt_get hq,st_len hst,?_⟩
 rw [<- stt_put (st:=st) (st':=b::st) hq,rev_cons] at hK
 exact hK
theorem pop_st {b:Bool} {fr:AFr} {K:PK} {X:PX} (hn:fr.hnd=.no) (hf:fr.ρ[5]?=some (some (.loc (q0+3)))) (hq:μ.length=q0) (hst:st.length<=99) (hK:K (.bool b) (stt μ row st)):E.meth "list" opPop (E.loc 5) L.nil fr (stt μ row (b::st)) K X:=by
 refine ⟨hn,Ev.loc hf _ _ ?_⟩
 refine ⟨⟨rfl,_,stt_get hq⟩,⟨⟨rfl,_,stt_get hq⟩,⟨st.reverse.map .bool,.bool b,by rw [stt_get hq,rev_cons],?_,?_⟩⟩⟩
 ·rw [List.length_map,List.length_reverse]
  exact Nat.lt_of_le_of_lt hst (Nat.lt_trans (by decide) big_line)
 ·rw [stt_put hq];exact hK
end
noncomputable def evF (q0:Nat) (cs:List Nat) (num:Int) (t:List Nat) (a0 a2 a3 a4 a6 a8 a9 z7 z12 z13 z14:Option AV):AFr:=
 ⟨[a0,some (.clo 4 cs),a2,a3,a4,some (.loc (q0+3)),a6,z7,a8,a9,some (.int num),some (txt t),z12,z13,z14],[q0],HK.no⟩
section
variable {μ:St} {q0:Nat} {cs:List Nat} {num:Int} {t p:List Nat} {r:List (List Nat)} {y v:Int} {n:Nat} {a0 a2 a3 a4 a6 a8 a9:Option AV} {N Bk:PN} {R:PK} {X:PX} {row:List Int} {tl:List AV} {st:List Bool} {z7 z12 z13 z14:Option AV}
theorem nonterm_ev {s:Int} {c:Bool} {σ:St} {fr:AFr} (h0:fr.hnd=.no) (h:fr.ρ[7]?=some (some (.int s))) (hc:decide (256<=s)=c):Tv (T.val (E.call true (onVal 117 spNonterm) (E.c (.val (.ref 117))) (L.cons (E.loc 7) L.nil))) fr σ c:=
 Tv.val (Ev.call (v:=.bool c) h0 Ev.c onVal_self (Lv.one (Ev.loc h)) λ K X hK=>⟨s,by rw [hc];exact hK⟩) λ z h=>h
theorem ev_leaf {ix:Int} (hq:μ.length=q0) (C:C4At μ cs num t p r y v n tl) (hix:ix=0\/ix=1\/ix=2) (hst:st.length<=100) (htl:tl.length+1<=100)
  (h1:(askT num t p r y v (.leaf ix) tl).1=true->∀ z12,N (evF q0 cs num t a0 a2 a3 a4 a6 a8 a9 (some (.int (256+ix))) z12 z13 z14).ρ (stt (μ.set n (.lst (askT num t p r y v (.leaf ix) tl).2)) row (truthOf num t p r y v ix::st)))
  (h2:(askT num t p r y v (.leaf ix) tl).1=false->X "ZeroDivisionError" (stt μ row st)):
  evB (evF q0 cs num t a0 a2 a3 a4 a6 a8 a9 (some (.int (256+ix))) z12 z13 z14) (stt μ row st) N R Bk X:=by
 have hn:n<μ.length:=(List.getElem?_eq_some_iff.mp C.at_).1
 have hi:Ev (E.bin opSub (E.loc 7) (E.c (.int 256))) (evF q0 cs num t a0 a2 a3 a4 a6 a8 a9 (some (.int (256+ix))) z12 z13 z14) (stt μ row st) (.int ix):=by
  have h:=Ev.min (fr:=evF q0 cs num t a0 a2 a3 a4 a6 a8 a9 (some (.int (256+ix))) z12 z13 z14) (σ:=stt μ row st) (Ev.loc (i:=7) rfl) (Ev.c (v:=.int 256))
  rw [show (256+ix - 256:Int)=ix by lia] at h
  exact h
 have hc:decide (256<=256+ix)=true:=decide_eq_true (by lia)
 have hcs:(evF q0 cs num t a0 a2 a3 a4 a6 a8 a9 (some (.int (256+ix))) z12 z13 z14).ρ[1]?=some (some (.clo 4 [cs[0]!,cs[1]!,cs[2]!])):=congrArg (λ c=>some (some (AV.clo 4 c))) C.cs
 refine ite_ev (nonterm_ev rfl rfl hc) (λ z=>?_) λ q=>nomatch q
 refine ⟨λ z=>rfl,Ev.c _ _ ⟨_,onVal_self,(Lv.cons hi (Lv.one (Ev.loc hcs))) _ _ ((Lv.cons (Ev.loc rfl) (Lv.one (Ev.loc rfl))) _ _ (.mk _ _ _ ix num t p r y v n (get_l C.c0) (get_l C.c1) (get_l C.c2) (C.ask htl hix (λ e=>?_) h2)))⟩⟩
 -- answered:pushed
 have h:=h1 e (some (.tup [.bool (truthOf num t p r y v ix),.bool (truthOf num t p r y v ix)]))
 rw [show (μ++_:St).set n _=_ from stt_set (row:=row) (st:=st) hn]
 generalize truthOf num t p r y v ix=b at*
 refine if_no (Tv.or2 (Tv.not (Tv.val (c₁:=true) (Ev.app (v:=.bool true) rfl (Lv.cons (Ev.loc rfl) (Lv.one Ev.c)) λ Q h=>⟨rfl,h⟩) λ z h=>h)) (Tv.orF (Tv.cmp (Ev.subT (n:=0) (v:=.bool b) (Ev.loc rfl) Ev.c rfl rfl (by decide)) (Ev.subT (n:=1) (v:=.bool b) (Ev.loc rfl) Ev.c rfl rfl (by decide)) λ Q h=>?_))) ?_
 ·show Q (!(b==b))
  rw [beq_self_eq_true];exact h
 ·have hq':=(List.length_set (as:=μ) (i:=n) (a:=.lst (askT num t p r y v (.leaf ix) tl).2)).trans hq
  refine ⟨rfl,Ev.loc rfl _ _ ?_⟩
  exact ⟨⟨rfl,_,stt_get hq'⟩,Ev.subT (n:=0) (v:=.bool b) (Ev.loc rfl) Ev.c rfl rfl (by decide) _ _ ⟨⟨rfl,_,stt_get hq'⟩,push_st hq' hst h⟩⟩
theorem txt1 {c:Nat} (h:c<0x110000):TxtOk [c]:=λ x hx=>by rw [List.mem_singleton.mp hx];exact h
theorem sign_ev {s:Int} {l m:List Nat} {c:Bool} {d:Str} {fr:AFr} (hd:dctOf sgL s=some (ofL l)) (hl:TxtOk l) (hm:TxtOk m) (e:d=ofL m) (hc:(l==m)=c) (hq:μ.length=q0) (hχ:fr.χ=[q0]) (h:fr.ρ[7]?=some (some (.int s))):
  Tv (T.cmp cmpEq (E.sub (E.cel 0) (E.loc 7)) (E.c (.str d))) fr (stt μ row st) c:=
 Tv.cmp (Ev.sub (a:=sgD) (v:=txt l) (Ev.cel (by rw [hχ];rfl) (by rw [<- hq];exact get_app _ _ 0)) (Ev.loc h) λ Q h=>⟨_,hd,h⟩) Ev.c λ Q h=>by rw [e];rw [<- hc] at h;exact eqTxt hl hm Q h
theorem ev_neg {b:Bool} (hq:μ.length=q0) (hst:st.length<=99) (h:N (evF q0 cs num t a0 a2 a3 a4 a6 a8 a9 (some (.int 31)) z12 z13 z14).ρ (stt μ row ((!b)::st))):
  evB (evF q0 cs num t a0 a2 a3 a4 a6 a8 a9 (some (.int 31)) z12 z13 z14) (stt μ row (b::st)) N R Bk X:=by
 have hs:st.length<=100:=Nat.le_succ_of_le hst
 refine ite_ev (nonterm_ev (c:=false) rfl rfl rfl) (λ q=>nomatch q) λ z=>?_
 refine ite_ev (sign_ev (l:=[126]) (m:=[126]) (c:=true) (by decide+kernel) (txt1 (by decide)) (txt1 (by decide)) (by decide+kernel) rfl hq rfl rfl) (λ z=>?_) λ q=>nomatch q
 refine ⟨rfl,Ev.loc rfl _ _ ?_⟩
 refine ⟨⟨rfl,_,stt_get hq⟩,pop_st rfl rfl hq hst ⟨⟨rfl,_,stt_get hq⟩,push_st hq hs h⟩⟩
noncomputable def sgl (op:Int):List Nat:=if op=18 then [124] else if op=19 then [38] else [94]
theorem sgl_ok {op:Int} (h:op=18\/op=19\/op=32):dctOf sgL op=some (ofL (sgl op))/\TxtOk (sgl op)/\(sgl op==[126])=false/\(sgl op==[94])=decide (op=32)/\(sgl op==[124])=decide (op=18)/\decide (256<=op)=false:=by
 rcases h with rfl | rfl | rfl<;>exact ⟨by decide+kernel,txt1 (by decide),rfl,rfl,rfl,rfl⟩
theorem ev_bin {a b:Bool} {op:Int} (hq:μ.length=q0) (hst:st.length<=98) (hop:op=18\/op=19\/op=32)
  (h:∀ z13 z14,N (evF q0 cs num t a0 a2 a3 a4 a6 a8 a9 (some (.int op)) z12 z13 z14).ρ (stt μ row (FB.join op a b::st))):
  evB (evF q0 cs num t a0 a2 a3 a4 a6 a8 a9 (some (.int op)) z12 z13 z14) (stt μ row (a::b::st)) N R Bk X:=by
 obtain ⟨hd,hl,s1,s2,s3,s4⟩:=sgl_ok hop
 refine ite_ev (nonterm_ev rfl rfl s4) (λ q=>nomatch q) λ z=>?_
 refine ite_ev (sign_ev hd hl (txt1 (by decide)) (by decide+kernel) s1 hq rfl rfl) (λ q=>nomatch q) λ z=>?_
 refine ⟨λ q=>(nomatch q),pop_st rfl rfl hq (Nat.succ_le_succ hst) (pop_st rfl rfl hq (Nat.le_succ_of_le hst) ⟨_,rfl,rfl,?_⟩)⟩
 refine ⟨rfl,Ev.loc rfl _ _ ?_⟩
 refine ⟨⟨rfl,_,stt_get hq⟩,join_ev (sign_ev hd hl (txt1 (by decide)) (by decide+kernel) s2 hq rfl rfl) (sign_ev hd hl (txt1 (by decide)) (by decide+kernel) s3 hq rfl rfl) (Ev.loc rfl) (Ev.loc rfl) _ _ ⟨⟨rfl,_,stt_get hq⟩,push_st hq (Nat.le_trans hst (by decide)) (h _ _)⟩⟩
theorem ev_tree:∀ (T:Tm) (μ:St) (tl:List AV) (st:List Bool) (rest:List AV) (z7 z12 z13 z14:Option AV),TmOk T->μ.length=q0->C4At μ cs num t p r y v n tl->st.length+(flat T).length<=50->tl.length+(flat T).length<=50->
  ((askT num t p r y v T tl).1=true->∀ z7 z12 z13 z14,forK (.one (.loc 7)) evB rest (evF q0 cs num t a0 a2 a3 a4 a6 a8 a9 z7 z12 z13 z14) (stt (μ.set n (.lst (askT num t p r y v T tl).2)) row (valT (truthOf num t p r y v) T::st)) N R X)->
  ((askT num t p r y v T tl).1=false->∀ st',X "ZeroDivisionError" (stt (μ.set n (.lst (askT num t p r y v T tl).2)) row st'))->
  forK (.one (.loc 7)) evB ((flat T).reverse.map .int++rest) (evF q0 cs num t a0 a2 a3 a4 a6 a8 a9 z7 z12 z13 z14) (stt μ row st) N R X
 | .leaf ix,μ,tl,st,rest,z7,z12,z13,z14,ok,hq,C,l1,l2,h1,h2=>by
  refine ⟨_,rfl,ev_leaf hq C ok (Nat.le_trans (Nat.le_of_succ_le l1) (by decide)) (Nat.le_trans l2 (by decide)) (λ e z=>h1 e _ _ _ _) λ e=>?_⟩
  have h:=h2 e st
  rw [ask_leaf] at e h
  have e2:μ.set n (.lst tl)=μ:=by rw [<- (List.getElem?_eq_some_iff.mp C.at_).2,List.set_getElem_self]
  by_cases q:ix=1
  ·rw [if_pos q] at e;exact nomatch e
  ·rw [if_neg q] at e h
   by_cases q:dDiv (zOf y v ix)=0
   ·rw [if_pos q,e2] at h;exact h
   ·rw [if_neg q] at e;exact nomatch e
 | .neg a,μ,tl,st,rest,z7,z12,z13,z14,ok,hq,C,l1,l2,h1,h2=>by
  rw [show (flat (.neg a)).reverse.map AV.int++rest=(flat a).reverse.map .int++(.int 31::rest) by rw [flat,List.reverse_cons,List.map_append,List.append_assoc];rfl]
  refine ev_tree a μ tl st _ _ _ _ _ ok hq C (Nat.le_of_succ_le l1) (Nat.le_of_succ_le l2) (λ e z7 z12 z13 z14=>⟨_,rfl,ev_neg (by rw [List.length_set];exact hq) ?_ (h1 e _ _ _ _)⟩) h2
  exact Nat.le_trans (Nat.le_trans (Nat.le_add_right _ _) l1) (by decide)
 | .bin op a b,μ,tl,st,rest,z7,z12,z13,z14,ok,hq,C,l1,l2,h1,h2=>by
  obtain ⟨okop,oka,okb⟩:=ok
  rw [show (flat (.bin op a b)).reverse.map AV.int++rest=(flat b).reverse.map .int++((flat a).reverse.map .int++(.int op::rest)) by rw [flat,List.reverse_cons,List.reverse_append,List.map_append,List.map_append,List.append_assoc,List.append_assoc];rfl]
  obtain ⟨b1,b2⟩:=ask_ok num t p r y v b tl C.bd
  rw [show (flat (.bin op a b)).length=(flat a++flat b).length+1 from rfl,List.length_append] at l1 l2
  rw [ask_bin] at h1 h2
  refine ev_tree b μ tl st _ _ _ _ _ okb hq C (by lia) (by lia) (λ e z7 z12 z13 z14=>?_) λ e=>?_
  ·rw [if_pos e] at h1 h2
   refine ev_tree a _ _ (_::st) _ _ _ _ _ oka (by rw [List.length_set];exact hq) (C.upd (by lia) b1) (by rw [List.length_cons];lia) (by lia) (λ e z7 z12 z13 z14=>?_) λ e=>?_
   ·rw [List.set_set]
    exact ⟨_,rfl,ev_bin (by rw [List.length_set];exact hq) (by lia) okop λ z13 z14=>h1 e _ _ _ _⟩
   ·rw [List.set_set]
    exact h2 e
  ·rw [if_neg (by rw [e];exact Bool.false_ne_true)] at h2
   exact h2 e
end
end
section
variable {B:BC} {k:Nat}
noncomputable def SymOk (s:Int):Prop:=(256<=s/\s<16384)\/s∈[7,8,9,10,12,18,19,31,32]
noncomputable def sgC (s:Int):Nat:=((sgL.lookup s).bind λ x=>x.cps[0]?).getD s.toNat
theorem sym_sign {s:Int} (h:SymOk s) (h2:s<256):dctOf sgL s=some (ofL [sgC s])/\(!(Builtin.Str.occurrences ("([":Str) (ofL [sgC s]) 0 ("([":Str).length 1).isEmpty)=decide (s=7\/s=9):=by
 rcases h with h | h
 ·exact absurd h.1 (Int.not_le.mpr h2)
 ·have key:∀ s∈[(7:Int),8,9,10,12,18,19,31,32],dctOf sgL s=some (ofL [sgC s])/\(!(Builtin.Str.occurrences ("([":Str) (ofL [sgC s]) 0 ("([":Str).length 1).isEmpty)=decide (s=7\/s=9):=by decide+kernel
  exact key s h
noncomputable def isOpen:AV->Bool
 | .int s=>decide (s=7\/s=9)
 | _=>false
theorem no_open {row:List Int} {i:Nat} (h:∀ s∈row,isOpen (.int s)=false):(enumP i row).filter (λ q=>isOpen q.2)=[]:=by
 rw [List.filter_eq_nil_iff]
 intro q hq
 obtain ⟨j,s,rfl,_,_,h3⟩:=mem_enum hq
 rw [h s h3];exact Bool.false_ne_true
theorem enum_app:∀ (a b:List Int) (i:Nat),enumP i (a++b)=enumP i a++enumP (i+a.length) b
 | [],b,i=>rfl
 | x::a,b,i=>by
  rw [List.length_cons,<- Nat.add_assoc,Nat.add_right_comm]
  exact congrArg (_::·) (enum_app a b (i+1))
theorem one_open {a b:List Int} {s:Int} (ha:∀ s∈a,isOpen (.int s)=false) (hb:∀ s∈b,isOpen (.int s)=false) (hs:isOpen (.int s)=true):((enumP 0 (a++s::b)).filter λ q=>isOpen q.2).map (·.1)=[.int (a.length:Int)]:=by
 rw [enum_app,List.filter_append,no_open ha,show enumP (0+a.length) (s::b)=(.int ((0+a.length:Nat):Int),.int s)::enumP (0+a.length+1) b from rfl,List.filter_cons,if_pos hs,no_open hb,Nat.zero_add];rfl
theorem clip_neg {n m d:Nat} {i:Int} (hi:i<0) (h:i+n=m) (hm:m<=n):pyClip (some i) d n=m:=by
 show (max 0 (min (if i<0 then i+n else i) n)).toNat=m
 rw [if_pos hi,h,Int.min_eq_left (Int.ofNat_le.mpr hm),Int.max_eq_right (Int.natCast_nonneg _),Int.toNat_natCast]
theorem slice_init {α:Type} (l:List α) (x:α):pySlice (l++[x]) none (some (-1))=l:=by
 unfold pySlice
 rw [List.length_append,clip_neg (m:=l.length) (by decide) (Int.neg_add_cancel_left 1 l.length▸by rw [Int.natCast_add,Int.add_comm (l.length:Int)];rfl) (Nat.le_add_right _ _)]
 exact List.take_left
section
variable {fr:AFr} {σ:St} {f:PE} {n:Nat} {l m:List AV} {i j:Option Int} {lo hi:PPart}
theorem Ev.sliceO (h:Ev f fr σ (.loc n)) (e:σ[n]?=some (.lst l)) (h1:Pv lo fr σ i) (h2:Pv hi fr σ j) (hl:l.length<=20000) (hr:pySlice l i j=m):Ev (E.sliceL f lo hi) fr σ (.lst m):=λ K X hK=>h _ _ (h1 _ _ (h2 _ _ ⟨l,e,small_len hl,by rw [hr];exact hK⟩))
end
theorem TERMh_ok (hB:BOk B):JApp B (k+1) false (.val (.ref 110)) spTerm:=
 JApp.of (JApp.fnK hB.f110 (κ:=κISTERMINAL) (ts:=[.loc 0]) rfl (by kernel_rfl) (λ z e=>nomatch e) rfl ⟨⟨rfl,rfl⟩,trivial⟩ (jISTERMINAL hB)) λ l σ K X q=>by
 obtain ⟨i,hk⟩:=q
 exact call0 (ρ:=[some (.int i)]) rfl rfl (λ z=>rfl) (ret_ev (Ev.cmp (Ev.loc rfl) Ev.c λ z h=>h) (cut_ret trivial hk))
theorem ev_opens {fr:AFr} {σ:St} {q n3:Nat} {a b:List Int} {s:Int} {tailS:Int} (hn:fr.hnd≠ .any) (hχ:fr.χ=[q]) (hc:σ[q]?=some (.cel (some sgD))) (h3:fr.ρ[3]?=some (some (.loc n3))) (hrow:σ[n3]?=some (.lst ((a++s::b++[tailS]).map .int)))
  (hsy:∀ x∈a++s::b,SymOk x) (hl:(a++s::b).length<=100) (ha:∀ s∈a,isOpen (.int s)=false) (hb:∀ s∈b,isOpen (.int s)=false) (hs:isOpen (.int s)=true):
  Ev (E.sub (E.comp 2 0 [0] (Y.enu (L.cons (E.sliceL (E.loc 3) Qp.no (Qp.of (E.neg (E.c (.int 1))))) L.nil)) (.many [.loc 0,.loc 1]) (T.and (T.val (E.call false (onVal 110 spTerm) (E.c (.val (.ref 110))) (L.cons (E.loc 1) L.nil))) (T.and (T.cmp cmpInS (E.sub (E.cel 0) (E.loc 1)) (E.c (.str "(["))) (T.c true))) (C.elt (E.loc 0))) (E.c (.int 0))) fr σ (.int (a.length:Int)):=by
 refine Ev.subL (n:=0) (l:=[.int (a.length:Int)]) ?_ Ev.c rfl rfl (by decide)
 rw [<- one_open ha hb hs]
 rw [List.map_append] at hrow
 have hz:((a++s::b).map AV.int++[AV.int tailS]).length<=20000:=by rw [List.length_append,List.length_map];exact Nat.le_trans (Nat.add_le_add_right hl 1) (by decide)
 refine comp_filter2 (χ':=[q]) (test:=λ u x=>isOpen x) (g:=λ i u=>i) (by rw [hχ];rfl) (λ K X hK=>⟨hn,Ev.sliceO (Ev.loc h3) hrow Pv.no (Pv.of (Ev.neg Ev.c)) hz (slice_init _ _) _ _ (by rw [enumP_eq] at hK;exact hK)⟩) (by rw [enumP_len];exact Nat.le_trans hl (by decide)) (λ x hx=>?_) λ x u u=>Ev.loc rfl
 obtain ⟨i,o,rfl,_,_,h4⟩:=mem_enum hx
 have hT:Tv (T.val (E.call false (onVal 110 spTerm) (E.c (.val (.ref 110))) (L.cons (E.loc 1) L.nil))) ⟨[some (.int i),some (.int o)],[q],fr.hnd⟩ σ (decide (o<256)):=λ K X hK=>⟨λ z=>(nomatch z),Ev.c _ _ ⟨_,onVal_self,Ev.loc rfl _ _ ⟨o,hK⟩⟩⟩
 refine Tv.and2 hT (λ ho=>?_) λ ho=>decide_eq_false λ h=>?_
 ·obtain ⟨g1,g2⟩:=sym_sign (hsy o h4) (of_decide_eq_true ho)
  refine Tv.and2 (Tv.cmp (Ev.sub (a:=sgD) (Ev.cel rfl hc) (Ev.loc rfl) λ Q h=>⟨_,g1,h⟩) Ev.c λ Q h=>?_) (λ h=>?_) λ h=>h
  ·show Q (!(Builtin.Str.occurrences ("([":Str) (ofL [sgC o]) 0 ("([":Str).length 1).isEmpty)
   rw [g2];exact h
  ·show Tv _ _ _ (isOpen (.int o))
   rw [h];exact Tv.c
 ·have ho:=of_decide_eq_false ho
  lia
end
section
variable {B:BC} {k:Nat}
noncomputable def splitN:List (List Int)->List Int->List Int->List (List Int)
 | acc,cur,[]=>acc++[cur]
 | acc,cur,s::r=>if 256<=s then splitN acc (cur++[s]) r else splitN (acc++[cur]) [] r
theorem splitN_cons {acc:List (List Int)} {cur r:List Int} {s:Int}:splitN acc cur (s::r)=if 256<=s then splitN acc (cur++[s]) r else splitN (acc++[cur]) [] r:=rfl
theorem splitN_run:∀ (a r:List Int) (acc:List (List Int)) (cur:List Int),(∀ s∈a,256<=s)->splitN acc cur (a++r)=splitN acc (cur++a) r
 | [],r,acc,cur,_=>by rw [List.append_nil];rfl
 | s::a,r,acc,cur,h=>by
  rw [List.cons_append,splitN_cons,if_pos (h s List.mem_cons_self),splitN_run a r acc _ λ x hx=>h x (List.mem_cons_of_mem _ hx),List.append_assoc];rfl
noncomputable def nuB:PS:=(S.cons (S.set (.loc 4) (E.ite (T.val (E.call true (onVal 117 spNonterm) (E.c (.val (.ref 117))) (L.cons (E.loc 7) L.nil))) (E.bin opAdd (E.sliceL (E.loc 4) Qp.no (Qp.of (E.neg (E.c (.int 1))))) (E.lst (L.cons (E.bin opAdd (E.sub (E.loc 4) (E.neg (E.c (.int 1)))) (E.lst (L.cons (E.loc 7) L.nil))) L.nil))) (E.bin opAdd (E.loc 4) (E.lst (L.cons (E.lst L.nil) L.nil)))))
 S.nil)
theorem Ev.subZ {f g:PE} {fr:AFr} {σ:St} {l:List AV} {x:AV} (h:Ev f fr σ (.lst (l++[x]))) (h2:Ev g fr σ (.int (-1))):Ev (E.sub f g) fr σ x:=Ev.sub h h2 λ Q hQ=>⟨⟨by decide,by decide⟩,l.length,x,lastIx l x,get_app _ _ 0,hQ⟩
theorem nested_app (acc:List (List Int)) (cur:List Int):nested (acc++[cur])=nested acc++[.lst (cur.map .int)]:=List.map_append ..
theorem nested_len (acc:List (List Int)):(nested acc).length=acc.length:=List.length_map ..
theorem nu_loop {σ:St} {χ:List Nat} {t0 a1 o2 r3 p5 k6 d8 o9 n10 x11 z12 z13 z14:Option AV} {N:PN} {R:PK} {X:PX}:∀ (row:List Int) (acc:List (List Int)) (cur:List Int) (z7:Option AV),acc.length+row.length<=200->cur.length+row.length<=200->
  (∀ z7,N [t0,a1,o2,r3,some (.lst (nested (splitN acc cur row))),p5,k6,z7,d8,o9,n10,x11,z12,z13,z14] σ)->
  forK (.one (.loc 7)) nuB (row.map .int) ⟨[t0,a1,o2,r3,some (.lst (nested (acc++[cur]))),p5,k6,z7,d8,o9,n10,x11,z12,z13,z14],χ,HK.no⟩ σ N R X
 | [],acc,cur,z7,_,_,hN=>hN z7
 | s::row,acc,cur,z7,h1,h2,hN=>by
  rw [List.length_cons,<- Nat.add_assoc] at h1 h2
  rw [splitN_cons] at hN
  have e1:(nested acc).length+1<=20000:=by rw [nested_len];exact Nat.le_trans (Nat.le_trans (Nat.succ_le_succ (Nat.le_add_right _ _)) h1) (by decide)
  have e2:(nested acc++[AV.lst (cur.map .int)]).length<=19999:=by rw [List.length_append];exact Nat.le_trans (Nat.le_trans (Nat.succ_le_succ (by rw [nested_len];exact Nat.le_add_right _ _)) h1) (by decide)
  have e3:(cur.map AV.int).length+1<=20000:=by rw [List.length_map];exact Nat.le_trans (Nat.le_trans (Nat.succ_le_succ (Nat.le_add_right _ _)) h2) (by decide)
  refine ⟨_,rfl,?_⟩
  by_cases hs:256<=s
  ·rw [if_pos hs] at hN
   refine set_ev (v:=.lst (nested (acc++[cur++[s]]))) (Ev.iteT (nonterm_ev rfl rfl (decide_eq_true hs)) ?_) (nu_loop row acc (cur++[s]) _ (Nat.le_of_succ_le h1) (by rw [List.length_append];exact (Nat.add_right_comm ..).symm▸h2) hN)
   rw [nested_app acc cur,nested_app acc (cur++[s]),List.map_append]
   exact cat_ev (Ev.sliceL (Ev.loc rfl) Pv.no (Pv.of (Ev.neg Ev.c)) (Nat.le_succ_of_le e2) (slice_init _ _)) (Ev.lst (Lv.one (cat_ev (Ev.subZ (Ev.loc rfl) (Ev.neg Ev.c)) (Ev.lst (Lv.one (Ev.loc rfl))) e3))) e1
  ·rw [if_neg hs] at hN
   refine set_ev (v:=.lst (nested ((acc++[cur])++[[]]))) (Ev.iteF (nonterm_ev rfl rfl (decide_eq_false hs)) ?_) (nu_loop row (acc++[cur]) [] _ (by rw [List.length_append];exact (Nat.add_right_comm ..).symm▸h1) (by rw [List.length_nil,Nat.zero_add];exact Nat.le_trans (Nat.le_add_left _ _) (Nat.le_of_succ_le h2)) hN)
   rw [nested_app (acc++[cur]),nested_app acc]
   exact cat_ev (Ev.loc rfl) (Ev.lst (Lv.one (Ev.lst Lv.nil))) (Nat.succ_le_succ e2)
theorem digL_digV {n:Nat}:∀ {l:List Int},Digs n l->digL n l.length (digV n l)=l
 | [],_=>rfl
 | d::r,h=>by
  have hp:=two_pos n
  obtain ⟨h0,h1⟩:=h d List.mem_cons_self
  show (d+2^n*digV n r)%2^n::digL n r.length ((d+2^n*digV n r)/2^n)=_
  rw [Int.add_mul_emod_self_left,Int.emod_eq_of_lt h0 h1,Int.add_mul_ediv_left _ _ (Int.ne_of_gt hp),Int.ediv_eq_zero_of_lt h0 h1,Int.zero_add,digL_digV λ x hx=>h x (List.mem_cons_of_mem _ hx)]
noncomputable def txC (s:Int):Nat:=if s<256 then sgC s else s.toNat
noncomputable def txtOf (row:List Int):List Nat:=row.map txC
noncomputable def txG:AV->AV
 | .int s=>txt [txC s]
 | _=>.none
theorem join_all:∀ (l:List Nat) (a:Array Nat),((l.map λ c=>ofL [c]).foldl (λ acc (p:Str)=>acc++("":Str).cps++p.cps) a)=a++l.toArray
 | [],a=>by rw [List.map_nil,List.foldl_nil];exact (Array.append_empty ..).symm
 | c::r,a=>by
  rw [List.map_cons,List.foldl_cons,join_all r,show ("":Str).cps=#[] by decide+kernel,Array.append_empty,Array.append_assoc]
  exact congrArg (a++·) (List.append_toArray [c] r)
theorem join_one (l:List Nat):Txt.join ("":Str) (l.map λ c=>ofL [c])=ofL l:=by
 show Builtin.Str.glued ("":Str) _=_
 unfold Builtin.Str.glued
 cases l with
 | nil=>decide+kernel
 | cons c r=>
  rw [List.map_cons,List.headD_cons,List.drop_one,List.tail_cons,join_all]
  exact congrArg Str.mk (List.append_toArray [c] r)
theorem toStrs_txt:∀ l:List Nat,toStrs (l.map λ c=>txt [c])=some (l.map λ c=>ofL [c])
 | []=>rfl
 | x::r=>by show (toStrs (r.map λ c=>txt [c])).map _=_;rw [toStrs_txt r];rfl
theorem sum_one:∀ l:List Nat,((l.map λ c=>ofL [c]).map (·.length)).sum=l.length
 | []=>rfl
 | x::r=>by
  rw [List.map_cons,List.map_cons,List.sum_cons,sum_one r,Nat.add_comm];rfl
theorem glue_ev {f:PE} {fr:AFr} {σ:St} {l:List Nat} (hn:fr.hnd=.no) (h:Ev f fr σ (.lst (l.map λ c=>txt [c]))) (hl:l.length<=1000):Ev (E.meth "str" opJoin (E.c (.str "")) (L.cons f L.nil)) fr σ (txt l):=
 Ev.meth hn Ev.c rfl (Lv.one h) λ K hK=>⟨_,toStrs_txt l,by rw [sum_one,show ("":Str).length=0 by decide+kernel];exact small_len (Nat.le_trans hl (by decide)),by rw [join_one];exact hK⟩
theorem txC_ok {s:Int} (h:SymOk s):0<=s/\s<16384/\txC s<16384/\txC s≠46/\(256<=s->txC s=s.toNat):=by
 rcases h with h | h
 ·rw [txC,if_neg (Int.not_lt.mpr h.1)]
  lia
 ·have key:∀ s∈[(7:Int),8,9,10,12,18,19,31,32],0<=s/\s<16384/\txC s<16384/\txC s≠46/\(256<=s->txC s=s.toNat):=by decide+kernel
  exact key s h
end
section
variable {B:BC} {k:Nat}
noncomputable def interL:List (List Int)->List Int
 | []=>[]
 | [a]=>a
 | a::r=>a++12::interL r
structure Sent (T:Tm) (op cl:Int) (w:Nat) (nums:List (List Int)) (form:List Int):Prop where
 okT:TmOk T
 lenT:(flat T).length<=8
 br:(op=7/\cl=8/\w=0)\/(op=9/\cl=10/\w=1)
 cnt:(∃ a,nums=[a]/\w=0)\/(∃ a b,nums=[a,b])
 sym:∀ q∈nums,q.length<=20/\∀ s∈q,256<=s/\s<8448
 num:digV 13 ((nums.getD w []).map (· - 256))=digV 14 form
 dig:Digs 14 form
 cform:(Builtin.Int.intBits (digV 14 form)+14 - 1)/14=form.length
 lform:form.length<=20
 fsym:∀ s∈form,((s=254\/s=255)/\(255 - s).toNat<nums.length)\/(SymOk s/\s≠254/\s≠255)
noncomputable def ownR (T:Tm) (op cl:Int) (nums:List (List Int)):List Int:=flat T++op::(interL nums++[cl])
noncomputable def Plain (s:Int):Prop:=SymOk s/\isOpen (.int s)=false/\0<s
theorem plain_num {s:Int} (h:256<=s/\s<8448):Plain s:=⟨.inl ⟨h.1,Int.lt_trans h.2 (by decide)⟩,decide_eq_false (by lia),Int.lt_of_lt_of_le (by decide) h.1⟩
theorem splitN_one {b:List Int} {acc:List (List Int)} (h:∀ s∈b,256<=s):splitN acc [] b=acc++[b]:=by
 have e:=splitN_run b [] acc [] h
 rw [List.append_nil] at e
 exact e
section
variable {T:Tm} {op cl:Int} {w:Nat} {nums:List (List Int)} {form:List Int}
theorem Sent.inter (S:Sent T op cl w nums form):(∀ s∈interL nums,Plain s)/\(interL nums).length<=41/\splitN [] [] (interL nums)=nums:=by
 have S':=S.sym
 rcases S.cnt with ⟨a,rfl,_⟩ | ⟨a,b,rfl⟩
 ·obtain ⟨l1,s1⟩:=S' a List.mem_cons_self
  exact ⟨λ s hs=>plain_num (s1 s hs),Nat.le_trans l1 (by decide),splitN_one λ s hs=>(s1 s hs).1⟩
 ·obtain ⟨l1,s1⟩:=S' a List.mem_cons_self
  obtain ⟨l2,s2⟩:=S' b (List.mem_cons_of_mem _ List.mem_cons_self)
  refine ⟨λ s hs=>?_,?_,?_⟩
  ·rcases List.mem_append.mp (show s∈a++12::b from hs) with hs | hs
   ·exact plain_num (s1 s hs)
   ·rcases List.mem_cons.mp hs with rfl | hs
    ·exact ⟨.inr (by decide),rfl,by decide⟩
    ·exact plain_num (s2 s hs)
  ·rw [show interL [a,b]=a++12::b from rfl,List.length_append,List.length_cons]
   lia
  ·rw [show interL [a,b]=a++12::b from rfl,splitN_run a _ [] [] λ s hs=>(s1 s hs).1,splitN_cons,if_neg (by decide)]
   exact splitN_one λ s hs=>(s2 s hs).1
theorem Sent.fm (S:Sent T op cl w nums form) (s:Int) (hs:s∈flat T):Plain s:=by
 have key:∀ s∈syms,((256<=s/\s<16384)\/s∈[(7:Int),8,9,10,12,18,19,31,32])/\isOpen (.int s)=false/\0<s:=by decide
 exact key s (flat_syms T S.okT s hs)
theorem Sent.opOk (S:Sent T op cl w nums form):SymOk op/\isOpen (.int op)=true/\0<op/\Plain cl:=by
 rcases S.br with ⟨rfl,rfl,_⟩ | ⟨rfl,rfl,_⟩<;>exact ⟨.inr (by decide),rfl,by decide,.inr (by decide),rfl,by decide⟩
theorem Sent.own (S:Sent T op cl w nums form):(∀ s∈ownR T op cl nums,SymOk s/\0<s)/\(ownR T op cl nums).length<=60:=by
 obtain ⟨i1,i2,_⟩:=S.inter
 obtain ⟨o1,_,o3,o4⟩:=S.opOk
 refine ⟨λ s hs=>?_,?_⟩
 ·rcases List.mem_append.mp hs with hs | hs
  ·exact ⟨(S.fm s hs).1,(S.fm s hs).2.2⟩
  rcases List.mem_cons.mp hs with rfl | hs
  ·exact ⟨o1,o3⟩
  rcases List.mem_append.mp hs with hs | hs
  ·exact ⟨(i1 s hs).1,(i1 s hs).2.2⟩
  ·rw [List.mem_singleton.mp hs];exact ⟨o4.1,o4.2.2⟩
 ·have:=S.lenT
  rw [ownR,List.length_append,List.length_cons,List.length_append,List.length_singleton]
  lia
theorem mem_filled:∀ {l:List Int} {s:Int},s∈filled nums l->∃ x∈l,s∈fillS nums x
 | [],s,h=>absurd h List.not_mem_nil
 | x::r,s,h=>by
  rcases List.mem_append.mp (show s∈fillS nums x++filled nums r from h) with h | h
  ·exact ⟨x,List.mem_cons_self,h⟩
  ·obtain ⟨y,h1,h2⟩:=mem_filled h
   exact ⟨y,List.mem_cons_of_mem _ h1,h2⟩
theorem Sent.other (S:Sent T op cl w nums form):(∀ s∈filled nums form,SymOk s)/\(filled nums form).length<=400:=by
 refine ⟨λ s hs=>?_,Nat.le_trans (filled_len (m:=19) (λ q hq=>(S.sym q hq).1) form) (Nat.mul_le_mul_left 20 S.lform)⟩
 obtain ⟨x,h,hx⟩:=mem_filled hs
 unfold fillS at hx
 rcases S.fsym x h with ⟨h1,h2⟩ | ⟨h1,h2,h3⟩
 ·rw [if_pos h1,List.getD_eq_getElem?_getD,List.getElem?_eq_getElem h2] at hx
  exact (plain_num ((S.sym _ (List.getElem_mem h2)).2 s hx)).1
 ·rw [if_neg (λ q=>q.elim h2 h3)] at hx
  rw [List.mem_singleton.mp hx];exact h1
theorem Sent.pick (S:Sent T op cl w nums form):∃ q,nums[w]?=some q/\nums.getD w []=q/\q∈nums/\w<=1:=by
 have h2:w<=1:=by rcases S.br with ⟨_,_,h⟩ | ⟨_,_,h⟩<;>rw [h]<;>decide
 have hw:w<nums.length:=by
  rcases S.cnt with ⟨a,rfl,h⟩ | ⟨a,b,rfl⟩
  ·rw [h];exact Nat.one_pos
  ·exact Nat.lt_succ_of_le h2
 refine ⟨nums[w],List.getElem?_eq_getElem hw,by rw [List.getD_eq_getElem?_getD,List.getElem?_eq_getElem hw];rfl,List.getElem_mem hw,h2⟩
theorem Sent.sign (S:Sent T op cl w nums form):∃ l,dctOf sgL op=some (ofL l)/\TxtOk l/\(l==[40])=decide (w=0):=by
 rcases S.br with ⟨rfl,_,rfl⟩ | ⟨rfl,_,rfl⟩
 ·exact ⟨[40],by decide+kernel,txt1 (by decide),rfl⟩
 ·exact ⟨[91],by decide+kernel,txt1 (by decide),rfl⟩
end
theorem slice_mid {α:Type} (a m:List α) (y z:α):pySlice (a++(m++[y,z])) (some (a.length:Int)) (some (-2))=m:=by
 unfold pySlice
 rw [clip_nat,List.length_append,List.length_append,Nat.min_eq_left (Nat.le_add_right _ _),clip_neg (m:=a.length+m.length) (by decide) (by show (-2:Int)+((a.length+(m.length+2):Nat):Int)=_;lia) (by lia),List.drop_left,Nat.add_sub_cancel_left,List.take_left]
theorem slice_fm {α:Type} (a r:List α):pySlice (a++r) none (some (a.length:Int))=a:=by rw [slice_to,List.take_left]
section
variable {TT:Tm} {op cl:Int} {w:Nat} {nums:List (List Int)} {form:List Int} {fr:AFr} {σ:St} {q n3:Nat}
noncomputable def subG:AV->AV
 | .int s=>.int (s - 256)
 | _=>.none
theorem ev_digits (S:Sent TT op cl w nums form) (hn:fr.hnd=.no) (hχ:fr.χ=[q]) (hc:σ[q]?=some (.cel (some sgD))) (h3:fr.ρ[3]?=some (some (.loc n3))) (h4:fr.ρ[4]?=some (some (.lst (nested nums)))) (h6:fr.ρ[6]?=some (some (.int ((flat TT).length:Int))))
  (hrow:σ[n3]?=some (.lst ((ownR TT op cl nums++[0]).map .int))):
  Ev (E.comp 1 0 [] (Y.lst (E.sub (E.loc 4) (E.ite (T.cmp cmpEq (E.sub (E.cel 0) (E.sub (E.loc 3) (E.loc 6))) (E.c (.str "("))) (E.c (.int 0)) (E.c (.int 1))))) (.one (.loc 0)) (T.c true) (C.elt (E.bin opSub (E.loc 0) (E.c (.int 256))))) fr σ (.lst (((nums.getD w []).map (· - 256)).map .int)):=by
 obtain ⟨p,p1,p2,p3,p4⟩:=S.pick
 obtain ⟨l,l1,l2,l3⟩:=S.sign
 rw [p2,show (p.map (· - 256)).map AV.int=(p.map AV.int).map subG by rw [List.map_map,List.map_map];rfl]
 have hop:((ownR TT op cl nums++[0]).map AV.int)[(flat TT).length]?=some (.int op):=by
  rw [ownR,List.append_assoc,List.map_append]
  have h:=get_app ((flat TT).map AV.int) ((op::(interL nums++[cl])++[0]).map .int) 0
  rw [List.length_map] at h
  exact h
 have e1:Ev (E.sub (E.loc 3) (E.loc 6)) fr σ (.int op):=Ev.subO (Ev.loc h3) (Ev.loc h6) hrow ⟨Int.le_trans (by decide) (Int.natCast_nonneg _),Int.lt_of_le_of_lt (Int.ofNat_le.mpr S.lenT) (by decide)⟩ (seqIndex_at (Int.natCast_nonneg _) (Int.ofNat_lt.mpr (List.getElem?_eq_some_iff.mp hop).1)) hop
 have e2:Tv (T.cmp cmpEq (E.sub (E.cel 0) (E.sub (E.loc 3) (E.loc 6))) (E.c (.str "("))) fr σ (decide (w=0)):=Tv.cmp (Ev.sub (a:=sgD) (v:=txt l) (Ev.cel (by rw [hχ];rfl) hc) e1 λ Q h=>⟨_,l1,h⟩) Ev.c λ Q h=>by
  rw [show ("(":Str)=ofL [40] by decide+kernel]
  rw [<- l3] at h
  exact eqTxt l2 (txt1 (by decide)) Q h
 have e3:Ev (E.ite (T.cmp cmpEq (E.sub (E.cel 0) (E.sub (E.loc 3) (E.loc 6))) (E.c (.str "("))) (E.c (.int 0)) (E.c (.int 1))) fr σ (.int (w:Nat)):=Ev.ite e2 (λ h=>by rw [of_decide_eq_true h];exact Ev.c) λ h=>by
  rw [show w=1 from Nat.le_antisymm p4 (Nat.pos_of_ne_zero (of_decide_eq_false h))];exact Ev.c
 refine comp_map (χ':=[]) rfl (Lv.ylst hn (Ev.subL (n:=w) (Ev.loc h4) e3 rfl (by rw [List.getElem?_map,p1];rfl) (Nat.lt_of_le_of_lt p4 (by decide)))) (by rw [List.length_map];exact Nat.le_trans (S.sym p p3).1 (by decide)) λ x hx=>?_
 obtain ⟨s,hs,rfl⟩:=List.mem_map.mp hx
 exact Ev.min (Ev.loc rfl) Ev.c
theorem filled_digs (S:Sent TT op cl w nums form):Digs 14 (filled nums form):=λ s hs=>⟨(txC_ok (S.other.1 s hs)).1,(txC_ok (S.other.1 s hs)).2.1⟩
theorem ev_other (S:Sent TT op cl w nums form) (hn:fr.hnd=.no) (h8:fr.ρ[8]?=some (some (.lst (((nums.getD w []).map (· - 256)).map .int)))) (h4:fr.ρ[4]?=some (some (.lst (nested nums)))):
  Ev (E.call true (onVal 141 spFill) (E.c (.val (.ref 141))) (L.cons (E.call true (onVal 35 (spI2d 11)) (E.c (.val (.ref 35))) (L.cons (E.call true (onVal 42 (spD2i 11)) (E.c (.val (.ref 42))) (L.cons (E.loc 8) (L.cons (E.c (.int 13)) L.nil))) (L.cons (E.c (.int 14)) L.nil))) (L.cons (E.loc 4) L.nil))) fr σ (.lst ((filled nums form).map .int)):=by
 obtain ⟨p,p1,p2,p3,p4⟩:=S.pick
 obtain ⟨hln,hsy⟩:=S.sym p p3
 have hnum:=S.num
 have hf:=S.lform
 rw [p2] at h8 hnum
 have e1:Ev (E.call true (onVal 42 (spD2i 11)) (E.c (.val (.ref 42))) (L.cons (E.loc 8) (L.cons (E.c (.int 13)) L.nil))) fr σ (.int (digV 14 form)):=Ev.call hn Ev.c onVal_self (Lv.cons (Ev.loc h8) (Lv.one Ev.c)) λ K X h=>.mk (p.map (· - 256)) 13 (λ d hd=>by
   obtain ⟨s,hs,rfl⟩:=List.mem_map.mp hd
   exact ⟨Int.sub_nonneg_of_le (hsy s hs).1,Int.sub_lt_iff.mpr (hsy s hs).2⟩) (by rw [List.length_map];exact Nat.le_trans hln (by decide)) (by rw [List.length_map];exact Nat.le_trans (Nat.mul_le_mul_left 13 hln) (by decide)) (by decide) (by rw [hnum];exact h)
 have e2:Ev (E.call true (onVal 35 (spI2d 11)) (E.c (.val (.ref 35))) (L.cons (E.call true (onVal 42 (spD2i 11)) (E.c (.val (.ref 42))) (L.cons (E.loc 8) (L.cons (E.c (.int 13)) L.nil))) (L.cons (E.c (.int 14)) L.nil))) fr σ (.lst (form.map .int)):=Ev.call hn Ev.c onVal_self (Lv.cons e1 (Lv.one Ev.c)) λ K X h=>.mk _ 14 form.length (digV_bound S.dig).1 (by decide) S.cform (Nat.le_trans hf (by decide)) (Nat.lt_of_le_of_lt (Nat.mul_le_mul_left 14 hf) (by decide)) (by decide) (by rw [digL_digV S.dig];exact h)
 exact Ev.call hn Ev.c onVal_self (Lv.cons e2 (Lv.one (Ev.loc h4))) λ K X h=>.mk form nums (λ s hs h=>(S.fsym s hs).elim (·.2) λ q=>absurd h λ z=>z.elim q.2.1 q.2.2) (Nat.le_trans hf (by decide)) (λ r hr=>Nat.le_trans (S.sym r hr).1 (by decide)) h
theorem ev_number (S:Sent TT op cl w nums form) (hn:fr.hnd=.no) (h9:fr.ρ[9]?=some (some (.lst ((filled nums form).map .int)))):
  Ev (E.call true (onVal 42 (spD2i 11)) (E.c (.val (.ref 42))) (L.cons (E.loc 9) (L.cons (E.c (.int 14)) L.nil))) fr σ (.int (digV 14 (filled nums form))):=
 Ev.call hn Ev.c onVal_self (Lv.cons (Ev.loc h9) (Lv.one Ev.c)) λ K X h=>.mk _ 14 (filled_digs S) (Nat.le_trans S.other.2 (by decide)) (Nat.le_trans (Nat.mul_le_mul_left 14 S.other.2) (by decide)) (by decide) h
theorem ev_text (S:Sent TT op cl w nums form) (hn:fr.hnd=.no) (hχ:fr.χ=[q]) (hc:σ[q]?=some (.cel (some sgD))) (h9:fr.ρ[9]?=some (some (.lst ((filled nums form).map .int)))):
  Ev (E.meth "str" opJoin (E.c (.str "")) (L.cons (E.comp 1 0 [0] (Y.lst (E.loc 9)) (.one (.loc 0)) (T.c true) (C.elt (E.ite (T.val (E.call true (onVal 110 spTerm) (E.c (.val (.ref 110))) (L.cons (E.loc 0) L.nil))) (E.meth "dict" opGet (E.cel 0) (L.cons (E.loc 0) (L.cons (E.c (.str "")) L.nil))) (E.app opChr (L.cons (E.loc 0) L.nil))))) L.nil)) fr σ (txt (txtOf (filled nums form))):=by
 obtain ⟨o1,o2⟩:=S.other
 have o3:(filled nums form).length<=1000:=Nat.le_trans o2 (by decide)
 refine glue_ev hn ?_ (by rw [txtOf,List.length_map];exact o3)
 rw [show (txtOf (filled nums form)).map (λ c=>txt [c])=((filled nums form).map AV.int).map txG by rw [txtOf,List.map_map,List.map_map];rfl]
 refine comp_map (χ':=[q]) (by rw [hχ];rfl) (Lv.ylst hn (Ev.loc h9)) (by rw [List.length_map];exact o3) λ x hx=>?_
 obtain ⟨s,hs,rfl⟩:=List.mem_map.mp hx
 have hy:=o1 s hs
 refine Ev.ite (c₁:=decide (s<256)) (Tv.val (Ev.call (v:=.bool (decide (s<256))) hn Ev.c onVal_self (Lv.one (Ev.loc rfl)) λ K X h=>⟨s,h⟩) λ z h=>h) (λ hb=>?_) λ hb=>?_
 ·have hb:=of_decide_eq_true hb
  refine Ev.meth hn (Ev.cel rfl hc) rfl (Lv.cons (Ev.loc rfl) (Lv.one Ev.c)) λ K h=>?_
  show (match dctOf sgL s with | some y=>K (.str y) σ | none=>K (.str "") σ)
  rw [(sym_sign hy hb).1,<- show txC s=sgC s from if_pos hb]
  exact h
 ·have hb:=of_decide_eq_false hb
  obtain ⟨t1,t2,t3,t4,t5⟩:=txC_ok hy
  refine Ev.app hn (Lv.one (Ev.loc rfl)) λ Q h=>⟨t1,Int.le_trans (Int.le_of_lt t2) (by decide),?_⟩
  rw [<- t5 (Int.not_lt.mp hb)]
  exact h
end
end
section
variable {B:BC} {k:Nat}
theorem cutOk_upd {σ τ:St} {n:Nat} {ao:AObj} (h:BdO σ.length ao):CutOk σ (σ.set n ao++τ):=λ i x hi e=>by
 rw [List.getElem?_append_left (by rw [List.length_set];exact hi)] at e
 exact cutOk_set h i x hi e
theorem take_upd {σ τ:St} {n:Nat} {ao:AObj}:(σ.set n ao++τ).take σ.length=σ.set n ao:=by
 rw [List.take_append_of_le_length (by rw [List.length_set];exact Nat.le_refl _),take_set]
theorem read_tail {σ:St} {cs:List Nat} {num:Int} {t p:List Nat} {r:List (List Nat)} {y v:Int} {n:Nat} {a0 a2 a4 a8 a9 z7 z12 z13 z14:Option AV} {TT:Tm} {rest:List Int} {K:PK} {X:PX} {N:PN} {Bk:PN} (C:C4At σ cs num t p r y v n []) (okT:TmOk TT) (hl:(flat TT).length<=8) (hr:rest.length<=100)
  (hk:(askT num t p r y v TT []).1=true->K (.lst [.lst ((flat TT++rest).map .int),.lst [.bool (valT (truthOf num t p r y v) TT)]]) (σ.set n (.lst (askT num t p r y v TT []).2))) (hx:(askT num t p r y v TT []).1=false->X "ZeroDivisionError" (σ.set n (.lst (askT num t p r y v TT []).2))):
  S.cons (S.for (Y.rev (L.cons (E.sliceL (E.loc 3) Qp.no (Qp.of (E.loc 6))) L.nil)) (.one (.loc 7)) evB) (S.cons (S.ret (E.lst (L.cons (E.frz (E.loc 3)) (L.cons (E.frz (E.loc 5)) L.nil)))) S.nil)
   (evF σ.length cs num t a0 a2 (some (.loc (σ.length+2))) a4 (some (.int ((flat TT).length:Int))) a8 a9 z7 z12 z13 z14) (stt σ (flat TT++rest) []) N (cutK σ K) Bk (cutX σ X):=by
 obtain ⟨b1,b2⟩:=ask_ok num t p r y v TT [] C.bd
 have hz:((flat TT++rest).map AV.int).length<=20000:=by rw [List.length_map,List.length_append];exact Nat.le_trans (Nat.add_le_add hl hr) (by decide)
 have hs:pySlice ((flat TT++rest).map AV.int) none (some ((flat TT).length:Int))=(flat TT).map .int:=by rw [<- List.length_map (f:=AV.int),List.map_append];exact slice_fm _ _
 have h8:∀ n:Nat,n<=0->n+(flat TT).length<=50:=λ n h=>Nat.le_trans (Nat.add_le_add h hl) (by decide)
 refine for_lv (l:=(flat TT).reverse.map .int++[]) (λ K X hK=>⟨rfl,Ev.sliceO (Ev.loc rfl) (get_app ..) Pv.no (Pv.of (Ev.loc rfl)) hz hs _ _ (by rw [List.append_nil,List.map_reverse] at hK;exact hK)⟩) (ev_tree TT σ [] [] [] _ _ _ _ okT rfl C (h8 0 (Nat.le_refl _)) (h8 0 (Nat.le_refl _)) (λ e z7 z12 z13 z14=>?_) λ e st'=>⟨cutOk_upd (b1 _),by rw [stt,take_upd];exact hx e⟩)
 generalize hτ:σ.set n (AObj.lst (askT num t p r y v TT []).2)=τ at*
 have hq:σ.length=τ.length:=by rw [<- hτ,List.length_set]
 have e1:(stt τ (flat TT++rest) [valT (truthOf num t p r y v) TT]).set (σ.length+2) .gone=τ++[.cel (some sgD),.gone,.gone,.lst [.bool (valT (truthOf num t p r y v) TT)]]:=by rw [hq];exact set_app ..
 have e2:(τ++[.cel (some sgD),.gone,.gone,.lst [.bool (valT (truthOf num t p r y v) TT)]]:St).set (σ.length+3) .gone=τ++[.cel (some sgD),.gone,.gone,.gone]:=by rw [hq];exact set_app ..
 refine ⟨_,rfl,_,by rw [hq];exact get_app ..,?_⟩
 rw [e1]
 refine ⟨_,rfl,_,by rw [hq];exact get_app ..,?_⟩
 rw [e2]
 subst hτ
 exact ⟨⟨bdL_ints _,⟨trivial,trivial⟩,trivial⟩,cutOk_upd (b1 _),by rw [take_upd];exact hk e⟩
end
section
variable {B:BC} {k:Nat}
inductive spRead:FS
 | mk {σ:St} {K:PK} {X:PX} (T:Tm) (op cl:Int) (w:Nat) (nums:List (List Int)) (form:List Int) (wt:Int) (cs:List Nat) (p:List Nat) (r:List (List Nat)) (y v:Int) (n:Nat) (z:Sent T op cl w nums form) (z:C4At σ cs (digV 14 (filled nums form)) (txtOf (filled nums form)) p r y v n [])
  (z:(askT (digV 14 (filled nums form)) (txtOf (filled nums form)) p r y v T []).1=true->K (.lst [.lst ((ownR T op cl nums++[0]).map .int),.lst [.bool (valT (truthOf (digV 14 (filled nums form)) (txtOf (filled nums form)) p r y v) T)]]) (σ.set n (.lst (askT (digV 14 (filled nums form)) (txtOf (filled nums form)) p r y v T []).2)))
  (z:(askT (digV 14 (filled nums form)) (txtOf (filled nums form)) p r y v T []).1=false->X "ZeroDivisionError" (σ.set n (.lst (askT (digV 14 (filled nums form)) (txtOf (filled nums form)) p r y v T []).2))):spRead [.lst ((marks wt 0 (octets (ownR T op cl nums++[0]))).map .int),.clo 4 cs] σ K X
noncomputable abbrev readP:PS:=P_law_read (onVal 124 spEof) (onVal 93 spVar) (onVal 110 spTerm) (onVal 117 spNonterm) (onVal 141 spFill) (onVal 35 (spI2d 11)) (onVal 42 (spD2i 11)) (onVal 110 spTerm) (onVal 86 spName)
theorem read_ok (hB:BOk B):JApp B (k+20) true (.val (.ref 170)) spRead:=
 JApp.of (JApp.fnK (k:=k+19) hB.f170 (κ:=κ_law_read) (ts:=[.loc 0,.loc 1]) (p:=readP) rfl (by kernel_rfl) (λ o e=>nomatch e) rfl ⟨⟨rfl,rfl⟩,⟨rfl,rfl⟩,trivial⟩
  (j_law_read hB _ _ _ _ _ _ _ _ _ (onVal_ok hB.f124 (ISEOF_ok hB)) (onVal_ok hB.f93 (var_ok hB)) (onVal_ok hB.f110 (TERMh_ok hB)) (onVal_ok hB.f117 (ISNONTERMINAL_ok hB)) (onVal_ok hB.f141 (fill_ok hB))
   (onVal_ok hB.f35 (JApp.mono (by lia) (i2d_ok (k:=k) hB 11))) (onVal_ok hB.f42 (JApp.mono (by lia) (d2i_ok (k:=k) hB 11))) (onVal_ok hB.f110 (ISTERMINAL_ok hB)) (onValK_ok hB.f86 (name_ok (k:=k) hB)))) λ l σ K X q=>by
 obtain ⟨T,op,cl,w,nums,form,wt,cs,p,r,y,v,n,hS,C,hk,hx⟩:=q
 obtain ⟨osym,olen⟩:=hS.own
 obtain ⟨o1,o2,o3,o4⟩:=hS.opOk
 obtain ⟨i1,i2,i3⟩:=hS.inter
 generalize hls:marks wt 0 (octets (ownR T op cl nums++[0]))=ls at*
 have hlen:ls.length<=1000:=by
  have h:=octets_len (row:=ownR T op cl nums++[0]) λ s hs=>by
   rcases List.mem_append.mp hs with h | h
   ·exact ⟨(txC_ok (osym s h).1).1,(txC_ok (osym s h).1).2.1⟩
   ·rw [List.mem_singleton.mp h];decide
  rw [List.length_append,List.length_singleton] at h
  rw [<- hls,marks_len]
  lia
 refine callM (m:=1) (ρ:=[some (.lst (ls.map .int)),some (.clo 4 cs),none,none,none,none,none,none,none,none,none,none,none,none,none]) (χ:=[σ.length]) (τ:=[.cel none]) rfl rfl rfl ?_
 refine set_ev (ev_signs rfl) ?_
 show S.cons _ _ _ (List.set (σ++[AObj.cel none]) σ.length (AObj.cel (some sgD))) _ _ _ _
 rw [set_last]
 generalize hβ:σ++[AObj.cel (some sgD)]=β
 have hβl:σ.length+1=β.length:=by rw [<- hβ,List.length_append];rfl
 have hc:∀ τ:St,(β++τ)[σ.length]?=some (.cel (some sgD)):=λ τ=>get_l (by rw [<- hβ];exact get_last ..)
 refine ⟨λ z=>(nomatch z),rfl,_,rfl,_,rfl,?_⟩
 have e2:(β++[AObj.ite (ls.map AV.int) 0]).length=β.length+1:=by rw [List.length_append];rfl
 have e1:((β++[AObj.ite (ls.map AV.int) 0])++[AObj.lst []])++[AObj.lst []]=rdS β ls 0 [] (.lst []):=by rw [List.append_assoc,List.append_assoc];rfl
 have e3:((β++[AObj.ite (ls.map AV.int) 0])++[AObj.lst []]).length=β.length+2:=by rw [List.append_assoc,List.length_append];rfl
 show S.cons _ _ (⟨[some (.lst (ls.map .int)),some (.clo 4 cs),some (.loc β.length),some (.loc (β++[AObj.ite (ls.map AV.int) 0]).length),some (.lst [.lst []]),some (.loc ((β++[AObj.ite (ls.map AV.int) 0])++[AObj.lst []]).length),none,none,none,none,none,none,none,none,none],[σ.length],HK.no⟩:AFr) (((β++[AObj.ite (ls.map AV.int) 0])++[AObj.lst []])++[AObj.lst []]) _ _ _ _
 rw [e1,e2,e3]
 have hL:(ownR T op cl nums++[0])=flat T++(op::(interL nums++[cl])++[0]):=List.append_assoc ..
 refine ⟨(ownR T op cl nums).length+2,read_loop (w:=wt) (ls:=ls) rfl rfl hlen (ownR T op cl nums) [] 0 (λ s hs=>(osym s hs).2) (Tv.orT (Tv.cmpD (Ev.loc rfl) (Ev.lst Lv.nil) (get_app ..) λ Q h=>eqNil [] Q h)) (Nat.le_trans (by rw [List.length_nil,Nat.zero_add];exact olen) (by decide)) hls.symm (Nat.zero_le _) ?_⟩
 -- the end of the tape
 refine ⟨rfl,_,rfl,λ o=>rfl,_,onVal_self,_,rfl,.stop (β.length+0) ls ls.length (get_app ..) (Nat.le_refl _) ?_⟩
 refine ⟨rfl,λ e=>?_⟩
 rw [show List.set (rdS β ls ls.length ([]++ownR T op cl nums++[0]) (AObj.lst [])) (β.length+0) AObj.gone=β++[.gone,.lst ((ownR T op cl nums++[0]).map .int),.lst []] from set_app ..]
 have hrow:(β++[AObj.gone,.lst ((ownR T op cl nums++[0]).map .int),.lst []]:St)[β.length+1]?=some (.lst ((flat T++op::(interL nums++[cl])++[0]).map .int)):=get_app ..
 have hz:(ownR T op cl nums).length<=100:=Nat.le_trans olen (by decide)
 refine set_ev (v:=.int ((flat T).length:Int)) (ev_opens (λ z=>(nomatch z)) rfl (hc _) rfl hrow (λ x hx=>(osym x hx).1) hz (λ s hs=>(hS.fm s hs).2.1) (λ s hs=>?_) o2) ?_
 ·rcases List.mem_append.mp hs with h | h
  ·exact (i1 s h).2.1
  ·rw [List.mem_singleton.mp h];exact o4.2.1
 -- the numerals
 have hsl:pySlice ((flat T++op::(interL nums++[cl])++[0]).map AV.int) (some (((flat T).length:Int)+1)) (some (-2))=(interL nums).map .int:=by
  have h:=slice_mid ((flat T++[op]).map AV.int) ((interL nums).map .int) (.int cl) (.int 0)
  rw [List.length_map,List.length_append] at h
  rw [show flat T++op::(interL nums++[cl])++[0]=(flat T++[op])++(interL nums++[cl,0]) by simp only [List.append_assoc,List.cons_append,List.nil_append],List.map_append,List.map_append (l₁:=interL nums)]
  exact h
 have hz2:((flat T++op::(interL nums++[cl])++[0]).map AV.int).length<=20000:=by rw [List.length_map,List.length_append];exact Nat.le_trans (Nat.add_le_add_right hz 1) (by decide)
 have hz3:(interL nums).length<=200:=Nat.le_trans i2 (by decide)
 refine for_lv (Lv.ylst rfl (Ev.sliceO (Ev.loc rfl) hrow (Pv.of (Ev.add (Ev.loc rfl) Ev.c)) (Pv.of (Ev.neg Ev.c)) hz2 hsl)) (nu_loop (interL nums) [] [] none (by rw [List.length_nil,Nat.zero_add];exact hz3) (by rw [List.length_nil,Nat.zero_add];exact hz3) λ z7=>?_)
 rw [i3]
 refine set_ev (ev_digits hS rfl rfl (hc _) rfl rfl rfl hrow) (set_ev (ev_other hS rfl rfl rfl) (setW_ev (λ z=>(nomatch z)) (Ev.tup (Lv.cons (ev_number hS rfl rfl) (Lv.one (ev_text hS rfl rfl (hc _) rfl)))) rfl ?_))
 rw [hL] at hk ⊢
 have e5:β++[AObj.gone,.lst ((flat T++(op::(interL nums++[cl])++[0])).map .int),.lst []]=stt σ (flat T++(op::(interL nums++[cl])++[0])) []:=by
  rw [<- hβ,List.append_assoc];rfl
 rw [<- hβl,e5]
 refine read_tail C hS.okT hS.lenT ?_ hk hx
 rw [List.length_append,List.length_cons,List.length_append,List.length_singleton,List.length_singleton]
 lia
end
section
variable {B:BC} {k:Nat}
noncomputable def sgH:List (Int×Str):=[(7,"("),(8,")"),(9,"["),(10,"]"),(12,","),(18,"|"),(19,"&"),(31,"~"),(32,"^")]
theorem sym_signH {s:Int} (h:SymOk s) (h2:s<256):dctOf sgH s=some (ofL [txC s]):=by
 rcases h with h | h
 ·exact absurd h.1 (Int.not_le.mpr h2)
 ·have key:∀ s∈[(7:Int),8,9,10,12,18,19,31,32],dctOf sgH s=some (ofL [txC s]):=by decide+kernel
  exact key s h
theorem dots_cps:("...":Str)=ofL dots:=by decide+kernel
theorem join_dots:∀ (l:List (List Nat)) (p:List Nat) (a:Array Nat),((l.map ofL).foldl (λ acc (q:Str)=>acc++(ofL dots).cps++q.cps) (a++p.toArray))=a++(glue p l).toArray
 | [],p,a=>rfl
 | q::r,p,a=>by
  refine (join_dots r q (a++p.toArray++dots.toArray)).trans ?_
  rw [Array.append_assoc,Array.append_assoc]
  exact congrArg (a++·) ((congrArg (p.toArray++·) (List.append_toArray dots (glue q r))).trans (List.append_toArray p _))
theorem join_glue (p:List Nat) (r:List (List Nat)):Txt.join (ofL dots) ((p::r).map ofL)=ofL (glue p r):=by
 show Builtin.Str.glued (ofL dots) _=_
 unfold Builtin.Str.glued
 rw [List.map_cons,List.headD_cons,List.drop_one,List.tail_cons]
 have h:=join_dots r p #[]
 rw [Array.empty_append,Array.empty_append] at h
 exact congrArg Str.mk h
theorem toStrs_ofL:∀ l:List (List Nat),toStrs (l.map txt)=some (l.map ofL)
 | []=>rfl
 | x::r=>by show (toStrs (r.map txt)).map _=_;rw [toStrs_ofL r];rfl
theorem sum_le {α:Type} {f:α->Nat} {n:Nat}:∀ {l:List α},(∀ x∈l,f x<=n)->(l.map f).sum<=l.length*n
 | [],_=>Nat.zero_le _
 | x::r,h=>by
  rw [List.map_cons,List.sum_cons,List.length_cons,Nat.succ_mul,Nat.add_comm]
  exact Nat.add_le_add (sum_le λ y hy=>h y (List.mem_cons_of_mem _ hy)) (h x List.mem_cons_self)
theorem glue_len {n:Nat}:∀ {r:List (List Nat)} {p:List Nat},(∀ q∈p::r,q.length<=n)->(glue p r).length<=(r.length+1)*(n+3)
 | [],p,h=>by
  have:=h p List.mem_cons_self
  rw [glue,List.length_nil]
  lia
 | q::r,p,h=>by
  have h1:=h p List.mem_cons_self
  have h2:=glue_len (r:=r) (p:=q) λ x hx=>h x (List.mem_cons_of_mem _ hx)
  rw [show glue p (q::r)=p++(dots++glue q r) from rfl,List.length_append,List.length_append,List.length_cons,Nat.succ_mul,show dots.length=3 from rfl]
  lia
theorem joinD_ev {f:PE} {fr:AFr} {σ:St} {p:List Nat} {r:List (List Nat)} (hn:fr.hnd=.no) (hf:Ev f fr σ (.lst ((p::r).map txt))) (hr:r.length<=3) (h:∀ q∈p::r,q.length<=1000):Ev (E.meth "str" opJoin (E.c (.str "...")) (L.cons f L.nil)) fr σ (txt (glue p r)):=by
 rw [dots_cps]
 refine Ev.meth hn Ev.c rfl (Lv.one hf) λ K hK=>⟨_,toStrs_ofL (p::r),?_,by rw [join_glue];exact hK⟩
 have h1:=sum_le (f:=λ q=>(ofL q).length) λ q hq=>(len_txt q).symm▸h q hq
 rw [List.map_map,List.length_map,len_txt,show dots.length=3 from rfl]
 refine small_len (Nat.le_trans (Nat.add_le_add_right h1 _) ?_)
 rw [List.length_cons]
 lia
noncomputable def Fgm (t q:List Nat):Prop:=q.length<=2*t.length/\∀ c∈q,c∈t
section
variable {t q:List Nat}
theorem Fgm.take (h:Fgm t q) (n:Nat):Fgm t (q.take n):=⟨Nat.le_trans (List.length_take_le' ..) h.1,λ c hc=>h.2 c (List.mem_of_mem_take hc)⟩
theorem Fgm.drop (h:Fgm t q) (n:Nat):Fgm t (q.drop n):=⟨Nat.le_trans (by rw [List.length_drop];exact Nat.sub_le ..) h.1,λ c hc=>h.2 c (List.mem_of_mem_drop hc)⟩
theorem Fgm.nil:Fgm t []:=⟨Nat.zero_le _,λ c hc=>absurd hc List.not_mem_nil⟩
theorem Fgm.self:Fgm t t:=⟨Nat.le_mul_of_pos_left _ (by decide),λ c hc=>hc⟩
theorem Fgm.two {a b:Nat}:Fgm t (t.take a++t.drop b):=⟨by
 rw [List.length_append,Nat.two_mul]
 exact Nat.add_le_add (List.length_take_le' ..) (by rw [List.length_drop];exact Nat.sub_le ..),λ c hc=>(List.mem_append.mp hc).elim List.mem_of_mem_take List.mem_of_mem_drop⟩
theorem all_nil {α:Type} {P:α->Prop}:∀ x∈([]:List α),P x:=λ z h=>absurd h List.not_mem_nil
theorem all_cons {α:Type} {P:α->Prop} {a:α} {l:List α} (h:P a) (h2:∀ x∈l,P x):∀ x∈a::l,P x:=List.forall_mem_cons.mpr ⟨h,h2⟩
theorem all_app {α:Type} {P:α->Prop} {a l:List α} (h:∀ x∈a,P x) (h2:∀ x∈l,P x):∀ x∈a++l,P x:=List.forall_mem_append.mpr ⟨h,h2⟩
noncomputable def pcL (t:List Nat) (a b c:Nat):List (List Nat×List (List Nat)):=[(t.take a,[t.drop b]),(t.take a++t.drop (a+b%2),[]),([],[(t.drop a).take 3,(t.drop b).take 2,[]]),(t.drop a,[[],t.take b]),(t.take a,[(t.drop b).take 2,t.drop c])]
theorem pcs_ok {a b c:Nat}:∀ q∈pcL t a b c,q.2.length<=3/\∀ s∈q.1::q.2,Fgm t s:=
 have tk:=λ n=>Fgm.take (Fgm.self (t:=t)) n
 have dr:=λ n=>Fgm.drop (Fgm.self (t:=t)) n
 all_cons ⟨of_decide_eq_true rfl,all_cons (tk a) (all_cons (dr b) all_nil)⟩ (all_cons ⟨of_decide_eq_true rfl,all_cons Fgm.two all_nil⟩ (all_cons ⟨of_decide_eq_true rfl,all_cons Fgm.nil (all_cons ((dr a).take 3) (all_cons ((dr b).take 2) (all_cons Fgm.nil all_nil)))⟩
  (all_cons ⟨of_decide_eq_true rfl,all_cons (dr a) (all_cons Fgm.nil (all_cons (tk b) all_nil))⟩ (all_cons ⟨of_decide_eq_true rfl,all_cons (tk a) (all_cons ((dr b).take 2) (all_cons (dr c) all_nil))⟩ all_nil))))
end
noncomputable abbrev sgHD:AV:=.dct (.numd (dctOf sgH))
section
variable {fr:AFr} {σ:St} {q:Nat}
theorem ev_textH {row:List Int} (hn:fr.hnd=.no) (hχ:fr.χ.getD 1 0=q) (hc:σ[q]?=some (.cel (some sgHD))) (h1:fr.ρ[1]?=some (some (.lst (row.map .int)))) (hs:∀ s∈row,SymOk s) (hl:row.length<=1000):
  Ev (E.meth "str" opJoin (E.c (.str "")) (L.cons (E.comp 1 0 [1] (Y.lst (E.loc 1)) (.one (.loc 0)) (T.c true) (C.elt (E.ite (T.cmp cmpLt (E.loc 0) (E.c (.int 256))) (E.sub (E.cel 0) (E.loc 0)) (E.app opChr (L.cons (E.loc 0) L.nil))))) L.nil)) fr σ (txt (txtOf row)):=by
 refine glue_ev hn ?_ (by rw [txtOf,List.length_map];exact hl)
 rw [show (txtOf row).map (λ c=>txt [c])=(row.map AV.int).map txG by rw [txtOf,List.map_map,List.map_map];rfl]
 refine comp_map (χ':=[q]) (by rw [<- hχ];rfl) (Lv.ylst hn (Ev.loc h1)) (by rw [List.length_map];exact hl) λ x hx=>?_
 obtain ⟨s,hm,rfl⟩:=List.mem_map.mp hx
 have hy:=hs s hm
 refine Ev.ite (c₁:=decide (s<256)) (Tv.cmp (Ev.loc rfl) Ev.c λ z h=>h) (λ hb=>?_) λ hb=>?_
 ·exact Ev.sub (Ev.cel rfl hc) (Ev.loc rfl) λ Q h=>⟨_,sym_signH hy (of_decide_eq_true hb),h⟩
 ·obtain ⟨t1,t2,t3,t4,t5⟩:=txC_ok hy
  refine Ev.app hn (Lv.one (Ev.loc rfl)) λ Q h=>⟨t1,Int.le_trans (Int.le_of_lt t2) (by decide),?_⟩
  rw [<- t5 (Int.not_lt.mp (of_decide_eq_false hb))]
  exact h
theorem Lv.ytup {f:PE} {l:List AV} (hn:fr.hnd=.no) (h:Ev f fr σ (.tup l)):Lv (Y.tup f) fr σ l:=λ K X hK=>⟨hn,h _ _ ⟨l,rfl,hK⟩⟩
noncomputable def cutG (z:Int) (m:Nat):AV->AV
 | .int s=>.int (z/s%((m:Int)+1))
 | _=>.none
theorem ev_cuts {t:List Nat} {z:Int} {qt qz:Nat} {a b c:Nat} (hn:fr.hnd=.no) (hχ:fr.χ.getD 2 0=qt) (hχ':fr.χ.getD 0 0=qz) (ht:σ[qt]?=some (.cel (some (txt t)))) (hz:σ[qz]?=some (.cel (some (.int z)))) (hl:t.length<=1000)
  (ha:z/5%((t.length:Int)+1)=a) (hb:z/200%((t.length:Int)+1)=b) (hc:z/9000%((t.length:Int)+1)=c):
  Ev (E.comp 1 0 [2,0] (Y.tup (E.tup (L.cons (E.c (.int 5)) (L.cons (E.c (.int 200)) (L.cons (E.c (.int 9000)) L.nil))))) (.one (.loc 0)) (T.c true) (C.elt (E.bin opMod (E.bin opDiv (E.cel 1) (E.loc 0)) (E.bin opAdd (E.app opLen (L.cons (E.cel 0) L.nil)) (E.c (.int 1)))))) fr σ
   (.lst [.int (a:Nat),.int (b:Nat),.int (c:Nat)]):=by
 rw [<- ha,<- hb,<- hc]
 refine comp_map (χ':=[qt,qz]) (g:=cutG z t.length) (l:=([5,200,9000]:List Int).map .int) (by rw [<- hχ,<- hχ'];rfl) (Lv.ytup hn (Ev.tup (Lv.cons Ev.c (Lv.cons Ev.c (Lv.one Ev.c))))) (by decide) λ x hx=>?_
 obtain ⟨s,hm,rfl⟩:=List.mem_map.mp hx
 have key:∀ s∈([5,200,9000]:List Int),0<s/\s<2^70:=by decide
 obtain ⟨k1,k2⟩:=key s hm
 exact Ev.mod (Ev.div (Ev.cel rfl hz) (Ev.loc rfl) k1 (small_py k1 k2)) (Ev.add (Ev.lenS hn (Ev.cel rfl ht) (Nat.le_trans hl (by decide))) Ev.c) (Int.lt_add_one_of_le (Int.natCast_nonneg _))
noncomputable def pcsE:PE:=(E.sub (E.lst (L.cons (E.lst (L.cons (E.sliceS (E.cel 2) Qp.no (Qp.of (E.loc 9))) (L.cons (E.sliceS (E.cel 2) (Qp.of (E.loc 10)) Qp.no) L.nil))) (L.cons (E.lst (L.cons (E.bin opAdd (E.sliceS (E.cel 2) Qp.no (Qp.of (E.loc 9))) (E.sliceS (E.cel 2) (Qp.of (E.bin opAdd (E.loc 9) (E.bin opMod (E.loc 10) (E.c (.int 2))))) Qp.no)) L.nil)) (L.cons (E.lst (L.cons (E.c (.str "")) (L.cons (E.sliceS (E.cel 2) (Qp.of (E.loc 9)) (Qp.of (E.bin opAdd (E.loc 9) (E.c (.int 3))))) (L.cons (E.sliceS (E.cel 2) (Qp.of (E.loc 10)) (Qp.of (E.bin opAdd (E.loc 10) (E.c (.int 2))))) (L.cons (E.c (.str "")) L.nil))))) (L.cons (E.lst (L.cons (E.sliceS (E.cel 2) (Qp.of (E.loc 9)) Qp.no) (L.cons (E.c (.str "")) (L.cons (E.sliceS (E.cel 2) Qp.no (Qp.of (E.loc 10))) L.nil)))) (L.cons (E.lst (L.cons (E.sliceS (E.cel 2) Qp.no (Qp.of (E.loc 9))) (L.cons (E.sliceS (E.cel 2) (Qp.of (E.loc 10)) (Qp.of (E.bin opAdd (E.loc 10) (E.c (.int 2))))) (L.cons (E.sliceS (E.cel 2) (Qp.of (E.loc 11)) Qp.no) L.nil)))) L.nil)))))) (E.bin opMod (E.cel 0) (E.c (.int 5))))
section
variable {t:List Nat} {f g:PE} {a b:Nat}
theorem sl_to (h:Ev f fr σ (txt t)) (h2:Ev g fr σ (.int (a:Nat))) (hl:t.length<=1000):Ev (E.sliceS f Qp.no (Qp.of g)) fr σ (txt (t.take a)):=Ev.sliceS h Pv.no (Pv.of h2) (Nat.le_trans hl (by decide)) (slice_to t a)
theorem sl_from (h:Ev f fr σ (txt t)) (h2:Ev g fr σ (.int (a:Nat))) (hl:t.length<=1000):Ev (E.sliceS f (Qp.of g) Qp.no) fr σ (txt (t.drop a)):=Ev.sliceS h (Pv.of h2) Pv.no (Nat.le_trans hl (by decide)) (slice_from t a)
theorem sl_mid (h:Ev f fr σ (txt t)) (h2:Ev g fr σ (.int (a:Nat))) (d:Nat) (hl:t.length<=1000):Ev (E.sliceS f (Qp.of g) (Qp.of (E.bin opAdd g (E.c (.int (d:Nat)))))) fr σ (txt ((t.drop a).take d)):=
 Ev.sliceS h (Pv.of h2) (Pv.of (i:=((a+d:Nat):Int)) (Ev.bin h2 Ev.c λ Q hQ=>by rw [Int.natCast_add] at hQ;exact hQ)) (Nat.le_trans hl (by decide)) (by rw [slice_nat,Nat.add_sub_cancel_left])
end
theorem pick_mem {α:Type} {l:List α} {z:Int} {n:Nat} (hn:l.length=n) (h0:0<n):∃ (i:Nat) (x:α),z%n=i/\l[i]?=some x/\x∈l/\i<n:=by
 have h1:=Int.emod_nonneg z (Int.ofNat_ne_zero.mpr (Nat.ne_of_gt h0))
 have h2:=Int.emod_lt_of_pos z (Int.ofNat_lt.mpr h0)
 obtain ⟨i,hi⟩:=Int.eq_ofNat_of_zero_le h1
 rw [hi] at h2
 have h3:=Int.ofNat_lt.mp h2
 subst hn
 exact ⟨i,l[i],hi,List.getElem?_eq_getElem h3,List.getElem_mem h3,h3⟩
theorem ev_pieces {t:List Nat} {a b c:Nat} {z:Int} {q0 q2:Nat} (h0:fr.χ[0]?=some q0) (h2:fr.χ[2]?=some q2) (hz:σ[q0]?=some (.cel (some (.int z)))) (ht:σ[q2]?=some (.cel (some (txt t))))
  (ha:fr.ρ[9]?=some (some (.int (a:Nat)))) (hb:fr.ρ[10]?=some (some (.int (b:Nat)))) (hc:fr.ρ[11]?=some (some (.int (c:Nat)))) (hl:t.length<=1000):
  ∃ q∈pcL t a b c,Ev pcsE fr σ (.lst ((q.1::q.2).map txt)):=by
 obtain ⟨i,q,e,hi,hq,hi5⟩:=pick_mem (z:=z) (l:=pcL t a b c) (n:=5) rfl (by decide)
 refine ⟨q,hq,?_⟩
 have A:Ev (E.loc 9) fr σ (.int (a:Nat)):=Ev.loc ha
 have Bb:Ev (E.loc 10) fr σ (.int (b:Nat)):=Ev.loc hb
 have Z:Ev (E.cel 2) fr σ (txt t):=Ev.cel h2 ht
 have N:Ev (E.c (.str "")) fr σ (txt []):=by rw [show ("":Str)=ofL [] by decide+kernel];exact Ev.c
 have s1:=sl_to Z A hl
 have s5:=sl_mid Z Bb 2 hl
 have s4:=sl_mid Z A 3 hl
 have s3:Ev (E.sliceS (E.cel 2) (Qp.of (E.bin opAdd (E.loc 9) (E.bin opMod (E.loc 10) (E.c (.int 2))))) Qp.no) fr σ (txt (t.drop (a+b%2))):=sl_from Z (Ev.bin A (Ev.modC Bb) λ Q hQ=>hQ) hl
 have s9:Ev (E.bin opAdd (E.sliceS (E.cel 2) Qp.no (Qp.of (E.loc 9))) (E.sliceS (E.cel 2) (Qp.of (E.bin opAdd (E.loc 9) (E.bin opMod (E.loc 10) (E.c (.int 2))))) Qp.no)) fr σ (txt (t.take a++t.drop (a+b%2))):=Ev.bin s1 s3 λ Q hQ=>by
  refine ⟨?_,?_⟩
  ·have h:=(Fgm.two (t:=t) (a:=a) (b:=a+b%2)).1
   rw [List.length_append] at h
   rw [len_txt,len_txt]
   exact small_len (by lia)
  ·rw [show ofL (t.take a)++ofL (t.drop (a+b%2))=ofL (t.take a++t.drop (a+b%2)) from congrArg Str.mk (List.append_toArray ..)]
   exact hQ
 exact Ev.subL (l:=(pcL t a b c).map λ (q:List Nat×List (List Nat))=>.lst ((q.1::q.2).map txt)) (Ev.lst (Lv.cons (Ev.lst (Lv.cons s1 (Lv.one (sl_from Z Bb hl)))) (Lv.cons (Ev.lst (Lv.one s9)) (Lv.cons (Ev.lst (Lv.cons N (Lv.cons s4 (Lv.cons s5 (Lv.one N))))) (Lv.cons (Ev.lst (Lv.cons (sl_from Z A hl) (Lv.cons N (Lv.one (sl_to Z Bb hl))))) (Lv.one (Ev.lst (Lv.cons s1 (Lv.cons s5 (Lv.one (sl_from Z (Ev.loc hc) hl)))))))))))
  (Ev.modC (Ev.cel h0 hz)) e (by rw [List.getElem?_map,hi];rfl) (Nat.lt_trans hi5 (by decide))
end
end
section
variable {B:BC} {k:Nat}
inductive Pd (n:Nat) (a:AV):Prop
 | mk (d:PyData) (z:toPD a=some d) (z:PyData.canLay0 d=true) (z:PyData.depth d<=n)
inductive Pds (n:Nat) (l:List AV):Prop
 | mk (d:List PyData) (z:toPDs l=some d) (z:PyData.canLayAll0 d=true) (z:PyData.depthAll d<=n)
section
variable {n m:Nat} {a:AV} {l r:List AV}
theorem toPDs_cons {d:PyData} {ds:List PyData} (h:toPD a=some d) (h2:toPDs l=some ds):toPDs (a::l)=some (d::ds):=by
 show (match toPD a,toPDs l with | some d,some ds=>some (d::ds) | _,_=>none)=_
 rw [h,h2]
theorem Pds.nil:Pds n []:=⟨[],rfl,rfl,Nat.zero_le _⟩
theorem Pds.cons (h:Pd n a) (h2:Pds n l):Pds n (a::l):=
 h.casesOn λ d h1 h2' h3=>h2.casesOn λ ds g1 g2 g3=>⟨d::ds,toPDs_cons h1 g1,by rw [PyData.canLayAll0,h2',g2];rfl,by rw [PyData.depthAll];exact Nat.max_le.mpr ⟨h3,g3⟩⟩
theorem Pds.one (h:Pd n a):Pds n [a]:=.cons h .nil
theorem Pds.map {α:Type} {f:α->AV} (h:∀ x,Pd n (f x)):∀ l:List α,Pds n (l.map f)
 | []=>.nil
 | x::r=>.cons (h x) (Pds.map h r)
set_option tactic.hygienic true in
theorem Pds.app (h:Pds n r):∀ {l:List AV},Pds n l->Pds n (l++r)
 | [],_=>h
 | x::l,⟨d,h1,h2,h3⟩=>by
  rw [toPDs] at h1
  split at h1
  ·rename_i d' ds e1 e2
   cases h1
   rw [PyData.canLayAll0,Bool.and_eq_true] at h2
   rw [PyData.depthAll] at h3
   have h3:=Nat.max_le.mp h3
   exact .cons ⟨d',e1,h2.1,h3.1⟩ (Pds.app h ⟨ds,e2,h2.2,h3.2⟩)
  ·cases h1
theorem Pd.lst (h:Pds n l):Pd (n+1) (.lst l):=h.casesOn λ ds g1 g2 g3=>⟨.list ds,by show Option.map _ (toPDs _)=_;rw [g1];rfl,g2,Nat.succ_le_succ g3⟩
theorem Pd.tup (h:Pds n l):Pd (n+1) (.tup l):=h.casesOn λ ds g1 g2 g3=>⟨.tuple ds,by show Option.map _ (toPDs _)=_;rw [g1];rfl,g2,Nat.succ_le_succ g3⟩
theorem Pd.int (i:Int):Pd n (.int i):=⟨_,rfl,rfl,Nat.zero_le _⟩
theorem Pd.bool (i:Bool):Pd n (.bool i):=⟨_,rfl,rfl,Nat.zero_le _⟩
theorem Pd.txt {t:List Nat} (h:TxtOk t):Pd n (txt t):=⟨_,rfl,SeqAt.canLay_of_shaped (shaped_txt h),Nat.zero_le _⟩
theorem Pd.mono (h:Pd n a) (hm:n<=m):Pd m a:=h.casesOn λ d h1 h2 h3=>⟨d,h1,h2,Nat.le_trans h3 hm⟩
theorem Pd.self (h:Pd n a) (hn:n<=64):∃ d,toPD a=some d/\SeqAt.shaped d=true/\PyData.eqv d d=true:=
 h.casesOn λ d h1 h2 h3=>⟨d,h1,by unfold SeqAt.shaped;rw [h2,decide_eq_true (Nat.le_trans h3 hn)];rfl,SeqAt.eqv_refl d h2⟩
theorem Pd.eq (h:Pd n a) (hn:n<=64) (Q:Bool->Prop) (hQ:Q true):cmpEq a a Q:=by
 obtain ⟨d,h1,h2,h3⟩:=h.self hn
 exact ⟨d,d,h1,h1,h2,h2,by rw [h3];exact hQ⟩
theorem Pd.ne (h:Pd n a) (hn:n<=64) (Q:Bool->Prop) (hQ:Q false):cmpNe a a Q:=by
 obtain ⟨d,h1,h2,h3⟩:=h.self hn
 exact ⟨d,d,h1,h1,h2,h2,by rw [h3];exact hQ⟩
end
theorem ask_pd {num:Int} {t p:List Nat} {r:List (List Nat)} {y v:Int} (okt:TxtOk t):∀ (TT:Tm) (tl:List AV),Pds 2 tl->Pds 2 (askT num t p r y v TT tl).2
 | .leaf i,tl,h=>by
  rw [ask_leaf]
  by_cases h1:i=1
  ·rw [if_pos h1];exact Pds.app (.one (.lst (.cons (.int _) (.cons (.int _) (.cons (.txt okt) (.cons (.bool _) (.one (.bool _)))))))) h
  rw [if_neg h1]
  by_cases h2:dDiv (zOf y v i)=0
  ·rw [if_pos h2];exact h
  ·rw [if_neg h2];exact Pds.app (.one (.lst (.cons (.int _) (.cons (.int _) (.cons (.txt okt) (.one (.tup (.cons (.int _) (.one (.int _)))))))))) h
 | .neg a,tl,h=>ask_pd okt a tl h
 | .bin op a b,tl,h=>by
  rw [ask_bin]
  by_cases h1:(askT num t p r y v b tl).1=true
  ·rw [if_pos h1];exact ask_pd okt a _ (ask_pd okt b tl h)
  ·rw [if_neg h1];exact ask_pd okt b tl h
noncomputable def lv:Tm->List Int
 | .leaf i=>[i]
 | .neg a=>lv a
 | .bin _ a b=>lv b++lv a
noncomputable def ntX:AV->Bool
 | .int s=>decide (255<s)
 | _=>false
theorem out_app {test:AV->Bool} {G:AV->List AV} (b:List AV):∀ a:List AV,outL test G (a++b)=outL test G a++outL test G b
 | []=>rfl
 | x::a=>by rw [List.cons_append,outL,outL,out_app b a,List.append_assoc]
theorem lv_out:∀ TT:Tm,TmOk TT->outL ntX (λ x=>[subG x]) ((flat TT).map .int).reverse=(lv TT).map .int
 | .leaf i,h=>by
  rcases h with rfl | rfl | rfl<;>rfl
 | .neg a,h=>by
  rw [flat,List.map_cons,List.reverse_cons,out_app,lv_out a h]
  exact List.append_nil _
 | .bin op a b,h=>by
  obtain ⟨h0,h1,h2⟩:=h
  rw [flat,List.map_cons,List.reverse_cons,out_app,List.map_append,List.reverse_append,out_app,lv_out a h1,lv_out b h2]
  rw [show outL ntX (λ x=>[subG x]) [.int op]=[] by rcases h0 with rfl | rfl | rfl<;>rfl,List.append_nil,lv,List.map_append]
theorem lv_len:∀ TT:Tm,(lv TT).length<=(flat TT).length
 | .leaf i=>Nat.le_refl _
 | .neg a=>Nat.le_succ_of_le (lv_len a)
 | .bin op a b=>by
  have:=lv_len a
  have:=lv_len b
  rw [lv,flat,List.length_append,List.length_cons,List.length_append]
  lia
theorem ev_idx {TT:Tm} (ok:TmOk TT) (hl:(flat TT).length<=8) {fr:AFr} {σ:St} (hn:fr.hnd=.no) (h2:fr.ρ[2]?=some (some (.lst ((flat TT).map .int)))):
  Ev (E.comp 1 0 [] (Y.rev (L.cons (E.loc 2) L.nil)) (.one (.loc 0)) (T.cmp cmpGt (E.loc 0) (E.c (.int 255))) (C.elt (E.bin opSub (E.loc 0) (E.c (.int 256))))) fr σ (.lst ((lv TT).map .int)):=by
 rw [<- lv_out TT ok]
 refine comp_filter (χ':=[]) rfl (Lv.yrev hn (Ev.loc h2)) ?_ (λ x hx=>?_) λ x hx z=>?_
 ·rw [lv_out TT ok,List.length_map]
  exact Nat.le_trans (lv_len TT) (Nat.le_trans hl (by decide))
 ·obtain ⟨s,_,rfl⟩:=List.mem_map.mp (List.mem_reverse.mp hx)
  exact Tv.cmp (Ev.loc rfl) Ev.c λ z h=>h
 ·obtain ⟨s,_,rfl⟩:=List.mem_map.mp (List.mem_reverse.mp hx)
  exact Ev.min (Ev.loc rfl) Ev.c
end
section
variable {B:BC} {k:Nat}
noncomputable def askE:PE:=(E.ite (T.cmp cmpEq (E.loc 18) (E.c (.int 1))) (E.lst (L.cons (E.c (.int 1)) (L.cons (E.loc 7) (L.cons (E.cel 2) (L.cons (E.loc 13) (L.cons (E.not (E.loc 13)) L.nil)))))) (E.lst (L.cons (E.loc 18) (L.cons (E.loc 7) (L.cons (E.cel 2) (L.cons (E.sub (E.sub (E.cel 3) (E.bin opDiv (E.loc 18) (E.c (.int 2)))) (E.c (.int 2))) L.nil))))))
noncomputable def askB:PS:=(S.cons (S.ite (T.and (T.cmp cmpNe (E.loc 18) (E.c (.int 1))) (T.and (T.cmp cmpEq (E.sub (E.sub (E.cel 3) (E.bin opDiv (E.loc 18) (E.c (.int 2)))) (E.c (.int 1))) (E.c (.int 0))) (T.c true))) (S.cons (S.set (.loc 17) (E.lst (L.cons (E.c (.str "ZeroDivisionError")) (L.cons (E.c (.str "")) L.nil))))
 (S.cons S.brk
 S.nil)) S.nil)
 (S.cons (S.expr (E.meth "list" opAppend (E.loc 8) (L.cons askE L.nil)))
 S.nil))
noncomputable abbrev zdue:AV:=.lst [.str "ZeroDivisionError",.str ""]
structure HFr (num:Int) (nk:Nat) (ft:Bool) (c2 c3:Nat) (rep due:AV) (fr:AFr):Prop where
 h7:fr.ρ[7]?=some (some (.int num))
 h8:fr.ρ[8]?=some (some (.loc nk))
 h13:fr.ρ[13]?=some (some (.bool ft))
 h14:fr.ρ[14]?=some (some rep)
 h17:fr.ρ[17]?=some (some due)
 x2:fr.χ[2]?=some c2
 x3:fr.χ[3]?=some c3
 hn:fr.hnd=.no
 len:18<fr.ρ.length
structure AskS (t:List Nat) (d:List AV) (nk c2 c3:Nat) (Z:List AV->St):Prop where
 g:∀ tl,(Z tl)[nk]?=some (.lst tl)
 set:∀ tl tl',(Z tl).set nk (.lst tl')=Z tl'
 g2:∀ tl,(Z tl)[c2]?=some (.cel (some (txt t)))
 g3:∀ tl,(Z tl)[c3]?=some (.cel (some (.lst d)))
section
variable {num:Int} {t p:List Nat} {r:List (List Nat)} {y v ix:Int} {nk c2 c3:Nat} {ft:Bool} {rep due due' x:AV} {fr:AFr} {Z:List AV->St} {N Kn Bk:PN} {R:PK} {X:PX} {tl:List AV}
theorem HFr.put18 (F:HFr num nk ft c2 c3 rep due fr):HFr num nk ft c2 c3 rep due (fr.at (fr.ρ.set 18 (some x)))/\(fr.ρ.set 18 (some x))[18]?=some (some x):=
 have g:=λ (i:Nat) (h:18≠i)=>List.getElem?_set_ne h (l:=fr.ρ) (a:=some x)
 ⟨⟨(g 7 (by decide)).trans F.h7,(g 8 (by decide)).trans F.h8,(g 13 (by decide)).trans F.h13,(g 14 (by decide)).trans F.h14,(g 17 (by decide)).trans F.h17,F.x2,F.x3,F.hn,by rw [List.length_set];exact F.len⟩,List.getElem?_set_self F.len⟩
theorem HFr.put17 (F:HFr num nk ft c2 c3 rep due fr):HFr num nk ft c2 c3 rep due' (fr.at (fr.ρ.set 17 (some due'))):=
 have g:=λ (i:Nat) (h:17≠i)=>List.getElem?_set_ne h (l:=fr.ρ) (a:=some due')
 ⟨(g 7 (by decide)).trans F.h7,(g 8 (by decide)).trans F.h8,(g 13 (by decide)).trans F.h13,(g 14 (by decide)).trans F.h14,List.getElem?_set_self (Nat.lt_of_succ_lt F.len),F.x2,F.x3,F.hn,by rw [List.length_set];exact F.len⟩
theorem ev_zdiv {σ:St} (h18:fr.ρ[18]?=some (some (.int ix))) (h3:fr.χ[3]?=some c3) (hd:σ[c3]?=some (.cel (some (.lst [divA y num,divA v num])))) (hix:ix=0\/ix=2):
  Ev (E.sub (E.cel 3) (E.bin opDiv (E.loc 18) (E.c (.int 2)))) fr σ (divA (zOf y v ix) num):=by
 rcases hix with rfl | rfl
 ·exact Ev.subL (n:=0) (Ev.cel h3 hd) (Ev.divC (Ev.loc h18)) rfl rfl (by decide)
 ·exact Ev.subL (n:=1) (Ev.cel h3 hd) (Ev.divC (Ev.loc h18)) rfl rfl (by decide)
theorem ask_step (A:AskS t [divA y num,divA v num] nk c2 c3 Z) (F:HFr num nk (fits t p r) c2 c3 rep due fr) (h18:fr.ρ[18]?=some (some (.int ix))) (htl:tl.length<=100) (hix:ix=0\/ix=1\/ix=2)
  (hk:(askT num t p r y v (.leaf ix) tl).1=true->Kn fr.ρ (Z (askT num t p r y v (.leaf ix) tl).2)) (hb:(askT num t p r y v (.leaf ix) tl).1=false->Bk (fr.ρ.set 17 (some zdue)) (Z (askT num t p r y v (.leaf ix) tl).2)):askB fr (Z tl) Kn R Bk X:=by
 have L7:Ev (E.loc 7) fr (Z tl) (.int num):=Ev.loc F.h7
 have L18:Ev (E.loc 18) fr (Z tl) (.int ix):=Ev.loc h18
 have C2:Ev (E.cel 2) fr (Z tl) (txt t):=Ev.cel F.x2 (A.g2 tl)
 have push:∀ {x:AV},Ev askE fr (Z tl) x->Kn fr.ρ (Z (tl++[x]))->S.cons (S.expr (E.meth "list" opAppend (E.loc 8) (L.cons askE L.nil))) S.nil fr (Z tl) Kn R Bk X:=λ h hK=>append_ev F.hn (Ev.loc F.h8) h (A.g tl) (small_len (Nat.le_trans htl (by decide))) (by rw [A.set];exact hK)
 rw [ask_leaf] at hk hb
 by_cases h1:ix=1
 ·rw [if_pos h1] at hk
  have c:=decide_eq_true h1
  refine if_no (Tv.and2 (c₁:=false) (Tv.cmp L18 Ev.c λ Q hQ=>cmpNe_int _ (by rw [c];exact hQ)) (λ q=>nomatch q) λ z=>rfl) (push (Ev.iteT (by rw [<- c];exact Tv.eqI L18 Ev.c) (Ev.lst (Lv.cons Ev.c (Lv.cons L7 (Lv.cons C2 (Lv.cons (Ev.loc F.h13) (Lv.one λ K X hK=>⟨_,F.h13,hK⟩))))))) (hk rfl))
 ·rw [if_neg h1] at hk hb
  have c:=decide_eq_false h1
  have Dv:Ev (E.sub (E.cel 3) (E.bin opDiv (E.loc 18) (E.c (.int 2)))) fr (Z tl) (divA (zOf y v ix) num):=ev_zdiv h18 F.x3 (A.g3 tl) (hix.imp id λ h=>h.resolve_left h1)
  refine ite_ev (Tv.and2 (c₁:=true) (Tv.cmp L18 Ev.c λ Q hQ=>cmpNe_int _ (by rw [c];exact hQ)) (λ z=>Tv.and2 (Tv.eqI (Ev.subL (n:=1) Dv Ev.c rfl rfl (by decide)) Ev.c) (λ q=>by rw [q];exact Tv.c) λ q=>q) λ q=>nomatch q) (λ hz=>?_) λ hz=>?_
  ·rw [if_pos (of_decide_eq_true hz)] at hb
   exact hb rfl
  ·rw [if_neg (of_decide_eq_false hz)] at hk
   exact push (Ev.iteF (by rw [<- c];exact Tv.eqI L18 Ev.c) (Ev.lst (Lv.cons L18 (Lv.cons L7 (Lv.cons C2 (Lv.one (Ev.subL (n:=2) Dv Ev.c rfl rfl (by decide)))))))) (hk rfl)
theorem ask_loop (A:AskS t [divA y num,divA v num] nk c2 c3 Z):∀ (TT:Tm) (tl rest:List AV) (fr:AFr),TmOk TT->(∀ N,BdL N tl)->tl.length+(flat TT).length<=50->HFr num nk (fits t p r) c2 c3 rep due fr->
  ((askT num t p r y v TT tl).1=true->∀ fr,HFr num nk (fits t p r) c2 c3 rep due fr->forK (.one (.loc 18)) askB rest fr (Z (askT num t p r y v TT tl).2) N R X)->
  ((askT num t p r y v TT tl).1=false->∀ fr,HFr num nk (fits t p r) c2 c3 rep zdue fr->N fr.ρ (Z (askT num t p r y v TT tl).2))->
  forK (.one (.loc 18)) askB ((lv TT).map .int++rest) fr (Z tl) N R X
 | .leaf i,tl,rest,fr,ok,hb,hl,F,h1,h2=>by
  obtain ⟨F',h18⟩:=F.put18 (x:=.int i)
  exact ⟨_,rfl,ask_step A F' h18 (Nat.le_trans (Nat.le_add_right _ _) (Nat.le_trans hl (by decide))) ok (λ q=>h1 q _ F') λ q=>h2 q _ F'.put17⟩
 | .neg a,tl,rest,fr,ok,hb,hl,F,h1,h2=>ask_loop A a tl rest fr ok hb (Nat.le_trans (Nat.le_succ _) hl) F h1 h2
 | .bin op a b,tl,rest,fr,ok,hb,hl,F,h1,h2=>by
  obtain ⟨b1,b2⟩:=ask_ok num t p r y v b tl hb
  rw [flat,List.length_cons,List.length_append] at hl
  rw [ask_bin] at h1 h2
  rw [lv,List.map_append,List.append_assoc]
  refine ask_loop A b tl _ fr ok.2.2 hb (by lia) F (λ q fr F=>?_) λ q fr F=>?_
  ·rw [if_pos q] at h1 h2
   exact ask_loop A a _ rest fr ok.2.1 b1 (by lia) F h1 h2
  ·rw [if_neg (by rw [q];exact Bool.false_ne_true)] at h2
   exact h2 q fr F
end
end
section
variable {B:BC} {k:Nat}
noncomputable def lastE:PE:=(E.cmp cmpEq (E.lst (L.cons (E.loc 14) (L.cons (E.frz (E.cel 5)) L.nil))) (E.lst (L.cons (E.loc 17) (L.cons (E.frz (E.loc 8)) L.nil))))
noncomputable def truE (i:Nat):PE:=(E.cmp cmpEq (E.sub (E.sub (E.cel 3) (E.c (.int (i:Nat)))) (E.c (.int 2))) (E.sub (E.sub (E.cel 3) (E.c (.int (i:Nat)))) (E.c (.int 3))))
noncomputable def holdsR:PS:=(S.cons (S.set (.loc 16) (E.lst (L.cons (truE 0) (L.cons (E.loc 13) (L.cons (truE 1) L.nil)))))
 (S.cons (S.set (.loc 17) (E.lst (L.cons (E.bin opAdd (E.loc 0) (E.lst (L.cons (E.c (.int 0)) L.nil))) (L.cons (E.lst (L.cons (E.call true (onVal 131 (spForm FB (onClo 5 spC5) (onClo 6 spC6))) (E.c (.val (.ref 131))) (L.cons (E.loc 3) (L.cons (E.loc 16) (L.cons (E.lam 5 []) (L.cons (E.lam 6 []) L.nil))))) L.nil)) L.nil))))
 (S.cons (S.for (Y.lst (E.comp 1 0 [] (Y.rev (L.cons (E.loc 2) L.nil)) (.one (.loc 0)) (T.cmp cmpGt (E.loc 0) (E.c (.int 255))) (C.elt (E.bin opSub (E.loc 0) (E.c (.int 256)))))) (.one (.loc 18)) askB)
 (S.cons (S.ret lastE)
 S.nil))))
noncomputable abbrev hCells (z num:Int) (t p:List Nat) (r:List (List Nat)) (y v:Int) (n6:Nat) (tl ak:List AV):St:=
 [.cel (some (.int z)),.cel (some sgHD),.cel (some (txt t)),.cel (some (.lst [divA y num,divA v num])),.cel (some (txt (glue p r))),.cel (some (.loc n6)),.lst tl,.lst ak]
section
variable {fr:AFr} {σ:St} {f g:PE} {v:AV} {c3:Nat} {d:List AV} {l:List Int}
theorem lam_ev {i:Nat} {fm:List Nat}:Ev (E.lam i fm) fr σ (.clo i (mkCs fm fr)):=λ K X hK=>hK
theorem tru_ev {u num:Int} {i:Nat} (h3:fr.χ[3]?=some c3) (hd:σ[c3]?=some (.cel (some (.lst d)))) (h:d[i]?=some (divA u num)) (hi:i<2^63):Ev (truE i) fr σ (.bool (dRight u num==dWant u num)):=
 have e:=Ev.subL (n:=i) (Ev.cel h3 hd) Ev.c rfl h hi
 Ev.cmp (Ev.subL (n:=2) e Ev.c rfl rfl (by decide)) (Ev.subL (n:=3) e Ev.c rfl rfl (by decide)) λ Q hQ=>eqPair hQ
theorem zero_ev (h:Ev f fr σ (.lst (l.map .int))) (hl:l.length<=100):Ev (E.bin opAdd f (E.lst (L.cons (E.c (.int 0)) L.nil))) fr σ (.lst ((l++[0]).map .int)):=Ev.bin h (Ev.lst (Lv.one Ev.c)) λ Q hQ=>by
 rw [List.map_append] at hQ
 exact ⟨by rw [List.length_map];exact small_len (Nat.le_trans (Nat.succ_le_succ hl) (by decide)),hQ⟩
theorem str_pd {n:Nat} {x:Str} (h:PyData.canLay0 (.str x)=true):Pd n (.str x):=⟨_,rfl,h,Nat.zero_le _⟩
end
theorem holds_tail {σ:St} {z num shape y v:Int} {row:List Int} {t p:List Nat} {r:List (List Nat)} {ρ:List (Option AV)} {χ:List Nat} {N Bk:PN} {R:PK} {X:PX} {rep:AV} (okt:TxtOk t) (hol:row.length<=60)
  (hrep:((askT num t p r y v (tmOf shape) []).1=true/\rep=.lst [.lst ((row++[0]).map .int),.lst [.bool (valT (truthOf num t p r y v) (tmOf shape))]])\/((askT num t p r y v (tmOf shape) []).1=false/\rep=zdue)) (hR:∀ τ,R (.bool true) (σ++τ))
  (h0:ρ[0]?=some (some (.lst (row.map .int)))) (h2:ρ[2]?=some (some (.lst ((flat (tmOf shape)).map .int)))) (h3:ρ[3]?=some (some (.int shape))) (h7:ρ[7]?=some (some (.int num))) (h8:ρ[8]?=some (some (.loc (σ.length+7)))) (h13:ρ[13]?=some (some (.bool (fits t p r)))) (h14:ρ[14]?=some (some rep)) (hlen:18<ρ.length)
  (x2:χ[2]?=some (σ.length+2)) (x3:χ[3]?=some (σ.length+3)) (x5:χ[5]?=some (σ.length+5)):
  holdsR ⟨ρ,χ,HK.no⟩ (σ++hCells z num t p r y v (σ.length+6) (askT num t p r y v (tmOf shape) []).2 []) N R Bk X:=by
 obtain ⟨tok,tlen⟩:=tm_ok shape
 generalize htold:(askT num t p r y v (tmOf shape) []).2=told at*
 have hpd:Pds 2 told:=htold▸ask_pd okt (tmOf shape) [] .nil
 generalize htru:AV.lst [.bool (truthOf num t p r y v 0),.bool (truthOf num t p r y v 1),.bool (truthOf num t p r y v 2)]=tru
 have hd:∀ ak,(σ++hCells z num t p r y v (σ.length+6) told ak)[σ.length+3]?=some (.cel (some (.lst [divA y num,divA v num]))):=λ ak=>get_app ..
 have g6:=λ (i:Nat) (h:16≠i)=>List.getElem?_set_ne h (l:=ρ) (a:=some tru)
 refine set_ev (v:=tru) (htru▸Ev.lst (Lv.cons (tru_ev (u:=y) x3 (hd _) rfl (by decide)) (Lv.cons (Ev.loc h13) (Lv.one (tru_ev (u:=v) x3 (hd _) rfl (by decide)))))) ?_
 generalize hdue:AV.lst [.lst ((row++[0]).map .int),.lst [.bool (valT (truthOf num t p r y v) (tmOf shape))]]=due at*
 have g7:=λ (i:Nat) (h:17≠i)=>List.getElem?_set_ne h (l:=ρ.set 16 (some tru)) (a:=some due)
 refine set_ev (v:=due) (hdue▸Ev.lst (Lv.cons (zero_ev (Ev.loc ((g6 0 (by decide)).trans h0)) (Nat.le_trans hol (by decide))) (Lv.one (Ev.lst (Lv.one (Ev.call rfl Ev.c onVal_self (Lv.cons (Ev.loc ((g6 3 (by decide)).trans h3)) (Lv.cons (Ev.loc (v:=tru) (List.getElem?_set_self (Nat.lt_trans (by decide) hlen))) (Lv.cons lam_ev (Lv.one lam_ev)))) λ K X hK=>?_)))))) ?_
 ·subst htru
  exact spForm.mk (F:=FB) shape (truthOf num t p r y v 0) (truthOf num t p r y v 1) (truthOf num t p r y v 2) _ _ (MinC.mk (F:=FB) (spC5 []) rfl λ a σ K X o h=>spC5.mk a h) (JoinC.mk (F:=FB) (spC6 []) rfl λ op a b σ K X o h=>spC6.mk op a b h) (λ o=>Nat.zero_le _) (by rw [val_formu];exact hK)
 have F:HFr num (σ.length+7) (fits t p r) (σ.length+2) (σ.length+3) rep due ⟨(ρ.set 16 (some tru)).set 17 (some due),χ,HK.no⟩:=
  ⟨(g7 7 (by decide)).trans ((g6 7 (by decide)).trans h7),(g7 8 (by decide)).trans ((g6 8 (by decide)).trans h8),(g7 13 (by decide)).trans ((g6 13 (by decide)).trans h13),(g7 14 (by decide)).trans ((g6 14 (by decide)).trans h14),List.getElem?_set_self (by rw [List.length_set];exact Nat.lt_of_succ_lt hlen),x2,x3,rfl,by rw [List.length_set,List.length_set];exact hlen⟩
 have A:AskS t [divA y num,divA v num] (σ.length+7) (σ.length+2) (σ.length+3) λ ak=>σ++hCells z num t p r y v (σ.length+6) told ak:=⟨λ tl=>get_app ..,λ tl tl'=>set_app ..,λ tl=>get_app ..,hd⟩
 have hrP:Pd 4 rep:=by
  rcases hrep with ⟨_,rfl⟩ | ⟨_,rfl⟩
  ·rw [<- hdue];exact .mono (.lst (.cons (.lst (.map (λ x=>.int x) _)) (.one (.lst (.one (.bool _)))))) (by decide:2<=4)
  ·exact .lst (.cons (str_pd (by decide+kernel)) (.one (str_pd (by decide+kernel))))
 have hall:Pd 5 (.lst [rep,.lst told]):=.lst (.cons hrP (.one (.mono (.lst hpd) (by decide))))
 have last:∀ fr,HFr num (σ.length+7) (fits t p r) (σ.length+2) (σ.length+3) rep rep fr->S.cons (S.ret lastE) S.nil ⟨fr.ρ,χ,HK.no⟩ (σ++hCells z num t p r y v (σ.length+6) told told) N R Bk X:=λ fr F=>by
  refine ⟨rep,F.h14,_,.loc (σ.length+6),x5,get_app ..,told,get_app ..,?_⟩
  refine ⟨rep,F.h17,_,F.h8,told,by rw [set_app];exact get_app ..,?_⟩
  exact hall.eq (by decide) (λ b=>R (.bool b) _) (by rw [set_app,set_app];exact hR _)
 refine for_lv (Lv.ylst rfl (ev_idx tok tlen rfl ((g7 2 (by decide)).trans ((g6 2 (by decide)).trans h2)))) ?_
 rw [<- List.append_nil (List.map AV.int (lv (tmOf shape)))]
 refine ask_loop A (tmOf shape) [] [] _ tok (λ o=>trivial) (by rw [List.length_nil,Nat.zero_add];exact Nat.le_trans tlen (by decide)) F (λ q fr F=>?_) λ q fr F=>?_
 ·obtain ⟨_,e⟩:=hrep.resolve_right λ h=>by rw [q] at h;exact nomatch h.1
  rw [<- e] at F
  rw [htold]
  exact last fr F
 ·obtain ⟨_,e⟩:=hrep.resolve_left λ h=>by rw [q] at h;exact nomatch h.1
  rw [<- e] at F
  rw [htold]
  exact last fr F
end
section
variable {B:BC} {k:Nat}
inductive spHolds:FS
 | mk {σ:St} {K:PK} {X:PX} (op cl:Int) (wi:Nat) (nums:List (List Int)) (form:List Int) (shape y v z w:Int) (o:Sent (tmOf shape) op cl wi nums form) (o:(filled nums form).length<=60) (o:0<=y) (o:0<=v) (o:K (.bool true) σ):
  spHolds [.lst ((ownR (tmOf shape) op cl nums).map .int),.lst ((filled nums form).map .int),.lst ((flat (tmOf shape)).map .int),.int shape,.int y,.int v,.int z,.int w] σ K X
noncomputable abbrev holdsP:PS:=P_law_holds (onVal 136 spNum) (onVal 153 spDvn) (onVal 158 spFits) (onVal 170 spRead) (onVal 146 spTape) (onVal 131 (spForm FB (onClo 5 spC5) (onClo 6 spC6)))
theorem len_up {α:Type} {l:List α} {n i:Nat} {x:α} (h:n<l.length):n<(l.set i x).length:=by rw [List.length_set];exact h
noncomputable abbrev hC (a b c d e f:Option AV):St:=[.cel a,.cel b,.cel c,.cel d,.cel e,.cel f]
section
variable {σ:St} {op cl:Int} {wi:Nat} {nums:List (List Int)} {form:List Int} {shape y v z w num:Int} {t p:List Nat} {r:List (List Nat)} {N Bk:PN} {R:PK} {X:PX} {ρ:List (Option AV)}
theorem holds_try (hS:Sent (tmOf shape) op cl wi nums form) (hnum:digV 14 (filled nums form)=num) (ht:txtOf (filled nums form)=t) (ok:AnsOk num t p r y v) (hR:∀ τ,R (.bool true) (σ++τ))
  (h0:ρ[0]?=some (some (.lst ((ownR (tmOf shape) op cl nums).map .int)))) (h2:ρ[2]?=some (some (.lst ((flat (tmOf shape)).map .int)))) (h3:ρ[3]?=some (some (.int shape))) (h6:ρ[6]?=some (some (.int w))) (h7:ρ[7]?=some (some (.int num))) (h8:ρ[8]?=some (some (.loc (σ.length+7)))) (h13:ρ[13]?=some (some (.bool (fits t p r)))) (hlen:18<ρ.length):
  S.cons (S.tryAs "ZeroDivisionError" 15 (S.set (.loc 14) (E.call true (onVal 170 spRead) (E.c (.val (.ref 170))) (L.cons (E.call true (onVal 146 spTape) (E.c (.val (.ref 146))) (L.cons (E.bin opAdd (E.loc 0) (E.lst (L.cons (E.c (.int 0)) L.nil))) (L.cons (E.loc 6) L.nil))) (L.cons (E.lam 4 [3,4,5]) L.nil)))) (S.cons (S.set (.loc 14) (E.lst (L.cons (E.c (.str "ZeroDivisionError")) (L.cons (E.strX 15) L.nil)))) S.nil)) holdsR
   ⟨ρ,[σ.length+0,σ.length+1,σ.length+2,σ.length+3,σ.length+4,σ.length+5],HK.no⟩ (σ++hCells z num t p r y v (σ.length+6) [] []) N R Bk X:=by
 obtain ⟨osym,olen⟩:=hS.own
 have ol:(ownR (tmOf shape) op cl nums).length<=100:=Nat.le_trans olen (by decide)
 have tape:Ev (E.call true (onVal 146 spTape) (E.c (.val (.ref 146))) (L.cons (E.bin opAdd (E.loc 0) (E.lst (L.cons (E.c (.int 0)) L.nil))) (L.cons (E.loc 6) L.nil))) ⟨ρ,[σ.length+0,σ.length+1,σ.length+2,σ.length+3,σ.length+4,σ.length+5],HK.no⟩ (σ++hCells z num t p r y v (σ.length+6) [] []) (.lst ((marks w 0 (octets (ownR (tmOf shape) op cl nums++[0]))).map .int)):=
  Ev.call rfl Ev.c onVal_self (Lv.cons (zero_ev (Ev.loc h0) ol) (Lv.one (Ev.loc h6))) λ K X hK=>.mk _ w (by rw [List.length_append];exact Nat.le_trans (Nat.succ_le_succ olen) (by decide)) (all_app (λ s hs=>⟨(txC_ok (osym s hs).1).1,(txC_ok (osym s hs).1).2.1⟩) (all_cons (by decide) all_nil)) hK
 have g4:=λ (x:Option AV) (i:Nat) (h:14≠i)=>List.getElem?_set_ne h (l:=ρ) (a:=x)
 have C:C4At (σ++hCells z num t p r y v (σ.length+6) [] []) [σ.length+3,σ.length+4,σ.length+5] num t p r y v (σ.length+6) []:=⟨get_app _ _ 3,get_app _ _ 4,get_app _ _ 5,rfl,get_app _ _ 6,Nat.zero_le _,λ o=>trivial,ok⟩
 have okt:=ok.okt
 subst hnum ht
 have e6:∀ tl,(σ++hCells z (digV 14 (filled nums form)) (txtOf (filled nums form)) p r y v (σ.length+6) [] []).set (σ.length+6) (.lst tl)=σ++hCells z (digV 14 (filled nums form)) (txtOf (filled nums form)) p r y v (σ.length+6) tl []:=λ tl=>set_app ..
 refine ⟨rfl,λ o=>rfl,_,onVal_self,tape _ _ (.mk (tmOf shape) op cl wi nums form w _ p r y v _ hS C (λ q=>?_) λ q=>?_)⟩
 ·rw [e6]
  exact holds_tail okt olen (.inl ⟨q,rfl⟩) hR ((g4 _ 0 (by decide)).trans h0) ((g4 _ 2 (by decide)).trans h2) ((g4 _ 3 (by decide)).trans h3) ((g4 _ 7 (by decide)).trans h7) ((g4 _ 8 (by decide)).trans h8) ((g4 _ 13 (by decide)).trans h13) (List.getElem?_set_self (Nat.lt_trans (by decide) hlen)) (len_up hlen) rfl rfl rfl
 ·rw [e6]
  refine ⟨rfl,λ e=>?_⟩
  have g5:=λ (x:Option AV) (i:Nat) (h:15≠i)=>List.getElem?_set_ne h (l:=ρ) (a:=x)
  have g6:=λ (x:Option AV) (i:Nat) (h:14≠i)=>List.getElem?_set_ne h (l:=ρ.set 15 (some (.val (.ref e)))) (a:=x)
  have g7:=λ (x:Option AV) (i:Nat) (h:15≠i)=>List.getElem?_set_ne h (l:=(ρ.set 15 (some (.val (.ref e)))).set 14 x) (a:=none)
  have g:=λ (x:Option AV) (i:Nat) (h:14≠i) (h':15≠i)=>(g7 x i h').trans ((g6 x i h).trans (g5 _ i h'))
  refine set_ev (v:=zdue) (Ev.lst (Lv.cons Ev.c (Lv.one λ K X hK=>⟨e,rfl,List.getElem?_set_self (Nat.lt_trans (by decide) hlen),by rw [show Str.empty=("":Str) by decide+kernel];exact hK⟩))) ?_
  exact holds_tail okt olen (.inr ⟨q,rfl⟩) hR ((g _ 0 (by decide) (by decide)).trans h0) ((g _ 2 (by decide) (by decide)).trans h2) ((g _ 3 (by decide) (by decide)).trans h3) ((g _ 7 (by decide) (by decide)).trans h7) ((g _ 8 (by decide) (by decide)).trans h8) ((g _ 13 (by decide) (by decide)).trans h13) ((g7 _ 14 (by decide)).trans (List.getElem?_set_self (len_up (Nat.lt_trans (by decide) hlen)))) (len_up (len_up (len_up hlen))) rfl rfl rfl
end
section
variable {t:Tg} {ts:List Tg} {f:PE} {q:PS} {fr:AFr} {σ σ':St} {v:AV} {l:List AV} {N Bk:PN} {R:PK} {X:PX}
theorem setS_ev (h:Ev f fr σ v) (e:(bindT t v fr σ).2=σ') (hq:q (fr.at (bindT t v fr σ).1.ρ) σ' N R Bk X):S.cons (S.set t f) q fr σ N R Bk X:=by subst e;exact set_ev h hq
theorem setPS_ev (hn:fr.hnd≠ .any) (h:Ev f fr σ (.tup l)) (hl:ts.length=l.length) (e:(bindA (ts.zip l) fr σ).2=σ') (hq:q (fr.at (bindA (ts.zip l) fr σ).1.ρ) σ' N R Bk X):S.cons (S.setP (.many ts) f) q fr σ N R Bk X:=by subst e;exact setP_ev hn h hl hq
theorem pieces_ev {t:List Nat} {a b c:Nat} {z:Int} {q0 q2:Nat} (h0:fr.χ[0]?=some q0) (h2:fr.χ[2]?=some q2) (hz:σ[q0]?=some (.cel (some (.int z)))) (ht:σ[q2]?=some (.cel (some (txt t)))) (ha:fr.ρ[9]?=some (some (.int (a:Nat)))) (hb:fr.ρ[10]?=some (some (.int (b:Nat)))) (hc:fr.ρ[11]?=some (some (.int (c:Nat)))) (hl:t.length<=1000)
  (hq:∀ p r,(p,r)∈pcL t a b c->q (fr.at (bindT (.loc 12) (.lst ((p::r).map txt)) fr σ).1.ρ) σ N R Bk X):S.cons (S.set (.loc 12) pcsE) q fr σ N R Bk X:=by
 obtain ⟨⟨p,r⟩,hx,ev⟩:=ev_pieces h0 h2 hz ht ha hb hc hl
 exact set_ev ev (hq p r hx)
theorem set3_ev {a b c:Tg} (hn:fr.hnd≠ .any) (h:Ev f fr σ v) {l1:Nat} (e1:σ.length=l1) (e2:((σ++[AObj.lst []])++[AObj.lst []])=σ') (hq:q (fr.at (bindA [(a,v),(b,.loc l1),(c,.loc (l1+1))] fr σ').1.ρ) (bindA [(a,v),(b,.loc l1),(c,.loc (l1+1))] fr σ').2 N R Bk X):
  S.cons (S.setP (.many [a,b,c]) (E.tup (L.cons f (L.cons (E.new L.nil) (L.cons (E.new L.nil) L.nil))))) q fr σ N R Bk X:=by
 refine ⟨hn,h _ _ ⟨_,rfl,?_⟩⟩
 subst e1 e2
 rw [show σ.length+1=(σ++[AObj.lst []]).length by rw [List.length_append];rfl] at hq
 exact hq
end
theorem holds_run {σ:St} {op cl:Int} {wi:Nat} {nums:List (List Int)} {form:List Int} {shape y v z w:Int} {N Bk:PN} {R:PK} {X:PX} (hS:Sent (tmOf shape) op cl wi nums form) (hfl:(filled nums form).length<=60) (hy:0<=y) (hv:0<=v) (hR:∀ τ,R (.bool true) (σ++τ)):
  holdsP ⟨[some (.lst ((ownR (tmOf shape) op cl nums).map .int)),some (.lst ((filled nums form).map .int)),some (.lst ((flat (tmOf shape)).map .int)),some (.int shape),some (.int y),some (.int v),some (.int w),none,none,none,none,none,none,none,none,none,none,none,none],[σ.length+0,σ.length+1,σ.length+2,σ.length+3,σ.length+4,σ.length+5],HK.no⟩
   (σ++hC (some (.int z)) none none none none none) N R Bk X:=by
 obtain ⟨psym,_⟩:=hS.other
 have hnb:=digV_bound (filled_digs hS)
 have hfd:∀ s∈filled nums form,0<=s/\s<16384:=λ s hs=>⟨(txC_ok (psym s hs)).1,(txC_ok (psym s hs)).2.1⟩
 generalize hnum:digV 14 (filled nums form)=num at hnb
 generalize ht:txtOf (filled nums form)=t
 have htl:t.length<=60:=by rw [<- ht,txtOf,List.length_map];exact hfl
 have htt:∀ c∈t,c<0x110000/\c≠46:=λ c hc=>by
  rw [<- ht] at hc
  obtain ⟨s,hs,rfl⟩:=List.mem_map.mp hc
  obtain ⟨_,_,h3,h4,_⟩:=txC_ok (psym s hs)
  exact ⟨Nat.lt_trans h3 (by decide),h4⟩
 have hn1:num<2^1000:=Int.lt_of_lt_of_le hnb.2 (two_le (Nat.le_trans (Nat.mul_le_mul_left 14 hfl) (by decide)))
 have htk:t.length<=1000:=Nat.le_trans htl (by decide)
 refine setS_ev (v:=sgHD) (λ K X hK=>hK) (set_app ..) ?_
 refine setPS_ev (l:=[.int num,txt t]) (λ z=>nomatch z) (Ev.tup (Lv.cons (Ev.call rfl Ev.c onVal_self (Lv.one (Ev.loc rfl)) λ K X hK=>⟨_,Nat.le_trans hfl (by decide),hfd,by rw [hnum];exact hK⟩) (Lv.one (by rw [<- ht];exact ev_textH (q:=σ.length+1) rfl rfl (get_app ..) rfl psym (Nat.le_trans hfl (by decide)))))) rfl (set_app ..) ?_
 refine set3_ev (v:=.lst [divA y num,divA v num]) (l1:=σ.length+6) (λ z=>nomatch z) (Ev.lst (Lv.cons (Ev.call rfl Ev.c onVal_self (Lv.cons (Ev.loc rfl) (Lv.one (Ev.loc rfl))) λ K X hK=>⟨y,num,hy,hK⟩) (Lv.one (Ev.call rfl Ev.c onVal_self (Lv.cons (Ev.loc rfl) (Lv.one (Ev.loc rfl))) λ K X hK=>⟨v,num,hv,hK⟩)))) (List.length_append ..) ((List.append_assoc ..).trans (List.append_assoc ..)) ?_
 obtain ⟨a,ha⟩:=Int.eq_ofNat_of_zero_le (Int.emod_nonneg (z/5) (Int.ne_of_gt (Int.lt_add_one_of_le (Int.natCast_nonneg t.length))))
 obtain ⟨b,hb⟩:=Int.eq_ofNat_of_zero_le (Int.emod_nonneg (z/200) (Int.ne_of_gt (Int.lt_add_one_of_le (Int.natCast_nonneg t.length))))
 obtain ⟨c,hc⟩:=Int.eq_ofNat_of_zero_le (Int.emod_nonneg (z/9000) (Int.ne_of_gt (Int.lt_add_one_of_le (Int.natCast_nonneg t.length))))
 show S.cons _ _ _ (List.set (List.set (σ++_) (σ.length+3) _) (σ.length+5) _) _ _ _ _
 rw [set_app,set_app]
 refine setL_ev rfl (ev_cuts (qt:=σ.length+2) (qz:=σ.length+0) rfl rfl rfl (get_app ..) (get_app ..) htk ha hb hc) rfl ?_
 refine pieces_ev (q0:=σ.length+0) (q2:=σ.length+2) (t:=t) (a:=a) (b:=b) (c:=c) (z:=z) rfl rfl (get_app ..) (get_app ..) rfl rfl rfl htk λ p r hq=>?_
 obtain ⟨pl,pok⟩:=pcs_ok (p,r) hq
 have pk:∀ q∈p::r,q.length<=1000/\TxtOk q/\NoDot q:=λ q hq=>⟨Nat.le_trans (pok q hq).1 (Nat.le_trans (Nat.mul_le_mul_left 2 htl) (by decide)),λ c hc=>(htt c ((pok q hq).2 c hc)).1,λ c hc=>(htt c ((pok q hq).2 c hc)).2⟩
 have okt:TxtOk t:=λ c hc=>(htt c hc).1
 refine setPS_ev (l:=[.bool (fits t p r),txt (glue p r)]) (λ z=>nomatch z) (Ev.tup (Lv.cons (Ev.call rfl Ev.c onVal_self (Lv.cons (Ev.loc rfl) (Lv.one (Ev.cel (q:=σ.length+2) rfl (get_app ..)))) λ K X hK=>⟨p,r,t,Nat.le_trans htl (by decide),Nat.le_trans pl (by decide),λ q hq=>⟨(pk q hq).1,(pk q hq).2.1⟩,okt,hK⟩) (Lv.one (joinD_ev rfl (Ev.loc rfl) pl λ q hq=>(pk q hq).1)))) rfl (set_app ..) ?_
 exact holds_try hS hnum ht ⟨hnb.1,hn1,hy,hv,htk,Nat.le_trans pl (by decide),pk,okt,Nat.le_trans (glue_len λ q hq=>(pk q hq).1) (Nat.le_trans (Nat.mul_le_mul_right _ (Nat.succ_le_succ pl)) (by decide))⟩ hR rfl rfl rfl rfl rfl rfl rfl (of_decide_eq_true rfl)
theorem holds_j (hB:BOk B):JS B κ_law_holds (k+20) (bd 80) holdsP:=
 @j_law_holds B (k+20) hB _ _ _ _ _ _ (onVal_ok hB.f136 (num_ok (k:=k+19) hB)) (onVal_ok hB.f153 (dvn_ok (k:=k+19) hB)) (onVal_ok hB.f158 (fits_ok (k:=k+19) hB)) (onVal_ok hB.f170 (read_ok (k:=k) hB)) (onVal_ok hB.f146 (tape_ok (k:=k+19) hB))
  (onVal_ok hB.f131 (form_ok (k:=k+19) hB (onClo_ok λ cs=>c5_ok (k:=k+18) hB cs) (onClo_ok λ cs=>c6_ok (k:=k+18) hB cs)))
theorem holds_ok (hB:BOk B):JApp B (k+21) true (.val (.ref 175)) spHolds:=
 JApp.of (JApp.fnK (k:=k+20) hB.f175 (κ:=κ_law_holds) (ts:=[.loc 0,.loc 1,.loc 2,.loc 3,.loc 4,.loc 5,.cel 0,.loc 6]) (p:=holdsP) rfl (by kernel_rfl) (λ c e=>by cases e;exact ⟨rfl,rfl⟩) rfl ⟨⟨rfl,rfl⟩,⟨rfl,rfl⟩,⟨rfl,rfl⟩,⟨rfl,rfl⟩,⟨rfl,rfl⟩,⟨rfl,rfl⟩,⟨rfl,rfl⟩,⟨rfl,rfl⟩,trivial⟩
  (@holds_j B k hB)) λ l σ K X q=>by
 obtain ⟨op,cl,wi,nums,form,shape,y,v,z,w,hS,hfl,hy,hv,hk⟩:=q
 exact callM (m:=6) rfl rfl (congrArg (Prod.mk _) (set_app σ (hC none none none none none none) 0 (.cel (some (.int z))))) (holds_run hS hfl hy hv λ τ=>cut_app trivial hk)
end
section
variable {B:BC} {k:Nat}
theorem bits_low {x:Int} {m:Nat} (h:2^m<=x):m<Builtin.Int.intBits x:=Nat.lt_of_not_le λ q=>
 absurd (Int.lt_of_lt_of_le (bits_up (Int.le_trans (Int.le_of_lt (two_pos m)) h)) (two_le q)) (Int.not_lt.mpr h)
theorem digV_one (n:Nat) (d:Int):digV n [d]=d:=by show d+2^n*0=d;rw [Int.mul_zero,Int.add_zero]
theorem digV_last {n:Nat} {a:List Int} {d:Int} (h:Digs n (a++[d])) {j:Nat} (h0:0<d) (hj:d<2^j):2^(n*a.length)<=digV n (a++[d])/\digV n (a++[d])<2^(n*a.length+j):=by
 have ha:=digV_bound (λ x hx=>h x (List.mem_append_left _ hx):Digs n a)
 have hp:=Int.le_of_lt (two_pos (n*a.length))
 have h1:=Int.mul_le_mul_of_nonneg_left (Int.add_one_le_of_lt h0) hp
 have h2:=Int.mul_le_mul_of_nonneg_left (Int.add_one_le_of_lt hj) hp
 rw [Int.mul_add,Int.mul_one] at h2
 rw [Int.zero_add,Int.mul_one] at h1
 rw [digV_app,digV_one,Int.pow_add]
 exact ⟨by lia,by lia⟩
theorem bits_form {a:List Int} {d:Int} (h:Digs 14 (a++[d])) (hd:0<d):(Builtin.Int.intBits (digV 14 (a++[d]))+14 - 1)/14=(a++[d]).length:=by
 obtain ⟨h1,h2⟩:=digV_last h hd (h d (List.mem_append_right _ List.mem_cons_self)).2
 have b1:=bits_low h1
 have b2:=bits_small (digV_bound h).1 h2
 rw [List.length_append,List.length_singleton]
 lia
noncomputable def numC (v:Int):Nat:=(Builtin.Int.intBits v+12)/13
noncomputable def numOf (v:Int):List Int:=(digL 13 (numC v) v).map (·+256)
theorem numC_le {v:Int} (h0:0<=v) (h:v<2^250):numC v<=20:=by
 have:=bits_small h0 h
 unfold numC
 lia
theorem numOf_ok {v:Int} (h0:0<=v) (h:v<2^250):(numOf v).length<=20/\(∀ s∈numOf v,256<=s/\s<8448)/\digV 13 ((numOf v).map (· - 256))=v:=by
 refine ⟨by unfold numOf;rw [List.length_map,digL_len];exact numC_le h0 h,λ s hs=>?_,?_⟩
 ·obtain ⟨d,hd,rfl⟩:=List.mem_map.mp hs
  obtain ⟨h1,h2⟩:=digL_digs d hd
  exact ⟨Int.le_add_of_nonneg_left h1,Int.add_lt_add_right h2 256⟩
 ·unfold numOf
  rw [List.map_map,show ((λ x:Int=>x - 256) ∘ λ x=>x+256)=id from funext λ x=>Int.add_sub_cancel x 256,List.map_id]
  exact digV_digL h0 (Int.lt_of_lt_of_le (bits_up h0) (two_le (by unfold numC;lia)))
theorem filled_app (nums:List (List Int)):∀ a b:List Int,filled nums (a++b)=filled nums a++filled nums b
 | [],b=>rfl
 | x::a,b=>by rw [List.cons_append,filled,filled,filled_app nums a b,List.append_assoc]
theorem filled_same (nums:List (List Int)):∀ a:List Int,(∀ s∈a,¬(s=254\/s=255))->filled nums a=a
 | [],_=>rfl
 | x::a,h=>by
  rw [filled,fillS,if_neg (h x List.mem_cons_self),filled_same nums a λ s hs=>h s (List.mem_cons_of_mem _ hs)];rfl
theorem flat_plain {T:Tm} (ok:TmOk T) (s:Int) (hs:s∈flat T):SymOk s/\s≠254/\s≠255:=by
 have key:∀ s∈syms,((256<=s/\s<16384)\/s∈[(7:Int),8,9,10,12,18,19,31,32])/\s≠254/\s≠255:=by decide
 exact key s (flat_syms T ok s hs)
theorem filled_flat {T:Tm} (ok:TmOk T) (nums:List (List Int)) (b:List Int):filled nums (flat T++b)=flat T++filled nums b:=by
 rw [filled_app,filled_same _ _ λ s hs q=>q.elim (flat_plain ok s hs).2.1 (flat_plain ok s hs).2.2]
structure FormOk (form:List Int) (m:Nat):Prop where
 dig:Digs 14 form
 cform:(Builtin.Int.intBits (digV 14 form)+14 - 1)/14=form.length
 lform:form.length<=13
 fsym:∀ s∈form,((s=254\/s=255)/\(255 - s).toNat<m)\/(SymOk s/\s≠254/\s≠255)
 last:∃ a d,form=a++[d]/\8<=d/\d<16/\1<=a.length
noncomputable def CloOk (c:List Int) (d:Int) (m:Nat):Prop:=(∀ s∈c++[d],((s=254\/s=255)/\(255 - s).toNat<m)\/s∈[(7:Int),8,9,10,12])/\(8<=d/\d<16)/\1<=c.length/\c.length<=4
theorem form_of {T:Tm} (ok:TmOk T) (hl:(flat T).length<=8) {c:List Int} {d:Int} {m:Nat} (hc:CloOk c d m):FormOk (flat T++(c++[d])) m:=by
 obtain ⟨hc,⟨h8,h16⟩,hc1,hc4⟩:=hc
 have hcc:∀ s∈flat T++(c++[d]),((s=254\/s=255)/\(255 - s).toNat<m)\/(SymOk s/\s≠254/\s≠255):=all_app (λ s hs=>.inr (flat_plain ok s hs)) λ s hs=>(hc s hs).imp id λ h=>by
  have key:∀ s∈[(7:Int),8,9,10,12],s∈[(7:Int),8,9,10,12,18,19,31,32]/\s≠254/\s≠255:=by decide
  exact ⟨.inr (key s h).1,(key s h).2⟩
 have hdig:Digs 14 (flat T++(c++[d])):=λ s hs=>by
  rcases hcc s hs with ⟨rfl | rfl,_⟩ | ⟨h,_⟩
  ·decide
  ·decide
  ·exact ⟨(txC_ok h).1,(txC_ok h).2.1⟩
 have e:flat T++(c++[d])=(flat T++c)++[d]:=(List.append_assoc ..).symm
 have hll:(flat T++c).length=(flat T).length+c.length:=List.length_append
 refine ⟨hdig,?_,?_,hcc,_,d,e,h8,h16,by rw [hll];exact Nat.le_trans hc1 (Nat.le_add_left ..)⟩
 ·rw [e] at hdig ⊢
  exact bits_form hdig (Int.lt_of_lt_of_le (by decide) h8)
 ·rw [e,List.length_append,hll,List.length_singleton]
  exact Nat.succ_le_succ (Nat.add_le_add hl hc4)
theorem cl1:CloOk [7,255] 8 1:=⟨by decide,by decide,by decide,by decide⟩
theorem clA:CloOk [9,255,12,254] 10 2:=⟨by decide,by decide,by decide,by decide⟩
theorem clB:CloOk [7,255,12,254] 8 2:=⟨by decide,by decide,by decide,by decide⟩
theorem FormOk.val {form:List Int} {m:Nat} (h:FormOk form m):0<=digV 14 form/\digV 14 form<2^250:=
 have:=digV_bound h.dig
 ⟨this.1,Int.lt_of_lt_of_le this.2 (two_le (Nat.le_trans (Nat.mul_le_mul_left 14 h.lform) (by decide)))⟩
theorem FormOk.num {form:List Int} {m:Nat} (h:FormOk form m):(numOf (digV 14 form)).length<=20/\(∀ s∈numOf (digV 14 form),256<=s/\s<8448)/\digV 13 ((numOf (digV 14 form)).map (· - 256))=digV 14 form:=numOf_ok h.val.1 h.val.2
theorem sent_of {T:Tm} (ok:TmOk T) (hl:(flat T).length<=8) {op cl:Int} {w m:Nat} {nums:List (List Int)} {f:List Int} (hf:FormOk f nums.length) (hb:(op=7/\cl=8/\w=0)\/(op=9/\cl=10/\w=1)) (hc:(∃ a,nums=[a]/\w=0)\/∃ a b,nums=[a,b]) (hn:∀ q∈nums,∃ f,FormOk f m/\q=numOf (digV 14 f)) (hw:nums.getD w []=numOf (digV 14 f)):Sent T op cl w nums f:=
 ⟨ok,hl,hb,hc,λ q hq=>by
  obtain ⟨g,hg,rfl⟩:=hn q hq
  exact ⟨hg.num.1,hg.num.2.1⟩,by rw [hw];exact hf.num.2.2,hf.dig,hf.cform,Nat.le_trans hf.lform (by decide),hf.fsym⟩
noncomputable abbrev hv (f:List Int):Nat:=7*f.length - 5
theorem half_digits {f:List Int} {m:Nat} (ok:FormOk f m):0<hv f/\hv f<=86/\(Builtin.Int.intBits (digV 14 f)+hv f - 1)/hv f=2/\digL (hv f) 2 (digV 14 f)=[digV 14 f%2^hv f,digV 14 f/2^hv f]:=by
 obtain ⟨a,d,e,h8,h16,hl⟩:=ok.last
 have h:=ok.dig
 have hll:=ok.lform
 have hb:=digV_bound h
 rw [e] at h
 obtain ⟨h1,h2⟩:=digV_last h (j:=4) (Int.lt_of_lt_of_le (by decide) h8) h16
 rw [<- e] at h1 h2
 have b1:=bits_small hb.1 h2
 have b2:=bits_low h1
 have hlen:f.length=a.length+1:=by rw [e,List.length_append];rfl
 have n2:hv f+hv f=14*a.length+4:=by unfold hv;lia
 have n9:0<hv f/\hv f<=86:=by unfold hv;lia
 generalize hv f=n at*
 generalize digV 14 f=v at*
 refine ⟨n9.1,n9.2,?_,?_⟩
 ·rw [show Builtin.Int.intBits v+n - 1=(Builtin.Int.intBits v - n - 1)+n*2 by lia,Nat.add_mul_div_left _ _ n9.1,Nat.div_eq_of_lt (by lia)]
 ·have hv:v<2^n*2^n:=by rw [<- Int.pow_add,n2];exact h2
  show [v%2^n,v/2^n%2^n]=_
  rw [Int.emod_eq_of_lt (Int.ediv_nonneg hb.1 (Int.le_of_lt (two_pos n))) (Int.ediv_lt_of_lt_mul (two_pos n) hv)]
noncomputable def Nums (ns:List Int):Prop:=ns.length=8/\∀ x∈ns,0<=x
theorem Nums.set {ns:List Int} (h:Nums ns) (i:Nat) {x:Int} (hx:0<=x):Nums (ns.set i x):=⟨by rw [List.length_set];exact h.1,λ y hy=>by
 rcases List.mem_or_eq_of_mem_set hy with q | rfl
 ·exact h.2 y q
 ·exact hx⟩
end
section
variable {B:BC} {k:Nat}
noncomputable def numB:PS:=(S.cons (S.augItem inAdd (E.loc 1) (E.bin opMod (E.loc 2) (E.c (.int 8))) (E.bin opMod (E.loc 3) (E.bin opPow (E.c (.int 10)) (E.c (.int 6)))))
 S.nil)
theorem augItem_ev {f g e:PE} {o:OpS} {fr:AFr} {σ:St} {n i:Nat} {j:Int} {l:List AV} {x c d:AV} {q:PS} {N Bk:PN} {R:PK} {X:PX} (h:Ev f fr σ (.loc n)) (h2:Ev g fr σ (.int j)) (hj:j=i) (hi:i<1000) (hn:σ[n]?=some (.lst l)) (hx:l[i]?=some x) (h3:Ev e fr σ c) (ho:∀ Q:AV->Prop,Q d->o x c Q) (hq:q fr (σ.set n (.lst (l.set i d))) N R Bk X):S.cons (S.augItem o f g e) q fr σ N R Bk X:=by
 subst hj
 exact h _ _ (h2 _ _ ⟨n,_,rfl,rfl,Int.natCast_nonneg i,Int.lt_trans (Int.ofNat_lt.mpr hi) (by decide),l,x,hn,hx,h3 _ _ ⟨l,hn,Int.ofNat_lt.mpr (List.getElem?_eq_some_iff.mp hx).1,ho _ hq⟩⟩)
theorem num_loop {σ:St} {n:Nat} {χ:List Nat} {ρ:List (Option AV)} {N:PN} {R:PK} {X:PX} (hn:n<σ.length) (h1:ρ[1]?=some (some (.loc n))) (hl:3<ρ.length) (hN:∀ ns ρ',Nums ns->(∀ i,2≠i->3≠i->ρ'[i]?=ρ[i]?)->ρ'.length=ρ.length->N ρ' (σ.set n (.lst (ns.map .int)))):∀ (xs:List Int) (i:Nat) (ns:List Int) (ρ':List (Option AV)),Nums ns->(∀ i,2≠i->3≠i->ρ'[i]?=ρ[i]?)->ρ'.length=ρ.length->
  forK (.many [.loc 2,.loc 3]) numB (enumL i (xs.map .int)) ⟨ρ',χ,HK.no⟩ (σ.set n (.lst (ns.map .int))) N R X
 | [],i,ns,ρ',h,hρ,hlen=>hN ns ρ' h hρ hlen
 | x::xs,i,ns,ρ',h,hρ,hlen=>by
  have hg:(σ.set n (.lst (ns.map .int)))[n]?=some (.lst (ns.map .int)):=List.getElem?_set_self hn
  have h8:i%8<8:=Nat.mod_lt _ (by decide)
  have hi:i%8<ns.length:=by rw [h.1];exact h8
  have hx:(ns.map AV.int)[i%8]?=some (.int ns[i%8]):=by rw [List.getElem?_map,List.getElem?_eq_getElem hi];rfl
  have hρ':∀ j,2≠j->3≠j->((ρ'.set 2 (some (.int (i:Nat)))).set 3 (some (.int x)))[j]?=ρ[j]?:=λ j h2 h3=>(List.getElem?_set_ne h3).trans ((List.getElem?_set_ne h2).trans (hρ j h2 h3))
  have hl2:((ρ'.set 2 (some (.int (i:Nat)))).set 3 (some (.int x))).length=ρ.length:=by rw [List.length_set,List.length_set];exact hlen
  have e2:((ρ'.set 2 (some (.int (i:Nat)))).set 3 (some (.int x)))[2]?=some (some (.int (i:Nat))):=(List.getElem?_set_ne (by decide)).trans (List.getElem?_set_self (Nat.lt_trans (by decide) (hlen▸hl)))
  have e3:((ρ'.set 2 (some (.int (i:Nat)))).set 3 (some (.int x)))[3]?=some (some (.int x)):=List.getElem?_set_self (by rw [List.length_set];exact hlen▸hl)
  have h2:0<=ns[i%8]+x%1000000:=Int.add_nonneg (h.2 _ (List.getElem_mem hi)) (Int.emod_nonneg x (by decide))
  have ih:=num_loop (χ:=χ) (R:=R) (X:=X) hn h1 hl hN xs (i+1) (ns.set (i%8) (ns[i%8]+x%1000000)) _ (h.set _ h2) hρ' hl2
  rw [List.map_set,<- List.set_set (a:=AObj.lst (ns.map .int))] at ih
  exact ⟨_,rfl,augItem_ev (i:=i%8) (Ev.loc ((hρ' 1 (by decide) (by decide)).trans h1)) (Ev.modC (Ev.loc e2)) rfl (Nat.lt_trans h8 (by decide)) hg hx (Ev.mod (Ev.loc e3) (Ev.bin (v:=.int 1000000) Ev.c Ev.c λ Q hQ=>⟨by decide,by decide+kernel,hQ⟩) (by decide)) (λ Q hQ=>hQ) ih⟩
noncomputable abbrev lawForm:AV->Option FS:=onVal 131 (spForm FL (onClo 2 spC2) (onClo 3 spC3))
noncomputable def fmG:AV->AV
 | .int x=>.lst ((flat (tmOf x)).map .int)
 | _=>.none
noncomputable def fmE:PE:=(E.call true lawForm (E.c (.val (.ref 131))) (L.cons (E.loc 0) (L.cons (E.lst (L.cons (E.lst (L.cons (E.c (.int 256)) L.nil)) (L.cons (E.lst (L.cons (E.c (.int 257)) L.nil)) (L.cons (E.lst (L.cons (E.c (.int 258)) L.nil)) L.nil)))) (L.cons (E.lam 2 []) (L.cons (E.lam 3 []) L.nil)))))
theorem leaf3 {i:Int}:FL.sz (leafOf [256] [257] [258] i)<=1:=by
 unfold leafOf
 by_cases h:i=0
 ·rw [if_pos h];exact Nat.le_refl 1
 ·rw [if_neg h]
  by_cases h:i=1
  ·rw [if_pos h];exact Nat.le_refl 1
  ·rw [if_neg h];exact Nat.le_refl 1
theorem ev_formula {x:Int} {χ':List Nat} {σ:St}:Ev fmE ⟨[some (.int x)],χ',HK.no⟩ σ (fmG (.int x)):=
 Ev.call rfl Ev.c onVal_self (Lv.cons (Ev.loc rfl) (Lv.cons (Ev.lst (Lv.cons (Ev.lst (Lv.one Ev.c)) (Lv.cons (Ev.lst (Lv.one Ev.c)) (Lv.one (Ev.lst (Lv.one Ev.c)))))) (Lv.cons lam_ev (Lv.one lam_ev)))) λ K X hK=>
  spForm.mk (F:=FL) x [256] [257] [258] _ _ (MinC.mk (F:=FL) (spC2 []) rfl λ a σ K X hz h=>spC2.mk a hz h) (JoinC.mk (F:=FL) (spC3 []) rfl λ op a b σ K X hz h=>spC3.mk op a b hz h) (λ z=>leaf3) (by rw [flat_formu];exact hK)
theorem digL_range {n:Nat} (v:Int):∀ c j:Nat,digL n c (v/2^(n*j))=(List.range' j c).map λ k=>v/2^(n*k)%2^n
 | 0,j=>rfl
 | c+1,j=>by
  have ih:=digL_range (n:=n) v c (j+1)
  rw [Nat.mul_succ,Int.pow_add,<- Int.ediv_ediv_of_nonneg (Int.le_of_lt (two_pos _))] at ih
  exact congrArg (_::·) ih
noncomputable def numK (v:Int):AV->AV
 | .int k=>.int (256+v/8192^k.toNat%8192)
 | _=>.none
theorem pow13 (k:Nat):(8192:Int)^k=2^(13*k):=by rw [Int.pow_mul];rfl
theorem numOf_range (v:Int):(natL (List.range' 0 (numC v))).map (numK v)=(numOf v).map .int:=by
 have h:=digL_range (n:=13) v (numC v) 0
 rw [Nat.mul_zero,Int.pow_zero,Int.ediv_one] at h
 unfold numOf
 rw [h,List.map_map,List.map_map,List.map_map]
 refine List.map_congr_left λ k z=>?_
 show AV.int (256+v/8192^k%8192)=AV.int (v/2^(13*k)%2^13+256)
 rw [pow13,Int.add_comm]
 rfl
noncomputable def nmE:PE:=E.comp 1 0 [0] (Y.rng (L.cons (E.bin opDiv (E.bin opAdd (E.meth "int" opBits (E.cel 0) L.nil) (E.c (.int 12))) (E.c (.int 13))) L.nil)) (.one (.loc 0)) (T.c true) (C.elt (E.bin opAdd (E.c (.int 256)) (E.bin opMod (E.bin opDiv (E.cel 0) (E.bin opPow (E.c (.int 8192)) (E.loc 0))) (E.c (.int 8192)))))
theorem Lv.rng1 {f:PE} {fr:AFr} {σ:St} {n:Nat} (hn:fr.hnd=.no) (h:Ev f fr σ (.int (n:Nat))) (hl:n<=1000):Lv (Y.rng (L.cons f L.nil)) fr σ (natL (List.range' 0 n)):=λ K X hK=>
 ⟨hn,h _ _ (Lv.yrng (a:=0) (u:=λ fr σ K X=>K [.int (0:Nat),.int (n:Nat)] σ) hn (λ K X h=>h) (by decide) (Nat.lt_of_le_of_lt hl (by decide)) K X hK).2⟩
theorem ev_numeral {v:Int} (h0:0<=v) (h:v<2^250) {σ:St} {q:Nat} (hq:σ[q]?=some (.cel (some (.int v)))):Ev nmE ⟨[],[q],HK.no⟩ σ (.lst ((numOf v).map .int)):=by
 rw [<- numOf_range]
 have hc:=numC_le h0 h
 have hc':numC v<=1000:=Nat.le_trans hc (by decide)
 refine comp_map (χ':=[q]) rfl (Lv.rng1 rfl (Ev.divC (j:=13) (Ev.add (i:=((Builtin.Int.intBits v:Nat):Int)) (Ev.meth rfl (Ev.cel rfl hq) rfl Lv.nil λ K hK=>hK) Ev.c)) hc') (by rw [List.length_map,List.length_range'];exact hc') λ x hx=>?_
 obtain ⟨k,hk,rfl⟩:=List.mem_map.mp hx
 have hk':k<20:=Nat.lt_of_lt_of_le (by have:=(List.mem_range'_1.mp hk).2;rwa [Nat.zero_add] at this) hc
 have hp:(0:Int)<8192^k:=Int.pow_pos (by decide)
 refine Ev.add Ev.c (Ev.modC (Ev.div (Ev.cel rfl hq) (Ev.bin (v:=.int (8192^k)) Ev.c (Ev.loc rfl) λ Q hQ=>⟨Int.natCast_nonneg k,?_,hQ⟩) hp (noPy (Int.le_of_lt hp) ?_)))
 ·rw [show Builtin.Int.intBits 8192=14 by decide+kernel];lia
 ·rw [pow13];exact two_lt (by lia)
theorem num_comp {σ:St} {K:List AV->AFr->St->Prop}:∀ (vs:List Int) (c:Option AV) (acc:List AV),(∀ v∈vs,0<=v/\v<2^250)->acc.length+vs.length<=1000->(∀ c,K (acc++nested (vs.map numOf)) ⟨[],[σ.length],HK.no⟩ (σ++[AObj.cel c]))->
  compK (.one (.cel 0)) (T.c true) (C.elt nmE) (vs.map .int) ⟨[],[σ.length],HK.no⟩ (σ++[AObj.cel c]) acc K
 | [],c,acc,_,_,hK=>by have:=hK c;rw [show acc++nested ([].map numOf)=acc from List.append_nil _] at this;exact this
 | v::vs,c,acc,h,hl,hK=>by
  obtain ⟨h0,h1⟩:=h v List.mem_cons_self
  rw [List.length_cons,<- Nat.add_assoc,Nat.add_right_comm] at hl
  refine ⟨_,rfl,λ z=>?_,λ q=>nomatch q⟩
  show C.elt nmE (⟨[],[σ.length],HK.no⟩:AFr) ((σ++[AObj.cel c]).set σ.length (.cel (some (.int v)))) acc _
  rw [set_last]
  refine elt_ev (ev_numeral h0 h1 (get_last ..)) (Nat.le_trans (Nat.le_trans (Nat.le_add_right ..) hl) (by decide)) (num_comp vs _ _ (λ x hx=>h x (List.mem_cons_of_mem _ hx)) (by rw [List.length_append];exact hl) λ c=>?_)
  rw [List.append_assoc]
  exact hK c
noncomputable def tstT (fa:Addr) (sp:FS) (e:PE):PT:=T.cmp cmpIsNot (E.call true (onVal fa sp) (E.c (.val (.ref fa))) (L.cons (E.loc 11) L.nil)) e
noncomputable def tstB:PS:=(S.cons (S.ite (T.or (tstT 110 spTerm (E.cmp cmpLt (E.loc 11) (E.c (.int 256)))) (T.or (tstT 117 spNonterm (E.cmp cmpGt (E.loc 11) (E.c (.int 255)))) (T.or (tstT 124 spEof (E.cmp cmpEq (E.loc 11) (E.c (.int 0)))) (T.c false)))) (S.cons (S.ret (E.c (.bool false)))
 S.nil) S.nil)
 S.nil)
theorem tst_ev {fa:Addr} {sp:FS} {e:PE} {fr:AFr} {σ:St} {x:Int} {b:Bool} (hn:fr.hnd=.no) (h:fr.ρ[11]?=some (some (.int x))) (hs:∀ K X,K (.bool b) σ->sp [.int x] σ K X) (he:Ev e fr σ (.bool b)):Tv (tstT fa sp e) fr σ false:=
 Tv.cmp (a:=.bool b) (b:=.bool b) (Ev.call hn Ev.c onVal_self (Lv.one (Ev.loc h)) hs) he λ Q hQ=>by
  show Q (!(b==b))
  rw [beq_self_eq_true];exact hQ
theorem tst_loop {χ:List Nat} {σ:St} {N:PN} {R:PK} {X:PX}:∀ (xs:List Int) (ρ:List (Option AV)),11<ρ.length->(∀ ρ',(∀ i,11≠i->ρ'[i]?=ρ[i]?)->N ρ' σ)->
  forK (.one (.loc 11)) tstB (xs.map .int) ⟨ρ,χ,HK.no⟩ σ N R X
 | [],ρ,hl,hN=>hN ρ λ z z=>rfl
 | x::xs,ρ,hl,hN=>
  have g:(ρ.set 11 (some (.int x)))[11]?=some (some (.int x)):=List.getElem?_set_self hl
  ⟨_,rfl,if_no (Tv.or2 (tst_ev rfl g (λ K X h=>spTerm.mk x h) (Ev.cmp (Ev.loc g) Ev.c λ z h=>h)) (Tv.or2 (tst_ev rfl g (λ K X h=>spNonterm.mk x h) (Ev.cmp (Ev.loc g) Ev.c λ z h=>h)) (Tv.or2 (tst_ev rfl g (λ K X h=>spEof.mk x h) (Ev.eqI (Ev.loc g) Ev.c)) Tv.c)))
   (tst_loop xs _ (len_up hl) λ ρ' h=>hN ρ' λ i hi=>(h i hi).trans (List.getElem?_set_ne hi))⟩
end
section
variable {B:BC} {k:Nat}
noncomputable def avL:AV->List Int
 | .lst l=>l.map λ x=>match x with | .int i=>i | _=>0
 | _=>[]
theorem avL_int (f:List Int):avL (.lst (f.map .int))=f:=(List.map_map ..).trans (List.map_id f)
section
variable {fr:AFr} {σ:St} {fs:List (List Int)} {m:Nat}
theorem comp_rows {nl:Nat} {fm χ':List Nat} {it e:PE} {g:List Int->AV} (hn:fr.hnd=.no) (h0:fr0 nl σ.length 0 (fm.map λ i=>fr.χ.getD i 0) fr.hnd=⟨[none],χ',fr.hnd⟩) (hf:Ev it fr σ (.lst (nested fs))) (hl:fs.length<=2) (he:∀ f∈fs,Ev e ⟨[some (.lst (f.map .int))],χ',fr.hnd⟩ σ (g f)):
  Ev (E.comp nl 0 fm (Y.lst it) (.one (.loc 0)) (T.c true) (C.elt e)) fr σ (.lst (fs.map g)):=by
 rw [show fs.map g=(nested fs).map (λ x=>g (avL x)) by rw [List.map_map];exact List.map_congr_left λ f z=>congrArg g (avL_int f).symm]
 refine comp_map h0 (Lv.ylst hn hf) (by rw [List.length_map];exact Nat.le_trans hl (by decide)) λ x hx=>?_
 obtain ⟨f,hf,rfl⟩:=List.mem_map.mp hx
 rw [avL_int]
 exact he f hf
noncomputable def vaE:PE:=(E.comp 1 0 [] (Y.lst (E.loc 5)) (.one (.loc 0)) (T.c true) (C.elt (E.call true (onVal 136 spNum) (E.c (.val (.ref 136))) (L.cons (E.loc 0) L.nil))))
noncomputable def haE:PE:=(E.comp 1 0 [] (Y.lst (E.loc 5)) (.one (.loc 0)) (T.c true) (C.elt (E.bin opSub (E.bin opMul (E.c (.int 7)) (E.app opLen (L.cons (E.loc 0) L.nil))) (E.c (.int 5)))))
noncomputable def c5E:PE:=(E.comp 2 0 [] (Y.zip (L.cons (E.bin opAdd (E.loc 6) (E.lst (L.cons (E.c (.int 0)) L.nil))) (L.cons (E.bin opAdd (E.loc 7) (E.lst (L.cons (E.c (.int 9)) L.nil))) L.nil))) (.many [.loc 0,.loc 1]) (T.c true) (C.elt (E.call true (onVal 35 (spI2d 11)) (E.c (.val (.ref 35))) (L.cons (E.loc 0) (L.cons (E.loc 1) L.nil)))))
noncomputable def c6E:PE:=(E.bin opAdd (E.comp 2 0 [] (Y.zip (L.cons (E.loc 6) (L.cons (E.loc 7) L.nil))) (.many [.loc 0,.loc 1]) (T.c true) (C.elt (E.lst (L.cons (E.bin opMod (E.loc 0) (E.bin opPow (E.c (.int 2)) (E.loc 1))) (L.cons (E.bin opDiv (E.loc 0) (E.bin opPow (E.c (.int 2)) (E.loc 1))) L.nil))))) (E.lst (L.cons (E.lst L.nil) L.nil)))
noncomputable abbrev vaL (fs:List (List Int)):List AV:=fs.map λ f=>.int (digV 14 f)
noncomputable abbrev haL (fs:List (List Int)):List AV:=fs.map λ f=>.int (hv f:Nat)
theorem ev_values (hl:fs.length<=2) (ho:∀ f∈fs,FormOk f m) (hn:fr.hnd=.no) (h5:fr.ρ[5]?=some (some (.lst (nested fs)))):Ev vaE fr σ (.lst (vaL fs)):=
 comp_rows (χ':=[]) hn rfl (Ev.loc h5) hl λ f hf=>Ev.call hn Ev.c onVal_self (Lv.one (Ev.loc rfl)) λ K X hK=>.mk f (Nat.le_trans (ho f hf).lform (by decide)) (ho f hf).dig hK
theorem ev_halves (hl:fs.length<=2) (ho:∀ f∈fs,FormOk f m) (hn:fr.hnd=.no) (h5:fr.ρ[5]?=some (some (.lst (nested fs)))):Ev haE fr σ (.lst (haL fs)):=
 comp_rows (χ':=[]) hn rfl (Ev.loc h5) hl λ f hf=>by
  have h0:=(half_digits (ho f hf)).1
  have h1:=(ho f hf).lform
  rw [show ((hv f:Nat):Int)=7*((f.map AV.int).length:Nat) - 5 by rw [List.length_map];lia]
  exact Ev.min (Ev.bin Ev.c (Ev.lenL hn (Ev.loc rfl) (by rw [List.length_map];exact Nat.le_trans h1 (by decide))) λ Q hQ=>⟨IntMulOk.of_left (by decide+kernel),hQ⟩) Ev.c
noncomputable abbrev pairV (f:List Int):AV×AV:=(.int (digV 14 f),.int (hv f:Nat))
noncomputable abbrev halfV (f:List Int):AV:=.lst ([digV 14 f%2^hv f,digV 14 f/2^hv f].map .int)
noncomputable def g5:AV->AV->AV
 | .int x,.int n=>.lst ((digL n.toNat ((Builtin.Int.intBits x+n.toNat - 1)/n.toNat) x).map .int)
 | _,_=>.none
noncomputable def g6:AV->AV->AV
 | .int x,.int n=>.lst ([x%2^n.toNat,x/2^n.toNat].map .int)
 | _,_=>.none
theorem zip_pairs:∀ l:List (AV×AV),zipL (l.map (·.1)) (l.map (·.2))=l.map λ q=>.tup [q.1,q.2]
 | []=>rfl
 | q::l=>congrArg (_::·) (zip_pairs l)
theorem zip_eq {l r:List AV} {q:List (AV×AV)} (h:q.map (·.1)=l) (h2:q.map (·.2)=r) {f g:PE} (hn:fr.hnd=.no) (hf:Ev f fr σ (.lst l)) (hg:Ev g fr σ (.lst r)):Lv (Y.zip (L.cons f (L.cons g L.nil))) fr σ (q.map λ q=>.tup [q.1,q.2]):=by
 subst h h2
 rw [<- zip_pairs]
 exact Lv.yzip hn hf hg
theorem more_ev {f g:PE} {l:List AV} {v:AV} (h:Ev f fr σ (.lst l)) (hg:Ev g fr σ v) (hl:l.length<=2):Ev (E.bin opAdd f (E.lst (L.cons g L.nil))) fr σ (.lst (l++[v])):=Ev.bin h (Ev.lst (Lv.one hg)) λ Q hQ=>⟨small_len (Nat.le_trans (Nat.succ_le_succ hl) (by decide)),hQ⟩
theorem ev_c5 (hl:fs.length<=2) (ho:∀ f∈fs,FormOk f m) (hn:fr.hnd=.no) (h6:fr.ρ[6]?=some (some (.lst (vaL fs)))) (h7:fr.ρ[7]?=some (some (.lst (haL fs)))):Ev c5E fr σ (.lst (fs.map halfV++[.lst []])):=by
 have e:(fs.map pairV++[(AV.int 0,AV.int 9)]).map (λ q=>g5 q.1 q.2)=fs.map halfV++[.lst []]:=by
  rw [List.map_append,List.map_map]
  refine congrArg (·++_) (List.map_congr_left λ f hf=>?_)
  obtain ⟨_,_,q1,q2⟩:=half_digits (ho f hf)
  show AV.lst ((digL (hv f) ((Builtin.Int.intBits (digV 14 f)+hv f - 1)/hv f) (digV 14 f)).map .int)=_
  rw [q1,q2]
 rw [<- e]
 have hl':∀ {α:Type} {g:List Int->α},(fs.map g).length<=2:=λ {_ _}=>by rw [List.length_map];exact hl
 refine comp_map2 (χ':=[]) rfl (zip_eq (by rw [List.map_append,List.map_map];rfl) (by rw [List.map_append,List.map_map];rfl) hn (more_ev (Ev.loc h6) Ev.c hl') (more_ev (Ev.loc h7) Ev.c hl')) (by rw [List.length_append,List.length_map];exact Nat.le_trans (Nat.succ_le_succ hl) (by decide)) λ q hq=>?_
 refine Ev.call hn Ev.c onVal_self (Lv.cons (Ev.loc rfl) (Lv.one (Ev.loc rfl))) λ K X hK=>?_
 rcases List.mem_append.mp hq with hq | hq
 ·obtain ⟨f,hf,rfl⟩:=List.mem_map.mp hq
  obtain ⟨p1,p2,q1,q2⟩:=half_digits (ho f hf)
  exact spI2d.mk (digV 14 f) (hv f) _ (ho f hf).val.1 p1 rfl (by rw [q1];decide) (by rw [q1];exact Nat.lt_of_le_of_lt (Nat.mul_le_mul_right 2 p2) (by decide)) (Nat.lt_of_le_of_lt p2 (by decide)) hK
 ·rw [List.mem_singleton] at hq
  subst hq
  exact spI2d.mk 0 9 0 (by decide) (by decide) (by decide+kernel) (by decide) (by decide) (by decide) hK
theorem ev_c6 (hl:fs.length<=2) (ho:∀ f∈fs,FormOk f m) (hn:fr.hnd=.no) (h6:fr.ρ[6]?=some (some (.lst (vaL fs)))) (h7:fr.ρ[7]?=some (some (.lst (haL fs)))):Ev c6E fr σ (.lst (fs.map halfV++[.lst []])):=by
 have e:(fs.map pairV).map (λ q=>g6 q.1 q.2)=fs.map halfV:=List.map_map ..
 refine more_ev (l:=fs.map halfV) ?_ (Ev.lst Lv.nil) (by rw [List.length_map];exact hl)
 rw [<- e]
 refine comp_map2 (χ':=[]) rfl (zip_eq (List.map_map ..) (List.map_map ..) hn (Ev.loc h6) (Ev.loc h7)) (by rw [List.length_map];exact Nat.le_trans hl (by decide)) λ q hq=>?_
 obtain ⟨f,hf,rfl⟩:=List.mem_map.mp hq
 obtain ⟨p1,p2,_,_⟩:=half_digits (ho f hf)
 have hp:=two_pos (hv f)
 have P:∀ {fr:AFr},fr.ρ[1]?=some (some (.int (hv f:Nat)))->Ev (E.bin opPow (E.c (.int 2)) (E.loc 1)) fr σ (.int (2^hv f)):=λ h=>Ev.bin Ev.c (Ev.loc h) λ Q hQ=>⟨Int.natCast_nonneg _,by
  rw [show Builtin.Int.intBits 2=2 by decide+kernel]
  lia,hQ⟩
 exact Ev.lst (Lv.cons (Ev.mod (Ev.loc rfl) (P rfl) hp) (Lv.one (Ev.div (Ev.loc rfl) (P rfl) hp (noPy (Int.le_of_lt hp) (two_lt (Nat.lt_of_le_of_lt p2 (by decide)))))))
theorem half_same (Q:Bool->Prop) (hQ:Q false):cmpNe (.lst (fs.map halfV++[.lst []])) (.lst (fs.map halfV++[.lst []])) Q:=
 Pd.ne (n:=2) (.lst (.app (.one (.lst .nil)) (.map (λ f=>.lst (.cons (.int _) (.one (.int _)))) _))) (by decide) Q hQ
theorem sub_loc {l:List AV} {n i:Nat} {j:Int} {x:AV} {f g:PE} (h:Ev f fr σ (.loc n)) (h2:Ev g fr σ (.int j)) (hj:j=i) (hn:σ[n]?=some (.lst l)) (hx:l[i]?=some x) (hl:i<1000):Ev (E.sub f g) fr σ x:=by
 subst hj
 exact Ev.subO h h2 hn ⟨Int.le_trans (by decide) (Int.natCast_nonneg i),Int.lt_trans (Int.ofNat_lt.mpr hl) (by decide)⟩ (seqIndex_at (Int.natCast_nonneg i) (Int.ofNat_lt.mpr (List.getElem?_eq_some_iff.mp hx).1)) hx
theorem num_at {ns:List Int} {n i:Nat} {j x:Int} {f g:PE} (h:Ev f fr σ (.loc n)) (h2:Ev g fr σ (.int j)) (hj:j=i) (hn:σ[n]?=some (.lst (ns.map .int))) (hx:ns[i]?=some x) (hl:i<1000):Ev (E.sub f g) fr σ (.int x):=sub_loc h h2 hj hn (by rw [List.getElem?_map,hx];rfl) hl
theorem row_at {i:Nat} {j:Int} {x:List Int} {f g:PE} (h:Ev f fr σ (.lst (nested fs))) (h2:Ev g fr σ (.int j)) (hj:j=i) (hx:fs[i]?=some x) (hl:i<1000):Ev (E.sub f g) fr σ (.lst (x.map .int)):=Ev.subL h h2 hj (by rw [List.getElem?_map,hx];rfl) (Nat.lt_trans hl (by decide))
noncomputable def lawT3:PS:=(S.cons (S.ret (E.and (E.app opIsTup (L.cons (E.loc 10) (L.cons (E.c (.val (.type "tuple"))) L.nil))) (E.and (E.cmp cmpEq (E.app opLen (L.cons (E.loc 10) L.nil)) (E.c (.int 2))) (E.and (E.cmp cmpIs (E.sub (E.loc 10) (E.c (.int 0))) (E.c (.val (.ref 79)))) (E.cmp cmpEq (E.sub (E.loc 10) (E.c (.int 1))) (E.c (.str "")))))))
 S.nil)
noncomputable def lawT2:PS:=
 (S.cons (S.set (.loc 10) (E.callK true (onVal 86 spName0) (E.c (.val (.ref 86))) (L.cons (E.sub (E.loc 1) (E.c (.int 7))) (L.cons (E.c .none) L.nil)) (L.cons (E.c (.int 0)) L.nil)))
 (S.cons (S.for (Y.lst (E.lst (L.cons (E.c (.int 0)) (L.cons (E.c (.int 1)) (L.cons (E.neg (E.c (.int 1))) (L.cons (E.c (.int 255)) (L.cons (E.c (.int 256)) (L.cons (E.call true (onVal 136 spNum) (E.c (.val (.ref 136))) (L.cons (E.sub (E.loc 8) (E.c (.int 0))) L.nil)) (L.cons (E.neg (E.sub (E.loc 1) (E.c (.int 7)))) L.nil))))))))) (.one (.loc 11)) tstB) lawT3))
theorem law_t2 {ρ:List (Option AV)} {χ:List Nat} {rows:List (List Int)} {r ns:List Int} {n7:Int} {q3:Nat} {N Bk:PN} {R:PK} {X:PX} (h1:ρ[1]?=some (some (.loc q3))) (h8:ρ[8]?=some (some (.lst (nested rows)))) (hlen:11<ρ.length) (g3:σ[q3]?=some (.lst (ns.map .int)))
  (h7:ns[7]?=some n7) (hr:rows[0]?=some r) (hl:r.length<=100) (hs:∀ s∈r,0<=s/\s<16384) (hR:R (.bool true) σ):lawT2 ⟨ρ,χ,HK.no⟩ σ N R Bk X:=by
 refine set_ev (v:=.tup [.val (.ref 79),.str ""]) (Ev.callK rfl Ev.c onVal_self (Lv.cons (num_at (i:=7) (Ev.loc h1) Ev.c rfl g3 h7 (by decide)) (Lv.one Ev.c)) (Lv.one Ev.c) λ K X hK=>.mk n7 hK) ?_
 have g:=λ (i:Nat) (h:10≠i)=>List.getElem?_set_ne h (l:=ρ) (a:=some (.tup [.val (.ref 79),.str ""]))
 have e7:Ev (E.sub (E.loc 1) (E.c (.int 7))) ⟨ρ.set 10 (some (.tup [.val (.ref 79),.str ""])),χ,HK.no⟩ σ (.int n7):=num_at (i:=7) (Ev.loc ((g 1 (by decide)).trans h1)) Ev.c rfl g3 h7 (by decide)
 refine for_lv (l:=([0,1,-1,255,256,digV 14 r,-n7]:List Int).map .int) (Lv.ylst rfl (Ev.lst (Lv.cons Ev.c (Lv.cons Ev.c (Lv.cons (Ev.neg Ev.c) (Lv.cons Ev.c (Lv.cons Ev.c (Lv.cons (Ev.call rfl Ev.c onVal_self (Lv.one (row_at (i:=0) (Ev.loc ((g 8 (by decide)).trans h8)) Ev.c rfl hr (by decide))) λ K X hK=>.mk r hl hs hK) (Lv.one (Ev.neg e7)))))))))) ?_
 refine tst_loop _ _ (len_up hlen) λ ρ' hρ=>?_
 have h10:ρ'[10]?=some (some (.tup [.val (.ref 79),.str ""])):=(hρ 10 (by decide)).trans (List.getElem?_set_self (Nat.lt_of_succ_lt hlen))
 exact ret_ev (Ev.and (Ev.app rfl (Lv.cons (Ev.loc h10) (Lv.one Ev.c)) λ Q hQ=>⟨rfl,hQ⟩) (Ev.and (Ev.cmp (a:=.int 2) (Ev.app rfl (Lv.one (Ev.loc h10)) λ Q hQ=>⟨small_len (by decide),hQ⟩) Ev.c λ Q hQ=>cmpEq_int _ hQ) (Ev.and (Ev.cmp (Ev.subT (n:=0) (Ev.loc h10) Ev.c rfl rfl (by decide)) Ev.c λ Q hQ=>⟨rfl,hQ⟩) (Ev.cmp (Ev.subT (n:=1) (Ev.loc h10) Ev.c rfl rfl (by decide)) Ev.c λ Q hQ=>Pd.eq (n:=1) (str_pd (by decide+kernel)) (by decide) Q hQ)))) hR
end
end
section
variable {B:BC} {k:Nat}
inductive RingOk (ns:List Int) (fms rows:List (List Int)) (r i:Nat):Prop
 | mk (op cl:Int) (w:Nat) (shape:Int) (nums:List (List Int)) (form:List Int) (z:ns[1+i]?=some shape) (z:fms[i]?=some (flat (tmOf shape))) (z:rows[i]?=some (ownR (tmOf shape) op cl nums)) (z:rows[r - 1 - i]?=some (filled nums form)) (z:Sent (tmOf shape) op cl w nums form) (z:(filled nums form).length<=60)
noncomputable def holdE:PE:=(E.call true (onVal 175 spHolds) (E.c (.val (.ref 175))) (L.cons (E.sub (E.loc 8) (E.loc 9)) (L.cons (E.sub (E.loc 8) (E.bin opSub (E.bin opSub (E.loc 4) (E.c (.int 1))) (E.loc 9))) (L.cons (E.sub (E.cel 0) (E.loc 9)) (L.cons (E.sub (E.loc 1) (E.bin opAdd (E.c (.int 1)) (E.loc 9))) (L.cons (E.sub (E.loc 1) (E.bin opAdd (E.c (.int 3)) (E.loc 9))) (L.cons (E.bin opAdd (E.sub (E.loc 1) (E.c (.int 7))) (E.bin opMul (E.c (.int 99)) (E.loc 9))) (L.cons (E.sub (E.loc 1) (E.bin opAdd (E.c (.int 5)) (E.loc 9))) (L.cons (E.bin opAdd (E.sub (E.loc 1) (E.c (.int 7))) (E.loc 9)) L.nil)))))))))
noncomputable def holdB:PS:=(S.cons (S.ite (T.not (T.val holdE)) (S.cons (S.ret (E.c (.bool false)))
 S.nil) S.nil)
 S.nil)
section
variable {st σ:St} {χ:List Nat} {q0 q3 r:Nat} {fms rows fs:List (List Int)} {ns:List Int} {N Bk:PN} {R:PK} {X:PX} {ρ:List (Option AV)}
theorem hold_loop (hns:Nums ns) (hr:r<=2) (hχ:χ[0]?=some q0) (g0:st[q0]?=some (.cel (some (.lst (nested fms))))) (g3:st[q3]?=some (.lst (ns.map .int))):∀ (l:List Nat) (ρ:List (Option AV)),9<ρ.length->ρ[1]?=some (some (.loc q3))->ρ[4]?=some (some (.int (r:Nat)))->ρ[8]?=some (some (.lst (nested rows)))->(∀ i∈l,i<r/\RingOk ns fms rows r i)->
  (∀ ρ',(∀ i,9≠i->ρ'[i]?=ρ[i]?)->ρ'.length=ρ.length->N ρ' st)->forK (.one (.loc 9)) holdB (natL l) ⟨ρ,χ,HK.no⟩ st N R X
 | [],ρ,hl,h1,h4,h8,h,hN=>hN ρ (λ o o=>rfl) rfl
 | i::l,ρ,hl,h1,h4,h8,h,hN=>by
  have g:=λ (j:Nat) (h:9≠j)=>List.getElem?_set_ne h (l:=ρ) (a:=some (.int (i:Nat)))
  have k1:=(g 1 (by decide)).trans h1
  have k4:=(g 4 (by decide)).trans h4
  have k8:=(g 8 (by decide)).trans h8
  have L9:Ev (E.loc 9) ⟨ρ.set 9 (some (.int (i:Nat))),χ,HK.no⟩ st (.int (i:Nat)):=Ev.loc (List.getElem?_set_self hl)
  obtain ⟨hi,op,cl,w,shape,nums,form,e1,e2,e3,e4,hS,hfl⟩:=h i List.mem_cons_self
  have nn:∀ {j},j<8->∃ x,ns[j]?=some x/\0<=x:=λ {j} hj=>⟨ns[j]'(by rw [hns.1];exact hj),List.getElem?_eq_getElem _,hns.2 _ (List.getElem_mem _)⟩
  obtain ⟨y,hy,y0⟩:=nn (j:=3+i) (by lia)
  obtain ⟨z,hz,_⟩:=nn (j:=5+i) (by lia)
  obtain ⟨n7,h7,p7⟩:=nn (j:=7) (by lia)
  have nat:∀ {d:Int} {x:Int} (j:Nat),d+(i:Nat)=j->ns[j]?=some x->j<1000->Ev (E.sub (E.loc 1) (E.bin opAdd (E.c (.int d)) (E.loc 9))) ⟨ρ.set 9 (some (.int (i:Nat))),χ,HK.no⟩ st (.int x):=λ j hj hx hl=>num_at (Ev.loc k1) (Ev.add Ev.c L9) hj g3 hx hl
  have n7e:Ev (E.sub (E.loc 1) (E.c (.int 7))) ⟨ρ.set 9 (some (.int (i:Nat))),χ,HK.no⟩ st (.int n7):=num_at (i:=7) (Ev.loc k1) Ev.c rfl g3 h7 (by decide)
  refine ⟨_,rfl,if_no (Tv.not (c₁:=true) (Tv.val (Ev.call rfl Ev.c onVal_self (Lv.cons (row_at (Ev.loc k8) L9 rfl e3 (by lia)) (Lv.cons (row_at (Ev.loc k8) (Ev.min (Ev.min (Ev.loc k4) Ev.c) L9) (by lia) e4 (by lia)) (Lv.cons (row_at (Ev.cel hχ g0) L9 rfl e2 (by lia)) (Lv.cons (nat (1+i) rfl e1 (by lia)) (Lv.cons (nat (3+i) rfl hy (by lia)) (Lv.cons (Ev.add n7e (Ev.bin Ev.c L9 λ Q hQ=>⟨IntMulOk.of_left (by decide+kernel),hQ⟩)) (Lv.cons (nat (5+i) rfl hz (by lia)) (Lv.one (Ev.add n7e L9))))))))) λ K X hK=>.mk op cl w nums form shape y _ z _ hS hfl y0 (by lia) hK) λ o h=>h))
   (hold_loop hns hr hχ g0 g3 l _ (len_up hl) k1 k4 k8 (λ j hj=>h j (List.mem_cons_of_mem _ hj)) λ ρ' h h'=>hN ρ' (λ j hj=>(h j hj).trans (g j hj)) (h'.trans List.length_set))⟩
noncomputable def lawT1:PS:=(S.cons (S.for (Y.rng (L.cons (E.loc 4) L.nil)) (.one (.loc 9)) holdB) lawT2)
noncomputable def lawT0:PS:=
 (S.cons (S.setW [.loc 6,.loc 7] (E.tup (L.cons vaE (L.cons haE L.nil))))
 (S.cons (S.ite (T.cmp cmpNe c5E c6E) (S.cons (S.ret (E.c (.bool false)))
 S.nil) S.nil)
 (S.cons (S.set (.cel 2) (E.comp 0 1 [] (Y.lst (E.loc 6)) (.one (.cel 0)) (T.c true) (C.elt nmE)))
 (S.cons (S.set (.loc 8) (E.comp 1 0 [2] (Y.lst (E.loc 5)) (.one (.loc 0)) (T.c true) (C.elt (E.call true (onVal 141 spFill) (E.c (.val (.ref 141))) (L.cons (E.loc 0) (L.cons (E.cel 0) L.nil))))))
 lawT1))))
noncomputable abbrev lawN (fs:List (List Int)):List (List Int):=fs.map λ f=>numOf (digV 14 f)
structure LF (q3 r:Nat) (fs:List (List Int)) (ρ:List (Option AV)):Prop where
 h1:ρ[1]?=some (some (.loc q3))
 h4:ρ[4]?=some (some (.int (r:Nat)))
 h5:ρ[5]?=some (some (.lst (nested fs)))
 len:11<ρ.length
theorem LF.put (F:LF q3 r fs ρ) (i:Nat) {x:Option AV} (hi:i≠1/\i≠4/\i≠5/\i<11):LF q3 r fs (ρ.set i x)/\(ρ.set i x)[i]?=some x:=
 ⟨⟨(List.getElem?_set_ne hi.1).trans F.h1,(List.getElem?_set_ne hi.2.1).trans F.h4,(List.getElem?_set_ne hi.2.2.1).trans F.h5,len_up F.len⟩,List.getElem?_set_self (Nat.lt_trans hi.2.2.2 F.len)⟩
theorem ev_rows {nums:List (List Int)} {fr:AFr} {q:Nat} (hl:fs.length<=2) (ho:∀ f∈fs,FormOk f nums.length) (hnl:∀ q∈nums,q.length<=100) (hn:fr.hnd=.no) (h5:fr.ρ[5]?=some (some (.lst (nested fs)))) (hχ:fr.χ.getD 2 0=q) (hq:σ[q]?=some (.cel (some (.lst (nested nums))))):
  Ev (E.comp 1 0 [2] (Y.lst (E.loc 5)) (.one (.loc 0)) (T.c true) (C.elt (E.call true (onVal 141 spFill) (E.c (.val (.ref 141))) (L.cons (E.loc 0) (L.cons (E.cel 0) L.nil))))) fr σ (.lst (nested (fs.map (filled nums)))):=by
 rw [show nested (fs.map (filled nums))=fs.map λ f=>.lst ((filled nums f).map .int) from List.map_map ..]
 exact comp_rows (χ':=[q]) hn (by rw [<- hχ];rfl) (Ev.loc h5) hl λ f hf=>Ev.call hn Ev.c onVal_self (Lv.cons (Ev.loc rfl) (Lv.one (Ev.cel rfl hq))) λ K X hK=>.mk f nums (λ s hs h=>((ho f hf).fsym s hs).elim (·.2) λ q=>absurd h λ z=>z.elim q.2.1 q.2.2) (Nat.le_trans (ho f hf).lform (by decide)) hnl hK
theorem c7_ev {fr:AFr} {m:Nat} {q:PS} (hn:fr.hnd=.no) (h6:fr.ρ[6]?=some (some (.lst (vaL fs)))) (hl:fs.length<=2) (ho:∀ f∈fs,FormOk f m) (hK:∀ c,q (fr.at (bindT (.cel 2) (.lst (nested (lawN fs))) fr (st++[AObj.cel c])).1.ρ) (bindT (.cel 2) (.lst (nested (lawN fs))) fr (st++[AObj.cel c])).2 N R Bk X):S.cons (S.set (.cel 2) (E.comp 0 1 [] (Y.lst (E.loc 6)) (.one (.cel 0)) (T.c true) (C.elt nmE))) q fr st N R Bk X:=by
 obtain ⟨ρ,χ,hd⟩:=fr
 obtain rfl:hd=HK.no:=hn
 refine ⟨rfl,_,h6,_,rfl,?_⟩
 rw [show vaL fs=(fs.map (digV 14)).map .int from (List.map_map ..).symm]
 refine num_comp (fs.map (digV 14)) none [] (λ v hv=>by obtain ⟨f,hf,rfl⟩:=List.mem_map.mp hv;exact (ho f hf).val) (by rw [List.length_map];exact Nat.le_trans (Nat.add_le_add_left hl 0) (by decide)) λ cc=>?_
 rw [List.nil_append,List.map_map]
 exact hK cc
theorem law_t0 {a1:Option AV} (F:LF (σ.length+3) r fs ρ) (hns:Nums ns) (hr1:1<=r) (hr:r<=2) (hfs:fs.length=r) (ho:∀ f∈fs,FormOk f r) (hi:∀ i<r,RingOk ns fms (fs.map (filled (lawN fs))) r i) (hR:∀ τ,R (.bool true) (σ++τ)):
  lawT0 ⟨ρ,[σ.length+0,σ.length+1,σ.length+2],HK.no⟩ (σ++[.cel (some (.lst (nested fms))),.cel a1,.cel none,.lst (ns.map .int)]) N R Bk X:=by
 have hl:fs.length<=2:=hfs▸hr
 have h5:=F.h5
 obtain ⟨F,e7⟩:=F.put 7 (x:=some (.lst (haL fs))) (by decide)
 obtain ⟨F,e6⟩:=F.put 6 (x:=some (.lst (vaL fs))) (by decide)
 refine setW_ev (λ q=>nomatch q) (Ev.tup (Lv.cons (ev_values hl ho rfl h5) (Lv.one (ev_halves hl ho rfl h5)))) rfl ?_
 have e7:=(List.getElem?_set_ne (i:=6) (a:=some (.lst (vaL fs))) (by decide)).trans e7
 refine if_no (Tv.cmp (ev_c5 hl ho rfl e6 e7) (ev_c6 hl ho rfl e6 e7) half_same) ?_
 refine c7_ev rfl e6 hl ho λ cc=>?_
 show S.cons _ _ _ (List.set ((σ++_)++_) (σ.length+2) _) _ _ _ _
 rw [List.append_assoc,set_app]
 have hnl:∀ q∈lawN fs,q.length<=100:=λ q hq=>by
  obtain ⟨f,hf,rfl⟩:=List.mem_map.mp hq
  exact Nat.le_trans (ho f hf).num.1 (by decide)
 refine set_ev (ev_rows (q:=σ.length+2) (nums:=lawN fs) hl (λ f hf=>by rw [List.length_map,hfs];exact ho f hf) hnl rfl F.h5 rfl (get_app ..)) ?_
 obtain ⟨F,e8⟩:=F.put 8 (x:=some (.lst (nested (fs.map (filled (lawN fs)))))) (by decide)
 refine for_lv (Lv.rng1 rfl (Ev.loc F.h4) (Nat.le_trans hr (by decide))) (hold_loop hns hr rfl (get_app ..) (get_app ..) _ _ (Nat.lt_trans (by decide) F.len) F.h1 F.h4 e8 (λ i hm=>?_) λ ρ' h hl'=>?_)
 ·have h:=(List.mem_range'_1.mp hm).2
  rw [Nat.zero_add] at h
  exact ⟨h,hi i h⟩
 ·obtain ⟨op,cl,w,shape,nums,form,_,_,e3,_,hS,_⟩:=hi 0 hr1
  obtain ⟨s1,s2⟩:=hS.own
  have n7:7<ns.length:=by rw [hns.1];decide
  exact law_t2 ((h 1 (by decide)).trans F.h1) ((h 8 (by decide)).trans e8) (by rw [hl'];exact F.len) (get_app ..) (List.getElem?_eq_getElem n7) e3 (Nat.le_trans s2 (by decide)) (λ s hs=>⟨Int.le_of_lt (s1 s hs).2,(txC_ok (s1 s hs).1).2.1⟩) (hR _)
end
end
section
variable {B:BC} {k:Nat}
noncomputable abbrev lawP:PS:=Plaw lawForm (onVal 136 spNum) (onVal 35 (spI2d 11)) (onVal 141 spFill) (onVal 175 spHolds) (onVal 86 spName0) (onVal 124 spEof) (onVal 117 spNonterm) (onVal 110 spTerm)
noncomputable def clE:PE:=(E.ite (T.cmp cmpEq (E.loc 4) (E.c (.int 1))) (E.lst (L.cons (E.lst (L.cons (E.c (.int 7)) (L.cons (E.c (.int 255)) (L.cons (E.c (.int 8)) L.nil)))) L.nil)) (E.lst (L.cons (E.lst (L.cons (E.c (.int 9)) (L.cons (E.c (.int 255)) (L.cons (E.c (.int 12)) (L.cons (E.c (.int 254)) (L.cons (E.c (.int 10)) L.nil)))))) (L.cons (E.lst (L.cons (E.c (.int 7)) (L.cons (E.c (.int 255)) (L.cons (E.c (.int 12)) (L.cons (E.c (.int 254)) (L.cons (E.c (.int 8)) L.nil)))))) L.nil))))
noncomputable def foE:PE:=(E.comp 1 0 [1,0] (Y.rng (L.cons (E.loc 4) L.nil)) (.one (.loc 0)) (T.c true) (C.elt (E.bin opAdd (E.sub (E.cel 1) (E.loc 0)) (E.sub (E.cel 0) (E.loc 0)))))
noncomputable def lawQ:PS:=
 (S.cons (S.set (.cel 0) (E.comp 1 0 [] (Y.lst (E.sliceL (E.loc 1) (Qp.of (E.c (.int 1))) (Qp.of (E.bin opAdd (E.c (.int 1)) (E.loc 4))))) (.one (.loc 0)) (T.c true) (C.elt fmE)))
 (S.cons (S.set (.cel 1) clE)
 (S.cons (S.set (.loc 5) foE) lawT0)))
section
variable {σ:St} {ρ:List (Option AV)} {fr:AFr} {N Bk:PN} {R:PK} {X:PX} {r q0 q1:Nat} {ns xs:List Int} {fms cls fs:List (List Int)}
noncomputable def formG (fs:List (List Int)):AV->AV
 | .int i=>((nested fs)[i.toNat]?).getD .none
 | _=>.none
noncomputable abbrev formL (xs:List Int):List (List Int):=xs.map λ x=>flat (tmOf x)
noncomputable abbrev catL (fms cls:List (List Int)):List (List Int):=(fms.zip cls).map λ q=>q.1++q.2
theorem cat_get {i:Nat} {a b:List Int} (h:fms[i]?=some a) (h2:cls[i]?=some b):(catL fms cls)[i]?=some (a++b):=by
 rw [List.getElem?_map,(List.getElem?_zip_eq_some (z:=(a,b))).mpr ⟨h,h2⟩];rfl
theorem ev_forms (hr:r<=2) (hfs:(natL (List.range' 0 r)).map (formG (catL fms cls))=nested (catL fms cls)) (hi:∀ i<r,∃ a b,fms[i]?=some a/\cls[i]?=some b/\(a++b).length<=13) (hn:fr.hnd=.no) (h4:fr.ρ[4]?=some (some (.int (r:Nat)))) (hχ:fr.χ.getD 1 0=q1) (hχ':fr.χ.getD 0 0=q0) (h0:σ[q0]?=some (.cel (some (.lst (nested fms))))) (h1:σ[q1]?=some (.cel (some (.lst (nested cls))))):
  Ev foE fr σ (.lst (nested (catL fms cls))):=by
 rw [<- hfs]
 refine comp_map (χ':=[q1,q0]) (by rw [<- hχ,<- hχ'];rfl) (Lv.rng1 hn (Ev.loc h4) (Nat.le_trans hr (by decide))) (by rw [List.length_map,List.length_range'];exact Nat.le_trans hr (by decide)) λ x hx=>?_
 obtain ⟨i,hi',rfl⟩:=List.mem_map.mp hx
 have hir:=(List.mem_range'_1.mp hi').2
 rw [Nat.zero_add] at hir
 obtain ⟨a,b,ha,hb,hl⟩:=hi i hir
 have i9:i<1000:=Nat.lt_of_lt_of_le hir (Nat.le_trans hr (by decide))
 rw [show formG (catL fms cls) (.int (i:Nat))=.lst ((a++b).map .int) by
  show ((nested (catL fms cls))[i]?).getD .none=_
  rw [List.getElem?_map,cat_get ha hb];rfl]
 refine Ev.bin (row_at (Ev.cel rfl h0) (Ev.loc rfl) rfl ha i9) (row_at (Ev.cel rfl h1) (Ev.loc rfl) rfl hb i9) λ Q hQ=>⟨?_,by rw [<- List.map_append];exact hQ⟩
 rw [List.length_map,List.length_map,<- List.length_append]
 exact small_len (Nat.le_trans hl (by decide))
theorem law_q (h1:ρ[1]?=some (some (.loc (σ.length+3)))) (h4:ρ[4]?=some (some (.int (r:Nat)))) (hlen:11<ρ.length) (hns:Nums ns) (hr1:1<=r) (hr:r<=2) (hxs:pySlice (ns.map AV.int) (some 1) (some (1+(r:Nat)))=xs.map .int) (hxl:xs.length=r) (hcll:cls.length=r)
  (hcl:∀ {fr:AFr} {σ:St},fr.ρ[4]?=some (some (.int (r:Nat)))->Ev clE fr σ (.lst (nested cls))) (hfs:(natL (List.range' 0 r)).map (formG (catL (formL xs) cls))=nested (catL (formL xs) cls)) (ho:∀ f∈catL (formL xs) cls,FormOk f r) (hi:∀ i<r,RingOk ns (formL xs) ((catL (formL xs) cls).map (filled (lawN (catL (formL xs) cls)))) r i) (hR:∀ τ,R (.bool true) (σ++τ)):
  lawQ ⟨ρ,[σ.length+0,σ.length+1,σ.length+2],HK.no⟩ (σ++[.cel none,.cel none,.cel none,.lst (ns.map .int)]) N R Bk X:=by
 have fl:(formL xs).length=r:=by rw [List.length_map];exact hxl
 refine setS_ev (v:=.lst (nested (formL xs))) ?_ (set_app ..) ?_
 ·rw [show nested (formL xs)=(xs.map AV.int).map fmG by rw [List.map_map];exact List.map_map ..]
  refine comp_map (χ':=[]) rfl (Lv.ylst rfl (Ev.sliceO (Ev.loc h1) (get_app ..) (Pv.of Ev.c) (Pv.of (Ev.add Ev.c (Ev.loc h4))) (by rw [List.length_map,hns.1];decide) hxs)) (by rw [List.length_map,hxl];exact Nat.le_trans hr (by decide)) λ x hx=>?_
  obtain ⟨y,hy,rfl⟩:=List.mem_map.mp hx
  exact ev_formula
 refine setS_ev (hcl h4) (set_app ..) ?_
 refine set_ev (ev_forms (q0:=σ.length+0) (q1:=σ.length+1) hr hfs (λ i h=>?_) rfl h4 rfl rfl (get_app ..) (get_app ..)) ?_
 ·have ha:i<(formL xs).length:=fl.symm▸h
  have e1:=List.getElem?_eq_getElem ha
  have e2:=List.getElem?_eq_getElem (hcll.symm▸h:i<cls.length)
  exact ⟨_,_,e1,e2,(ho _ (List.mem_of_getElem? (cat_get e1 e2))).lform⟩
 ·exact law_t0 ⟨(List.getElem?_set_ne (by decide)).trans h1,(List.getElem?_set_ne (by decide)).trans h4,List.getElem?_set_self (Nat.lt_trans (by decide) hlen),len_up hlen⟩ hns hr1 hr (by rw [List.length_map,List.length_zip,fl,hcll,Nat.min_self]) ho hi hR
theorem filled2 {T:Tm} (ok:TmOk T) {a b:List Int} {op cl:Int} (h:fillS [a,b] op=[op]) (h2:fillS [a,b] cl=[cl]):filled [a,b] (flat T++[op,255,12,254,cl])=ownR T op cl [a,b]:=
 (filled_flat ok _ _).trans (congrArg (flat T++·) (by
  show fillS _ op++(a++12::(b++(fillS _ cl++[])))=_
  rw [h,h2]
  exact congrArg (op::·) (List.append_assoc a (12::b) [cl]).symm))
theorem one_of {i:Nat} {P:Nat->Prop} (h:i<1) (h0:P 0):P i:=by
 obtain rfl:=Nat.lt_one_iff.mp h
 exact h0
theorem two_of {i:Nat} {P:Nat->Prop} (h:i<2) (h0:P 0) (h1:P 1):P i:=by
 match i,h with
 | 0,_=>exact h0
 | 1,_=>exact h1
theorem law_rest {n0 n1 n2 n3 n4 n5 n6 n7:Int} (h1:ρ[1]?=some (some (.loc (σ.length+3)))) (h4:ρ[4]?=some (some (.int (1+n0%2)))) (hlen:11<ρ.length) (hns:Nums [n0,n1,n2,n3,n4,n5,n6,n7]) (hR:∀ τ,R (.bool true) (σ++τ)):
  lawQ ⟨ρ,[σ.length+0,σ.length+1,σ.length+2],HK.no⟩ (σ++[.cel none,.cel none,.cel none,.lst ([n0,n1,n2,n3,n4,n5,n6,n7].map .int)]) N R Bk X:=by
 obtain ⟨ok,hl⟩:=tm_ok n1
 obtain ⟨ok',hl'⟩:=tm_ok n2
 rcases Int.emod_two_eq n0 with q | q<;>rw [q] at h4
 ·have f:=form_of ok hl cl1
  have e:filled [numOf (digV 14 (flat (tmOf n1)++[7,255,8]))] (flat (tmOf n1)++[7,255,8])=ownR (tmOf n1) 7 8 [numOf (digV 14 (flat (tmOf n1)++[7,255,8]))]:=filled_flat ok _ _
  have hS:Sent (tmOf n1) 7 8 0 [numOf (digV 14 (flat (tmOf n1)++[7,255,8]))] (flat (tmOf n1)++[7,255,8]):=sent_of ok hl f (.inl ⟨rfl,rfl,rfl⟩) (.inl ⟨_,rfl,rfl⟩) (all_cons ⟨_,f,rfl⟩ all_nil) rfl
  exact law_q (r:=1) (xs:=[n1]) (cls:=[[7,255,8]]) h1 h4 hlen hns (by decide) (by decide) rfl rfl rfl (λ h=>Ev.iteT (Tv.eqI (i:=1) (Ev.loc h) Ev.c) (Ev.lst (Lv.one (Ev.lst (Lv.cons Ev.c (Lv.cons Ev.c (Lv.one Ev.c))))))) rfl (all_cons f all_nil) (λ i h=>one_of h ⟨7,8,0,n1,_,_,rfl,rfl,congrArg some e,rfl,hS,Nat.le_trans (Nat.le_of_eq (congrArg List.length e)) hS.own.2⟩) hR
 ·have fa:=form_of ok hl clA
  have fb:=form_of ok' hl' clB
  have hn:=all_cons (P:=λ q=>∃ f,FormOk f 2/\q=numOf (digV 14 f)) ⟨_,fa,rfl⟩ (all_cons ⟨_,fb,rfl⟩ all_nil)
  have ea:filled [numOf (digV 14 (flat (tmOf n1)++[9,255,12,254,10])),numOf (digV 14 (flat (tmOf n2)++[7,255,12,254,8]))] (flat (tmOf n1)++[9,255,12,254,10])=ownR (tmOf n1) 9 10 [numOf (digV 14 (flat (tmOf n1)++[9,255,12,254,10])),numOf (digV 14 (flat (tmOf n2)++[7,255,12,254,8]))]:=filled2 ok rfl rfl
  have eb:filled [numOf (digV 14 (flat (tmOf n1)++[9,255,12,254,10])),numOf (digV 14 (flat (tmOf n2)++[7,255,12,254,8]))] (flat (tmOf n2)++[7,255,12,254,8])=ownR (tmOf n2) 7 8 [numOf (digV 14 (flat (tmOf n1)++[9,255,12,254,10])),numOf (digV 14 (flat (tmOf n2)++[7,255,12,254,8]))]:=filled2 ok' rfl rfl
  have sa:=sent_of (op:=9) (cl:=10) (w:=1) ok hl (nums:=[numOf (digV 14 (flat (tmOf n1)++[9,255,12,254,10])),numOf (digV 14 (flat (tmOf n2)++[7,255,12,254,8]))]) fb (.inr ⟨rfl,rfl,rfl⟩) (.inr ⟨_,_,rfl⟩) hn rfl
  have sb:=sent_of (op:=7) (cl:=8) (w:=0) ok' hl' (nums:=[numOf (digV 14 (flat (tmOf n1)++[9,255,12,254,10])),numOf (digV 14 (flat (tmOf n2)++[7,255,12,254,8]))]) fa (.inl ⟨rfl,rfl,rfl⟩) (.inr ⟨_,_,rfl⟩) hn rfl
  have five:∀ {a b c d e:Int} {fr:AFr} {st:St},Ev (E.lst (L.cons (E.c (.int a)) (L.cons (E.c (.int b)) (L.cons (E.c (.int c)) (L.cons (E.c (.int d)) (L.cons (E.c (.int e)) L.nil)))))) fr st (.lst ([a,b,c,d,e].map .int)):=Ev.lst (Lv.cons Ev.c (Lv.cons Ev.c (Lv.cons Ev.c (Lv.cons Ev.c (Lv.one Ev.c)))))
  exact law_q (r:=2) (xs:=[n1,n2]) (cls:=[[9,255,12,254,10],[7,255,12,254,8]]) h1 h4 hlen hns (by decide) (by decide) rfl rfl rfl (λ h=>Ev.iteF (Tv.eqI (i:=2) (Ev.loc h) Ev.c) (Ev.lst (Lv.cons five (Lv.one five)))) rfl (all_cons fa (all_cons fb all_nil)) (λ i h=>two_of h ⟨9,10,1,n1,_,_,rfl,rfl,congrArg some ea,rfl,sa,Nat.le_trans (Nat.le_of_eq (congrArg List.length eb)) sb.own.2⟩ ⟨7,8,0,n2,_,_,rfl,rfl,congrArg some eb,rfl,sb,Nat.le_trans (Nat.le_of_eq (congrArg List.length ea)) sa.own.2⟩) hR
theorem v60_ev {script:List Int} (h:fr.ρ[0]?=some (some (.lst (script.map .int)))) (hl:script.length<=sizeLine):Ev (E.sliceL (E.loc 0) Qp.no (Qp.of (E.c (.int 60)))) fr σ (.lst ((script.take 60).map .int)):=λ K X hK=>Ev.loc h _ _ (Pv.no _ _ (Pv.of Ev.c _ _ ⟨by rw [List.length_map];exact hl,by rw [List.map_take] at hK;rw [show pySlice (script.map AV.int) none (some 60)=_ from slice_to _ 60];exact hK⟩))
theorem law_run {script:List Int} (hl:script.length<=sizeLine) (hR:∀ τ,R (.bool true) (σ++τ)):
  lawP ⟨[some (.lst (script.map .int)),none,none,none,none,none,none,none,none,none,none,none],[σ.length+0,σ.length+1,σ.length+2],HK.no⟩ (σ++[.cel none,.cel none,.cel none]) N R Bk X:=by
 refine setNew_ev (l:=([0,100,203,316165,320,109464,100119,1792866]:List Int).map .int) (Lv.cons Ev.c (Lv.cons Ev.c (Lv.cons Ev.c (Lv.cons Ev.c (Lv.cons Ev.c (Lv.cons Ev.c (Lv.cons Ev.c (Lv.one Ev.c)))))))) ?_
 have hsn:∀ ns:List Int,List.set ((σ++[AObj.cel none,.cel none,.cel none])++[AObj.lst (([0,100,203,316165,320,109464,100119,1792866]:List Int).map .int)]) (σ.length+3) (.lst (ns.map .int))=σ++[AObj.cel none,.cel none,.cel none,.lst (ns.map .int)]:=λ ns=>by rw [List.append_assoc];exact set_app ..
 have hgt:((σ++[AObj.cel none,.cel none,.cel none])++[AObj.lst (([0,100,203,316165,320,109464,100119,1792866]:List Int).map .int)])[σ.length+3]?=some (.lst (([0,100,203,316165,320,109464,100119,1792866]:List Int).map .int)):=by rw [List.append_assoc];exact get_app ..
 have hln:=(List.getElem?_eq_some_iff.mp hgt).1
 show S.cons _ _ ⟨[some (.lst (script.map .int)),some (.loc (σ++[AObj.cel none,.cel none,.cel none]).length),none,none,none,none,none,none,none,none,none,none],_,_⟩ _ _ _ _ _
 rw [show (σ++[AObj.cel none,.cel none,.cel none]).length=σ.length+3 from List.length_append]
 refine for_lv (Lv.yenu rfl (v60_ev rfl hl)) ?_
 rw [List.append_assoc] at hln hsn
 show forK _ _ _ _ ((σ++_)++_) _ _ _
 rw [List.append_assoc,show σ++([AObj.cel none,.cel none,.cel none]++[.lst (([0,100,203,316165,320,109464,100119,1792866]:List Int).map .int)])=_ from (hsn [0,100,203,316165,320,109464,100119,1792866]).symm]
 refine num_loop (ρ:=[some (.lst (script.map .int)),some (.loc (σ.length+3)),none,none,none,none,none,none,none,none,none,none]) hln rfl (of_decide_eq_true rfl) (λ ns ρ' hns hρ hlen=>?_) (script.take 60) 0 [0,100,203,316165,320,109464,100119,1792866] _ ⟨rfl,by decide⟩ (λ z z z=>rfl) rfl
 rw [hsn]
 obtain ⟨n0,n1,n2,n3,n4,n5,n6,n7,rfl⟩:∃ n0 n1 n2 n3 n4 n5 n6 n7,ns=[n0,n1,n2,n3,n4,n5,n6,n7]:=by
  match ns,hns.1 with
  | [a,b,c,d,e,f,g,h],_=>exact ⟨_,_,_,_,_,_,_,_,rfl⟩
 have h1:=(hρ 1 (by decide) (by decide))
 refine set_ev (Ev.add Ev.c (Ev.modC (num_at (i:=0) (Ev.loc h1) Ev.c rfl (get_app ..) rfl (by decide)))) (law_rest ((List.getElem?_set_ne (by decide)).trans h1) (List.getElem?_set_self (by rw [hlen];exact of_decide_eq_true rfl)) (len_up (by rw [hlen];exact of_decide_eq_true rfl)) hns hR)
end
end
section
variable {B:BC} {k:Nat}
theorem law_j (hB:BOk B):JS B κlaw (k+21) (bd 81) lawP:=
 @jlaw B (k+21) hB _ _ _ _ _ _ _ _ _ (onVal_ok hB.f131 (form_ok (k:=k+20) hB (onClo_ok λ cs=>c2_ok (k:=k+19) hB cs) (onClo_ok λ cs=>c3_ok (k:=k+19) hB cs))) (onVal_ok hB.f136 (num_ok (k:=k+20) hB)) (onVal_ok hB.f35 (i2d_ok (k:=k+8) hB 11)) (onVal_ok hB.f141 (fill_ok (k:=k+20) hB)) (onVal_ok hB.f175 (holds_ok (k:=k) hB))
  (onValK_ok hB.f86 (name0_ok (k:=k+20) hB)) (onVal_ok hB.f124 (ISEOF_ok (k:=k+20) hB)) (onVal_ok hB.f117 (ISNONTERMINAL_ok (k:=k+20) hB)) (onVal_ok hB.f110 (ISTERMINAL_ok (k:=k+20) hB))
theorem law_code {A:Around} {fs:List Env} {α:Lbl} {σ:St} {s:Shared} {v:Value} {script:List Int} (hB:BOk B) (amb:Amb A fs (k+22) .no) (W:Wd B α σ fs s.heap) (r:RelL B α s.heap [.lst (script.map .int)] [v]) (hl:script.length<=sizeLine):
  codeAny (model B.prog B.w) A (.call (.ref 180) ⟨[v],[]⟩) (CallR B α fs s (λ a z=>a=.bool true) λ z z=>False) s:=by
 obtain ⟨o,fd,h1,h2,h3,h4,h5,h6,h7,h8,h9,h10⟩:=hB.f180
 have S:ScOk κlaw []:=ScOk.of (by kernel_rfl)
 refine call_code (k:=k+21) (κ:=κlaw) (ts:=[.loc 0]) (binds:=(["script"]:List Str).zip [v]) (frees:=[]) (χf:=[]) (nh:=true) (l:=[.lst (script.map .int)]) ⟨⟨o,W.stays _ _ (B.inK _ _ h1),h2⟩,h3,S.kind,S.co,S.gen,h5,h6,codeRec_of (B.inK.keeps W.stays) h7,S.cel,S.own,λ z q=>absurd q List.not_mem_nil,S.loc,λ j x e=>(nomatch e),λ c e=>by cases e;exact ⟨h8,h9⟩⟩ h4 (@law_j B k hB) (h10 [v] rfl) ⟨⟨rfl,rfl⟩,trivial⟩ r amb (λ z=>rfl) W ?_
 exact callM (m:=3) rfl rfl rfl (law_run hl λ τ=>cut_app trivial rfl)
theorem rel_ints {α:Lbl} {h:Heap} {P:Params}:∀ {l:List Int} {vs:List Value},WellAll P h vs (ofPys (l.map .int))->RelL B α h (l.map .int) vs
 | [],_,x=>by cases x;rfl
 | i::l,_,x=>by
  cases x with
  | cons a b=>
   cases a with
   | int i t=>exact ⟨_,_,rfl,⟨t,rfl⟩,rel_ints b⟩
set_option tactic.hygienic true in
theorem law_top {s:Shared} {v:Value} {script:List Int} (hB:BOk B) (hs:B.base.StaysIn s.heap) (hT:∀ q∈B.tabs,s.heap.get? q.2=some (tabObj #[])) (hw:Well B.w.params s.heap v (ofPy (.list (script.map .int)))) (hl:script.length<=sizeLine) (hk:k+22<=600):
  codeAny (model B.prog B.w) callerA (.call (.ref 180) ⟨[v],[]⟩) (λ r s'=>r=.ok (.ret (.bool true))/\(∀ b o,B.base.get? b=some o->s'.heap.get? b=some o)/\s'.os=s.os/\s'.gens=s.gens/\∀ q∈B.tabs,GrownAt q.2 s'.heap) s:=by
 cases hw with
 | list ho hv=>
  rename_i a vs
  have hfz:Frz B ⟨[],[]⟩ a:=⟨λ x=>x.elim (λ ⟨n,e⟩=>(nomatch e)) λ ⟨f,e⟩=>(nomatch e),λ ⟨q,hq,e⟩=>by
   have:=hT q hq
   rw [e,ho] at this
   cases this⟩
  have W:Wd B ⟨[],[]⟩ [] [] s.heap:=⟨hs,rfl,λ n ao lb e=>(nomatch e),λ i j a e=>(nomatch e),λ a x=>x.elim λ f e=>(nomatch e),λ a x=>x.elim (λ ⟨n,e⟩=>(nomatch e)) λ ⟨f,e⟩=>(nomatch e),λ a x=>x.elim (λ ⟨n,e⟩=>(nomatch e)) λ ⟨f,e⟩=>(nomatch e),
   λ q hq=>⟨#[],hT q hq,trivial,λ pos cv e=>(nomatch e)⟩,λ e h=>(nomatch h)⟩
  refine codeAny_mono (law_code (k:=k) hB ⟨rfl,?_,?_,rfl⟩ W ⟨.ref a,[],rfl,⟨a,vs,rfl,hfz,⟨_,ho⟩,rel_ints hv⟩,rfl⟩ hl) λ r s' p=>?_
  ·exact Nat.lt_of_le_of_lt (Nat.add_le_add_left hk _) (by decide)
  ·exact Nat.lt_of_le_of_lt (Nat.add_le_add_right (Nat.add_le_add_left (Nat.mul_le_mul_left 8 hk) _) _) (by decide)
  ·match r,p with
   | .ok (.ret v),⟨α',σ',av,⟨⟨h',tk,e⟩,S⟩,W',rr,e2⟩=>
    subst e e2
    cases rr
    exact ⟨rfl,W'.stays,rfl,rfl,λ q hq=>by obtain ⟨ps,e,_⟩:=W'.tabs q hq;exact ⟨ps,e⟩⟩
   | .error _,⟨_,_,_,_,_,_,_,_,h⟩=>exact h.elim
end
section
variable {B:BC} {k:Nat}
set_option tactic.hygienic true in
theorem t3_of {f:Str->Option (Option Value)}:∀ {l:List (Str×Int)},(l.all λ q=>match f q.1 with | some (some (.int j _))=>j==q.2 | _=>false)=true->∀ x i,l.lookup x=some i->∃ t,f x=some (some (.int i t))
 | [],_,x,i,e=>nomatch e
 | q::r,h,x,i,e=>by
  rw [List.all_cons,Bool.and_eq_true] at h
  rw [show (q::r).lookup x=bif x==q.1 then some q.2 else r.lookup x by cases hx:x==q.1<;>rw [show q=(q.1,q.2) from rfl,List.lookup_cons,hx]<;>rfl] at e
  cases hx:x==q.1 with
  | false=>rw [hx] at e;exact t3_of h.2 x i e
  | true=>
   rw [hx] at e
   cases e
   have h1:=h.1
   split at h1
   ·rename_i j t q1
    rw [eq_of_beq hx,<- eq_of_beq h1]
    exact ⟨t,q1⟩
   ·cases h1
theorem grown_all {h:Heap}:∀ {tabs:List (Addr×Addr)},(∀ q∈tabs,GrownAt q.2 h)->GrownAll tabs h
 | [],_=>trivial
 | q::r,k=>⟨k _ (.head _),grown_all λ p hp=>k p (.tail _ hp)⟩
theorem law_end {prog:Program} {w:World} {K:Frag} {p:Program} {loose:List Str} {mean:ExcName->Option Value} {mg mb:Str->Option Value} {s:Shared} {v:Value} {script:List Int} (hT:TabsAt [(41,37),(174,172),(34,30),(179,177)] s.heap) (X:K.In s.heap) (hK:noTabs K=true) (T:Top p loose mean mg mb s.heap) (ok:KOk K w.params)
  (hw:Well w.params s.heap v (ofPy (.list (script.map .int)))) (hl:¬ ((63:Nat):Int)<(script.length:Int)) (hg:s.gens=#[]):
  codeAny (model prog w) callerA (.call (.ref 180) ⟨[v],[]⟩) (λ r s'=>(r=.ok (.ret (.bool true))/\(∀ b o,(ghostOf s.heap [(41,37),(174,172),(34,30),(179,177)]).get? b=some o->s'.heap.get? b=some o)/\s'.os=s.os/\s'.gens=#[])/\GrownAll [(41,37),(174,172),(34,30),(179,177)] s'.heap) s:=by
 refine codeAny_mono (law_top (k:=0) (B:={ prog:=prog,w:=w,K:=K,base:=ghostOf s.heap [(41,37),(174,172),(34,30),(179,177)],p:=topProg,loose:=_,mean:=mean,mg:=mg,mb:=mb,tabs:=[(41,37),(174,172),(34,30),(179,177)],tq:=tqTab,clo:=cloTab,inK:=ghost_K hT X hK,top:=ghost_top hT T,hidden:=λ q hq=>?_,code:=λ q hq=>?_ }) { toKOk:=ok,tabs:=rfl,tq:=rfl,clo:=rfl } (λ b o e=>of_hideAll _ e) (λ q hq=>(hT q hq).2) hw ?_ (by decide)) λ r s' h=>⟨⟨h.1,h.2.1,h.2.2.1,h.2.2.2.1.trans hg⟩,grown_all h.2.2.2.2⟩
 ·exact hideAll_none _ (List.mem_map_of_mem hq)
 ·have h:=ghost_code hT
  have key:∀ {l:List (Addr×Addr)},CodeAll l (ghostOf s.heap [(41,37),(174,172),(34,30),(179,177)])->∀ q∈l,CodeHd (ghostOf s.heap [(41,37),(174,172),(34,30),(179,177)]) q.1 q.2:=λ {l}=>by
   induction l with
   | nil=>exact λ z z h=>nomatch h
   | cons a r ih=>exact λ h=>all_cons h.1 (ih h.2)
  exact key h q hq
 ·exact small_len (Nat.le_trans (Int.ofNat_le.mp (Int.not_lt.mp hl)) (by decide))
end
section
noncomputable def NF (β:Type) (n:Nat):Type:=@Nat.rec (λ z=>Type) β (λ z t=>Value->t) n
noncomputable def cur {β:Type} (n:Nat):(List Value->β)->NF β n:=@Nat.rec (λ n=>(List Value->β)->NF β n) (λ f=>f []) (λ z c f a=>c λ r=>f (a::r)) n
theorem cur_eq {β:Type} {n:Nat}:∀ {f g:List Value->β},cur n f=cur n g->∀ vs:List Value,vs.length=n->f vs=g vs:=by
 induction n with
 | zero=>intro f g h vs hv;rw [List.eq_nil_of_length_eq_zero hv];exact h
 | succ n ih=>
  intro f g h vs hv
  cases vs with
  | nil=>cases hv
  | cons a r=>exact ih (f:=λ r=>f (a::r)) (g:=λ r=>g (a::r)) (congrFun h a) r (Nat.succ.inj hv)
noncomputable def sgO (K:Frag) (a:Addr):Option FuncData:=(K.lookup a).bind λ o=>match o.data with
 | .func fd=>some fd
 | _=>none
noncomputable def fSg (K:Frag) (fd:FuncData):Scope×FuncBody×Addr×Addr×Bool×Value×Str:=(fd.scope,fd.body,fd.globals,fd.builtins,codeIn K fd.code fd.qualname,fd.code,fd.qualname++(".<locals>.":Str))
theorem fnK_of {K:Frag} {a c:Addr} {q:Str} {i:Nat} {bnd:FuncData->Prop} (h:(sgO K a).map (fSg K)=some (sc i,.stmts (bd i),mainGlobals,builtinsNs,true,.ref c,q)) (hb:∀ fd,sgO K a=some fd->bnd fd):FnK K a c q i bnd:=by
 cases e:sgO K a with
 | none=>rw [e] at h;cases h
 | some fd=>
  have b:=hb fd e
  rw [e] at h
  have h:=Option.some.inj h
  delta sgO at e
  cases e1:K.lookup a with
  | none=>rw [e1] at e;cases e
  | some o=>
   rw [e1] at e
   obtain ⟨cls,d,dt,x⟩:=o
   cases dt with
   | func fd'=>
    obtain rfl:=Option.some.inj e
    injection h with h1 h
    injection h with h2 h
    injection h with h3 h
    injection h with h4 h
    injection h with h5 h
    injection h with h6 h7
    exact ⟨_,fd',e1,rfl,h1,h2,h3,h4,h5,h6,h7,b⟩
   | _=>cases e
theorem fnP {K:Frag} {a c:Addr} {q:Str} {i:Nat} {ps:List Str} (h:(sgO K a).map (fSg K)=some (sc i,.stmts (bd i),mainGlobals,builtinsNs,true,.ref c,q))
  (hb:(sgO K a).map (λ fd=>cur ps.length λ vs=>bindArgs fd ⟨vs,[]⟩)=some (cur ps.length λ vs=>pure (ps.zip vs))):FnK K a c q i (PosB ps):=fnK_of h λ fd e vs hv=>by
 rw [e] at hb
 exact cur_eq (f:=λ vs=>bindArgs fd ⟨vs,[]⟩) (Option.some.inj hb) vs hv
theorem fnQ {K:Frag} {a c:Addr} {q nm:Str} {i:Nat} {ps:List Str} {nms:List (List Str)} (h:(sgO K a).map (fSg K)=some (sc i,.stmts (bd i),mainGlobals,builtinsNs,true,.ref c,q))
  (hb:∀ names∈nms,(sgO K a).map (λ fd=>cur ps.length λ vs=>cur names.length λ ws=>bindArgs fd ⟨vs,names.zip ws⟩)=some (cur ps.length λ vs=>cur names.length λ ws=>kwTree (ps.zip vs) (names.zip ws) nm)):FnK K a c q i (KwB ps nm nms):=fnK_of h λ fd e names m vs ws hv hw=>by
 have hb:=hb names m
 rw [e] at hb
 exact cur_eq (f:=λ ws=>bindArgs fd ⟨vs,names.zip ws⟩) (cur_eq (f:=λ vs=>cur names.length λ ws=>bindArgs fd ⟨vs,names.zip ws⟩) (Option.some.inj hb) vs hv) ws hw
noncomputable def keyS (e:DictEntry):Option Str:=match e.key with
 | .str x _=>some x
 | _=>none
theorem keysK {P:Params}:∀ {l:List DictEntry},l.map (λ e=>some e.hash)=l.map (λ e=>(keyS e).map (PyData.keyHash P))->KeysLit P l:=by
 intro l
 induction l with
 | nil=>exact λ z=>trivial
 | cons e r ih=>
  intro h
  injection h with h1 h2
  refine ⟨?_,ih h2⟩
  obtain ⟨hash,key,v⟩:=e
  cases key with
  | str x t=>exact ⟨x,t,rfl,Option.some.inj h1⟩
  | _=>cases h1
end
section
set_option maxRecDepth 100000
set_option maxHeartbeats 8000000
theorem hd.tw10727248033764811480 : True := trivial
theorem hd.tw26425463804135960 : True := trivial
theorem hd.tw894648530970927611 : True := trivial
theorem hd.tw9415109127450397830 : True := trivial
theorem hd.tw423979275157427843 : True := trivial
theorem hd.tw15874275526800837692 : True := trivial
theorem hd.tw5190246844813560578 : True := trivial
theorem hd.tw15790720579355451973 : True := trivial
theorem hd.tw16037735763661986305 : True := trivial
theorem hd.tw667777408057656426 : True := trivial
theorem hd.tw728884934406724761 : True := trivial
theorem hd.tw6545403380812914513 : True := trivial
theorem hd.tw1413172679324656950 : True := trivial
theorem hd.tw4851647983119433812 : True := trivial
theorem hd.tw4172343393113369950 : True := trivial
theorem hd.tw16240987189780228909 : True := trivial
theorem hd.tw5036846961687405229 : True := trivial
theorem hd.tw18293732401869909652 : True := trivial
theorem hd.tw2617190388676272812 : True := trivial
theorem hd.tw8974332556005633416 : True := trivial
theorem hd.tw18414764529967284870 : True := trivial
theorem hd.tw7062935652884303519 : True := trivial
theorem hd.tw2068664650715991707 : True := trivial
theorem hd.tw8430425405203222951 : True := trivial
theorem hd.tw16733963527221155113 : True := trivial
theorem hd.tw11869253278440568778 : True := trivial
theorem hd.tw11953376511379268794 : True := trivial
theorem hd.tw5148922909946612681 : True := trivial
theorem hd.tw10458740792067480800 : True := trivial
theorem hd.tw7289634563603522867 : True := trivial
theorem hd.tw6411954120941647267 : True := trivial
theorem hd.tw4272726840584523970 : True := trivial
theorem hd.tw22551697357593593 : True := trivial
theorem hd.tw10603584201595350602 : True := trivial
theorem hd.tw17542962492245011380 : True := trivial
theorem hd.tw6082411064634330575 : True := trivial
theorem hd.tw5987830557187376847 : True := trivial
theorem hd.tw11631947586910100387 : True := trivial
theorem hd.tw9386895884608548742 : True := trivial
theorem hd.tw16868993833207775613 : True := trivial
theorem hd.tw17893044597097874663 : True := trivial
theorem hd.tw5657824000916062451 : True := trivial
theorem hd.tw13225837485096350037 : True := trivial
theorem hd.tw6305734824756694309 : True := trivial
theorem hd.tw13267510147771200024 : True := trivial
theorem hd.tw7028611270464810887 : True := trivial
theorem hd.tw8716120427605611371 : True := trivial
theorem hd.tw4115565904173853331 : True := trivial
theorem hd.tw6820862383352777685 : True := trivial
theorem hd.tw15616948245753086127 : True := trivial
theorem hd.tw10949625832625181284 : True := trivial
theorem hd.tw6785817131721698500 : True := trivial
theorem hd.tw2386827423013361158 : True := trivial
theorem hd.tw5902613922787404954 : True := trivial
theorem hd.tw15368132723985388332 : True := trivial
theorem hd.tw9566141503761928105 : True := trivial
theorem hd.tw16345102440705955213 : True := trivial
theorem hd.tw2167537188350426706 : True := trivial
theorem hd.tw9641152695372364146 : True := trivial
theorem hd.tw1011335219593555734 : True := trivial
theorem hd.tw10792051664901133789 : True := trivial
theorem hd.tw15837987909243819085 : True := trivial
theorem hd.tw17087091549796120035 : True := trivial
theorem hd.tw8458067239894703972 : True := trivial
theorem hd.tw189712035060473897 : True := trivial
theorem hd.tw5511420028821071320 : True := trivial
theorem hd.tw3571134770919094901 : True := trivial
theorem hd.tw17673860158736603733 : True := trivial
theorem hd.tw6407587892757256292 : True := trivial
theorem hd.tw7540655947842036084 : True := trivial
theorem hd.tw12070051907170230399 : True := trivial
theorem hd.tw9719896912496429819 : True := trivial
theorem hd.tw12936449754285732098 : True := trivial
theorem hd.tw11210553801493137410 : True := trivial
theorem hd.tw6293948785866598258 : True := trivial
theorem hd.tw2887051446865420828 : True := trivial
theorem hd.tw15527848837575444561 : True := trivial
theorem hd.tw978945382295711627 : True := trivial
theorem hd.tw1580110805410547442 : True := trivial
theorem hd.tw5130813555471234732 : True := trivial
theorem hd.tw17447410573909459338 : True := trivial
theorem hd.tw7296583596125217682 : True := trivial
theorem hd.tw1760603350576429475 : True := trivial
theorem hd.tw2114630138375439770 : True := trivial
theorem hd.tw16194383521188589630 : True := trivial
theorem hd.tw6767318904944593275 : True := trivial
theorem hd.tw17252143746492648416 : True := trivial
theorem hd.tw3789350110615891812 : True := trivial
theorem hd.tw2274498078352570744 : True := trivial
theorem hd.tw7914949630228597729 : True := trivial
theorem hd.tw9421340871869096474 : True := trivial
theorem hd.tw18343703819029505601 : True := trivial
theorem hd.tw11917015161858427179 : True := trivial
theorem hd.tw17183224562656869120 : True := trivial
theorem hd.tw4702841417184801058 : True := trivial
theorem hd.tw17714235663813219645 : True := trivial
theorem hd.tw17681399029576232318 : True := trivial
theorem hd.tw17574625026820762457 : True := trivial
theorem hd.tw11893437276241958245 : True := trivial
theorem hd.tw3350844169311001129 : True := trivial
theorem hd.tw11232374478483605306 : True := trivial
theorem hd.tw11117797201346649052 : True := trivial
theorem hd.tw10403243965636340961 : True := trivial
theorem hd.tw13790719812936386609 : True := trivial
theorem hd.tw16844041518873730820 : True := trivial
theorem hd.tw3646829019195819677 : True := trivial
theorem hd.tw12173100003817136821 : True := trivial
theorem hd.tw5373601922739893978 : True := trivial
theorem hd.tw10111801491309104144 : True := trivial
theorem hd.tw13330244855972007585 : True := trivial
theorem hd.tw12487502673411948298 : True := trivial
theorem hd.tw8735263284916673568 : True := trivial
theorem hd.tw3759623122121258479 : True := trivial
theorem hd.tw2195365466389143174 : True := trivial
theorem hd.tw5961118342813265553 : True := trivial
theorem hd.tw14103535550066685397 : True := trivial
theorem hd.tw3493717111155160527 : True := trivial
theorem hd.tw17311223219408574766 : True := trivial
theorem hd.tw18300207936620678264 : True := trivial
theorem hd.tw8226494294326810461 : True := trivial
theorem hd.tw16634568088961857937 : True := trivial
theorem hd.tw4086058157674990017 : True := trivial
theorem hd.tw11032806212648032379 : True := trivial
theorem hd.tw6276725880618359904 : True := trivial
theorem hd.tw3259873300814134281 : True := trivial
theorem hd.tw464777395874653626 : True := trivial
theorem hd.tw218365854916252129 : True := trivial
theorem hd.tw16828841361933241965 : True := trivial
theorem hd.tw12023040214023829324 : True := trivial
theorem hd.tw2708950531961675432 : True := trivial
theorem hd.tw9170477692918782315 : True := trivial
theorem hd.tw16091413853298234908 : True := trivial
theorem hd.tw7754304195085646258 : True := trivial
theorem hd.tw10246146449241189800 : True := trivial
theorem hd.tw1506431575118746342 : True := trivial
theorem hd.tw11660266114150955751 : True := trivial
theorem hd.tw1097998534492414930 : True := trivial
theorem hd.tw16945582573551092051 : True := trivial
theorem hd.tw11136197038861592535 : True := trivial
theorem hd.tw4014540891139286612 : True := trivial
theorem hd.tw13770079208771991547 : True := trivial
theorem hd.tw16064382804478563927 : True := trivial
theorem hd.tw11465210709893060100 : True := trivial
theorem hd.tw17950676927832955104 : True := trivial
theorem hd.tw5781342201191254626 : True := trivial
theorem hd.tw6164396464334811476 : True := trivial
theorem hd.tw12271959270614036898 : True := trivial
theorem hd.tw14620637471214046174 : True := trivial
theorem hd.tw15411387601460861337 : True := trivial
theorem hd.tw8960069828448710407 : True := trivial
theorem hd.tw11652457597714270106 : True := trivial
theorem hd.tw7752767780024739350 : True := trivial
theorem hd.tw4360684699965382250 : True := trivial
theorem hd.tw12588582704262371052 : True := trivial
theorem hd.tw6555240042291301478 : True := trivial
theorem hd.tw10258999931320997221 : True := trivial
theorem hd.tw1222794163293265305 : True := trivial
theorem hd.tw16432713993328977331 : True := trivial
theorem hd.tw5978321128707920903 : True := trivial
theorem hd.tw18264374347568628810 : True := trivial
theorem hd.tw1382963296337349011 : True := trivial
theorem hd.tw11162318198679636149 : True := trivial
theorem hd.tw16477043939570097188 : True := trivial
theorem hd.tw11319097763535126812 : True := trivial
theorem hd.tw922143313871775805 : True := trivial
theorem hd.tw3229955645248102723 : True := trivial
theorem hd.tw4225703048834024713 : True := trivial
theorem hd.tw1997569388931296116 : True := trivial
theorem hd.tw701787995468756871 : True := trivial
theorem hd.tw6291416237084387574 : True := trivial
set_option Elab.async true in
theorem hd : PySem.Challenge.rw_kl0252_01.Holds := by
  w_on
  o_law
  k_head
  case hw => w_witness2
  intro w s₀ s₁ mg mb G Y fa o pm cd doc dV kV ho hd hcd hD hmg hg args vals as hpre hlay hrd hwl hlo
  have KX := km_in_of Y
  have T8 := km_tabs_of Y
  refine Ground.open G ?_
  intro T B D TE TW
  have hT9 : TabsAt [(41, 37), (174, 172), (34, 30), (179, 177)] s₁.heap := all_cons ⟨codeHd_of_K KX (by kernel_rfl), T8 _ (by decide)⟩ (all_cons ⟨codeHd_of_K KX (by kernel_rfl), T8 _ (by decide)⟩ (all_cons ⟨codeHd_of_K KX (by kernel_rfl), T8 _ (by decide)⟩ (all_cons ⟨codeHd_of_K KX (by kernel_rfl), T8 _ (by decide)⟩ all_nil)))
  have e9 : PySem.Value.ref fa = .ref 180 := Option.some.inj (hmg.symm.trans (mg_of KX (Top.g T) (by kernel_rfl)))
  clear hcd hD hmg hd ho
  cases e9
  wrow_args hpre hlay hrd hwl hlo
  all_goals (first | refine callC_kw (enter_call ?_) | refine enter_call ?_)
  all_goals kn_posts
  all_goals refine codeAny_mono (law_end hT9 KX (by kernel_rfl) T ?_ (by assumption) (by assumption) hg) fun r s' h => ⟨⟨.inl ⟨_, .bool true, [], h.1.1, fun _ => rfl, .bool true, ?_, fun _ => ⟨List.nodup_nil, fun _ h => nomatch h⟩⟩, h.1.2⟩, h.2⟩
  · constructor
    case g0 => kernel_rfl
    case g1 => kernel_rfl
    case t1 => kernel_rfl
    case t3 => exact t3_of (by kernel_rfl)
    case t2 => exact keysK (by kernel_rfl)
    case f86 => exact fnQ (by kernel_rfl) (all_cons (by kernel_rfl) (all_cons (by kernel_rfl) all_nil))
    all_goals exact fnP (by kernel_rfl) (by kernel_rfl)
  · wrow_post
end
end Mine
theorem PySem.Challenge.cw_kl0252_01_holds : PySem.Challenge.rw_kl0252_01.Holds :=
  Mine.hd
